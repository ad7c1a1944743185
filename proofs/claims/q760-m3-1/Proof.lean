import JvmDerived
import JvmDerived.Pilot.@@N@@Statement
import JvmDerived.Pilot.@@N@@Code
set_option linter.unusedVariables false
set_option linter.unusedSimpArgs false
namespace Jvm.RoadKit
open Sem ClassFile Op Lib Jvm.Stand Jvm.Free Jvm.LawKit
section New
variable {p : Program} {l : Launch} {e : Env} {R : Room} {s : State} {m : MethodId} {args : Array Value} {below : List Frame} {meth : Method} {c : Code} {T : State} {locs : List Loc} {cells slots : Nat}
theorem retI (X : Stand p l e R s m args below meth c T locs cells slots) (hx : p.tables.exec = Jvm.exec) {pc : Nat} {Ls : Array Slot} {z : Int32} {rest : List Value} (hret : meth.sig.returnType = some .int) (hd : decode c.code pc = .ok (.ireturn, 1)) {fs : List Frame}
    (hl : ∀ (f : JFrame) (acts : List Action), f.method = m → f.locked = none → f.entered = [] → (doReturn e (T.setTop f) acts (some (.int z))).1 = T.setFrames fs) : Steps p.tables e below (T.setTop (mkF m pc Ls (.int z :: rest))) (T.setFrames fs) := by
  have hm' : T.vm.method? m = some meth := X.method'
  have hn : narrow .int (.int z) = .int z := rfl
  show Steps p.tables e below (T.setTop { method := m, pc := pc, locals := Ls, stack := _ :: rest, locked := none }) _
  jvm_step X.here [X.here.top, hx, hd, hm', hret, hn]
  first | (intro acts; rw [hl _ acts rfl rfl rfl]) | rw [hl _ _ rfl rfl rfl]
  exact Steps.refl _
end New
end Jvm.RoadKit
namespace Jvm.Pilot.@@N@@
open Jvm Jvm.ClassFile Sem Op Lib Jvm.Free Jvm.Stand Jvm.LawKit Jvm.RoadKit Bundle Jvm.Pilot.@@N@@.Jvm.D
theorem own_pad {Z : State} {h : Heap} {a : Addr} {k : ClassId} {ty : FieldType} {z : Int32} {dv : Value} (F : Arv Z h a k ty z [] dv) (n : Nat) (vs : List Value) (e : vs = List.replicate n dv) : Arv Z h a k ty z vs dv := e ▸ F.pad (pad_rep [] dv n)
theorem own_irr32 (x : Int32) : ¬ x < x := Int32.lt_irrefl
theorem own_irr64 (x : Int64) : ¬ x < x := Int64.lt_irrefl
theorem own_fldI {args : Array Value} {s : State} {t : Term} {C n d : String} {x : Addr} {k : Int32} (ht : t.eval args s none [] s = some (.ref x)) (h : (Cond.eq (Term.field t C n d) (Term.int k)).value args s none s [] = some true) : Fld s s.heap x C n d (.int k) := Fld.start ((fld_at ht).symm.trans (eqv_i (Term.int_eval k) h))
theorem own_fldJ {args : Array Value} {s : State} {t : Term} {C n d : String} {x : Addr} {k : Int64} (ht : t.eval args s none [] s = some (.ref x)) (h : (Cond.eq (Term.field t C n d) (Term.long k)).value args s none s [] = some true) : Fld s s.heap x C n d (.long k) := Fld.start ((fld_at ht).symm.trans (eqv_l (long_at k) h))
theorem own_len {args : Array Value} {s : State} {t : Term} {x : Addr} {cl : Cell} {ty : FieldType} {k : Int32} (ht : t.eval args s none [] s = some (.ref x)) (A : Arr s s.heap x cl ty) (h : (Cond.eq (Term.length t) (Term.int k)).value args s none s [] = some true) : cl.slots.size.toInt32 = k ∧ cl.slots.size < 2 ^ 31 := by
  have e := eqv_i (Term.int_eval k) h
  have ha := A.fin (Vm.Alike.refl _)
  by_cases q : cl.slots.size < 2 ^ 31
  · have e2 := (len_f ht ha q).symm.trans e
    exact ⟨Value.int.inj (Option.some.inj e2), q⟩
  · simp [Term.eval, ht, ha, q] at e
theorem own_elem {args : Array Value} {s : State} {t u : Term} {x : Addr} {cl : Cell} {ty : FieldType} {k : Int32} {v : Value} (ht : t.eval args s none [] s = some (.ref x)) (A : Arr s s.heap x cl ty) (hu : u.eval args s none [] s = some v) (hv : v.isRef = true) (h : (Cond.eq (Term.elem t (Term.int k)) u).value args s none s [] = some true) : cl.slots[k.toNatClampNeg]? = some v := by
  obtain ⟨a, b, h1, h2, h3, h4⟩ := cmp_v (Or.inl h)
  have hb := Option.some.inj (h2.symm.trans hu)
  subst hb
  obtain ⟨c', e1, e2, e3⟩ := elem_at h1 ht (Term.int_eval k)
  have ec := Option.some.inj (e1.symm.trans A.1)
  subst ec
  have ha : a.isRef = true := by
    rcases ref_cases hv with rfl | ⟨y, rfl⟩
    · exact h4.2
    · exact h4.2
  rw [e3, gotT (eq_R h1 h2 ha hv) h]
def own_KL (h h' : Heap) (ls : List Loc) : Prop := h.size ≤ h'.size ∧ ∀ (x : Addr) (c : Cell), h[x]? = some c → ∃ c' : Cell, h'[x]? = some c' ∧ c'.cls = c.cls ∧ c'.vm = c.vm ∧ c'.slots.size = c.slots.size ∧ ((∀ y ∈ ls, y.base ≠ x) → c' = c) ∧ ∀ i, (⟨x, i⟩ : Loc) ∉ ls → c'.slots[i]? = c.slots[i]?
section OwnKL
variable {Z : State} {h0 h h' : Heap} {ls ls' : List Loc} {a b x : Addr} {i j sl n0 : Nat} {v : Value} {C n d : String}
theorem own_kl0 (h : Heap) (ls : List Loc) : own_KL h h ls := ⟨Nat.le_refl _, fun x c q => ⟨c, q, rfl, rfl, rfl, fun _ => rfl, fun _ _ => rfl⟩⟩
theorem own_klE (K : own_KL h0 h ls) (E : Ext h h') : own_KL h0 h' ls := ⟨Nat.le_trans K.1 E.1, fun x c q => by obtain ⟨c', q', r⟩ := K.2 x c q; exact ⟨c', E.2 x c' q', r⟩⟩
theorem own_klT (K : own_KL h0 h ls) (K' : own_KL h h' ls') (q : ∀ y ∈ ls', y ∈ ls ∨ h0.size ≤ y.base) : own_KL h0 h' ls := by
  refine ⟨Nat.le_trans K.1 K'.1, fun x c hc => ?_⟩
  obtain ⟨c1, a1, a2, a3, a4, a5, a6⟩ := K.2 x c hc
  obtain ⟨c2, b1, b2, b3, b4, b5, b6⟩ := K'.2 x c1 a1
  have hx : x < h0.size := (Array.getElem?_eq_some_iff.mp hc).1
  refine ⟨c2, b1, b2.trans a2, b3.trans a3, b4.trans a4, fun hn => ?_, fun i hi => ?_⟩
  · rw [← a5 hn]; exact b5 fun y hy e => (q y hy).elim (fun z => hn y z e) (fun z => absurd hx (Nat.not_lt.mpr (e ▸ z)))
  · rw [← a6 i hi]; exact b6 i fun z => (q _ z).elim hi (fun u => absurd hx (Nat.not_lt.mpr u))
theorem own_klofW (W : Wr h h' a sl v) : own_KL h h' [⟨a, sl⟩] := by
  refine ⟨Nat.le_of_eq W.size.symm, fun x c hc => ?_⟩
  obtain ⟨c', e1, e2, e3, e4, e5, e6, -⟩ := wr_at W hc
  refine ⟨c', e1, e2, e3, e4, fun hn => e5 fun q => hn _ (List.mem_singleton.mpr rfl) q.symm, fun i hi => ?_⟩
  by_cases q : x = a
  · exact e6 i fun r => hi (by rw [q, r]; exact List.mem_singleton.mpr rfl)
  · rw [e5 q]
theorem own_klW (K : own_KL h0 h ls) (W : Wr h h' a sl v) (q : (⟨a, sl⟩ : Loc) ∈ ls ∨ h0.size ≤ a) : own_KL h0 h' ls := own_klT K (own_klofW W) fun y hy => by cases List.mem_singleton.mp hy; exact q
theorem own_ka0 : ∀ y ∈ ([] : List Loc), y ∈ ls ∨ n0 ≤ y.base := fun _ q => nomatch q
theorem own_kac (q : (⟨a, sl⟩ : Loc) ∈ ls ∨ n0 ≤ a) (r : ∀ y ∈ ls', y ∈ ls ∨ n0 ≤ y.base) : ∀ y ∈ (⟨a, sl⟩ : Loc) :: ls', y ∈ ls ∨ n0 ≤ y.base := fun y z => (List.mem_cons.mp z).elim (fun u => u ▸ q) (r y)
theorem own_ng0 : ∀ y ∈ ([] : List Loc), n0 ≤ y.base := fun _ q => nomatch q
theorem own_ngc (q : n0 ≤ a) (r : ∀ y ∈ ls', n0 ≤ y.base) : ∀ y ∈ (⟨a, sl⟩ : Loc) :: ls', n0 ≤ y.base := fun y z => (List.mem_cons.mp z).elim (fun u => u ▸ q) (r y)
theorem own_nb0 : ∀ y ∈ ([] : List Loc), y.base ≠ a := fun _ q => nomatch q
theorem own_nbc (q : b ≠ a) (r : ∀ y ∈ ls', y.base ≠ a) : ∀ y ∈ (⟨b, sl⟩ : Loc) :: ls', y.base ≠ a := fun y z => (List.mem_cons.mp z).elim (fun u => u ▸ q) (r y)
theorem own_nl0 : (⟨a, i⟩ : Loc) ∉ ([] : List Loc) := fun q => nomatch q
theorem own_nlb (q : a ≠ b) (r : (⟨a, i⟩ : Loc) ∉ ls) : (⟨a, i⟩ : Loc) ∉ (⟨b, j⟩ : Loc) :: ls := fun z => (List.mem_cons.mp z).elim (fun u => q (congrArg Loc.base u)) r
theorem own_nls (q : i ≠ j) (r : (⟨a, i⟩ : Loc) ∉ ls) : (⟨a, i⟩ : Loc) ∉ (⟨b, j⟩ : Loc) :: ls := fun z => (List.mem_cons.mp z).elim (fun u => q (congrArg Loc.slot u)) r
theorem own_exa (F : Exa Z h a C) (K : own_KL h h' ls) : Exa Z h' a C := by
  obtain ⟨cell, k, h1, h2, h3, h4, h5⟩ := F
  obtain ⟨c', e1, e2, e3, e4, -⟩ := K.2 _ _ h1
  exact ⟨c', k, e1, by rw [e2]; exact h2, by rw [e2]; exact h3, by rw [e3]; exact h4, by rw [e4]; exact h5⟩
theorem own_fld (F : Fld Z h a C n d v) (K : own_KL h h' ls) (q : (⟨a, Jvm.RoadKit.slotOf Z C n d⟩ : Loc) ∉ ls) : Fld Z h' a C n d v := by
  obtain ⟨cell, cf, k, i, f, h1, h2, h3, h4, h5, h6, h7⟩ := F
  obtain ⟨c', e1, e2, e3, e4, -, e6⟩ := K.2 _ _ h1
  refine ⟨c', cf, k, i, f, e1, h2, h3, by rw [e3]; exact h4, by rw [e3]; exact h5, by rw [e2]; exact h6, ?_⟩
  rw [e6 _ (by simpa [Jvm.RoadKit.slotOf, h2] using q)]; exact h7
theorem own_arv {k : ClassId} {ty : FieldType} {z : Int32} {vs : List Value} {dv : Value} (F : Arv Z h a k ty z vs dv) (K : own_KL h h' ls) (q : ∀ y ∈ ls, y.base ≠ a) : Arv Z h' a k ty z vs dv := by
  obtain ⟨c, A, r⟩ := F
  obtain ⟨c', e1, -, -, -, e5, -⟩ := K.2 _ _ A.1
  cases e5 q
  exact ⟨c, ⟨e1, A.2⟩, r⟩
theorem own_old (O : Old Z n0 h) (K : own_KL h h' ls) (q : ∀ y ∈ ls, n0 ≤ y.base) : Old Z n0 h' := ⟨O.1, Nat.le_trans O.2.1 K.1, fun x c r => by
  obtain ⟨c', e1, -, -, -, e5, -⟩ := K.2 x c (O.2.2 x c r)
  have hx : x < n0 := O.1 ▸ (Array.getElem?_eq_some_iff.mp r).1
  rw [e1, e5 fun y hy e => absurd hx (Nat.not_lt.mpr (e ▸ q y hy))]⟩
end OwnKL
theorem own_NSroot {Z : State} {a0 : Array Value} {O K : String} {n : Nat} (w : (Cond.noSuperclass O).before a0 Z = true) (wk : (Cond.instantiable K n).before a0 Z = true) (hn : O ≠ K) : NS Z O K := by
  obtain ⟨c, k, h1, h2, h3, -, -⟩ := Cond.noSuperclass_spec w
  obtain ⟨t, -, g1, -⟩ := Cond.instantiable_spec wk
  have ne := ids_ne h1 g1 hn
  refine ⟨c, t, h1, g1, fun fuel => ?_⟩
  cases fuel with
  | zero => rfl
  | succ f => simp [Vm.isSubclassAux, ne, h2, h3]
theorem own_NSno {Z : State} {a0 : Array Value} {C S K : String} {n : Nat} (w : (Cond.superclass C S).before a0 Z = true) (wk : (Cond.instantiable K n).before a0 Z = true) (u : NS Z C K) (hn : C ≠ K) : ∃ c t, Z.vm.findClass C = some c ∧ Z.vm.findClass K = some t ∧ Z.vm.assignable c t = false := by
  obtain ⟨c, t, h0, g0, n3⟩ := u
  obtain ⟨p, k, kp, h1, h2, h3, h4, h5, -, h7⟩ := Cond.superclass_spec h0 w
  obtain ⟨t', k', g1, g2, g5, g7, -⟩ := Cond.instantiable_spec wk
  cases g0.symm.trans g1
  have ne := ids_ne h0 g0 hn
  have g8 : k'.isInterface = false := by cases hI : k'.isInterface <;> simp [hI] at g7 ⊢
  refine ⟨c, t, h0, g0, ?_⟩
  show Z.vm.assignableAux (255 + 1) c t = false
  simp [Vm.assignableAux, ne, h2, g2, h5, g5, g8, Vm.isSubclass, n3]
theorem own_boxI {Z : State} {args : Array Value} {t : Term} {a : Addr} {c : Cell} {K : String} {z : Int32} (et : ∀ idx, t.eval args Z none idx Z = some (.ref a)) (A : Arr Z Z.heap a c (.object K)) (q : c.slots.size.toInt32 = z ∧ c.slots.size < 2 ^ 31) (hz : ¬ z < 0)
    (h : (Cond.all t (.and (.exactly (.elem t (.index 0)) K) (.eq (.field (.elem t (.index 0)) K "value" "I") (.sub (.index 0) (.int 128))))).value args Z none Z [] = some true) : Bxs Z a c K "I" z (fun j => .int (j - 128)) :=
  Bxs.start et A q.2 q.1 hz h fun X j nn hh => eqv_i (by simp [Term.eval, idx_at nn, (back32 nn).1]) hh
theorem own_boxJ {Z : State} {args : Array Value} {t : Term} {a : Addr} {c : Cell} {K : String} {z : Int32} (et : ∀ idx, t.eval args Z none idx Z = some (.ref a)) (A : Arr Z Z.heap a c (.object K)) (q : c.slots.size.toInt32 = z ∧ c.slots.size < 2 ^ 31) (hz : ¬ z < 0)
    (h : (Cond.all t (.and (.exactly (.elem t (.index 0)) K) (.eq (.field (.elem t (.index 0)) K "value" "J") (.op1 .i2l (.sub (.index 0) (.int 128)))))).value args Z none Z [] = some true) : Bxs Z a c K "J" z (fun j => .long (j - 128).toInt64) :=
  Bxs.start et A q.2 q.1 hz h fun X j nn hh => eqv_l (i2l_at (by simp [Term.eval, idx_at nn, (back32 nn).1])) hh
theorem own_staI {s : State} {args : Array Value} {C n d : String} {k : Int32} (h : (Cond.eq (Term.static C n d) (Term.int k)).value args s none s [] = some true) : (Term.static C n d).eval args s none [] s = some (.int k) := eqv_i (Term.int_eval k) h
theorem own_selp {Z : State} {a0 : Array Value} {y : MethodName} {n : Nat} (wi : (Cond.instantiable y.cls n).before a0 Z = true) (wp : (Cond.privateMethod y).before a0 Z = true) (wm : (Cond.instanceMethod y).before a0 Z = true) (hy : y.cls ≠ "java/lang/invoke/MethodHandle" ∧ y.cls ≠ "java/lang/invoke/VarHandle") : (Cond.selects y.cls y y).before a0 Z = true := by
  obtain ⟨c, k, h1, h2, -, h4, -⟩ := Cond.instantiable_spec wi
  exact selects_self_of_private h1 h2 (by cases hI : k.isInterface <;> simp [hI] at h4 ⊢) (Cond.privateMethod_at wp) wm hy
def own_Gk (Z : State) (h : Heap) (a : Addr) (k : ClassId) (ty : FieldType) (n j : Int32) (v : Value) : Prop := ∃ c : Cell, Arr Z h a c ty ∧ c.cls = k ∧ c.slots.size = n.toNatClampNeg ∧ ¬ n < 0 ∧ c.slots[j.toNatClampNeg]? = some v
section OwnGk
variable {Z : State} {h h' : Heap} {ls : List Loc} {a b : Addr} {k : ClassId} {ty : FieldType} {n j : Int32} {v u : Value} {sl : Nat}
theorem own_Gk.lt (F : own_Gk Z h a k ty n j v) : a < h.size := by obtain ⟨c, A, -⟩ := F; exact A.lt
theorem own_gk_ext (F : own_Gk Z h a k ty n j v) (E : Ext h h') : own_Gk Z h' a k ty n j v := by obtain ⟨c, A, r⟩ := F; exact ⟨c, A.ext E, r⟩
theorem own_gk_oth (F : own_Gk Z h a k ty n j v) (W : Wr h h' b sl u) (q : a ≠ b) : own_Gk Z h' a k ty n j v := by obtain ⟨c, A, r⟩ := F; exact ⟨c, A.other W q, r⟩
theorem own_gk_kl (F : own_Gk Z h a k ty n j v) (K : own_KL h h' ls) (q : ∀ y ∈ ls, y.base ≠ a) : own_Gk Z h' a k ty n j v := by
  obtain ⟨c, A, r⟩ := F
  obtain ⟨c', e1, -, -, -, e5, -⟩ := K.2 _ _ A.1
  cases e5 q
  exact ⟨c, ⟨e1, A.2⟩, r⟩
theorem own_gk_set {c : Cell} (A : Arr Z h a c ty) (q1 : c.cls = k) (S : c.slots.size = n.toNatClampNeg) (N : ¬ n < 0) (W : Wr h h' a j.toNatClampNeg v) : own_Gk Z h' a k ty n j v := by
  obtain ⟨c', e1, e2, e3, e4, -, -, e7⟩ := wr_at W A.1
  have e8 := (e7 rfl).1
  exact ⟨_, A.same W, q1, by rw [sz_set]; exact S, N, by rw [← e8]; exact (e7 rfl).2.1⟩
end OwnGk
section OwnSteps
variable {p : Program} {l : Launch} {e : Env} {R : Room} {s : State} {m : MethodId} {args : Array Value} {below : List Frame} {meth : Method} {c : Code} {T target : State} {locs : List Loc} {cells slots : Nat} {code : ByteArray} {pc : Nat} {Ls : Array Slot} {K : List Value}
theorem sc (X : Stand p l e R s m args below meth c T locs cells slots) (hx : p.tables.exec = Jvm.exec) (hby : c.code = code) {i : Int} (hd : decode code pc = .ok (.iconst i, 1)) (hr : Steps p.tables e below (T.setTop (mkF m (pc + 1) Ls (.int (Int32.ofInt i) :: K))) target) : Steps p.tables e below (T.setTop (mkF m pc Ls K)) target := XS.iconst X.here hx rfl (hb hby hd) hr
theorem sa (X : Stand p l e R s m args below meth c T locs cells slots) (hx : p.tables.exec = Jvm.exec) (hby : c.code = code) {k : Nat} {v : Value} (hd : decode code pc = .ok (.aload k, 2)) (hl : Ls[k]? = some (.val v)) (hv : v.isRef = true) (hr : Steps p.tables e below (T.setTop (mkF m (pc + 2) Ls (v :: K))) target) : Steps p.tables e below (T.setTop (mkF m pc Ls K)) target := XS.aload X.here hx rfl (hb hby hd) hl hv hr
theorem sA (X : Stand p l e R s m args below meth c T locs cells slots) (hx : p.tables.exec = Jvm.exec) (hby : c.code = code) {k : Fin 4} {v : Value} (hd : decode code pc = .ok (.aload_n k, 1)) (hl : Ls[k.val]? = some (.val v)) (hv : v.isRef = true) (hr : Steps p.tables e below (T.setTop (mkF m (pc + 1) Ls (v :: K))) target) : Steps p.tables e below (T.setTop (mkF m pc Ls K)) target := XS.aloadN X.here hx rfl (hb hby hd) hl hv hr
theorem si (X : Stand p l e R s m args below meth c T locs cells slots) (hx : p.tables.exec = Jvm.exec) (hby : c.code = code) {k : Nat} {v : Int32} (hd : decode code pc = .ok (.iload k, 2)) (hl : Ls[k]? = some (.val (.int v))) (hr : Steps p.tables e below (T.setTop (mkF m (pc + 2) Ls (.int v :: K))) target) : Steps p.tables e below (T.setTop (mkF m pc Ls K)) target := XS.iload X.here hx rfl (hb hby hd) hl hr
theorem sI (X : Stand p l e R s m args below meth c T locs cells slots) (hx : p.tables.exec = Jvm.exec) (hby : c.code = code) {k : Fin 4} {v : Int32} (hd : decode code pc = .ok (.iload_n k, 1)) (hl : Ls[k.val]? = some (.val (.int v))) (hr : Steps p.tables e below (T.setTop (mkF m (pc + 1) Ls (.int v :: K))) target) : Steps p.tables e below (T.setTop (mkF m pc Ls K)) target := XS.iloadN X.here hx rfl (hb hby hd) hl hr
theorem sL (X : Stand p l e R s m args below meth c T locs cells slots) (hx : p.tables.exec = Jvm.exec) (hby : c.code = code) {k : Fin 4} {v : Int64} (hd : decode code pc = .ok (.lload_n k, 1)) (hl : Ls[k.val]? = some (.val (.long v))) (hr : Steps p.tables e below (T.setTop (mkF m (pc + 1) Ls (.long v :: K))) target) : Steps p.tables e below (T.setTop (mkF m pc Ls K)) target := XS.lloadN X.here hx rfl (hb hby hd) hl hr
theorem sg (X : Stand p l e R s m args below meth c T locs cells slots) (hx : p.tables.exec = Jvm.exec) (hby : c.code = code) {o : Int} {pc' : Nat} (hd : decode code pc = .ok (.goto o, 3)) (ho : 0 ≤ (pc : Int) + o) (hp : ((pc : Int) + o).toNat = pc') (hr : Steps p.tables e below (T.setTop (mkF m pc' Ls K)) target) : Steps p.tables e below (T.setTop (mkF m pc Ls K)) target := XS.goto X.here hx rfl rfl (hb hby hd) ho hp hr
theorem sn (X : Stand p l e R s m args below meth c T locs cells slots) (hx : p.tables.exec = Jvm.exec) (hby : c.code = code) {cd : ClassFile.Cond} {o : Int} {x y : Int32} (hd : decode code pc = .ok (.if_icmp cd o, 3)) (hc : if_icmp.holds cd x y = false) (hr : Steps p.tables e below (T.setTop (mkF m (pc + 3) Ls K)) target) : Steps p.tables e below (T.setTop (mkF m pc Ls (.int y :: .int x :: K))) target := XS.icmpNo X.here hx rfl (hb hby hd) rfl hc hr
theorem sN (X : Stand p l e R s m args below meth c T locs cells slots) (hx : p.tables.exec = Jvm.exec) (hby : c.code = code) {cd : ClassFile.Cond} {o : Int} {x : Int32} (hd : decode code pc = .ok (.ifCond cd o, 3)) (hc : ifCond.holds cd x = false) (hr : Steps p.tables e below (T.setTop (mkF m (pc + 3) Ls K)) target) : Steps p.tables e below (T.setTop (mkF m pc Ls (.int x :: K))) target := XS.ifNo X.here hx rfl (hb hby hd) rfl hc hr
end OwnSteps

theorem own_rem6 (x : Int32) : (x &&& 2147483647) % 6 = 0 ∨ (x &&& 2147483647) % 6 = 1 ∨ (x &&& 2147483647) % 6 = 2 ∨ (x &&& 2147483647) % 6 = 3 ∨ (x &&& 2147483647) % 6 = 4 ∨ (x &&& 2147483647) % 6 = 5 := by
  have h : (x &&& 2147483647).toInt = x.toInt % 2147483648 := c_mask x 2147483647 31 (by decide) (by decide)
  have h2 : ((x &&& 2147483647) % 6).toInt = (x &&& 2147483647).toInt % 6 := by
    rw [Int32.toInt_mod, Int.tmod_eq_emod_of_nonneg (by rw [h]; omega)]; rfl
  have hr : ((x &&& 2147483647) % 6).toInt = 0 ∨ ((x &&& 2147483647) % 6).toInt = 1 ∨ ((x &&& 2147483647) % 6).toInt = 2 ∨ ((x &&& 2147483647) % 6).toInt = 3 ∨ ((x &&& 2147483647) % 6).toInt = 4 ∨ ((x &&& 2147483647) % 6).toInt = 5 := by omega
  rcases hr with q | q | q | q | q | q
  · exact Or.inl (Int32.toInt_inj.mp q)
  · exact Or.inr (Or.inl (Int32.toInt_inj.mp q))
  · exact Or.inr (Or.inr (Or.inl (Int32.toInt_inj.mp q)))
  · exact Or.inr (Or.inr (Or.inr (Or.inl (Int32.toInt_inj.mp q))))
  · exact Or.inr (Or.inr (Or.inr (Or.inr (Or.inl (Int32.toInt_inj.mp q)))))
  · exact Or.inr (Or.inr (Or.inr (Or.inr (Or.inr (Int32.toInt_inj.mp q)))))
abbrev ym0 : MethodName := ⟨"com/example/gofyn/gofyn/typed/OperatorMirroredPinLaw", "pick", "(I)Lcom/example/gofyn/gofyn/typed/Term$Operator;"⟩
abbrev ym1 : MethodName := ⟨"java/lang/Enum", "ordinal", "()I"⟩
abbrev ym2 : MethodName := ⟨"com/example/gofyn/gofyn/typed/Term$Operator", "ordinal", "()I"⟩
abbrev ym3 : MethodName := ⟨"com/example/gofyn/gofyn/typed/Term$Operator", "mirrored", "()Lcom/example/gofyn/gofyn/typed/Term$Operator;"⟩
abbrev ym4 : MethodName := ⟨"java/lang/Integer", "compare", "(II)I"⟩
abbrev ym5 : MethodName := ⟨"com/example/gofyn/gofyn/typed/Term$Operator", "holds", "(II)Z"⟩
theorem wk0 {Z : State} {a0 : Array Value} (hw : ∀ d ∈ tables_1, d.before a0 Z = true) : (Jvm.Cond.methodLink "com/example/gofyn/gofyn/typed/OperatorMirroredPinLaw" (29 : Nat) ({ cls := "com/example/gofyn/gofyn/typed/OperatorMirroredPinLaw", name := "pick", desc := "(I)Lcom/example/gofyn/gofyn/typed/Term$Operator;" } : Jvm.MethodName)).before a0 Z = true := hw _ (List.mem_of_getElem? (i := 0) rfl)
theorem wk1 {Z : State} {a0 : Array Value} (hw : ∀ d ∈ tables_1, d.before a0 Z = true) : (Jvm.Cond.static ({ cls := "com/example/gofyn/gofyn/typed/OperatorMirroredPinLaw", name := "pick", desc := "(I)Lcom/example/gofyn/gofyn/typed/Term$Operator;" } : Jvm.MethodName)).before a0 Z = true := hw _ (List.mem_of_getElem? (i := 1) rfl)
theorem wk2 {Z : State} {a0 : Array Value} (hw : ∀ d ∈ tables_1, d.before a0 Z = true) : (Jvm.Cond.initialized "com/example/gofyn/gofyn/typed/OperatorMirroredPinLaw").before a0 Z = true := hw _ (List.mem_of_getElem? (i := 2) rfl)
theorem wk3 {Z : State} {a0 : Array Value} (hw : ∀ d ∈ tables_1, d.before a0 Z = true) : (Jvm.Cond.code ({ cls := "com/example/gofyn/gofyn/typed/OperatorMirroredPinLaw", name := "pick", desc := "(I)Lcom/example/gofyn/gofyn/typed/Term$Operator;" } : Jvm.MethodName) method_2_code (2 : Nat) (Option.some (Jvm.ClassFile.FieldType.object "com/example/gofyn/gofyn/typed/Term$Operator"))).before a0 Z = true := hw _ (List.mem_of_getElem? (i := 3) rfl)
theorem wk4 {Z : State} {a0 : Array Value} (hw : ∀ d ∈ tables_1, d.before a0 Z = true) : (Jvm.Cond.constant "com/example/gofyn/gofyn/typed/OperatorMirroredPinLaw" (7 : Nat) (2147483647 : Int32)).before a0 Z = true := hw _ (List.mem_of_getElem? (i := 4) rfl)
theorem wk5 {Z : State} {a0 : Array Value} (hw : ∀ d ∈ tables_1, d.before a0 Z = true) : (Jvm.Cond.fieldLink "com/example/gofyn/gofyn/typed/OperatorMirroredPinLaw" (8 : Nat) "com/example/gofyn/gofyn/typed/Term$Operator" "EQUAL" "Lcom/example/gofyn/gofyn/typed/Term$Operator;").before a0 Z = true := hw _ (List.mem_of_getElem? (i := 5) rfl)
theorem wk6 {Z : State} {a0 : Array Value} (hw : ∀ d ∈ tables_1, d.before a0 Z = true) : (Jvm.Cond.initialized "com/example/gofyn/gofyn/typed/Term$Operator").before a0 Z = true := hw _ (List.mem_of_getElem? (i := 6) rfl)
theorem wk7 {Z : State} {a0 : Array Value} (hw : ∀ d ∈ tables_1, d.before a0 Z = true) : (Jvm.Cond.laysStatic "com/example/gofyn/gofyn/typed/Term$Operator" "EQUAL" "Lcom/example/gofyn/gofyn/typed/Term$Operator;").before a0 Z = true := hw _ (List.mem_of_getElem? (i := 7) rfl)
theorem wk8 {Z : State} {a0 : Array Value} (hw : ∀ d ∈ tables_1, d.before a0 Z = true) : (Jvm.Cond.methodLink "com/example/gofyn/gofyn/typed/OperatorMirroredPinLaw" (35 : Nat) ({ cls := "com/example/gofyn/gofyn/typed/Term$Operator", name := "mirrored", desc := "()Lcom/example/gofyn/gofyn/typed/Term$Operator;" } : Jvm.MethodName)).before a0 Z = true := hw _ (List.mem_of_getElem? (i := 8) rfl)
theorem wk9 {Z : State} {a0 : Array Value} (hw : ∀ d ∈ tables_1, d.before a0 Z = true) : (Jvm.Cond.declares ({ cls := "com/example/gofyn/gofyn/typed/Term$Operator", name := "mirrored", desc := "()Lcom/example/gofyn/gofyn/typed/Term$Operator;" } : Jvm.MethodName)).before a0 Z = true := hw _ (List.mem_of_getElem? (i := 9) rfl)
theorem wk10 {Z : State} {a0 : Array Value} (hw : ∀ d ∈ tables_1, d.before a0 Z = true) : (Jvm.Cond.instanceMethod ({ cls := "com/example/gofyn/gofyn/typed/Term$Operator", name := "mirrored", desc := "()Lcom/example/gofyn/gofyn/typed/Term$Operator;" } : Jvm.MethodName)).before a0 Z = true := hw _ (List.mem_of_getElem? (i := 10) rfl)
theorem wk11 {Z : State} {a0 : Array Value} (hw : ∀ d ∈ tables_1, d.before a0 Z = true) : (Jvm.Cond.selects "com/example/gofyn/gofyn/typed/Term$Operator" ({ cls := "com/example/gofyn/gofyn/typed/Term$Operator", name := "mirrored", desc := "()Lcom/example/gofyn/gofyn/typed/Term$Operator;" } : Jvm.MethodName) ({ cls := "com/example/gofyn/gofyn/typed/Term$Operator", name := "mirrored", desc := "()Lcom/example/gofyn/gofyn/typed/Term$Operator;" } : Jvm.MethodName)).before a0 Z = true := hw _ (List.mem_of_getElem? (i := 11) rfl)
theorem wk12 {Z : State} {a0 : Array Value} (hw : ∀ d ∈ tables_1, d.before a0 Z = true) : (Jvm.Cond.code ({ cls := "com/example/gofyn/gofyn/typed/Term$Operator", name := "mirrored", desc := "()Lcom/example/gofyn/gofyn/typed/Term$Operator;" } : Jvm.MethodName) prog_75_method_6_code (1 : Nat) (Option.some (Jvm.ClassFile.FieldType.object "com/example/gofyn/gofyn/typed/Term$Operator"))).before a0 Z = true := hw _ (List.mem_of_getElem? (i := 12) rfl)
theorem wk13 {Z : State} {a0 : Array Value} (hw : ∀ d ∈ tables_1, d.before a0 Z = true) : (Jvm.Cond.methodLink "com/example/gofyn/gofyn/typed/Term$Operator" (45 : Nat) ({ cls := "com/example/gofyn/gofyn/typed/Term$Operator", name := "ordinal", desc := "()I" } : Jvm.MethodName)).before a0 Z = true := hw _ (List.mem_of_getElem? (i := 13) rfl)
theorem wk14 {Z : State} {a0 : Array Value} (hw : ∀ d ∈ tables_1, d.before a0 Z = true) : (Jvm.Cond.sameMethod "com/example/gofyn/gofyn/typed/Term$Operator" "java/lang/Enum" "ordinal" "()I").before a0 Z = true := hw _ (List.mem_of_getElem? (i := 14) rfl)
theorem wk15 {Z : State} {a0 : Array Value} (hw : ∀ d ∈ tables_1, d.before a0 Z = true) : (Jvm.Cond.declares ({ cls := "java/lang/Enum", name := "ordinal", desc := "()I" } : Jvm.MethodName)).before a0 Z = true := hw _ (List.mem_of_getElem? (i := 15) rfl)
theorem wk16 {Z : State} {a0 : Array Value} (hw : ∀ d ∈ tables_1, d.before a0 Z = true) : (Jvm.Cond.instanceMethod ({ cls := "java/lang/Enum", name := "ordinal", desc := "()I" } : Jvm.MethodName)).before a0 Z = true := hw _ (List.mem_of_getElem? (i := 16) rfl)
theorem wk17 {Z : State} {a0 : Array Value} (hw : ∀ d ∈ tables_1, d.before a0 Z = true) : (Jvm.Cond.selects "com/example/gofyn/gofyn/typed/Term$Operator" ({ cls := "com/example/gofyn/gofyn/typed/Term$Operator", name := "ordinal", desc := "()I" } : Jvm.MethodName) ({ cls := "java/lang/Enum", name := "ordinal", desc := "()I" } : Jvm.MethodName)).before a0 Z = true := hw _ (List.mem_of_getElem? (i := 17) rfl)
theorem wk18 {Z : State} {a0 : Array Value} (hw : ∀ d ∈ tables_1, d.before a0 Z = true) : (Jvm.Cond.initialized "java/lang/Enum").before a0 Z = true := hw _ (List.mem_of_getElem? (i := 18) rfl)
theorem wk19 {Z : State} {a0 : Array Value} (hw : ∀ d ∈ tables_1, d.before a0 Z = true) : (Jvm.Cond.code ({ cls := "java/lang/Enum", name := "ordinal", desc := "()I" } : Jvm.MethodName) jdk_37_method_2_code (1 : Nat) (Option.some Jvm.ClassFile.FieldType.int)).before a0 Z = true := hw _ (List.mem_of_getElem? (i := 19) rfl)
theorem wk20 {Z : State} {a0 : Array Value} (hw : ∀ d ∈ tables_1, d.before a0 Z = true) : (Jvm.Cond.fieldLink "java/lang/Enum" (7 : Nat) "java/lang/Enum" "ordinal" "I").before a0 Z = true := hw _ (List.mem_of_getElem? (i := 20) rfl)
theorem wk22 {Z : State} {a0 : Array Value} (hw : ∀ d ∈ tables_1, d.before a0 Z = true) : (Jvm.Cond.methodLink "com/example/gofyn/gofyn/typed/OperatorMirroredPinLaw" (39 : Nat) ({ cls := "com/example/gofyn/gofyn/typed/Term$Operator", name := "holds", desc := "(II)Z" } : Jvm.MethodName)).before a0 Z = true := hw _ (List.mem_of_getElem? (i := 22) rfl)
theorem wk23 {Z : State} {a0 : Array Value} (hw : ∀ d ∈ tables_1, d.before a0 Z = true) : (Jvm.Cond.declares ({ cls := "com/example/gofyn/gofyn/typed/Term$Operator", name := "holds", desc := "(II)Z" } : Jvm.MethodName)).before a0 Z = true := hw _ (List.mem_of_getElem? (i := 23) rfl)
theorem wk24 {Z : State} {a0 : Array Value} (hw : ∀ d ∈ tables_1, d.before a0 Z = true) : (Jvm.Cond.instanceMethod ({ cls := "com/example/gofyn/gofyn/typed/Term$Operator", name := "holds", desc := "(II)Z" } : Jvm.MethodName)).before a0 Z = true := hw _ (List.mem_of_getElem? (i := 24) rfl)
theorem wk25 {Z : State} {a0 : Array Value} (hw : ∀ d ∈ tables_1, d.before a0 Z = true) : (Jvm.Cond.selects "com/example/gofyn/gofyn/typed/Term$Operator" ({ cls := "com/example/gofyn/gofyn/typed/Term$Operator", name := "holds", desc := "(II)Z" } : Jvm.MethodName) ({ cls := "com/example/gofyn/gofyn/typed/Term$Operator", name := "holds", desc := "(II)Z" } : Jvm.MethodName)).before a0 Z = true := hw _ (List.mem_of_getElem? (i := 25) rfl)
theorem wk26 {Z : State} {a0 : Array Value} (hw : ∀ d ∈ tables_1, d.before a0 Z = true) : (Jvm.Cond.code ({ cls := "com/example/gofyn/gofyn/typed/Term$Operator", name := "holds", desc := "(II)Z" } : Jvm.MethodName) prog_75_method_7_code (4 : Nat) (Option.some Jvm.ClassFile.FieldType.boolean)).before a0 Z = true := hw _ (List.mem_of_getElem? (i := 26) rfl)
theorem wk27 {Z : State} {a0 : Array Value} (hw : ∀ d ∈ tables_1, d.before a0 Z = true) : (Jvm.Cond.methodLink "com/example/gofyn/gofyn/typed/Term$Operator" (54 : Nat) ({ cls := "java/lang/Integer", name := "compare", desc := "(II)I" } : Jvm.MethodName)).before a0 Z = true := hw _ (List.mem_of_getElem? (i := 27) rfl)
theorem wk28 {Z : State} {a0 : Array Value} (hw : ∀ d ∈ tables_1, d.before a0 Z = true) : (Jvm.Cond.static ({ cls := "java/lang/Integer", name := "compare", desc := "(II)I" } : Jvm.MethodName)).before a0 Z = true := hw _ (List.mem_of_getElem? (i := 28) rfl)
theorem wk29 {Z : State} {a0 : Array Value} (hw : ∀ d ∈ tables_1, d.before a0 Z = true) : (Jvm.Cond.initialized "java/lang/Integer").before a0 Z = true := hw _ (List.mem_of_getElem? (i := 29) rfl)
theorem wk30 {Z : State} {a0 : Array Value} (hw : ∀ d ∈ tables_1, d.before a0 Z = true) : (Jvm.Cond.code ({ cls := "java/lang/Integer", name := "compare", desc := "(II)I" } : Jvm.MethodName) jdk_33_method_40_code (2 : Nat) (Option.some Jvm.ClassFile.FieldType.int)).before a0 Z = true := hw _ (List.mem_of_getElem? (i := 30) rfl)
theorem wk31 {Z : State} {a0 : Array Value} (hw : ∀ d ∈ tables_1, d.before a0 Z = true) : (Jvm.Cond.fieldLink "com/example/gofyn/gofyn/typed/OperatorMirroredPinLaw" (14 : Nat) "com/example/gofyn/gofyn/typed/Term$Operator" "NOT_EQUAL" "Lcom/example/gofyn/gofyn/typed/Term$Operator;").before a0 Z = true := hw _ (List.mem_of_getElem? (i := 31) rfl)
theorem wk32 {Z : State} {a0 : Array Value} (hw : ∀ d ∈ tables_1, d.before a0 Z = true) : (Jvm.Cond.laysStatic "com/example/gofyn/gofyn/typed/Term$Operator" "NOT_EQUAL" "Lcom/example/gofyn/gofyn/typed/Term$Operator;").before a0 Z = true := hw _ (List.mem_of_getElem? (i := 32) rfl)
theorem wk33 {Z : State} {a0 : Array Value} (hw : ∀ d ∈ tables_1, d.before a0 Z = true) : (Jvm.Cond.fieldLink "com/example/gofyn/gofyn/typed/OperatorMirroredPinLaw" (17 : Nat) "com/example/gofyn/gofyn/typed/Term$Operator" "LESS" "Lcom/example/gofyn/gofyn/typed/Term$Operator;").before a0 Z = true := hw _ (List.mem_of_getElem? (i := 33) rfl)
theorem wk34 {Z : State} {a0 : Array Value} (hw : ∀ d ∈ tables_1, d.before a0 Z = true) : (Jvm.Cond.laysStatic "com/example/gofyn/gofyn/typed/Term$Operator" "LESS" "Lcom/example/gofyn/gofyn/typed/Term$Operator;").before a0 Z = true := hw _ (List.mem_of_getElem? (i := 34) rfl)
theorem wk35 {Z : State} {a0 : Array Value} (hw : ∀ d ∈ tables_1, d.before a0 Z = true) : (Jvm.Cond.fieldLink "com/example/gofyn/gofyn/typed/Term$Operator" (16 : Nat) "com/example/gofyn/gofyn/typed/Term$Operator" "GREATER" "Lcom/example/gofyn/gofyn/typed/Term$Operator;").before a0 Z = true := hw _ (List.mem_of_getElem? (i := 35) rfl)
theorem wk36 {Z : State} {a0 : Array Value} (hw : ∀ d ∈ tables_1, d.before a0 Z = true) : (Jvm.Cond.laysStatic "com/example/gofyn/gofyn/typed/Term$Operator" "GREATER" "Lcom/example/gofyn/gofyn/typed/Term$Operator;").before a0 Z = true := hw _ (List.mem_of_getElem? (i := 36) rfl)
theorem wk37 {Z : State} {a0 : Array Value} (hw : ∀ d ∈ tables_1, d.before a0 Z = true) : (Jvm.Cond.fieldLink "com/example/gofyn/gofyn/typed/Term$Operator" (10 : Nat) "com/example/gofyn/gofyn/typed/Term$Operator" "LESS" "Lcom/example/gofyn/gofyn/typed/Term$Operator;").before a0 Z = true := hw _ (List.mem_of_getElem? (i := 37) rfl)
theorem wk38 {Z : State} {a0 : Array Value} (hw : ∀ d ∈ tables_1, d.before a0 Z = true) : (Jvm.Cond.fieldLink "com/example/gofyn/gofyn/typed/OperatorMirroredPinLaw" (26 : Nat) "com/example/gofyn/gofyn/typed/Term$Operator" "GREATER_EQUAL" "Lcom/example/gofyn/gofyn/typed/Term$Operator;").before a0 Z = true := hw _ (List.mem_of_getElem? (i := 38) rfl)
theorem wk39 {Z : State} {a0 : Array Value} (hw : ∀ d ∈ tables_1, d.before a0 Z = true) : (Jvm.Cond.laysStatic "com/example/gofyn/gofyn/typed/Term$Operator" "GREATER_EQUAL" "Lcom/example/gofyn/gofyn/typed/Term$Operator;").before a0 Z = true := hw _ (List.mem_of_getElem? (i := 39) rfl)
theorem wk40 {Z : State} {a0 : Array Value} (hw : ∀ d ∈ tables_1, d.before a0 Z = true) : (Jvm.Cond.fieldLink "com/example/gofyn/gofyn/typed/Term$Operator" (13 : Nat) "com/example/gofyn/gofyn/typed/Term$Operator" "LESS_EQUAL" "Lcom/example/gofyn/gofyn/typed/Term$Operator;").before a0 Z = true := hw _ (List.mem_of_getElem? (i := 40) rfl)
theorem wk41 {Z : State} {a0 : Array Value} (hw : ∀ d ∈ tables_1, d.before a0 Z = true) : (Jvm.Cond.laysStatic "com/example/gofyn/gofyn/typed/Term$Operator" "LESS_EQUAL" "Lcom/example/gofyn/gofyn/typed/Term$Operator;").before a0 Z = true := hw _ (List.mem_of_getElem? (i := 41) rfl)
theorem wk42 {Z : State} {a0 : Array Value} (hw : ∀ d ∈ tables_1, d.before a0 Z = true) : (Jvm.Cond.fieldLink "com/example/gofyn/gofyn/typed/Term$Operator" (19 : Nat) "com/example/gofyn/gofyn/typed/Term$Operator" "GREATER_EQUAL" "Lcom/example/gofyn/gofyn/typed/Term$Operator;").before a0 Z = true := hw _ (List.mem_of_getElem? (i := 42) rfl)
theorem wk43 {Z : State} {a0 : Array Value} (hw : ∀ d ∈ tables_1, d.before a0 Z = true) : (Jvm.Cond.fieldLink "com/example/gofyn/gofyn/typed/OperatorMirroredPinLaw" (20 : Nat) "com/example/gofyn/gofyn/typed/Term$Operator" "LESS_EQUAL" "Lcom/example/gofyn/gofyn/typed/Term$Operator;").before a0 Z = true := hw _ (List.mem_of_getElem? (i := 43) rfl)
theorem wk44 {Z : State} {a0 : Array Value} (hw : ∀ d ∈ tables_1, d.before a0 Z = true) : (Jvm.Cond.fieldLink "com/example/gofyn/gofyn/typed/OperatorMirroredPinLaw" (23 : Nat) "com/example/gofyn/gofyn/typed/Term$Operator" "GREATER" "Lcom/example/gofyn/gofyn/typed/Term$Operator;").before a0 Z = true := hw _ (List.mem_of_getElem? (i := 44) rfl)
def Wd (Z : State) (w : Nat → Addr) : Prop := Sta Z Z.heap "com/example/gofyn/gofyn/typed/Term$Operator" "EQUAL" "Lcom/example/gofyn/gofyn/typed/Term$Operator;" (.ref (w 0)) ∧ Exa Z Z.heap (w 0) "com/example/gofyn/gofyn/typed/Term$Operator" ∧ Sta Z Z.heap "com/example/gofyn/gofyn/typed/Term$Operator" "NOT_EQUAL" "Lcom/example/gofyn/gofyn/typed/Term$Operator;" (.ref (w 1)) ∧ Exa Z Z.heap (w 1) "com/example/gofyn/gofyn/typed/Term$Operator" ∧ Sta Z Z.heap "com/example/gofyn/gofyn/typed/Term$Operator" "LESS" "Lcom/example/gofyn/gofyn/typed/Term$Operator;" (.ref (w 2)) ∧ Exa Z Z.heap (w 2) "com/example/gofyn/gofyn/typed/Term$Operator" ∧ Sta Z Z.heap "com/example/gofyn/gofyn/typed/Term$Operator" "GREATER" "Lcom/example/gofyn/gofyn/typed/Term$Operator;" (.ref (w 3)) ∧ Exa Z Z.heap (w 3) "com/example/gofyn/gofyn/typed/Term$Operator" ∧ Sta Z Z.heap "com/example/gofyn/gofyn/typed/Term$Operator" "GREATER_EQUAL" "Lcom/example/gofyn/gofyn/typed/Term$Operator;" (.ref (w 4)) ∧ Exa Z Z.heap (w 4) "com/example/gofyn/gofyn/typed/Term$Operator" ∧ Sta Z Z.heap "com/example/gofyn/gofyn/typed/Term$Operator" "LESS_EQUAL" "Lcom/example/gofyn/gofyn/typed/Term$Operator;" (.ref (w 5)) ∧ Exa Z Z.heap (w 5) "com/example/gofyn/gofyn/typed/Term$Operator" ∧ Fld Z Z.heap (w 0) "java/lang/Enum" "ordinal" "I" (.int (0 : Int32)) ∧ Fld Z Z.heap (w 1) "java/lang/Enum" "ordinal" "I" (.int (1 : Int32)) ∧ Fld Z Z.heap (w 2) "java/lang/Enum" "ordinal" "I" (.int (2 : Int32)) ∧ Fld Z Z.heap (w 3) "java/lang/Enum" "ordinal" "I" (.int (4 : Int32)) ∧ Fld Z Z.heap (w 4) "java/lang/Enum" "ordinal" "I" (.int (5 : Int32)) ∧ Fld Z Z.heap (w 5) "java/lang/Enum" "ordinal" "I" (.int (3 : Int32)) ∧ True
theorem wd0 {Z : State} {w : Nat → Addr} (hW : Wd Z w) : Sta Z Z.heap "com/example/gofyn/gofyn/typed/Term$Operator" "EQUAL" "Lcom/example/gofyn/gofyn/typed/Term$Operator;" (.ref (w 0)) := hW.1
theorem wd1 {Z : State} {w : Nat → Addr} (hW : Wd Z w) : Exa Z Z.heap (w 0) "com/example/gofyn/gofyn/typed/Term$Operator" := hW.2.1
theorem wd2 {Z : State} {w : Nat → Addr} (hW : Wd Z w) : Sta Z Z.heap "com/example/gofyn/gofyn/typed/Term$Operator" "NOT_EQUAL" "Lcom/example/gofyn/gofyn/typed/Term$Operator;" (.ref (w 1)) := hW.2.2.1
theorem wd3 {Z : State} {w : Nat → Addr} (hW : Wd Z w) : Exa Z Z.heap (w 1) "com/example/gofyn/gofyn/typed/Term$Operator" := hW.2.2.2.1
theorem wd4 {Z : State} {w : Nat → Addr} (hW : Wd Z w) : Sta Z Z.heap "com/example/gofyn/gofyn/typed/Term$Operator" "LESS" "Lcom/example/gofyn/gofyn/typed/Term$Operator;" (.ref (w 2)) := hW.2.2.2.2.1
theorem wd5 {Z : State} {w : Nat → Addr} (hW : Wd Z w) : Exa Z Z.heap (w 2) "com/example/gofyn/gofyn/typed/Term$Operator" := hW.2.2.2.2.2.1
theorem wd6 {Z : State} {w : Nat → Addr} (hW : Wd Z w) : Sta Z Z.heap "com/example/gofyn/gofyn/typed/Term$Operator" "GREATER" "Lcom/example/gofyn/gofyn/typed/Term$Operator;" (.ref (w 3)) := hW.2.2.2.2.2.2.1
theorem wd7 {Z : State} {w : Nat → Addr} (hW : Wd Z w) : Exa Z Z.heap (w 3) "com/example/gofyn/gofyn/typed/Term$Operator" := hW.2.2.2.2.2.2.2.1
theorem wd8 {Z : State} {w : Nat → Addr} (hW : Wd Z w) : Sta Z Z.heap "com/example/gofyn/gofyn/typed/Term$Operator" "GREATER_EQUAL" "Lcom/example/gofyn/gofyn/typed/Term$Operator;" (.ref (w 4)) := hW.2.2.2.2.2.2.2.2.1
theorem wd9 {Z : State} {w : Nat → Addr} (hW : Wd Z w) : Exa Z Z.heap (w 4) "com/example/gofyn/gofyn/typed/Term$Operator" := hW.2.2.2.2.2.2.2.2.2.1
theorem wd10 {Z : State} {w : Nat → Addr} (hW : Wd Z w) : Sta Z Z.heap "com/example/gofyn/gofyn/typed/Term$Operator" "LESS_EQUAL" "Lcom/example/gofyn/gofyn/typed/Term$Operator;" (.ref (w 5)) := hW.2.2.2.2.2.2.2.2.2.2.1
theorem wd11 {Z : State} {w : Nat → Addr} (hW : Wd Z w) : Exa Z Z.heap (w 5) "com/example/gofyn/gofyn/typed/Term$Operator" := hW.2.2.2.2.2.2.2.2.2.2.2.1
theorem wd12 {Z : State} {w : Nat → Addr} (hW : Wd Z w) : Fld Z Z.heap (w 0) "java/lang/Enum" "ordinal" "I" (.int (0 : Int32)) := hW.2.2.2.2.2.2.2.2.2.2.2.2.1
theorem wd13 {Z : State} {w : Nat → Addr} (hW : Wd Z w) : Fld Z Z.heap (w 1) "java/lang/Enum" "ordinal" "I" (.int (1 : Int32)) := hW.2.2.2.2.2.2.2.2.2.2.2.2.2.1
theorem wd14 {Z : State} {w : Nat → Addr} (hW : Wd Z w) : Fld Z Z.heap (w 2) "java/lang/Enum" "ordinal" "I" (.int (2 : Int32)) := hW.2.2.2.2.2.2.2.2.2.2.2.2.2.2.1
theorem wd15 {Z : State} {w : Nat → Addr} (hW : Wd Z w) : Fld Z Z.heap (w 3) "java/lang/Enum" "ordinal" "I" (.int (4 : Int32)) := hW.2.2.2.2.2.2.2.2.2.2.2.2.2.2.2.1
theorem wd16 {Z : State} {w : Nat → Addr} (hW : Wd Z w) : Fld Z Z.heap (w 4) "java/lang/Enum" "ordinal" "I" (.int (5 : Int32)) := hW.2.2.2.2.2.2.2.2.2.2.2.2.2.2.2.2.1
theorem wd17 {Z : State} {w : Nat → Addr} (hW : Wd Z w) : Fld Z Z.heap (w 5) "java/lang/Enum" "ordinal" "I" (.int (3 : Int32)) := hW.2.2.2.2.2.2.2.2.2.2.2.2.2.2.2.2.2.1
theorem d1_0 : decode method_2_code 0 = .ok (.iload_n 0, 1) := by decide +kernel
theorem d1_1 : decode method_2_code 1 = .ok (.ldc 7, 2) := by decide +kernel
theorem d1_3 : decode method_2_code 3 = .ok (.iand, 1) := by decide +kernel
theorem d1_4 : decode method_2_code 4 = .ok (.bipush 6, 2) := by decide +kernel
theorem d1_6 : decode method_2_code 6 = .ok (.irem, 1) := by decide +kernel
theorem d1_7 : decode method_2_code 7 = .ok (.istore_n 1, 1) := by decide +kernel
theorem d1_8 : decode method_2_code 8 = .ok (.iload_n 1, 1) := by decide +kernel
theorem d1_9 : decode method_2_code 9 = .ok (.ifCond .ne 7, 3) := by decide +kernel
theorem d1_12 : decode method_2_code 12 = .ok (.getstatic 8, 3) := by decide +kernel
theorem d1_15 : decode method_2_code 15 = .ok (.areturn, 1) := by decide +kernel
theorem ef_1_1 (m : MethodId) (q1 : Int32) : entryFrame m #[(.int q1)] 2 = mkF m 0 #[.val (.int q1), .unset] [] := by first | (simp [entryFrame, mkF, argsToLocals, Value.category]; done) | rfl
theorem pnc_0 : plainName "com/example/gofyn/gofyn/typed/OperatorMirroredPinLaw" = true := by first | (simp [plainName, overriddenIn]; done) | decide +kernel
def Q1_1 (Z : State) (w : Nat → Addr) (q1 : Int32) (h0 : Heap) (n0 : Nat) (v : Option Value) (h : Heap) (L : List Loc) : Prop := v = some (.ref (w 0)) ∧ Fr n0 L ∧ h = h0
set_option maxRecDepth 65536 in
set_option maxHeartbeats 40000000 in
theorem rm1_1 (l : Launch) (Z : State) (a0 : Array Value) (hw : ∀ d ∈ tables_1, d.before a0 Z = true) (w : Nat → Addr) (hW : Wd Z w) (ws : List Jvm.Cond) (q1 : Int32) (h0 : Heap) (n0 : Nat) (O0 : Old Z n0 h0) (c1 : ((q1 &&& (2147483647 : Int32)) % (6 : Int32)) = (0 : Int32)) :
    MetFree l ym0 (head1 (Jvm.Cond.code ym0 method_2_code 2 (some (.object "com/example/gofyn/gofyn/typed/Term$Operator")) :: ws) ({ frames := 0, cells := 0, slots := 0, locals := 0 } : Room)) (fun a U => a = #[(.int q1)] ∧ Z.Warmed39 U.vm ∧ U.heap = h0) (fun _ _ _ _ _ => True) (fun _ U o U' => ∃ v L, o = .returned v ∧ Q1_1 Z w q1 h0 n0 v U'.heap L ∧ FrameEnd U o U' L ({ frames := 0, cells := 0, slots := 0, locals := 0 } : Room).cells ({ frames := 0, cells := 0, slots := 0, locals := 0 } : Room).slots) := by
  refine MetFree.of_bodySF (plainFor_of_name pnc_0) hisR ?_
  intro p e s m args below meth c s₁ Bd hml0 hP hK
  obtain ⟨rfl, hZ, hh⟩ := hP
  have hx := Bd.exec
  have hby := Bd.bytes
  have hml : c.maxLocals = 2 := hml0
  have hown : s.vm.findClass "com/example/gofyn/gofyn/typed/OperatorMirroredPinLaw" = some m.cls := findClass_of_methodNamed Bd.named
  have hnm := (name_of_methodNamed Bd.named Bd.method).1
  have X0 : Stand p l e ({ frames := 0, cells := 0, slots := 0, locals := 0 } : Room) s m #[(.int q1)] below meth c s₁ [] 0 0 := Stand.of_body Bd
  have e0 : s₁.heap = h0 := by rw [← hh, Bd.state]; rfl
  have N0 := Fr.nil n0
  skip
  have pre0 : ∀ t, Steps p.tables e below (s₁.setTop (mkF m 0 #[.val (.int q1), .unset] [])) t → Steps p.tables e below (s₁.setTop (entryFrame m #[(.int q1)] 2)) t := fun t k => castTop (ef_1_1 m q1) k
  let Lb1 : Array Slot := #[.val (.int q1), .val (.int ((q1 &&& (2147483647 : Int32)) % (6 : Int32)))]
  obtain ⟨T2, X2, e2, st2⟩ := getS2 X0 hx hZ hown (host := "") (Or.inl (wk5 hw)) Via.refl e0 ((wd0 hW).ext O0.2) (g := (mkF m 12 Lb1 [])) rfl (hb hby d1_12)
  obtain ⟨fs, hr, hrun, hended, hWm, hsame⟩ := X2.leave (v := some (.ref (w 0))) (fun h => by rw [Bd.returns] at h; cases h)
  refine ⟨_, _, pre0 _ ?_, hrun, hended, _, _, rfl, ?_, ⟨_, rfl⟩, hWm, hsame.mono (by decide) (by decide)⟩
  · show Steps p.tables e below (s₁.setTop (mkF m 0 #[.val (.int q1), .unset] [])) _
    refine sI X0 hx hby d1_0 rfl ?_
    refine X0.ldcInt hx hown (mvT hZ (wk4 hw)) (g := (mkF m 1 #[.val (.int q1), .unset] [(.int q1)])) rfl (hb hby d1_1) _ ?_
    refine XS.iand X0.here hx rfl (hb hby d1_3) rfl ?_
    refine XS.bipush X0.here hx rfl (hb hby d1_4) ?_
    refine iremM X0 hx rfl (hb hby d1_6) rfl (by decide) ?_
    show Steps p.tables e below (s₁.setTop (mkF m 7 #[.val (.int q1), .unset] [(.int ((q1 &&& (2147483647 : Int32)) % (6 : Int32)))])) _
    refine XS.istoreN X0.here hx rfl (hb hby d1_7) rfl (l' := Lb1) rfl ?_
    refine sI X0 hx hby d1_8 rfl ?_
    refine sN X0 hx hby d1_9 ((if0 _ _).trans (teq (c1 : ((q1 &&& (2147483647 : Int32)) % (6 : Int32)) = (0 : Int32))).2) ?_
    refine st2 _ ?_
    jvm_step X2.here [X2.here.top, hx, (hb hby d1_15), X2.method', Bd.returns, Value.isRef, FieldType.isReference]
    first | (intro acts; rw [hr _ acts rfl rfl rfl]) | rw [hr _ _ rfl rfl rfl]
    exact Steps.refl _
  · show Q1_1 Z w q1 h0 n0 _ T2.heap _
    rw [e2]
    exact ⟨rfl, N0, rfl⟩
theorem pds_0 : parseMethodDescriptor "(I)Lcom/example/gofyn/gofyn/typed/Term$Operator;" = some ⟨[.int], some (.object "com/example/gofyn/gofyn/typed/Term$Operator")⟩ := by decide +kernel
theorem d2_0 : decode prog_75_method_6_code 0 = .ok (.aload_n 0, 1) := by decide +kernel
theorem d2_1 : decode prog_75_method_6_code 1 = .ok (.invokevirtual 45, 3) := by decide +kernel
theorem d3_0 : decode jdk_37_method_2_code 0 = .ok (.aload_n 0, 1) := by decide +kernel
theorem d3_1 : decode jdk_37_method_2_code 1 = .ok (.getfield 7, 3) := by decide +kernel
theorem d3_4 : decode jdk_37_method_2_code 4 = .ok (.ireturn, 1) := by decide +kernel
theorem ef_3_2 (m : MethodId) (w : Nat → Addr) : entryFrame m #[(.ref (w 0))] 1 = mkF m 0 #[.val (.ref (w 0))] [] := by first | (simp [entryFrame, mkF, argsToLocals, Value.category]; done) | rfl
theorem pnc_1 : plainName "java/lang/Enum" = true := by first | (simp [plainName, overriddenIn]; done) | decide +kernel
def Q3_2 (Z : State) (w : Nat → Addr) (h0 : Heap) (n0 : Nat) (v : Option Value) (h : Heap) (L : List Loc) : Prop := v = some (.int (0 : Int32)) ∧ Fr n0 L ∧ h = h0
set_option maxRecDepth 65536 in
set_option maxHeartbeats 40000000 in
theorem rm3_2 (l : Launch) (Z : State) (a0 : Array Value) (hw : ∀ d ∈ tables_1, d.before a0 Z = true) (w : Nat → Addr) (hW : Wd Z w) (ws : List Jvm.Cond) (h0 : Heap) (n0 : Nat) (O0 : Old Z n0 h0) :
    MetFree l ym1 (head1 (Jvm.Cond.code ym1 jdk_37_method_2_code 1 (some .int) :: ws) ({ frames := 0, cells := 0, slots := 0, locals := 0 } : Room)) (fun a U => a = #[(.ref (w 0))] ∧ Z.Warmed39 U.vm ∧ U.heap = h0) (fun _ _ _ _ _ => True) (fun _ U o U' => ∃ v L, o = .returned v ∧ Q3_2 Z w h0 n0 v U'.heap L ∧ FrameEnd U o U' L ({ frames := 0, cells := 0, slots := 0, locals := 0 } : Room).cells ({ frames := 0, cells := 0, slots := 0, locals := 0 } : Room).slots) := by
  refine MetFree.of_bodySF (plainFor_of_name pnc_1) hisR ?_
  intro p e s m args below meth c s₁ Bd hml0 hP hK
  obtain ⟨rfl, hZ, hh⟩ := hP
  have hx := Bd.exec
  have hby := Bd.bytes
  have hml : c.maxLocals = 1 := hml0
  have hown : s.vm.findClass "java/lang/Enum" = some m.cls := findClass_of_methodNamed Bd.named
  have hnm := (name_of_methodNamed Bd.named Bd.method).1
  have X0 : Stand p l e ({ frames := 0, cells := 0, slots := 0, locals := 0 } : Room) s m #[(.ref (w 0))] below meth c s₁ [] 0 0 := Stand.of_body Bd
  have e0 : s₁.heap = h0 := by rw [← hh, Bd.state]; rfl
  have N0 := Fr.nil n0
  skip
  have pre0 : ∀ t, Steps p.tables e below (s₁.setTop (mkF m 0 #[.val (.ref (w 0))] [])) t → Steps p.tables e below (s₁.setTop (entryFrame m #[(.ref (w 0))] 1)) t := fun t k => castTop (ef_3_2 m w) k
  obtain ⟨T1, X1, e1, st1⟩ := getF X0 hx hZ hown (host := "") (Or.inl (wk20 hw)) Via.refl e0 ((wd12 hW).ext O0.2) (g := (mkF m 1 #[.val (.ref (w 0))] [(.ref (w 0))])) rfl rfl (hb hby d3_1)
  obtain ⟨fs, hr, hrun, hended, hWm, hsame⟩ := X1.leave (v := some (.int (0 : Int32))) (fun h => by rw [Bd.returns] at h; cases h)
  refine ⟨_, _, pre0 _ ?_, hrun, hended, _, _, rfl, ?_, ⟨_, rfl⟩, hWm, hsame.mono (by decide) (by decide)⟩
  · show Steps p.tables e below (s₁.setTop (mkF m 0 #[.val (.ref (w 0))] [])) _
    refine sA X0 hx hby d3_0 rfl rfl ?_
    refine st1 _ ?_
    exact retI X1 hx Bd.returns (hb hby d3_4) hr
  · show Q3_2 Z w h0 n0 _ T1.heap _
    rw [e1]
    exact ⟨rfl, N0, rfl⟩
theorem pds_1 : parseMethodDescriptor "()I" = some ⟨[], some .int⟩ := by decide +kernel
theorem d2_4 : decode prog_75_method_6_code 4 = .ok (.tableswitch 40 0 5 #[50, 50, 54, 60, 66, 72], 40) := by decide +kernel
theorem d2_54 : decode prog_75_method_6_code 54 = .ok (.aload_n 0, 1) := by decide +kernel
theorem d2_55 : decode prog_75_method_6_code 55 = .ok (.goto 24, 3) := by decide +kernel
theorem d2_79 : decode prog_75_method_6_code 79 = .ok (.areturn, 1) := by decide +kernel
theorem ef_2_3 (m : MethodId) (w : Nat → Addr) : entryFrame m #[(.ref (w 0))] 1 = mkF m 0 #[.val (.ref (w 0))] [] := by first | (simp [entryFrame, mkF, argsToLocals, Value.category]; done) | rfl
theorem pnc_2 : plainName "com/example/gofyn/gofyn/typed/Term$Operator" = true := by first | (simp [plainName, overriddenIn]; done) | decide +kernel
def Q2_3 (Z : State) (w : Nat → Addr) (h0 : Heap) (n0 : Nat) (v : Option Value) (h : Heap) (L : List Loc) : Prop := v = some (.ref (w 0)) ∧ Fr n0 L ∧ h = h0
set_option maxRecDepth 65536 in
set_option maxHeartbeats 40000000 in
theorem rm2_3 (l : Launch) (Z : State) (a0 : Array Value) (hw : ∀ d ∈ tables_1, d.before a0 Z = true) (w : Nat → Addr) (hW : Wd Z w) (ws : List Jvm.Cond) (h0 : Heap) (n0 : Nat) (O0 : Old Z n0 h0) :
    MetFree l ym3 (head1 (Jvm.Cond.code ym3 prog_75_method_6_code 1 (some (.object "com/example/gofyn/gofyn/typed/Term$Operator")) :: ws) ({ frames := 1, cells := 0, slots := 0, locals := 12 } : Room)) (fun a U => a = #[(.ref (w 0))] ∧ Z.Warmed39 U.vm ∧ U.heap = h0) (fun _ _ _ _ _ => True) (fun _ U o U' => ∃ v L, o = .returned v ∧ Q2_3 Z w h0 n0 v U'.heap L ∧ FrameEnd U o U' L ({ frames := 1, cells := 0, slots := 0, locals := 12 } : Room).cells ({ frames := 1, cells := 0, slots := 0, locals := 12 } : Room).slots) := by
  refine MetFree.of_bodySF (plainFor_of_name pnc_2) hisR ?_
  intro p e s m args below meth c s₁ Bd hml0 hP hK
  obtain ⟨rfl, hZ, hh⟩ := hP
  have hx := Bd.exec
  have hby := Bd.bytes
  have hml : c.maxLocals = 1 := hml0
  have hown : s.vm.findClass "com/example/gofyn/gofyn/typed/Term$Operator" = some m.cls := findClass_of_methodNamed Bd.named
  have hnm := (name_of_methodNamed Bd.named Bd.method).1
  have X0 : Stand p l e ({ frames := 1, cells := 0, slots := 0, locals := 12 } : Room) s m #[(.ref (w 0))] below meth c s₁ [] 0 0 := Stand.of_body Bd
  have e0 : s₁.heap = h0 := by rw [← hh, Bd.state]; rfl
  have N0 := Fr.nil n0
  skip
  have pre0 : ∀ t, Steps p.tables e below (s₁.setTop (mkF m 0 #[.val (.ref (w 0))] [])) t → Steps p.tables e below (s₁.setTop (entryFrame m #[(.ref (w 0))] 1)) t := fun t k => castTop (ef_2_3 m w) k
  obtain ⟨cq1, kq1, q1a, q1b, q1c⟩ := isOf hZ e0 ((wd1 hW).ext O0.2)
  obtain ⟨_, _, ⟨T1, L1, kk1, nn1⟩, -, X1, ⟨Lc1, hQ1, l1, y1, z1⟩, st1⟩ := X0.virtualBackUp hx (x := ym2) (y := ym1) hown (mvT hZ (wk13 hw)) (mvT hZ (wk14 hw)) (mvT hZ (wk15 hw)) (by decide) (mvT hZ (wk17 hw)) (mvT hZ (wk16 hw)) (backOf (W := 0) (rm3_2 l Z a0 hw w hW []  h0 n0 O0 ) hZ (wk19 hw) (wk18 hw) (by decide) (by decide)) q1a q1c (g := (mkF m 1 #[.val (.ref (w 0))] [(.ref (w 0))])) rfl (by rw [hml]; rfl) (Steps.refl _) (argsL := []) (rest := []) (lenOf pds_1 rfl) rfl (by show 2 * 0 + _ ≤ _; exact Nat.le_of_eq rfl) (hb hby d2_1) (fun _ _ => ⟨rfl, e0, (by decide : 0 + 0 ≤ _), (by decide : 0 + 0 ≤ _)⟩)
  dsimp only [Pt.U, Pt.locs, Pt.cells, Pt.slots] at X1 l1 y1 z1 st1 hQ1
  subst l1 y1 z1
  obtain ⟨rfl, N1q, e1⟩ := hQ1
  have N1 := Fr.app N0 N1q
  obtain ⟨fs, hr, hrun, hended, hWm, hsame⟩ := X1.leave (v := some (.ref (w 0))) (fun h => by rw [Bd.returns] at h; cases h)
  refine ⟨_, _, pre0 _ ?_, hrun, hended, _, _, rfl, ?_, ⟨_, rfl⟩, hWm, hsame.mono (by decide) (by decide)⟩
  · show Steps p.tables e below (s₁.setTop (mkF m 0 #[.val (.ref (w 0))] [])) _
    refine sA X0 hx hby d2_0 rfl rfl ?_
    refine st1.trans ?_
    refine XS.tswIn X1.here hx rfl (pc0 := 4) (pc' := 54) (o := 50) rfl (hb hby d2_4) rfl (by decide) (by decide) (by decide) (by decide) ?_
    refine sA X1 hx hby d2_54 rfl rfl ?_
    refine sg (pc := 55) (pc' := 79) X1 hx hby d2_55 (by decide) (by decide) ?_
    jvm_step X1.here [X1.here.top, hx, (hb hby d2_79), X1.method', Bd.returns, Value.isRef, FieldType.isReference]
    first | (intro acts; rw [hr _ acts rfl rfl rfl]) | rw [hr _ _ rfl rfl rfl]
    exact Steps.refl _
  · show Q2_3 Z w h0 n0 _ T1.heap _
    rw [e1]
    exact ⟨rfl, N1, rfl⟩
theorem pds_2 : parseMethodDescriptor "()Lcom/example/gofyn/gofyn/typed/Term$Operator;" = some ⟨[], some (.object "com/example/gofyn/gofyn/typed/Term$Operator")⟩ := by decide +kernel
theorem d4_0 : decode prog_75_method_7_code 0 = .ok (.iload_n 1, 1) := by decide +kernel
theorem d4_1 : decode prog_75_method_7_code 1 = .ok (.iload_n 2, 1) := by decide +kernel
theorem d4_2 : decode prog_75_method_7_code 2 = .ok (.invokestatic 54, 3) := by decide +kernel
theorem d5_0 : decode jdk_33_method_40_code 0 = .ok (.iload_n 0, 1) := by decide +kernel
theorem d5_1 : decode jdk_33_method_40_code 1 = .ok (.iload_n 1, 1) := by decide +kernel
theorem d5_2 : decode jdk_33_method_40_code 2 = .ok (.if_icmp .ge 7, 3) := by decide +kernel
theorem d5_5 : decode jdk_33_method_40_code 5 = .ok (.iconst (-1), 1) := by decide +kernel
theorem d5_6 : decode jdk_33_method_40_code 6 = .ok (.goto 13, 3) := by decide +kernel
theorem d5_19 : decode jdk_33_method_40_code 19 = .ok (.ireturn, 1) := by decide +kernel
theorem ef_5_4 (m : MethodId) (q1 : Int32) (q2 : Int32) : entryFrame m #[(.int q1), (.int q2)] 2 = mkF m 0 #[.val (.int q1), .val (.int q2)] [] := by first | (simp [entryFrame, mkF, argsToLocals, Value.category]; done) | rfl
theorem pnc_3 : plainName "java/lang/Integer" = true := by first | (simp [plainName, overriddenIn]; done) | decide +kernel
def Q5_4 (Z : State) (w : Nat → Addr) (q1 : Int32) (q2 : Int32) (h0 : Heap) (n0 : Nat) (v : Option Value) (h : Heap) (L : List Loc) : Prop := v = some (.int (-1 : Int32)) ∧ Fr n0 L ∧ h = h0
set_option maxRecDepth 65536 in
set_option maxHeartbeats 40000000 in
theorem rm5_4 (l : Launch) (Z : State) (a0 : Array Value) (hw : ∀ d ∈ tables_1, d.before a0 Z = true) (w : Nat → Addr) (hW : Wd Z w) (ws : List Jvm.Cond) (q1 : Int32) (q2 : Int32) (h0 : Heap) (n0 : Nat) (O0 : Old Z n0 h0) (c1 : q1 < q2) :
    MetFree l ym4 (head1 (Jvm.Cond.code ym4 jdk_33_method_40_code 2 (some .int) :: ws) ({ frames := 0, cells := 0, slots := 0, locals := 0 } : Room)) (fun a U => a = #[(.int q1), (.int q2)] ∧ Z.Warmed39 U.vm ∧ U.heap = h0) (fun _ _ _ _ _ => True) (fun _ U o U' => ∃ v L, o = .returned v ∧ Q5_4 Z w q1 q2 h0 n0 v U'.heap L ∧ FrameEnd U o U' L ({ frames := 0, cells := 0, slots := 0, locals := 0 } : Room).cells ({ frames := 0, cells := 0, slots := 0, locals := 0 } : Room).slots) := by
  refine MetFree.of_bodySF (plainFor_of_name pnc_3) hisR ?_
  intro p e s m args below meth c s₁ Bd hml0 hP hK
  obtain ⟨rfl, hZ, hh⟩ := hP
  have hx := Bd.exec
  have hby := Bd.bytes
  have hml : c.maxLocals = 2 := hml0
  have hown : s.vm.findClass "java/lang/Integer" = some m.cls := findClass_of_methodNamed Bd.named
  have hnm := (name_of_methodNamed Bd.named Bd.method).1
  have X0 : Stand p l e ({ frames := 0, cells := 0, slots := 0, locals := 0 } : Room) s m #[(.int q1), (.int q2)] below meth c s₁ [] 0 0 := Stand.of_body Bd
  have e0 : s₁.heap = h0 := by rw [← hh, Bd.state]; rfl
  have N0 := Fr.nil n0
  skip
  have pre0 : ∀ t, Steps p.tables e below (s₁.setTop (mkF m 0 #[.val (.int q1), .val (.int q2)] [])) t → Steps p.tables e below (s₁.setTop (entryFrame m #[(.int q1), (.int q2)] 2)) t := fun t k => castTop (ef_5_4 m q1 q2) k
  obtain ⟨fs, hr, hrun, hended, hWm, hsame⟩ := X0.leave (v := some (.int (-1 : Int32))) (fun h => by rw [Bd.returns] at h; cases h)
  refine ⟨_, _, pre0 _ ?_, hrun, hended, _, _, rfl, ?_, ⟨_, rfl⟩, hWm, hsame.mono (by decide) (by decide)⟩
  · show Steps p.tables e below (s₁.setTop (mkF m 0 #[.val (.int q1), .val (.int q2)] [])) _
    refine sI X0 hx hby d5_0 rfl ?_
    refine sI X0 hx hby d5_1 rfl ?_
    refine sn X0 hx hby d5_2 (tlt (c1 : q1 < q2)).2.1 ?_
    refine sc X0 hx hby d5_5 ?_
    refine sg (pc := 6) (pc' := 19) X0 hx hby d5_6 (by decide) (by decide) ?_
    show Steps p.tables e below (s₁.setTop (mkF m 19 #[.val (.int q1), .val (.int q2)] [(.int (-1 : Int32))])) _
    exact retI X0 hx Bd.returns (hb hby d5_19) hr
  · show Q5_4 Z w q1 q2 h0 n0 _ s₁.heap _
    rw [e0]
    exact ⟨rfl, N0, rfl⟩
theorem pds_3 : parseMethodDescriptor "(II)I" = some ⟨[.int, .int], some .int⟩ := by decide +kernel
theorem d4_5 : decode prog_75_method_7_code 5 = .ok (.istore_n 3, 1) := by decide +kernel
theorem d4_6 : decode prog_75_method_7_code 6 = .ok (.aload_n 0, 1) := by decide +kernel
theorem d4_7 : decode prog_75_method_7_code 7 = .ok (.invokevirtual 45, 3) := by decide +kernel
theorem d4_10 : decode prog_75_method_7_code 10 = .ok (.tableswitch 38 0 5 #[48, 60, 72, 84, 96, 108], 38) := by decide +kernel
theorem d4_58 : decode prog_75_method_7_code 58 = .ok (.iload_n 3, 1) := by decide +kernel
theorem d4_59 : decode prog_75_method_7_code 59 = .ok (.ifCond .ne 7, 3) := by decide +kernel
theorem d4_66 : decode prog_75_method_7_code 66 = .ok (.iconst 0, 1) := by decide +kernel
theorem d4_67 : decode prog_75_method_7_code 67 = .ok (.goto 60, 3) := by decide +kernel
theorem d4_127 : decode prog_75_method_7_code 127 = .ok (.ireturn, 1) := by decide +kernel
theorem ef_4_5 (m : MethodId) (w : Nat → Addr) (q1 : Int32) (q2 : Int32) : entryFrame m #[(.ref (w 0)), (.int q1), (.int q2)] 4 = mkF m 0 #[.val (.ref (w 0)), .val (.int q1), .val (.int q2), .unset] [] := by first | (simp [entryFrame, mkF, argsToLocals, Value.category]; done) | rfl
def Q4_5 (Z : State) (w : Nat → Addr) (q1 : Int32) (q2 : Int32) (h0 : Heap) (n0 : Nat) (v : Option Value) (h : Heap) (L : List Loc) : Prop := v = some (.int (0 : Int32)) ∧ Fr n0 L ∧ h = h0
set_option maxRecDepth 65536 in
set_option maxHeartbeats 40000000 in
theorem rm4_5 (l : Launch) (Z : State) (a0 : Array Value) (hw : ∀ d ∈ tables_1, d.before a0 Z = true) (w : Nat → Addr) (hW : Wd Z w) (ws : List Jvm.Cond) (q1 : Int32) (q2 : Int32) (h0 : Heap) (n0 : Nat) (O0 : Old Z n0 h0) (c1 : q1 < q2) :
    MetFree l ym5 (head1 (Jvm.Cond.code ym5 prog_75_method_7_code 4 (some .boolean) :: ws) ({ frames := 1, cells := 0, slots := 0, locals := 13 } : Room)) (fun a U => a = #[(.ref (w 0)), (.int q1), (.int q2)] ∧ Z.Warmed39 U.vm ∧ U.heap = h0) (fun _ _ _ _ _ => True) (fun _ U o U' => ∃ v L, o = .returned v ∧ Q4_5 Z w q1 q2 h0 n0 v U'.heap L ∧ FrameEnd U o U' L ({ frames := 1, cells := 0, slots := 0, locals := 13 } : Room).cells ({ frames := 1, cells := 0, slots := 0, locals := 13 } : Room).slots) := by
  refine MetFree.of_bodySF (plainFor_of_name pnc_2) hisR ?_
  intro p e s m args below meth c s₁ Bd hml0 hP hK
  obtain ⟨rfl, hZ, hh⟩ := hP
  have hx := Bd.exec
  have hby := Bd.bytes
  have hml : c.maxLocals = 4 := hml0
  have hown : s.vm.findClass "com/example/gofyn/gofyn/typed/Term$Operator" = some m.cls := findClass_of_methodNamed Bd.named
  have hnm := (name_of_methodNamed Bd.named Bd.method).1
  have X0 : Stand p l e ({ frames := 1, cells := 0, slots := 0, locals := 13 } : Room) s m #[(.ref (w 0)), (.int q1), (.int q2)] below meth c s₁ [] 0 0 := Stand.of_body Bd
  have e0 : s₁.heap = h0 := by rw [← hh, Bd.state]; rfl
  have N0 := Fr.nil n0
  let La : Array Slot := #[.val (.ref (w 0)), .val (.int q1), .val (.int q2), .unset]
  have pre0 : ∀ t, Steps p.tables e below (s₁.setTop (mkF m 0 #[.val (.ref (w 0)), .val (.int q1), .val (.int q2), .unset] [])) t → Steps p.tables e below (s₁.setTop (entryFrame m #[(.ref (w 0)), (.int q1), (.int q2)] 4)) t := fun t k => castTop (ef_4_5 m w q1 q2) k
  obtain ⟨_, _, ⟨T1, L1, kk1, nn1⟩, -, X1, ⟨Lc1, hQ1, l1, y1, z1⟩, st1⟩ := Jvm.LawKit.callS X0 hx (y := ym4) hown (mvT hZ (wk27 hw)) (mvT hZ (wk28 hw)) (mvT hZ (wk29 hw)) (mvT hZ (wk30 hw)) (by decide) (backOf (W := 0) (rm5_4 l Z a0 hw w hW [] q1 q2 h0 n0 O0 c1) hZ (wk30 hw) (wk29 hw) (by decide) (by decide)) (g := (mkF m 2 La [(.int q2), (.int q1)])) rfl (by rw [hml]; rfl) (argsL := [(.int q1), (.int q2)]) (rest := []) (lenOf pds_3 rfl) rfl (by show 2 * 0 + _ ≤ _; exact Nat.le_of_eq rfl) (hb hby d4_2) (fun _ _ => ⟨rfl, e0, (by decide : 0 + 0 ≤ _), (by decide : 0 + 0 ≤ _)⟩)
  dsimp only [Pt.U, Pt.locs, Pt.cells, Pt.slots] at X1 l1 y1 z1 st1 hQ1
  subst l1 y1 z1
  obtain ⟨rfl, N1q, e1⟩ := hQ1
  have N1 := Fr.app N0 N1q
  let Lb2 : Array Slot := #[.val (.ref (w 0)), .val (.int q1), .val (.int q2), .val (.int (-1 : Int32))]
  obtain ⟨cq3, kq3, q3a, q3b, q3c⟩ := isOf hZ e1 ((wd1 hW).ext O0.2)
  obtain ⟨_, _, ⟨T3, L3, kk3, nn3⟩, -, X3, ⟨Lc3, hQ3, l3, y3, z3⟩, st3⟩ := X1.virtualBackUp hx (x := ym2) (y := ym1) hown (mvT hZ (wk13 hw)) (mvT hZ (wk14 hw)) (mvT hZ (wk15 hw)) (by decide) (mvT hZ (wk17 hw)) (mvT hZ (wk16 hw)) (backOf (W := 0) (rm3_2 l Z a0 hw w hW []  h0 n0 O0 ) hZ (wk19 hw) (wk18 hw) (by decide) (by decide)) q3a q3c (g := (mkF m 7 Lb2 [(.ref (w 0))])) rfl (by rw [hml]; rfl) (Steps.refl _) (argsL := []) (rest := []) (lenOf pds_1 rfl) rfl (by show 2 * 0 + _ ≤ _; exact Nat.le_of_eq rfl) (hb hby d4_7) (fun _ _ => ⟨rfl, e1, (by decide : 0 + 0 ≤ _), (by decide : 0 + 0 ≤ _)⟩)
  dsimp only [Pt.U, Pt.locs, Pt.cells, Pt.slots] at X3 l3 y3 z3 st3 hQ3
  subst l3 y3 z3
  obtain ⟨rfl, N3q, e3⟩ := hQ3
  have N3 := Fr.app N1 N3q
  obtain ⟨fs, hr, hrun, hended, hWm, hsame⟩ := X3.leave (v := some (.int (0 : Int32))) (fun h => by rw [Bd.returns] at h; cases h)
  refine ⟨_, _, pre0 _ ?_, hrun, hended, _, _, rfl, ?_, ⟨_, rfl⟩, hWm, hsame.mono (by decide) (by decide)⟩
  · show Steps p.tables e below (s₁.setTop (mkF m 0 La [])) _
    refine sI X0 hx hby d4_0 rfl ?_
    refine sI X0 hx hby d4_1 rfl ?_
    refine st1 _ ?_
    refine XS.istoreN X1.here hx rfl (hb hby d4_5) rfl (l' := Lb2) rfl ?_
    refine sA X1 hx hby d4_6 rfl rfl ?_
    refine st3.trans ?_
    refine XS.tswIn X3.here hx rfl (pc0 := 10) (pc' := 58) (o := 48) rfl (hb hby d4_10) rfl (by decide) (by decide) (by decide) (by decide) ?_
    refine sI X3 hx hby d4_58 rfl ?_
    refine XS.ifYes X3.here hx rfl (pc0 := 59) (pc' := 66) rfl (hb hby d4_59) rfl (by decide) (by decide) (by decide) ?_
    refine sc X3 hx hby d4_66 ?_
    refine sg (pc := 67) (pc' := 127) X3 hx hby d4_67 (by decide) (by decide) ?_
    show Steps p.tables e below (T3.setTop (mkF m 127 Lb2 [(.int (0 : Int32))])) _
    exact retN X3 hx (t := .boolean) Bd.returns (by simp) (hb hby d4_127) hr
  · show Q4_5 Z w q1 q2 h0 n0 _ T3.heap _
    rw [e3]
    exact ⟨rfl, N3, rfl⟩
theorem pds_4 : parseMethodDescriptor "(II)Z" = some ⟨[.int, .int], some .boolean⟩ := by decide +kernel
theorem d5_9 : decode jdk_33_method_40_code 9 = .ok (.iload_n 0, 1) := by decide +kernel
theorem d5_10 : decode jdk_33_method_40_code 10 = .ok (.iload_n 1, 1) := by decide +kernel
theorem d5_11 : decode jdk_33_method_40_code 11 = .ok (.if_icmp .ne 7, 3) := by decide +kernel
theorem d5_18 : decode jdk_33_method_40_code 18 = .ok (.iconst 1, 1) := by decide +kernel
theorem ef_5_6 (m : MethodId) (q1 : Int32) (q2 : Int32) : entryFrame m #[(.int q1), (.int q2)] 2 = mkF m 0 #[.val (.int q1), .val (.int q2)] [] := by first | (simp [entryFrame, mkF, argsToLocals, Value.category]; done) | rfl
def Q5_6 (Z : State) (w : Nat → Addr) (q1 : Int32) (q2 : Int32) (h0 : Heap) (n0 : Nat) (v : Option Value) (h : Heap) (L : List Loc) : Prop := v = some (.int (1 : Int32)) ∧ Fr n0 L ∧ h = h0
set_option maxRecDepth 65536 in
set_option maxHeartbeats 40000000 in
theorem rm5_6 (l : Launch) (Z : State) (a0 : Array Value) (hw : ∀ d ∈ tables_1, d.before a0 Z = true) (w : Nat → Addr) (hW : Wd Z w) (ws : List Jvm.Cond) (q1 : Int32) (q2 : Int32) (h0 : Heap) (n0 : Nat) (O0 : Old Z n0 h0) (c1 : ¬ (q1 < q2)) (c2 : ¬ (q1 = q2)) :
    MetFree l ym4 (head1 (Jvm.Cond.code ym4 jdk_33_method_40_code 2 (some .int) :: ws) ({ frames := 0, cells := 0, slots := 0, locals := 0 } : Room)) (fun a U => a = #[(.int q1), (.int q2)] ∧ Z.Warmed39 U.vm ∧ U.heap = h0) (fun _ _ _ _ _ => True) (fun _ U o U' => ∃ v L, o = .returned v ∧ Q5_6 Z w q1 q2 h0 n0 v U'.heap L ∧ FrameEnd U o U' L ({ frames := 0, cells := 0, slots := 0, locals := 0 } : Room).cells ({ frames := 0, cells := 0, slots := 0, locals := 0 } : Room).slots) := by
  refine MetFree.of_bodySF (plainFor_of_name pnc_3) hisR ?_
  intro p e s m args below meth c s₁ Bd hml0 hP hK
  obtain ⟨rfl, hZ, hh⟩ := hP
  have hx := Bd.exec
  have hby := Bd.bytes
  have hml : c.maxLocals = 2 := hml0
  have hown : s.vm.findClass "java/lang/Integer" = some m.cls := findClass_of_methodNamed Bd.named
  have hnm := (name_of_methodNamed Bd.named Bd.method).1
  have X0 : Stand p l e ({ frames := 0, cells := 0, slots := 0, locals := 0 } : Room) s m #[(.int q1), (.int q2)] below meth c s₁ [] 0 0 := Stand.of_body Bd
  have e0 : s₁.heap = h0 := by rw [← hh, Bd.state]; rfl
  have N0 := Fr.nil n0
  skip
  have pre0 : ∀ t, Steps p.tables e below (s₁.setTop (mkF m 0 #[.val (.int q1), .val (.int q2)] [])) t → Steps p.tables e below (s₁.setTop (entryFrame m #[(.int q1), (.int q2)] 2)) t := fun t k => castTop (ef_5_6 m q1 q2) k
  obtain ⟨fs, hr, hrun, hended, hWm, hsame⟩ := X0.leave (v := some (.int (1 : Int32))) (fun h => by rw [Bd.returns] at h; cases h)
  refine ⟨_, _, pre0 _ ?_, hrun, hended, _, _, rfl, ?_, ⟨_, rfl⟩, hWm, hsame.mono (by decide) (by decide)⟩
  · show Steps p.tables e below (s₁.setTop (mkF m 0 #[.val (.int q1), .val (.int q2)] [])) _
    refine sI X0 hx hby d5_0 rfl ?_
    refine sI X0 hx hby d5_1 rfl ?_
    refine XS.icmpYes X0.here hx rfl (pc0 := 2) (pc' := 9) rfl (hb hby d5_2) rfl (flt (c1 : ¬ (q1 < q2))).2.1 (by decide) (by decide) ?_
    refine sI X0 hx hby d5_9 rfl ?_
    refine sI X0 hx hby d5_10 rfl ?_
    show Steps p.tables e below (s₁.setTop (mkF m 11 #[.val (.int q1), .val (.int q2)] [(.int q2), (.int q1)])) _
    refine XS.icmpYes X0.here hx rfl (pc0 := 11) (pc' := 18) rfl (hb hby d5_11) rfl (feq (c2 : ¬ (q1 = q2))).2 (by decide) (by decide) ?_
    refine sc X0 hx hby d5_18 ?_
    exact retI X0 hx Bd.returns (hb hby d5_19) hr
  · show Q5_6 Z w q1 q2 h0 n0 _ s₁.heap _
    rw [e0]
    exact ⟨rfl, N0, rfl⟩
theorem ef_4_7 (m : MethodId) (w : Nat → Addr) (q1 : Int32) (q2 : Int32) : entryFrame m #[(.ref (w 0)), (.int q1), (.int q2)] 4 = mkF m 0 #[.val (.ref (w 0)), .val (.int q1), .val (.int q2), .unset] [] := by first | (simp [entryFrame, mkF, argsToLocals, Value.category]; done) | rfl
def Q4_7 (Z : State) (w : Nat → Addr) (q1 : Int32) (q2 : Int32) (h0 : Heap) (n0 : Nat) (v : Option Value) (h : Heap) (L : List Loc) : Prop := v = some (.int (0 : Int32)) ∧ Fr n0 L ∧ h = h0
set_option maxRecDepth 65536 in
set_option maxHeartbeats 40000000 in
theorem rm4_7 (l : Launch) (Z : State) (a0 : Array Value) (hw : ∀ d ∈ tables_1, d.before a0 Z = true) (w : Nat → Addr) (hW : Wd Z w) (ws : List Jvm.Cond) (q1 : Int32) (q2 : Int32) (h0 : Heap) (n0 : Nat) (O0 : Old Z n0 h0) (c1 : ¬ (q1 < q2)) (c2 : ¬ (q1 = q2)) :
    MetFree l ym5 (head1 (Jvm.Cond.code ym5 prog_75_method_7_code 4 (some .boolean) :: ws) ({ frames := 1, cells := 0, slots := 0, locals := 13 } : Room)) (fun a U => a = #[(.ref (w 0)), (.int q1), (.int q2)] ∧ Z.Warmed39 U.vm ∧ U.heap = h0) (fun _ _ _ _ _ => True) (fun _ U o U' => ∃ v L, o = .returned v ∧ Q4_7 Z w q1 q2 h0 n0 v U'.heap L ∧ FrameEnd U o U' L ({ frames := 1, cells := 0, slots := 0, locals := 13 } : Room).cells ({ frames := 1, cells := 0, slots := 0, locals := 13 } : Room).slots) := by
  refine MetFree.of_bodySF (plainFor_of_name pnc_2) hisR ?_
  intro p e s m args below meth c s₁ Bd hml0 hP hK
  obtain ⟨rfl, hZ, hh⟩ := hP
  have hx := Bd.exec
  have hby := Bd.bytes
  have hml : c.maxLocals = 4 := hml0
  have hown : s.vm.findClass "com/example/gofyn/gofyn/typed/Term$Operator" = some m.cls := findClass_of_methodNamed Bd.named
  have hnm := (name_of_methodNamed Bd.named Bd.method).1
  have X0 : Stand p l e ({ frames := 1, cells := 0, slots := 0, locals := 13 } : Room) s m #[(.ref (w 0)), (.int q1), (.int q2)] below meth c s₁ [] 0 0 := Stand.of_body Bd
  have e0 : s₁.heap = h0 := by rw [← hh, Bd.state]; rfl
  have N0 := Fr.nil n0
  let La : Array Slot := #[.val (.ref (w 0)), .val (.int q1), .val (.int q2), .unset]
  have pre0 : ∀ t, Steps p.tables e below (s₁.setTop (mkF m 0 #[.val (.ref (w 0)), .val (.int q1), .val (.int q2), .unset] [])) t → Steps p.tables e below (s₁.setTop (entryFrame m #[(.ref (w 0)), (.int q1), (.int q2)] 4)) t := fun t k => castTop (ef_4_7 m w q1 q2) k
  obtain ⟨_, _, ⟨T1, L1, kk1, nn1⟩, -, X1, ⟨Lc1, hQ1, l1, y1, z1⟩, st1⟩ := Jvm.LawKit.callS X0 hx (y := ym4) hown (mvT hZ (wk27 hw)) (mvT hZ (wk28 hw)) (mvT hZ (wk29 hw)) (mvT hZ (wk30 hw)) (by decide) (backOf (W := 0) (rm5_6 l Z a0 hw w hW [] q1 q2 h0 n0 O0 c1 c2) hZ (wk30 hw) (wk29 hw) (by decide) (by decide)) (g := (mkF m 2 La [(.int q2), (.int q1)])) rfl (by rw [hml]; rfl) (argsL := [(.int q1), (.int q2)]) (rest := []) (lenOf pds_3 rfl) rfl (by show 2 * 0 + _ ≤ _; exact Nat.le_of_eq rfl) (hb hby d4_2) (fun _ _ => ⟨rfl, e0, (by decide : 0 + 0 ≤ _), (by decide : 0 + 0 ≤ _)⟩)
  dsimp only [Pt.U, Pt.locs, Pt.cells, Pt.slots] at X1 l1 y1 z1 st1 hQ1
  subst l1 y1 z1
  obtain ⟨rfl, N1q, e1⟩ := hQ1
  have N1 := Fr.app N0 N1q
  let Lb2 : Array Slot := #[.val (.ref (w 0)), .val (.int q1), .val (.int q2), .val (.int (1 : Int32))]
  obtain ⟨cq3, kq3, q3a, q3b, q3c⟩ := isOf hZ e1 ((wd1 hW).ext O0.2)
  obtain ⟨_, _, ⟨T3, L3, kk3, nn3⟩, -, X3, ⟨Lc3, hQ3, l3, y3, z3⟩, st3⟩ := X1.virtualBackUp hx (x := ym2) (y := ym1) hown (mvT hZ (wk13 hw)) (mvT hZ (wk14 hw)) (mvT hZ (wk15 hw)) (by decide) (mvT hZ (wk17 hw)) (mvT hZ (wk16 hw)) (backOf (W := 0) (rm3_2 l Z a0 hw w hW []  h0 n0 O0 ) hZ (wk19 hw) (wk18 hw) (by decide) (by decide)) q3a q3c (g := (mkF m 7 Lb2 [(.ref (w 0))])) rfl (by rw [hml]; rfl) (Steps.refl _) (argsL := []) (rest := []) (lenOf pds_1 rfl) rfl (by show 2 * 0 + _ ≤ _; exact Nat.le_of_eq rfl) (hb hby d4_7) (fun _ _ => ⟨rfl, e1, (by decide : 0 + 0 ≤ _), (by decide : 0 + 0 ≤ _)⟩)
  dsimp only [Pt.U, Pt.locs, Pt.cells, Pt.slots] at X3 l3 y3 z3 st3 hQ3
  subst l3 y3 z3
  obtain ⟨rfl, N3q, e3⟩ := hQ3
  have N3 := Fr.app N1 N3q
  obtain ⟨fs, hr, hrun, hended, hWm, hsame⟩ := X3.leave (v := some (.int (0 : Int32))) (fun h => by rw [Bd.returns] at h; cases h)
  refine ⟨_, _, pre0 _ ?_, hrun, hended, _, _, rfl, ?_, ⟨_, rfl⟩, hWm, hsame.mono (by decide) (by decide)⟩
  · show Steps p.tables e below (s₁.setTop (mkF m 0 La [])) _
    refine sI X0 hx hby d4_0 rfl ?_
    refine sI X0 hx hby d4_1 rfl ?_
    refine st1 _ ?_
    refine XS.istoreN X1.here hx rfl (hb hby d4_5) rfl (l' := Lb2) rfl ?_
    refine sA X1 hx hby d4_6 rfl rfl ?_
    refine st3.trans ?_
    refine XS.tswIn X3.here hx rfl (pc0 := 10) (pc' := 58) (o := 48) rfl (hb hby d4_10) rfl (by decide) (by decide) (by decide) (by decide) ?_
    refine sI X3 hx hby d4_58 rfl ?_
    refine XS.ifYes X3.here hx rfl (pc0 := 59) (pc' := 66) rfl (hb hby d4_59) rfl (by decide) (by decide) (by decide) ?_
    refine sc X3 hx hby d4_66 ?_
    refine sg (pc := 67) (pc' := 127) X3 hx hby d4_67 (by decide) (by decide) ?_
    show Steps p.tables e below (T3.setTop (mkF m 127 Lb2 [(.int (0 : Int32))])) _
    exact retN X3 hx (t := .boolean) Bd.returns (by simp) (hb hby d4_127) hr
  · show Q4_7 Z w q1 q2 h0 n0 _ T3.heap _
    rw [e3]
    exact ⟨rfl, N3, rfl⟩
theorem d5_14 : decode jdk_33_method_40_code 14 = .ok (.iconst 0, 1) := by decide +kernel
theorem d5_15 : decode jdk_33_method_40_code 15 = .ok (.goto 4, 3) := by decide +kernel
theorem ef_5_8 (m : MethodId) (q1 : Int32) : entryFrame m #[(.int q1), (.int q1)] 2 = mkF m 0 #[.val (.int q1), .val (.int q1)] [] := by first | (simp [entryFrame, mkF, argsToLocals, Value.category]; done) | rfl
def Q5_8 (Z : State) (w : Nat → Addr) (q1 : Int32) (h0 : Heap) (n0 : Nat) (v : Option Value) (h : Heap) (L : List Loc) : Prop := v = some (.int (0 : Int32)) ∧ Fr n0 L ∧ h = h0
set_option maxRecDepth 65536 in
set_option maxHeartbeats 40000000 in
theorem rm5_8 (l : Launch) (Z : State) (a0 : Array Value) (hw : ∀ d ∈ tables_1, d.before a0 Z = true) (w : Nat → Addr) (hW : Wd Z w) (ws : List Jvm.Cond) (q1 : Int32) (h0 : Heap) (n0 : Nat) (O0 : Old Z n0 h0) :
    MetFree l ym4 (head1 (Jvm.Cond.code ym4 jdk_33_method_40_code 2 (some .int) :: ws) ({ frames := 0, cells := 0, slots := 0, locals := 0 } : Room)) (fun a U => a = #[(.int q1), (.int q1)] ∧ Z.Warmed39 U.vm ∧ U.heap = h0) (fun _ _ _ _ _ => True) (fun _ U o U' => ∃ v L, o = .returned v ∧ Q5_8 Z w q1 h0 n0 v U'.heap L ∧ FrameEnd U o U' L ({ frames := 0, cells := 0, slots := 0, locals := 0 } : Room).cells ({ frames := 0, cells := 0, slots := 0, locals := 0 } : Room).slots) := by
  refine MetFree.of_bodySF (plainFor_of_name pnc_3) hisR ?_
  intro p e s m args below meth c s₁ Bd hml0 hP hK
  obtain ⟨rfl, hZ, hh⟩ := hP
  have hx := Bd.exec
  have hby := Bd.bytes
  have hml : c.maxLocals = 2 := hml0
  have hown : s.vm.findClass "java/lang/Integer" = some m.cls := findClass_of_methodNamed Bd.named
  have hnm := (name_of_methodNamed Bd.named Bd.method).1
  have X0 : Stand p l e ({ frames := 0, cells := 0, slots := 0, locals := 0 } : Room) s m #[(.int q1), (.int q1)] below meth c s₁ [] 0 0 := Stand.of_body Bd
  have e0 : s₁.heap = h0 := by rw [← hh, Bd.state]; rfl
  have N0 := Fr.nil n0
  skip
  have pre0 : ∀ t, Steps p.tables e below (s₁.setTop (mkF m 0 #[.val (.int q1), .val (.int q1)] [])) t → Steps p.tables e below (s₁.setTop (entryFrame m #[(.int q1), (.int q1)] 2)) t := fun t k => castTop (ef_5_8 m q1) k
  obtain ⟨fs, hr, hrun, hended, hWm, hsame⟩ := X0.leave (v := some (.int (0 : Int32))) (fun h => by rw [Bd.returns] at h; cases h)
  refine ⟨_, _, pre0 _ ?_, hrun, hended, _, _, rfl, ?_, ⟨_, rfl⟩, hWm, hsame.mono (by decide) (by decide)⟩
  · show Steps p.tables e below (s₁.setTop (mkF m 0 #[.val (.int q1), .val (.int q1)] [])) _
    refine sI X0 hx hby d5_0 rfl ?_
    refine sI X0 hx hby d5_1 rfl ?_
    refine XS.icmpYes X0.here hx rfl (pc0 := 2) (pc' := 9) rfl (hb hby d5_2) rfl (flt ((own_irr32 _) : ¬ (q1 < q1))).2.1 (by decide) (by decide) ?_
    refine sI X0 hx hby d5_9 rfl ?_
    refine sI X0 hx hby d5_10 rfl ?_
    show Steps p.tables e below (s₁.setTop (mkF m 11 #[.val (.int q1), .val (.int q1)] [(.int q1), (.int q1)])) _
    refine sn X0 hx hby d5_11 (teq (rfl : q1 = q1)).2 ?_
    refine sc X0 hx hby d5_14 ?_
    refine sg (pc := 15) (pc' := 19) X0 hx hby d5_15 (by decide) (by decide) ?_
    exact retI X0 hx Bd.returns (hb hby d5_19) hr
  · show Q5_8 Z w q1 h0 n0 _ s₁.heap _
    rw [e0]
    exact ⟨rfl, N0, rfl⟩
theorem d4_62 : decode prog_75_method_7_code 62 = .ok (.iconst 1, 1) := by decide +kernel
theorem d4_63 : decode prog_75_method_7_code 63 = .ok (.goto 64, 3) := by decide +kernel
theorem ef_4_9 (m : MethodId) (w : Nat → Addr) (q1 : Int32) : entryFrame m #[(.ref (w 0)), (.int q1), (.int q1)] 4 = mkF m 0 #[.val (.ref (w 0)), .val (.int q1), .val (.int q1), .unset] [] := by first | (simp [entryFrame, mkF, argsToLocals, Value.category]; done) | rfl
def Q4_9 (Z : State) (w : Nat → Addr) (q1 : Int32) (h0 : Heap) (n0 : Nat) (v : Option Value) (h : Heap) (L : List Loc) : Prop := v = some (.int (1 : Int32)) ∧ Fr n0 L ∧ h = h0
set_option maxRecDepth 65536 in
set_option maxHeartbeats 40000000 in
theorem rm4_9 (l : Launch) (Z : State) (a0 : Array Value) (hw : ∀ d ∈ tables_1, d.before a0 Z = true) (w : Nat → Addr) (hW : Wd Z w) (ws : List Jvm.Cond) (q1 : Int32) (h0 : Heap) (n0 : Nat) (O0 : Old Z n0 h0) :
    MetFree l ym5 (head1 (Jvm.Cond.code ym5 prog_75_method_7_code 4 (some .boolean) :: ws) ({ frames := 1, cells := 0, slots := 0, locals := 13 } : Room)) (fun a U => a = #[(.ref (w 0)), (.int q1), (.int q1)] ∧ Z.Warmed39 U.vm ∧ U.heap = h0) (fun _ _ _ _ _ => True) (fun _ U o U' => ∃ v L, o = .returned v ∧ Q4_9 Z w q1 h0 n0 v U'.heap L ∧ FrameEnd U o U' L ({ frames := 1, cells := 0, slots := 0, locals := 13 } : Room).cells ({ frames := 1, cells := 0, slots := 0, locals := 13 } : Room).slots) := by
  refine MetFree.of_bodySF (plainFor_of_name pnc_2) hisR ?_
  intro p e s m args below meth c s₁ Bd hml0 hP hK
  obtain ⟨rfl, hZ, hh⟩ := hP
  have hx := Bd.exec
  have hby := Bd.bytes
  have hml : c.maxLocals = 4 := hml0
  have hown : s.vm.findClass "com/example/gofyn/gofyn/typed/Term$Operator" = some m.cls := findClass_of_methodNamed Bd.named
  have hnm := (name_of_methodNamed Bd.named Bd.method).1
  have X0 : Stand p l e ({ frames := 1, cells := 0, slots := 0, locals := 13 } : Room) s m #[(.ref (w 0)), (.int q1), (.int q1)] below meth c s₁ [] 0 0 := Stand.of_body Bd
  have e0 : s₁.heap = h0 := by rw [← hh, Bd.state]; rfl
  have N0 := Fr.nil n0
  let La : Array Slot := #[.val (.ref (w 0)), .val (.int q1), .val (.int q1), .unset]
  have pre0 : ∀ t, Steps p.tables e below (s₁.setTop (mkF m 0 #[.val (.ref (w 0)), .val (.int q1), .val (.int q1), .unset] [])) t → Steps p.tables e below (s₁.setTop (entryFrame m #[(.ref (w 0)), (.int q1), (.int q1)] 4)) t := fun t k => castTop (ef_4_9 m w q1) k
  obtain ⟨_, _, ⟨T1, L1, kk1, nn1⟩, -, X1, ⟨Lc1, hQ1, l1, y1, z1⟩, st1⟩ := Jvm.LawKit.callS X0 hx (y := ym4) hown (mvT hZ (wk27 hw)) (mvT hZ (wk28 hw)) (mvT hZ (wk29 hw)) (mvT hZ (wk30 hw)) (by decide) (backOf (W := 0) (rm5_8 l Z a0 hw w hW [] q1 h0 n0 O0 ) hZ (wk30 hw) (wk29 hw) (by decide) (by decide)) (g := (mkF m 2 La [(.int q1), (.int q1)])) rfl (by rw [hml]; rfl) (argsL := [(.int q1), (.int q1)]) (rest := []) (lenOf pds_3 rfl) rfl (by show 2 * 0 + _ ≤ _; exact Nat.le_of_eq rfl) (hb hby d4_2) (fun _ _ => ⟨rfl, e0, (by decide : 0 + 0 ≤ _), (by decide : 0 + 0 ≤ _)⟩)
  dsimp only [Pt.U, Pt.locs, Pt.cells, Pt.slots] at X1 l1 y1 z1 st1 hQ1
  subst l1 y1 z1
  obtain ⟨rfl, N1q, e1⟩ := hQ1
  have N1 := Fr.app N0 N1q
  let Lb2 : Array Slot := #[.val (.ref (w 0)), .val (.int q1), .val (.int q1), .val (.int (0 : Int32))]
  obtain ⟨cq3, kq3, q3a, q3b, q3c⟩ := isOf hZ e1 ((wd1 hW).ext O0.2)
  obtain ⟨_, _, ⟨T3, L3, kk3, nn3⟩, -, X3, ⟨Lc3, hQ3, l3, y3, z3⟩, st3⟩ := X1.virtualBackUp hx (x := ym2) (y := ym1) hown (mvT hZ (wk13 hw)) (mvT hZ (wk14 hw)) (mvT hZ (wk15 hw)) (by decide) (mvT hZ (wk17 hw)) (mvT hZ (wk16 hw)) (backOf (W := 0) (rm3_2 l Z a0 hw w hW []  h0 n0 O0 ) hZ (wk19 hw) (wk18 hw) (by decide) (by decide)) q3a q3c (g := (mkF m 7 Lb2 [(.ref (w 0))])) rfl (by rw [hml]; rfl) (Steps.refl _) (argsL := []) (rest := []) (lenOf pds_1 rfl) rfl (by show 2 * 0 + _ ≤ _; exact Nat.le_of_eq rfl) (hb hby d4_7) (fun _ _ => ⟨rfl, e1, (by decide : 0 + 0 ≤ _), (by decide : 0 + 0 ≤ _)⟩)
  dsimp only [Pt.U, Pt.locs, Pt.cells, Pt.slots] at X3 l3 y3 z3 st3 hQ3
  subst l3 y3 z3
  obtain ⟨rfl, N3q, e3⟩ := hQ3
  have N3 := Fr.app N1 N3q
  obtain ⟨fs, hr, hrun, hended, hWm, hsame⟩ := X3.leave (v := some (.int (1 : Int32))) (fun h => by rw [Bd.returns] at h; cases h)
  refine ⟨_, _, pre0 _ ?_, hrun, hended, _, _, rfl, ?_, ⟨_, rfl⟩, hWm, hsame.mono (by decide) (by decide)⟩
  · show Steps p.tables e below (s₁.setTop (mkF m 0 La [])) _
    refine sI X0 hx hby d4_0 rfl ?_
    refine sI X0 hx hby d4_1 rfl ?_
    refine st1 _ ?_
    refine XS.istoreN X1.here hx rfl (hb hby d4_5) rfl (l' := Lb2) rfl ?_
    refine sA X1 hx hby d4_6 rfl rfl ?_
    refine st3.trans ?_
    refine XS.tswIn X3.here hx rfl (pc0 := 10) (pc' := 58) (o := 48) rfl (hb hby d4_10) rfl (by decide) (by decide) (by decide) (by decide) ?_
    refine sI X3 hx hby d4_58 rfl ?_
    refine sN X3 hx hby d4_59 (by decide) ?_
    refine sc X3 hx hby d4_62 ?_
    refine sg (pc := 63) (pc' := 127) X3 hx hby d4_63 (by decide) (by decide) ?_
    show Steps p.tables e below (T3.setTop (mkF m 127 Lb2 [(.int (1 : Int32))])) _
    exact retN X3 hx (t := .boolean) Bd.returns (by simp) (hb hby d4_127) hr
  · show Q4_9 Z w q1 h0 n0 _ T3.heap _
    rw [e3]
    exact ⟨rfl, N3, rfl⟩
theorem ef_5_10 (m : MethodId) (q1 : Int32) (q2 : Int32) : entryFrame m #[(.int q1), (.int q2)] 2 = mkF m 0 #[.val (.int q1), .val (.int q2)] [] := by first | (simp [entryFrame, mkF, argsToLocals, Value.category]; done) | rfl
def Q5_10 (Z : State) (w : Nat → Addr) (q1 : Int32) (q2 : Int32) (h0 : Heap) (n0 : Nat) (v : Option Value) (h : Heap) (L : List Loc) : Prop := v = some (.int (0 : Int32)) ∧ Fr n0 L ∧ h = h0
set_option maxRecDepth 65536 in
set_option maxHeartbeats 40000000 in
theorem rm5_10 (l : Launch) (Z : State) (a0 : Array Value) (hw : ∀ d ∈ tables_1, d.before a0 Z = true) (w : Nat → Addr) (hW : Wd Z w) (ws : List Jvm.Cond) (q1 : Int32) (q2 : Int32) (h0 : Heap) (n0 : Nat) (O0 : Old Z n0 h0) (c1 : ¬ (q1 < q2)) (c2 : q1 = q2) :
    MetFree l ym4 (head1 (Jvm.Cond.code ym4 jdk_33_method_40_code 2 (some .int) :: ws) ({ frames := 0, cells := 0, slots := 0, locals := 0 } : Room)) (fun a U => a = #[(.int q1), (.int q2)] ∧ Z.Warmed39 U.vm ∧ U.heap = h0) (fun _ _ _ _ _ => True) (fun _ U o U' => ∃ v L, o = .returned v ∧ Q5_10 Z w q1 q2 h0 n0 v U'.heap L ∧ FrameEnd U o U' L ({ frames := 0, cells := 0, slots := 0, locals := 0 } : Room).cells ({ frames := 0, cells := 0, slots := 0, locals := 0 } : Room).slots) := by
  refine MetFree.of_bodySF (plainFor_of_name pnc_3) hisR ?_
  intro p e s m args below meth c s₁ Bd hml0 hP hK
  obtain ⟨rfl, hZ, hh⟩ := hP
  have hx := Bd.exec
  have hby := Bd.bytes
  have hml : c.maxLocals = 2 := hml0
  have hown : s.vm.findClass "java/lang/Integer" = some m.cls := findClass_of_methodNamed Bd.named
  have hnm := (name_of_methodNamed Bd.named Bd.method).1
  have X0 : Stand p l e ({ frames := 0, cells := 0, slots := 0, locals := 0 } : Room) s m #[(.int q1), (.int q2)] below meth c s₁ [] 0 0 := Stand.of_body Bd
  have e0 : s₁.heap = h0 := by rw [← hh, Bd.state]; rfl
  have N0 := Fr.nil n0
  skip
  have pre0 : ∀ t, Steps p.tables e below (s₁.setTop (mkF m 0 #[.val (.int q1), .val (.int q2)] [])) t → Steps p.tables e below (s₁.setTop (entryFrame m #[(.int q1), (.int q2)] 2)) t := fun t k => castTop (ef_5_10 m q1 q2) k
  obtain ⟨fs, hr, hrun, hended, hWm, hsame⟩ := X0.leave (v := some (.int (0 : Int32))) (fun h => by rw [Bd.returns] at h; cases h)
  refine ⟨_, _, pre0 _ ?_, hrun, hended, _, _, rfl, ?_, ⟨_, rfl⟩, hWm, hsame.mono (by decide) (by decide)⟩
  · show Steps p.tables e below (s₁.setTop (mkF m 0 #[.val (.int q1), .val (.int q2)] [])) _
    refine sI X0 hx hby d5_0 rfl ?_
    refine sI X0 hx hby d5_1 rfl ?_
    refine XS.icmpYes X0.here hx rfl (pc0 := 2) (pc' := 9) rfl (hb hby d5_2) rfl (flt (c1 : ¬ (q1 < q2))).2.1 (by decide) (by decide) ?_
    refine sI X0 hx hby d5_9 rfl ?_
    refine sI X0 hx hby d5_10 rfl ?_
    show Steps p.tables e below (s₁.setTop (mkF m 11 #[.val (.int q1), .val (.int q2)] [(.int q2), (.int q1)])) _
    refine sn X0 hx hby d5_11 (teq (c2 : q1 = q2)).2 ?_
    refine sc X0 hx hby d5_14 ?_
    refine sg (pc := 15) (pc' := 19) X0 hx hby d5_15 (by decide) (by decide) ?_
    exact retI X0 hx Bd.returns (hb hby d5_19) hr
  · show Q5_10 Z w q1 q2 h0 n0 _ s₁.heap _
    rw [e0]
    exact ⟨rfl, N0, rfl⟩
theorem ef_4_11 (m : MethodId) (w : Nat → Addr) (q1 : Int32) (q2 : Int32) : entryFrame m #[(.ref (w 0)), (.int q1), (.int q2)] 4 = mkF m 0 #[.val (.ref (w 0)), .val (.int q1), .val (.int q2), .unset] [] := by first | (simp [entryFrame, mkF, argsToLocals, Value.category]; done) | rfl
def Q4_11 (Z : State) (w : Nat → Addr) (q1 : Int32) (q2 : Int32) (h0 : Heap) (n0 : Nat) (v : Option Value) (h : Heap) (L : List Loc) : Prop := v = some (.int (1 : Int32)) ∧ Fr n0 L ∧ h = h0
set_option maxRecDepth 65536 in
set_option maxHeartbeats 40000000 in
theorem rm4_11 (l : Launch) (Z : State) (a0 : Array Value) (hw : ∀ d ∈ tables_1, d.before a0 Z = true) (w : Nat → Addr) (hW : Wd Z w) (ws : List Jvm.Cond) (q1 : Int32) (q2 : Int32) (h0 : Heap) (n0 : Nat) (O0 : Old Z n0 h0) (c1 : ¬ (q1 < q2)) (c2 : q1 = q2) :
    MetFree l ym5 (head1 (Jvm.Cond.code ym5 prog_75_method_7_code 4 (some .boolean) :: ws) ({ frames := 1, cells := 0, slots := 0, locals := 13 } : Room)) (fun a U => a = #[(.ref (w 0)), (.int q1), (.int q2)] ∧ Z.Warmed39 U.vm ∧ U.heap = h0) (fun _ _ _ _ _ => True) (fun _ U o U' => ∃ v L, o = .returned v ∧ Q4_11 Z w q1 q2 h0 n0 v U'.heap L ∧ FrameEnd U o U' L ({ frames := 1, cells := 0, slots := 0, locals := 13 } : Room).cells ({ frames := 1, cells := 0, slots := 0, locals := 13 } : Room).slots) := by
  refine MetFree.of_bodySF (plainFor_of_name pnc_2) hisR ?_
  intro p e s m args below meth c s₁ Bd hml0 hP hK
  obtain ⟨rfl, hZ, hh⟩ := hP
  have hx := Bd.exec
  have hby := Bd.bytes
  have hml : c.maxLocals = 4 := hml0
  have hown : s.vm.findClass "com/example/gofyn/gofyn/typed/Term$Operator" = some m.cls := findClass_of_methodNamed Bd.named
  have hnm := (name_of_methodNamed Bd.named Bd.method).1
  have X0 : Stand p l e ({ frames := 1, cells := 0, slots := 0, locals := 13 } : Room) s m #[(.ref (w 0)), (.int q1), (.int q2)] below meth c s₁ [] 0 0 := Stand.of_body Bd
  have e0 : s₁.heap = h0 := by rw [← hh, Bd.state]; rfl
  have N0 := Fr.nil n0
  let La : Array Slot := #[.val (.ref (w 0)), .val (.int q1), .val (.int q2), .unset]
  have pre0 : ∀ t, Steps p.tables e below (s₁.setTop (mkF m 0 #[.val (.ref (w 0)), .val (.int q1), .val (.int q2), .unset] [])) t → Steps p.tables e below (s₁.setTop (entryFrame m #[(.ref (w 0)), (.int q1), (.int q2)] 4)) t := fun t k => castTop (ef_4_11 m w q1 q2) k
  obtain ⟨_, _, ⟨T1, L1, kk1, nn1⟩, -, X1, ⟨Lc1, hQ1, l1, y1, z1⟩, st1⟩ := Jvm.LawKit.callS X0 hx (y := ym4) hown (mvT hZ (wk27 hw)) (mvT hZ (wk28 hw)) (mvT hZ (wk29 hw)) (mvT hZ (wk30 hw)) (by decide) (backOf (W := 0) (rm5_10 l Z a0 hw w hW [] q1 q2 h0 n0 O0 c1 c2) hZ (wk30 hw) (wk29 hw) (by decide) (by decide)) (g := (mkF m 2 La [(.int q2), (.int q1)])) rfl (by rw [hml]; rfl) (argsL := [(.int q1), (.int q2)]) (rest := []) (lenOf pds_3 rfl) rfl (by show 2 * 0 + _ ≤ _; exact Nat.le_of_eq rfl) (hb hby d4_2) (fun _ _ => ⟨rfl, e0, (by decide : 0 + 0 ≤ _), (by decide : 0 + 0 ≤ _)⟩)
  dsimp only [Pt.U, Pt.locs, Pt.cells, Pt.slots] at X1 l1 y1 z1 st1 hQ1
  subst l1 y1 z1
  obtain ⟨rfl, N1q, e1⟩ := hQ1
  have N1 := Fr.app N0 N1q
  let Lb2 : Array Slot := #[.val (.ref (w 0)), .val (.int q1), .val (.int q2), .val (.int (0 : Int32))]
  obtain ⟨cq3, kq3, q3a, q3b, q3c⟩ := isOf hZ e1 ((wd1 hW).ext O0.2)
  obtain ⟨_, _, ⟨T3, L3, kk3, nn3⟩, -, X3, ⟨Lc3, hQ3, l3, y3, z3⟩, st3⟩ := X1.virtualBackUp hx (x := ym2) (y := ym1) hown (mvT hZ (wk13 hw)) (mvT hZ (wk14 hw)) (mvT hZ (wk15 hw)) (by decide) (mvT hZ (wk17 hw)) (mvT hZ (wk16 hw)) (backOf (W := 0) (rm3_2 l Z a0 hw w hW []  h0 n0 O0 ) hZ (wk19 hw) (wk18 hw) (by decide) (by decide)) q3a q3c (g := (mkF m 7 Lb2 [(.ref (w 0))])) rfl (by rw [hml]; rfl) (Steps.refl _) (argsL := []) (rest := []) (lenOf pds_1 rfl) rfl (by show 2 * 0 + _ ≤ _; exact Nat.le_of_eq rfl) (hb hby d4_7) (fun _ _ => ⟨rfl, e1, (by decide : 0 + 0 ≤ _), (by decide : 0 + 0 ≤ _)⟩)
  dsimp only [Pt.U, Pt.locs, Pt.cells, Pt.slots] at X3 l3 y3 z3 st3 hQ3
  subst l3 y3 z3
  obtain ⟨rfl, N3q, e3⟩ := hQ3
  have N3 := Fr.app N1 N3q
  obtain ⟨fs, hr, hrun, hended, hWm, hsame⟩ := X3.leave (v := some (.int (1 : Int32))) (fun h => by rw [Bd.returns] at h; cases h)
  refine ⟨_, _, pre0 _ ?_, hrun, hended, _, _, rfl, ?_, ⟨_, rfl⟩, hWm, hsame.mono (by decide) (by decide)⟩
  · show Steps p.tables e below (s₁.setTop (mkF m 0 La [])) _
    refine sI X0 hx hby d4_0 rfl ?_
    refine sI X0 hx hby d4_1 rfl ?_
    refine st1 _ ?_
    refine XS.istoreN X1.here hx rfl (hb hby d4_5) rfl (l' := Lb2) rfl ?_
    refine sA X1 hx hby d4_6 rfl rfl ?_
    refine st3.trans ?_
    refine XS.tswIn X3.here hx rfl (pc0 := 10) (pc' := 58) (o := 48) rfl (hb hby d4_10) rfl (by decide) (by decide) (by decide) (by decide) ?_
    refine sI X3 hx hby d4_58 rfl ?_
    refine sN X3 hx hby d4_59 (by decide) ?_
    refine sc X3 hx hby d4_62 ?_
    refine sg (pc := 63) (pc' := 127) X3 hx hby d4_63 (by decide) (by decide) ?_
    show Steps p.tables e below (T3.setTop (mkF m 127 Lb2 [(.int (1 : Int32))])) _
    exact retN X3 hx (t := .boolean) Bd.returns (by simp) (hb hby d4_127) hr
  · show Q4_11 Z w q1 q2 h0 n0 _ T3.heap _
    rw [e3]
    exact ⟨rfl, N3, rfl⟩
theorem d1_16 : decode method_2_code 16 = .ok (.iload_n 1, 1) := by decide +kernel
theorem d1_17 : decode method_2_code 17 = .ok (.iconst 1, 1) := by decide +kernel
theorem d1_18 : decode method_2_code 18 = .ok (.if_icmp .ne 7, 3) := by decide +kernel
theorem d1_21 : decode method_2_code 21 = .ok (.getstatic 14, 3) := by decide +kernel
theorem d1_24 : decode method_2_code 24 = .ok (.areturn, 1) := by decide +kernel
theorem ef_1_12 (m : MethodId) (q1 : Int32) : entryFrame m #[(.int q1)] 2 = mkF m 0 #[.val (.int q1), .unset] [] := by first | (simp [entryFrame, mkF, argsToLocals, Value.category]; done) | rfl
def Q1_12 (Z : State) (w : Nat → Addr) (q1 : Int32) (h0 : Heap) (n0 : Nat) (v : Option Value) (h : Heap) (L : List Loc) : Prop := v = some (.ref (w 1)) ∧ Fr n0 L ∧ h = h0
set_option maxRecDepth 65536 in
set_option maxHeartbeats 40000000 in
theorem rm1_12 (l : Launch) (Z : State) (a0 : Array Value) (hw : ∀ d ∈ tables_1, d.before a0 Z = true) (w : Nat → Addr) (hW : Wd Z w) (ws : List Jvm.Cond) (q1 : Int32) (h0 : Heap) (n0 : Nat) (O0 : Old Z n0 h0) (c1 : ¬ (((q1 &&& (2147483647 : Int32)) % (6 : Int32)) = (0 : Int32))) (c2 : ((q1 &&& (2147483647 : Int32)) % (6 : Int32)) = (1 : Int32)) :
    MetFree l ym0 (head1 (Jvm.Cond.code ym0 method_2_code 2 (some (.object "com/example/gofyn/gofyn/typed/Term$Operator")) :: ws) ({ frames := 0, cells := 0, slots := 0, locals := 0 } : Room)) (fun a U => a = #[(.int q1)] ∧ Z.Warmed39 U.vm ∧ U.heap = h0) (fun _ _ _ _ _ => True) (fun _ U o U' => ∃ v L, o = .returned v ∧ Q1_12 Z w q1 h0 n0 v U'.heap L ∧ FrameEnd U o U' L ({ frames := 0, cells := 0, slots := 0, locals := 0 } : Room).cells ({ frames := 0, cells := 0, slots := 0, locals := 0 } : Room).slots) := by
  refine MetFree.of_bodySF (plainFor_of_name pnc_0) hisR ?_
  intro p e s m args below meth c s₁ Bd hml0 hP hK
  obtain ⟨rfl, hZ, hh⟩ := hP
  have hx := Bd.exec
  have hby := Bd.bytes
  have hml : c.maxLocals = 2 := hml0
  have hown : s.vm.findClass "com/example/gofyn/gofyn/typed/OperatorMirroredPinLaw" = some m.cls := findClass_of_methodNamed Bd.named
  have hnm := (name_of_methodNamed Bd.named Bd.method).1
  have X0 : Stand p l e ({ frames := 0, cells := 0, slots := 0, locals := 0 } : Room) s m #[(.int q1)] below meth c s₁ [] 0 0 := Stand.of_body Bd
  have e0 : s₁.heap = h0 := by rw [← hh, Bd.state]; rfl
  have N0 := Fr.nil n0
  skip
  have pre0 : ∀ t, Steps p.tables e below (s₁.setTop (mkF m 0 #[.val (.int q1), .unset] [])) t → Steps p.tables e below (s₁.setTop (entryFrame m #[(.int q1)] 2)) t := fun t k => castTop (ef_1_12 m q1) k
  let Lb1 : Array Slot := #[.val (.int q1), .val (.int ((q1 &&& (2147483647 : Int32)) % (6 : Int32)))]
  obtain ⟨T2, X2, e2, st2⟩ := getS2 X0 hx hZ hown (host := "") (Or.inl (wk31 hw)) Via.refl e0 ((wd2 hW).ext O0.2) (g := (mkF m 21 Lb1 [])) rfl (hb hby d1_21)
  obtain ⟨fs, hr, hrun, hended, hWm, hsame⟩ := X2.leave (v := some (.ref (w 1))) (fun h => by rw [Bd.returns] at h; cases h)
  refine ⟨_, _, pre0 _ ?_, hrun, hended, _, _, rfl, ?_, ⟨_, rfl⟩, hWm, hsame.mono (by decide) (by decide)⟩
  · show Steps p.tables e below (s₁.setTop (mkF m 0 #[.val (.int q1), .unset] [])) _
    refine sI X0 hx hby d1_0 rfl ?_
    refine X0.ldcInt hx hown (mvT hZ (wk4 hw)) (g := (mkF m 1 #[.val (.int q1), .unset] [(.int q1)])) rfl (hb hby d1_1) _ ?_
    refine XS.iand X0.here hx rfl (hb hby d1_3) rfl ?_
    refine XS.bipush X0.here hx rfl (hb hby d1_4) ?_
    refine iremM X0 hx rfl (hb hby d1_6) rfl (by decide) ?_
    show Steps p.tables e below (s₁.setTop (mkF m 7 #[.val (.int q1), .unset] [(.int ((q1 &&& (2147483647 : Int32)) % (6 : Int32)))])) _
    refine XS.istoreN X0.here hx rfl (hb hby d1_7) rfl (l' := Lb1) rfl ?_
    refine sI X0 hx hby d1_8 rfl ?_
    refine XS.ifYes X0.here hx rfl (pc0 := 9) (pc' := 16) rfl (hb hby d1_9) rfl ((if0 _ _).trans (feq (c1 : ¬ (((q1 &&& (2147483647 : Int32)) % (6 : Int32)) = (0 : Int32)))).2) (by decide) (by decide) ?_
    refine sI X0 hx hby d1_16 rfl ?_
    refine sc X0 hx hby d1_17 ?_
    show Steps p.tables e below (s₁.setTop (mkF m 18 Lb1 [(.int (1 : Int32)), (.int ((q1 &&& (2147483647 : Int32)) % (6 : Int32)))])) _
    refine sn X0 hx hby d1_18 (teq (c2 : ((q1 &&& (2147483647 : Int32)) % (6 : Int32)) = (1 : Int32))).2 ?_
    refine st2 _ ?_
    jvm_step X2.here [X2.here.top, hx, (hb hby d1_24), X2.method', Bd.returns, Value.isRef, FieldType.isReference]
    first | (intro acts; rw [hr _ acts rfl rfl rfl]) | rw [hr _ _ rfl rfl rfl]
    exact Steps.refl _
  · show Q1_12 Z w q1 h0 n0 _ T2.heap _
    rw [e2]
    exact ⟨rfl, N0, rfl⟩
theorem ef_3_13 (m : MethodId) (w : Nat → Addr) : entryFrame m #[(.ref (w 1))] 1 = mkF m 0 #[.val (.ref (w 1))] [] := by first | (simp [entryFrame, mkF, argsToLocals, Value.category]; done) | rfl
def Q3_13 (Z : State) (w : Nat → Addr) (h0 : Heap) (n0 : Nat) (v : Option Value) (h : Heap) (L : List Loc) : Prop := v = some (.int (1 : Int32)) ∧ Fr n0 L ∧ h = h0
set_option maxRecDepth 65536 in
set_option maxHeartbeats 40000000 in
theorem rm3_13 (l : Launch) (Z : State) (a0 : Array Value) (hw : ∀ d ∈ tables_1, d.before a0 Z = true) (w : Nat → Addr) (hW : Wd Z w) (ws : List Jvm.Cond) (h0 : Heap) (n0 : Nat) (O0 : Old Z n0 h0) :
    MetFree l ym1 (head1 (Jvm.Cond.code ym1 jdk_37_method_2_code 1 (some .int) :: ws) ({ frames := 0, cells := 0, slots := 0, locals := 0 } : Room)) (fun a U => a = #[(.ref (w 1))] ∧ Z.Warmed39 U.vm ∧ U.heap = h0) (fun _ _ _ _ _ => True) (fun _ U o U' => ∃ v L, o = .returned v ∧ Q3_13 Z w h0 n0 v U'.heap L ∧ FrameEnd U o U' L ({ frames := 0, cells := 0, slots := 0, locals := 0 } : Room).cells ({ frames := 0, cells := 0, slots := 0, locals := 0 } : Room).slots) := by
  refine MetFree.of_bodySF (plainFor_of_name pnc_1) hisR ?_
  intro p e s m args below meth c s₁ Bd hml0 hP hK
  obtain ⟨rfl, hZ, hh⟩ := hP
  have hx := Bd.exec
  have hby := Bd.bytes
  have hml : c.maxLocals = 1 := hml0
  have hown : s.vm.findClass "java/lang/Enum" = some m.cls := findClass_of_methodNamed Bd.named
  have hnm := (name_of_methodNamed Bd.named Bd.method).1
  have X0 : Stand p l e ({ frames := 0, cells := 0, slots := 0, locals := 0 } : Room) s m #[(.ref (w 1))] below meth c s₁ [] 0 0 := Stand.of_body Bd
  have e0 : s₁.heap = h0 := by rw [← hh, Bd.state]; rfl
  have N0 := Fr.nil n0
  skip
  have pre0 : ∀ t, Steps p.tables e below (s₁.setTop (mkF m 0 #[.val (.ref (w 1))] [])) t → Steps p.tables e below (s₁.setTop (entryFrame m #[(.ref (w 1))] 1)) t := fun t k => castTop (ef_3_13 m w) k
  obtain ⟨T1, X1, e1, st1⟩ := getF X0 hx hZ hown (host := "") (Or.inl (wk20 hw)) Via.refl e0 ((wd13 hW).ext O0.2) (g := (mkF m 1 #[.val (.ref (w 1))] [(.ref (w 1))])) rfl rfl (hb hby d3_1)
  obtain ⟨fs, hr, hrun, hended, hWm, hsame⟩ := X1.leave (v := some (.int (1 : Int32))) (fun h => by rw [Bd.returns] at h; cases h)
  refine ⟨_, _, pre0 _ ?_, hrun, hended, _, _, rfl, ?_, ⟨_, rfl⟩, hWm, hsame.mono (by decide) (by decide)⟩
  · show Steps p.tables e below (s₁.setTop (mkF m 0 #[.val (.ref (w 1))] [])) _
    refine sA X0 hx hby d3_0 rfl rfl ?_
    refine st1 _ ?_
    exact retI X1 hx Bd.returns (hb hby d3_4) hr
  · show Q3_13 Z w h0 n0 _ T1.heap _
    rw [e1]
    exact ⟨rfl, N0, rfl⟩
theorem ef_2_14 (m : MethodId) (w : Nat → Addr) : entryFrame m #[(.ref (w 1))] 1 = mkF m 0 #[.val (.ref (w 1))] [] := by first | (simp [entryFrame, mkF, argsToLocals, Value.category]; done) | rfl
def Q2_14 (Z : State) (w : Nat → Addr) (h0 : Heap) (n0 : Nat) (v : Option Value) (h : Heap) (L : List Loc) : Prop := v = some (.ref (w 1)) ∧ Fr n0 L ∧ h = h0
set_option maxRecDepth 65536 in
set_option maxHeartbeats 40000000 in
theorem rm2_14 (l : Launch) (Z : State) (a0 : Array Value) (hw : ∀ d ∈ tables_1, d.before a0 Z = true) (w : Nat → Addr) (hW : Wd Z w) (ws : List Jvm.Cond) (h0 : Heap) (n0 : Nat) (O0 : Old Z n0 h0) :
    MetFree l ym3 (head1 (Jvm.Cond.code ym3 prog_75_method_6_code 1 (some (.object "com/example/gofyn/gofyn/typed/Term$Operator")) :: ws) ({ frames := 1, cells := 0, slots := 0, locals := 12 } : Room)) (fun a U => a = #[(.ref (w 1))] ∧ Z.Warmed39 U.vm ∧ U.heap = h0) (fun _ _ _ _ _ => True) (fun _ U o U' => ∃ v L, o = .returned v ∧ Q2_14 Z w h0 n0 v U'.heap L ∧ FrameEnd U o U' L ({ frames := 1, cells := 0, slots := 0, locals := 12 } : Room).cells ({ frames := 1, cells := 0, slots := 0, locals := 12 } : Room).slots) := by
  refine MetFree.of_bodySF (plainFor_of_name pnc_2) hisR ?_
  intro p e s m args below meth c s₁ Bd hml0 hP hK
  obtain ⟨rfl, hZ, hh⟩ := hP
  have hx := Bd.exec
  have hby := Bd.bytes
  have hml : c.maxLocals = 1 := hml0
  have hown : s.vm.findClass "com/example/gofyn/gofyn/typed/Term$Operator" = some m.cls := findClass_of_methodNamed Bd.named
  have hnm := (name_of_methodNamed Bd.named Bd.method).1
  have X0 : Stand p l e ({ frames := 1, cells := 0, slots := 0, locals := 12 } : Room) s m #[(.ref (w 1))] below meth c s₁ [] 0 0 := Stand.of_body Bd
  have e0 : s₁.heap = h0 := by rw [← hh, Bd.state]; rfl
  have N0 := Fr.nil n0
  skip
  have pre0 : ∀ t, Steps p.tables e below (s₁.setTop (mkF m 0 #[.val (.ref (w 1))] [])) t → Steps p.tables e below (s₁.setTop (entryFrame m #[(.ref (w 1))] 1)) t := fun t k => castTop (ef_2_14 m w) k
  obtain ⟨cq1, kq1, q1a, q1b, q1c⟩ := isOf hZ e0 ((wd3 hW).ext O0.2)
  obtain ⟨_, _, ⟨T1, L1, kk1, nn1⟩, -, X1, ⟨Lc1, hQ1, l1, y1, z1⟩, st1⟩ := X0.virtualBackUp hx (x := ym2) (y := ym1) hown (mvT hZ (wk13 hw)) (mvT hZ (wk14 hw)) (mvT hZ (wk15 hw)) (by decide) (mvT hZ (wk17 hw)) (mvT hZ (wk16 hw)) (backOf (W := 0) (rm3_13 l Z a0 hw w hW []  h0 n0 O0 ) hZ (wk19 hw) (wk18 hw) (by decide) (by decide)) q1a q1c (g := (mkF m 1 #[.val (.ref (w 1))] [(.ref (w 1))])) rfl (by rw [hml]; rfl) (Steps.refl _) (argsL := []) (rest := []) (lenOf pds_1 rfl) rfl (by show 2 * 0 + _ ≤ _; exact Nat.le_of_eq rfl) (hb hby d2_1) (fun _ _ => ⟨rfl, e0, (by decide : 0 + 0 ≤ _), (by decide : 0 + 0 ≤ _)⟩)
  dsimp only [Pt.U, Pt.locs, Pt.cells, Pt.slots] at X1 l1 y1 z1 st1 hQ1
  subst l1 y1 z1
  obtain ⟨rfl, N1q, e1⟩ := hQ1
  have N1 := Fr.app N0 N1q
  obtain ⟨fs, hr, hrun, hended, hWm, hsame⟩ := X1.leave (v := some (.ref (w 1))) (fun h => by rw [Bd.returns] at h; cases h)
  refine ⟨_, _, pre0 _ ?_, hrun, hended, _, _, rfl, ?_, ⟨_, rfl⟩, hWm, hsame.mono (by decide) (by decide)⟩
  · show Steps p.tables e below (s₁.setTop (mkF m 0 #[.val (.ref (w 1))] [])) _
    refine sA X0 hx hby d2_0 rfl rfl ?_
    refine st1.trans ?_
    refine XS.tswIn X1.here hx rfl (pc0 := 4) (pc' := 54) (o := 50) rfl (hb hby d2_4) rfl (by decide) (by decide) (by decide) (by decide) ?_
    refine sA X1 hx hby d2_54 rfl rfl ?_
    refine sg (pc := 55) (pc' := 79) X1 hx hby d2_55 (by decide) (by decide) ?_
    jvm_step X1.here [X1.here.top, hx, (hb hby d2_79), X1.method', Bd.returns, Value.isRef, FieldType.isReference]
    first | (intro acts; rw [hr _ acts rfl rfl rfl]) | rw [hr _ _ rfl rfl rfl]
    exact Steps.refl _
  · show Q2_14 Z w h0 n0 _ T1.heap _
    rw [e1]
    exact ⟨rfl, N1, rfl⟩
theorem d4_70 : decode prog_75_method_7_code 70 = .ok (.iload_n 3, 1) := by decide +kernel
theorem d4_71 : decode prog_75_method_7_code 71 = .ok (.ifCond .eq 7, 3) := by decide +kernel
theorem d4_74 : decode prog_75_method_7_code 74 = .ok (.iconst 1, 1) := by decide +kernel
theorem d4_75 : decode prog_75_method_7_code 75 = .ok (.goto 52, 3) := by decide +kernel
theorem ef_4_15 (m : MethodId) (w : Nat → Addr) (q1 : Int32) (q2 : Int32) : entryFrame m #[(.ref (w 1)), (.int q1), (.int q2)] 4 = mkF m 0 #[.val (.ref (w 1)), .val (.int q1), .val (.int q2), .unset] [] := by first | (simp [entryFrame, mkF, argsToLocals, Value.category]; done) | rfl
def Q4_15 (Z : State) (w : Nat → Addr) (q1 : Int32) (q2 : Int32) (h0 : Heap) (n0 : Nat) (v : Option Value) (h : Heap) (L : List Loc) : Prop := v = some (.int (1 : Int32)) ∧ Fr n0 L ∧ h = h0
set_option maxRecDepth 65536 in
set_option maxHeartbeats 40000000 in
theorem rm4_15 (l : Launch) (Z : State) (a0 : Array Value) (hw : ∀ d ∈ tables_1, d.before a0 Z = true) (w : Nat → Addr) (hW : Wd Z w) (ws : List Jvm.Cond) (q1 : Int32) (q2 : Int32) (h0 : Heap) (n0 : Nat) (O0 : Old Z n0 h0) (c1 : q1 < q2) :
    MetFree l ym5 (head1 (Jvm.Cond.code ym5 prog_75_method_7_code 4 (some .boolean) :: ws) ({ frames := 1, cells := 0, slots := 0, locals := 13 } : Room)) (fun a U => a = #[(.ref (w 1)), (.int q1), (.int q2)] ∧ Z.Warmed39 U.vm ∧ U.heap = h0) (fun _ _ _ _ _ => True) (fun _ U o U' => ∃ v L, o = .returned v ∧ Q4_15 Z w q1 q2 h0 n0 v U'.heap L ∧ FrameEnd U o U' L ({ frames := 1, cells := 0, slots := 0, locals := 13 } : Room).cells ({ frames := 1, cells := 0, slots := 0, locals := 13 } : Room).slots) := by
  refine MetFree.of_bodySF (plainFor_of_name pnc_2) hisR ?_
  intro p e s m args below meth c s₁ Bd hml0 hP hK
  obtain ⟨rfl, hZ, hh⟩ := hP
  have hx := Bd.exec
  have hby := Bd.bytes
  have hml : c.maxLocals = 4 := hml0
  have hown : s.vm.findClass "com/example/gofyn/gofyn/typed/Term$Operator" = some m.cls := findClass_of_methodNamed Bd.named
  have hnm := (name_of_methodNamed Bd.named Bd.method).1
  have X0 : Stand p l e ({ frames := 1, cells := 0, slots := 0, locals := 13 } : Room) s m #[(.ref (w 1)), (.int q1), (.int q2)] below meth c s₁ [] 0 0 := Stand.of_body Bd
  have e0 : s₁.heap = h0 := by rw [← hh, Bd.state]; rfl
  have N0 := Fr.nil n0
  let La : Array Slot := #[.val (.ref (w 1)), .val (.int q1), .val (.int q2), .unset]
  have pre0 : ∀ t, Steps p.tables e below (s₁.setTop (mkF m 0 #[.val (.ref (w 1)), .val (.int q1), .val (.int q2), .unset] [])) t → Steps p.tables e below (s₁.setTop (entryFrame m #[(.ref (w 1)), (.int q1), (.int q2)] 4)) t := fun t k => castTop (ef_4_15 m w q1 q2) k
  obtain ⟨_, _, ⟨T1, L1, kk1, nn1⟩, -, X1, ⟨Lc1, hQ1, l1, y1, z1⟩, st1⟩ := Jvm.LawKit.callS X0 hx (y := ym4) hown (mvT hZ (wk27 hw)) (mvT hZ (wk28 hw)) (mvT hZ (wk29 hw)) (mvT hZ (wk30 hw)) (by decide) (backOf (W := 0) (rm5_4 l Z a0 hw w hW [] q1 q2 h0 n0 O0 c1) hZ (wk30 hw) (wk29 hw) (by decide) (by decide)) (g := (mkF m 2 La [(.int q2), (.int q1)])) rfl (by rw [hml]; rfl) (argsL := [(.int q1), (.int q2)]) (rest := []) (lenOf pds_3 rfl) rfl (by show 2 * 0 + _ ≤ _; exact Nat.le_of_eq rfl) (hb hby d4_2) (fun _ _ => ⟨rfl, e0, (by decide : 0 + 0 ≤ _), (by decide : 0 + 0 ≤ _)⟩)
  dsimp only [Pt.U, Pt.locs, Pt.cells, Pt.slots] at X1 l1 y1 z1 st1 hQ1
  subst l1 y1 z1
  obtain ⟨rfl, N1q, e1⟩ := hQ1
  have N1 := Fr.app N0 N1q
  let Lb2 : Array Slot := #[.val (.ref (w 1)), .val (.int q1), .val (.int q2), .val (.int (-1 : Int32))]
  obtain ⟨cq3, kq3, q3a, q3b, q3c⟩ := isOf hZ e1 ((wd3 hW).ext O0.2)
  obtain ⟨_, _, ⟨T3, L3, kk3, nn3⟩, -, X3, ⟨Lc3, hQ3, l3, y3, z3⟩, st3⟩ := X1.virtualBackUp hx (x := ym2) (y := ym1) hown (mvT hZ (wk13 hw)) (mvT hZ (wk14 hw)) (mvT hZ (wk15 hw)) (by decide) (mvT hZ (wk17 hw)) (mvT hZ (wk16 hw)) (backOf (W := 0) (rm3_13 l Z a0 hw w hW []  h0 n0 O0 ) hZ (wk19 hw) (wk18 hw) (by decide) (by decide)) q3a q3c (g := (mkF m 7 Lb2 [(.ref (w 1))])) rfl (by rw [hml]; rfl) (Steps.refl _) (argsL := []) (rest := []) (lenOf pds_1 rfl) rfl (by show 2 * 0 + _ ≤ _; exact Nat.le_of_eq rfl) (hb hby d4_7) (fun _ _ => ⟨rfl, e1, (by decide : 0 + 0 ≤ _), (by decide : 0 + 0 ≤ _)⟩)
  dsimp only [Pt.U, Pt.locs, Pt.cells, Pt.slots] at X3 l3 y3 z3 st3 hQ3
  subst l3 y3 z3
  obtain ⟨rfl, N3q, e3⟩ := hQ3
  have N3 := Fr.app N1 N3q
  obtain ⟨fs, hr, hrun, hended, hWm, hsame⟩ := X3.leave (v := some (.int (1 : Int32))) (fun h => by rw [Bd.returns] at h; cases h)
  refine ⟨_, _, pre0 _ ?_, hrun, hended, _, _, rfl, ?_, ⟨_, rfl⟩, hWm, hsame.mono (by decide) (by decide)⟩
  · show Steps p.tables e below (s₁.setTop (mkF m 0 La [])) _
    refine sI X0 hx hby d4_0 rfl ?_
    refine sI X0 hx hby d4_1 rfl ?_
    refine st1 _ ?_
    refine XS.istoreN X1.here hx rfl (hb hby d4_5) rfl (l' := Lb2) rfl ?_
    refine sA X1 hx hby d4_6 rfl rfl ?_
    refine st3.trans ?_
    refine XS.tswIn X3.here hx rfl (pc0 := 10) (pc' := 70) (o := 60) rfl (hb hby d4_10) rfl (by decide) (by decide) (by decide) (by decide) ?_
    refine sI X3 hx hby d4_70 rfl ?_
    refine sN X3 hx hby d4_71 (by decide) ?_
    refine sc X3 hx hby d4_74 ?_
    refine sg (pc := 75) (pc' := 127) X3 hx hby d4_75 (by decide) (by decide) ?_
    show Steps p.tables e below (T3.setTop (mkF m 127 Lb2 [(.int (1 : Int32))])) _
    exact retN X3 hx (t := .boolean) Bd.returns (by simp) (hb hby d4_127) hr
  · show Q4_15 Z w q1 q2 h0 n0 _ T3.heap _
    rw [e3]
    exact ⟨rfl, N3, rfl⟩
theorem ef_4_16 (m : MethodId) (w : Nat → Addr) (q1 : Int32) (q2 : Int32) : entryFrame m #[(.ref (w 1)), (.int q1), (.int q2)] 4 = mkF m 0 #[.val (.ref (w 1)), .val (.int q1), .val (.int q2), .unset] [] := by first | (simp [entryFrame, mkF, argsToLocals, Value.category]; done) | rfl
def Q4_16 (Z : State) (w : Nat → Addr) (q1 : Int32) (q2 : Int32) (h0 : Heap) (n0 : Nat) (v : Option Value) (h : Heap) (L : List Loc) : Prop := v = some (.int (1 : Int32)) ∧ Fr n0 L ∧ h = h0
set_option maxRecDepth 65536 in
set_option maxHeartbeats 40000000 in
theorem rm4_16 (l : Launch) (Z : State) (a0 : Array Value) (hw : ∀ d ∈ tables_1, d.before a0 Z = true) (w : Nat → Addr) (hW : Wd Z w) (ws : List Jvm.Cond) (q1 : Int32) (q2 : Int32) (h0 : Heap) (n0 : Nat) (O0 : Old Z n0 h0) (c1 : ¬ (q1 < q2)) (c2 : ¬ (q1 = q2)) :
    MetFree l ym5 (head1 (Jvm.Cond.code ym5 prog_75_method_7_code 4 (some .boolean) :: ws) ({ frames := 1, cells := 0, slots := 0, locals := 13 } : Room)) (fun a U => a = #[(.ref (w 1)), (.int q1), (.int q2)] ∧ Z.Warmed39 U.vm ∧ U.heap = h0) (fun _ _ _ _ _ => True) (fun _ U o U' => ∃ v L, o = .returned v ∧ Q4_16 Z w q1 q2 h0 n0 v U'.heap L ∧ FrameEnd U o U' L ({ frames := 1, cells := 0, slots := 0, locals := 13 } : Room).cells ({ frames := 1, cells := 0, slots := 0, locals := 13 } : Room).slots) := by
  refine MetFree.of_bodySF (plainFor_of_name pnc_2) hisR ?_
  intro p e s m args below meth c s₁ Bd hml0 hP hK
  obtain ⟨rfl, hZ, hh⟩ := hP
  have hx := Bd.exec
  have hby := Bd.bytes
  have hml : c.maxLocals = 4 := hml0
  have hown : s.vm.findClass "com/example/gofyn/gofyn/typed/Term$Operator" = some m.cls := findClass_of_methodNamed Bd.named
  have hnm := (name_of_methodNamed Bd.named Bd.method).1
  have X0 : Stand p l e ({ frames := 1, cells := 0, slots := 0, locals := 13 } : Room) s m #[(.ref (w 1)), (.int q1), (.int q2)] below meth c s₁ [] 0 0 := Stand.of_body Bd
  have e0 : s₁.heap = h0 := by rw [← hh, Bd.state]; rfl
  have N0 := Fr.nil n0
  let La : Array Slot := #[.val (.ref (w 1)), .val (.int q1), .val (.int q2), .unset]
  have pre0 : ∀ t, Steps p.tables e below (s₁.setTop (mkF m 0 #[.val (.ref (w 1)), .val (.int q1), .val (.int q2), .unset] [])) t → Steps p.tables e below (s₁.setTop (entryFrame m #[(.ref (w 1)), (.int q1), (.int q2)] 4)) t := fun t k => castTop (ef_4_16 m w q1 q2) k
  obtain ⟨_, _, ⟨T1, L1, kk1, nn1⟩, -, X1, ⟨Lc1, hQ1, l1, y1, z1⟩, st1⟩ := Jvm.LawKit.callS X0 hx (y := ym4) hown (mvT hZ (wk27 hw)) (mvT hZ (wk28 hw)) (mvT hZ (wk29 hw)) (mvT hZ (wk30 hw)) (by decide) (backOf (W := 0) (rm5_6 l Z a0 hw w hW [] q1 q2 h0 n0 O0 c1 c2) hZ (wk30 hw) (wk29 hw) (by decide) (by decide)) (g := (mkF m 2 La [(.int q2), (.int q1)])) rfl (by rw [hml]; rfl) (argsL := [(.int q1), (.int q2)]) (rest := []) (lenOf pds_3 rfl) rfl (by show 2 * 0 + _ ≤ _; exact Nat.le_of_eq rfl) (hb hby d4_2) (fun _ _ => ⟨rfl, e0, (by decide : 0 + 0 ≤ _), (by decide : 0 + 0 ≤ _)⟩)
  dsimp only [Pt.U, Pt.locs, Pt.cells, Pt.slots] at X1 l1 y1 z1 st1 hQ1
  subst l1 y1 z1
  obtain ⟨rfl, N1q, e1⟩ := hQ1
  have N1 := Fr.app N0 N1q
  let Lb2 : Array Slot := #[.val (.ref (w 1)), .val (.int q1), .val (.int q2), .val (.int (1 : Int32))]
  obtain ⟨cq3, kq3, q3a, q3b, q3c⟩ := isOf hZ e1 ((wd3 hW).ext O0.2)
  obtain ⟨_, _, ⟨T3, L3, kk3, nn3⟩, -, X3, ⟨Lc3, hQ3, l3, y3, z3⟩, st3⟩ := X1.virtualBackUp hx (x := ym2) (y := ym1) hown (mvT hZ (wk13 hw)) (mvT hZ (wk14 hw)) (mvT hZ (wk15 hw)) (by decide) (mvT hZ (wk17 hw)) (mvT hZ (wk16 hw)) (backOf (W := 0) (rm3_13 l Z a0 hw w hW []  h0 n0 O0 ) hZ (wk19 hw) (wk18 hw) (by decide) (by decide)) q3a q3c (g := (mkF m 7 Lb2 [(.ref (w 1))])) rfl (by rw [hml]; rfl) (Steps.refl _) (argsL := []) (rest := []) (lenOf pds_1 rfl) rfl (by show 2 * 0 + _ ≤ _; exact Nat.le_of_eq rfl) (hb hby d4_7) (fun _ _ => ⟨rfl, e1, (by decide : 0 + 0 ≤ _), (by decide : 0 + 0 ≤ _)⟩)
  dsimp only [Pt.U, Pt.locs, Pt.cells, Pt.slots] at X3 l3 y3 z3 st3 hQ3
  subst l3 y3 z3
  obtain ⟨rfl, N3q, e3⟩ := hQ3
  have N3 := Fr.app N1 N3q
  obtain ⟨fs, hr, hrun, hended, hWm, hsame⟩ := X3.leave (v := some (.int (1 : Int32))) (fun h => by rw [Bd.returns] at h; cases h)
  refine ⟨_, _, pre0 _ ?_, hrun, hended, _, _, rfl, ?_, ⟨_, rfl⟩, hWm, hsame.mono (by decide) (by decide)⟩
  · show Steps p.tables e below (s₁.setTop (mkF m 0 La [])) _
    refine sI X0 hx hby d4_0 rfl ?_
    refine sI X0 hx hby d4_1 rfl ?_
    refine st1 _ ?_
    refine XS.istoreN X1.here hx rfl (hb hby d4_5) rfl (l' := Lb2) rfl ?_
    refine sA X1 hx hby d4_6 rfl rfl ?_
    refine st3.trans ?_
    refine XS.tswIn X3.here hx rfl (pc0 := 10) (pc' := 70) (o := 60) rfl (hb hby d4_10) rfl (by decide) (by decide) (by decide) (by decide) ?_
    refine sI X3 hx hby d4_70 rfl ?_
    refine sN X3 hx hby d4_71 (by decide) ?_
    refine sc X3 hx hby d4_74 ?_
    refine sg (pc := 75) (pc' := 127) X3 hx hby d4_75 (by decide) (by decide) ?_
    show Steps p.tables e below (T3.setTop (mkF m 127 Lb2 [(.int (1 : Int32))])) _
    exact retN X3 hx (t := .boolean) Bd.returns (by simp) (hb hby d4_127) hr
  · show Q4_16 Z w q1 q2 h0 n0 _ T3.heap _
    rw [e3]
    exact ⟨rfl, N3, rfl⟩
theorem d4_78 : decode prog_75_method_7_code 78 = .ok (.iconst 0, 1) := by decide +kernel
theorem d4_79 : decode prog_75_method_7_code 79 = .ok (.goto 48, 3) := by decide +kernel
theorem ef_4_17 (m : MethodId) (w : Nat → Addr) (q1 : Int32) : entryFrame m #[(.ref (w 1)), (.int q1), (.int q1)] 4 = mkF m 0 #[.val (.ref (w 1)), .val (.int q1), .val (.int q1), .unset] [] := by first | (simp [entryFrame, mkF, argsToLocals, Value.category]; done) | rfl
def Q4_17 (Z : State) (w : Nat → Addr) (q1 : Int32) (h0 : Heap) (n0 : Nat) (v : Option Value) (h : Heap) (L : List Loc) : Prop := v = some (.int (0 : Int32)) ∧ Fr n0 L ∧ h = h0
set_option maxRecDepth 65536 in
set_option maxHeartbeats 40000000 in
theorem rm4_17 (l : Launch) (Z : State) (a0 : Array Value) (hw : ∀ d ∈ tables_1, d.before a0 Z = true) (w : Nat → Addr) (hW : Wd Z w) (ws : List Jvm.Cond) (q1 : Int32) (h0 : Heap) (n0 : Nat) (O0 : Old Z n0 h0) :
    MetFree l ym5 (head1 (Jvm.Cond.code ym5 prog_75_method_7_code 4 (some .boolean) :: ws) ({ frames := 1, cells := 0, slots := 0, locals := 13 } : Room)) (fun a U => a = #[(.ref (w 1)), (.int q1), (.int q1)] ∧ Z.Warmed39 U.vm ∧ U.heap = h0) (fun _ _ _ _ _ => True) (fun _ U o U' => ∃ v L, o = .returned v ∧ Q4_17 Z w q1 h0 n0 v U'.heap L ∧ FrameEnd U o U' L ({ frames := 1, cells := 0, slots := 0, locals := 13 } : Room).cells ({ frames := 1, cells := 0, slots := 0, locals := 13 } : Room).slots) := by
  refine MetFree.of_bodySF (plainFor_of_name pnc_2) hisR ?_
  intro p e s m args below meth c s₁ Bd hml0 hP hK
  obtain ⟨rfl, hZ, hh⟩ := hP
  have hx := Bd.exec
  have hby := Bd.bytes
  have hml : c.maxLocals = 4 := hml0
  have hown : s.vm.findClass "com/example/gofyn/gofyn/typed/Term$Operator" = some m.cls := findClass_of_methodNamed Bd.named
  have hnm := (name_of_methodNamed Bd.named Bd.method).1
  have X0 : Stand p l e ({ frames := 1, cells := 0, slots := 0, locals := 13 } : Room) s m #[(.ref (w 1)), (.int q1), (.int q1)] below meth c s₁ [] 0 0 := Stand.of_body Bd
  have e0 : s₁.heap = h0 := by rw [← hh, Bd.state]; rfl
  have N0 := Fr.nil n0
  let La : Array Slot := #[.val (.ref (w 1)), .val (.int q1), .val (.int q1), .unset]
  have pre0 : ∀ t, Steps p.tables e below (s₁.setTop (mkF m 0 #[.val (.ref (w 1)), .val (.int q1), .val (.int q1), .unset] [])) t → Steps p.tables e below (s₁.setTop (entryFrame m #[(.ref (w 1)), (.int q1), (.int q1)] 4)) t := fun t k => castTop (ef_4_17 m w q1) k
  obtain ⟨_, _, ⟨T1, L1, kk1, nn1⟩, -, X1, ⟨Lc1, hQ1, l1, y1, z1⟩, st1⟩ := Jvm.LawKit.callS X0 hx (y := ym4) hown (mvT hZ (wk27 hw)) (mvT hZ (wk28 hw)) (mvT hZ (wk29 hw)) (mvT hZ (wk30 hw)) (by decide) (backOf (W := 0) (rm5_8 l Z a0 hw w hW [] q1 h0 n0 O0 ) hZ (wk30 hw) (wk29 hw) (by decide) (by decide)) (g := (mkF m 2 La [(.int q1), (.int q1)])) rfl (by rw [hml]; rfl) (argsL := [(.int q1), (.int q1)]) (rest := []) (lenOf pds_3 rfl) rfl (by show 2 * 0 + _ ≤ _; exact Nat.le_of_eq rfl) (hb hby d4_2) (fun _ _ => ⟨rfl, e0, (by decide : 0 + 0 ≤ _), (by decide : 0 + 0 ≤ _)⟩)
  dsimp only [Pt.U, Pt.locs, Pt.cells, Pt.slots] at X1 l1 y1 z1 st1 hQ1
  subst l1 y1 z1
  obtain ⟨rfl, N1q, e1⟩ := hQ1
  have N1 := Fr.app N0 N1q
  let Lb2 : Array Slot := #[.val (.ref (w 1)), .val (.int q1), .val (.int q1), .val (.int (0 : Int32))]
  obtain ⟨cq3, kq3, q3a, q3b, q3c⟩ := isOf hZ e1 ((wd3 hW).ext O0.2)
  obtain ⟨_, _, ⟨T3, L3, kk3, nn3⟩, -, X3, ⟨Lc3, hQ3, l3, y3, z3⟩, st3⟩ := X1.virtualBackUp hx (x := ym2) (y := ym1) hown (mvT hZ (wk13 hw)) (mvT hZ (wk14 hw)) (mvT hZ (wk15 hw)) (by decide) (mvT hZ (wk17 hw)) (mvT hZ (wk16 hw)) (backOf (W := 0) (rm3_13 l Z a0 hw w hW []  h0 n0 O0 ) hZ (wk19 hw) (wk18 hw) (by decide) (by decide)) q3a q3c (g := (mkF m 7 Lb2 [(.ref (w 1))])) rfl (by rw [hml]; rfl) (Steps.refl _) (argsL := []) (rest := []) (lenOf pds_1 rfl) rfl (by show 2 * 0 + _ ≤ _; exact Nat.le_of_eq rfl) (hb hby d4_7) (fun _ _ => ⟨rfl, e1, (by decide : 0 + 0 ≤ _), (by decide : 0 + 0 ≤ _)⟩)
  dsimp only [Pt.U, Pt.locs, Pt.cells, Pt.slots] at X3 l3 y3 z3 st3 hQ3
  subst l3 y3 z3
  obtain ⟨rfl, N3q, e3⟩ := hQ3
  have N3 := Fr.app N1 N3q
  obtain ⟨fs, hr, hrun, hended, hWm, hsame⟩ := X3.leave (v := some (.int (0 : Int32))) (fun h => by rw [Bd.returns] at h; cases h)
  refine ⟨_, _, pre0 _ ?_, hrun, hended, _, _, rfl, ?_, ⟨_, rfl⟩, hWm, hsame.mono (by decide) (by decide)⟩
  · show Steps p.tables e below (s₁.setTop (mkF m 0 La [])) _
    refine sI X0 hx hby d4_0 rfl ?_
    refine sI X0 hx hby d4_1 rfl ?_
    refine st1 _ ?_
    refine XS.istoreN X1.here hx rfl (hb hby d4_5) rfl (l' := Lb2) rfl ?_
    refine sA X1 hx hby d4_6 rfl rfl ?_
    refine st3.trans ?_
    refine XS.tswIn X3.here hx rfl (pc0 := 10) (pc' := 70) (o := 60) rfl (hb hby d4_10) rfl (by decide) (by decide) (by decide) (by decide) ?_
    refine sI X3 hx hby d4_70 rfl ?_
    refine XS.ifYes X3.here hx rfl (pc0 := 71) (pc' := 78) rfl (hb hby d4_71) rfl (by decide) (by decide) (by decide) ?_
    refine sc X3 hx hby d4_78 ?_
    refine sg (pc := 79) (pc' := 127) X3 hx hby d4_79 (by decide) (by decide) ?_
    show Steps p.tables e below (T3.setTop (mkF m 127 Lb2 [(.int (0 : Int32))])) _
    exact retN X3 hx (t := .boolean) Bd.returns (by simp) (hb hby d4_127) hr
  · show Q4_17 Z w q1 h0 n0 _ T3.heap _
    rw [e3]
    exact ⟨rfl, N3, rfl⟩
theorem ef_4_18 (m : MethodId) (w : Nat → Addr) (q1 : Int32) (q2 : Int32) : entryFrame m #[(.ref (w 1)), (.int q1), (.int q2)] 4 = mkF m 0 #[.val (.ref (w 1)), .val (.int q1), .val (.int q2), .unset] [] := by first | (simp [entryFrame, mkF, argsToLocals, Value.category]; done) | rfl
def Q4_18 (Z : State) (w : Nat → Addr) (q1 : Int32) (q2 : Int32) (h0 : Heap) (n0 : Nat) (v : Option Value) (h : Heap) (L : List Loc) : Prop := v = some (.int (0 : Int32)) ∧ Fr n0 L ∧ h = h0
set_option maxRecDepth 65536 in
set_option maxHeartbeats 40000000 in
theorem rm4_18 (l : Launch) (Z : State) (a0 : Array Value) (hw : ∀ d ∈ tables_1, d.before a0 Z = true) (w : Nat → Addr) (hW : Wd Z w) (ws : List Jvm.Cond) (q1 : Int32) (q2 : Int32) (h0 : Heap) (n0 : Nat) (O0 : Old Z n0 h0) (c1 : ¬ (q1 < q2)) (c2 : q1 = q2) :
    MetFree l ym5 (head1 (Jvm.Cond.code ym5 prog_75_method_7_code 4 (some .boolean) :: ws) ({ frames := 1, cells := 0, slots := 0, locals := 13 } : Room)) (fun a U => a = #[(.ref (w 1)), (.int q1), (.int q2)] ∧ Z.Warmed39 U.vm ∧ U.heap = h0) (fun _ _ _ _ _ => True) (fun _ U o U' => ∃ v L, o = .returned v ∧ Q4_18 Z w q1 q2 h0 n0 v U'.heap L ∧ FrameEnd U o U' L ({ frames := 1, cells := 0, slots := 0, locals := 13 } : Room).cells ({ frames := 1, cells := 0, slots := 0, locals := 13 } : Room).slots) := by
  refine MetFree.of_bodySF (plainFor_of_name pnc_2) hisR ?_
  intro p e s m args below meth c s₁ Bd hml0 hP hK
  obtain ⟨rfl, hZ, hh⟩ := hP
  have hx := Bd.exec
  have hby := Bd.bytes
  have hml : c.maxLocals = 4 := hml0
  have hown : s.vm.findClass "com/example/gofyn/gofyn/typed/Term$Operator" = some m.cls := findClass_of_methodNamed Bd.named
  have hnm := (name_of_methodNamed Bd.named Bd.method).1
  have X0 : Stand p l e ({ frames := 1, cells := 0, slots := 0, locals := 13 } : Room) s m #[(.ref (w 1)), (.int q1), (.int q2)] below meth c s₁ [] 0 0 := Stand.of_body Bd
  have e0 : s₁.heap = h0 := by rw [← hh, Bd.state]; rfl
  have N0 := Fr.nil n0
  let La : Array Slot := #[.val (.ref (w 1)), .val (.int q1), .val (.int q2), .unset]
  have pre0 : ∀ t, Steps p.tables e below (s₁.setTop (mkF m 0 #[.val (.ref (w 1)), .val (.int q1), .val (.int q2), .unset] [])) t → Steps p.tables e below (s₁.setTop (entryFrame m #[(.ref (w 1)), (.int q1), (.int q2)] 4)) t := fun t k => castTop (ef_4_18 m w q1 q2) k
  obtain ⟨_, _, ⟨T1, L1, kk1, nn1⟩, -, X1, ⟨Lc1, hQ1, l1, y1, z1⟩, st1⟩ := Jvm.LawKit.callS X0 hx (y := ym4) hown (mvT hZ (wk27 hw)) (mvT hZ (wk28 hw)) (mvT hZ (wk29 hw)) (mvT hZ (wk30 hw)) (by decide) (backOf (W := 0) (rm5_10 l Z a0 hw w hW [] q1 q2 h0 n0 O0 c1 c2) hZ (wk30 hw) (wk29 hw) (by decide) (by decide)) (g := (mkF m 2 La [(.int q2), (.int q1)])) rfl (by rw [hml]; rfl) (argsL := [(.int q1), (.int q2)]) (rest := []) (lenOf pds_3 rfl) rfl (by show 2 * 0 + _ ≤ _; exact Nat.le_of_eq rfl) (hb hby d4_2) (fun _ _ => ⟨rfl, e0, (by decide : 0 + 0 ≤ _), (by decide : 0 + 0 ≤ _)⟩)
  dsimp only [Pt.U, Pt.locs, Pt.cells, Pt.slots] at X1 l1 y1 z1 st1 hQ1
  subst l1 y1 z1
  obtain ⟨rfl, N1q, e1⟩ := hQ1
  have N1 := Fr.app N0 N1q
  let Lb2 : Array Slot := #[.val (.ref (w 1)), .val (.int q1), .val (.int q2), .val (.int (0 : Int32))]
  obtain ⟨cq3, kq3, q3a, q3b, q3c⟩ := isOf hZ e1 ((wd3 hW).ext O0.2)
  obtain ⟨_, _, ⟨T3, L3, kk3, nn3⟩, -, X3, ⟨Lc3, hQ3, l3, y3, z3⟩, st3⟩ := X1.virtualBackUp hx (x := ym2) (y := ym1) hown (mvT hZ (wk13 hw)) (mvT hZ (wk14 hw)) (mvT hZ (wk15 hw)) (by decide) (mvT hZ (wk17 hw)) (mvT hZ (wk16 hw)) (backOf (W := 0) (rm3_13 l Z a0 hw w hW []  h0 n0 O0 ) hZ (wk19 hw) (wk18 hw) (by decide) (by decide)) q3a q3c (g := (mkF m 7 Lb2 [(.ref (w 1))])) rfl (by rw [hml]; rfl) (Steps.refl _) (argsL := []) (rest := []) (lenOf pds_1 rfl) rfl (by show 2 * 0 + _ ≤ _; exact Nat.le_of_eq rfl) (hb hby d4_7) (fun _ _ => ⟨rfl, e1, (by decide : 0 + 0 ≤ _), (by decide : 0 + 0 ≤ _)⟩)
  dsimp only [Pt.U, Pt.locs, Pt.cells, Pt.slots] at X3 l3 y3 z3 st3 hQ3
  subst l3 y3 z3
  obtain ⟨rfl, N3q, e3⟩ := hQ3
  have N3 := Fr.app N1 N3q
  obtain ⟨fs, hr, hrun, hended, hWm, hsame⟩ := X3.leave (v := some (.int (0 : Int32))) (fun h => by rw [Bd.returns] at h; cases h)
  refine ⟨_, _, pre0 _ ?_, hrun, hended, _, _, rfl, ?_, ⟨_, rfl⟩, hWm, hsame.mono (by decide) (by decide)⟩
  · show Steps p.tables e below (s₁.setTop (mkF m 0 La [])) _
    refine sI X0 hx hby d4_0 rfl ?_
    refine sI X0 hx hby d4_1 rfl ?_
    refine st1 _ ?_
    refine XS.istoreN X1.here hx rfl (hb hby d4_5) rfl (l' := Lb2) rfl ?_
    refine sA X1 hx hby d4_6 rfl rfl ?_
    refine st3.trans ?_
    refine XS.tswIn X3.here hx rfl (pc0 := 10) (pc' := 70) (o := 60) rfl (hb hby d4_10) rfl (by decide) (by decide) (by decide) (by decide) ?_
    refine sI X3 hx hby d4_70 rfl ?_
    refine XS.ifYes X3.here hx rfl (pc0 := 71) (pc' := 78) rfl (hb hby d4_71) rfl (by decide) (by decide) (by decide) ?_
    refine sc X3 hx hby d4_78 ?_
    refine sg (pc := 79) (pc' := 127) X3 hx hby d4_79 (by decide) (by decide) ?_
    show Steps p.tables e below (T3.setTop (mkF m 127 Lb2 [(.int (0 : Int32))])) _
    exact retN X3 hx (t := .boolean) Bd.returns (by simp) (hb hby d4_127) hr
  · show Q4_18 Z w q1 q2 h0 n0 _ T3.heap _
    rw [e3]
    exact ⟨rfl, N3, rfl⟩
theorem d1_25 : decode method_2_code 25 = .ok (.iload_n 1, 1) := by decide +kernel
theorem d1_26 : decode method_2_code 26 = .ok (.iconst 2, 1) := by decide +kernel
theorem d1_27 : decode method_2_code 27 = .ok (.if_icmp .ne 7, 3) := by decide +kernel
theorem d1_30 : decode method_2_code 30 = .ok (.getstatic 17, 3) := by decide +kernel
theorem d1_33 : decode method_2_code 33 = .ok (.areturn, 1) := by decide +kernel
theorem ef_1_19 (m : MethodId) (q1 : Int32) : entryFrame m #[(.int q1)] 2 = mkF m 0 #[.val (.int q1), .unset] [] := by first | (simp [entryFrame, mkF, argsToLocals, Value.category]; done) | rfl
def Q1_19 (Z : State) (w : Nat → Addr) (q1 : Int32) (h0 : Heap) (n0 : Nat) (v : Option Value) (h : Heap) (L : List Loc) : Prop := v = some (.ref (w 2)) ∧ Fr n0 L ∧ h = h0
set_option maxRecDepth 65536 in
set_option maxHeartbeats 40000000 in
theorem rm1_19 (l : Launch) (Z : State) (a0 : Array Value) (hw : ∀ d ∈ tables_1, d.before a0 Z = true) (w : Nat → Addr) (hW : Wd Z w) (ws : List Jvm.Cond) (q1 : Int32) (h0 : Heap) (n0 : Nat) (O0 : Old Z n0 h0) (c1 : ¬ (((q1 &&& (2147483647 : Int32)) % (6 : Int32)) = (0 : Int32))) (c2 : ¬ (((q1 &&& (2147483647 : Int32)) % (6 : Int32)) = (1 : Int32))) (c3 : ((q1 &&& (2147483647 : Int32)) % (6 : Int32)) = (2 : Int32)) :
    MetFree l ym0 (head1 (Jvm.Cond.code ym0 method_2_code 2 (some (.object "com/example/gofyn/gofyn/typed/Term$Operator")) :: ws) ({ frames := 0, cells := 0, slots := 0, locals := 0 } : Room)) (fun a U => a = #[(.int q1)] ∧ Z.Warmed39 U.vm ∧ U.heap = h0) (fun _ _ _ _ _ => True) (fun _ U o U' => ∃ v L, o = .returned v ∧ Q1_19 Z w q1 h0 n0 v U'.heap L ∧ FrameEnd U o U' L ({ frames := 0, cells := 0, slots := 0, locals := 0 } : Room).cells ({ frames := 0, cells := 0, slots := 0, locals := 0 } : Room).slots) := by
  refine MetFree.of_bodySF (plainFor_of_name pnc_0) hisR ?_
  intro p e s m args below meth c s₁ Bd hml0 hP hK
  obtain ⟨rfl, hZ, hh⟩ := hP
  have hx := Bd.exec
  have hby := Bd.bytes
  have hml : c.maxLocals = 2 := hml0
  have hown : s.vm.findClass "com/example/gofyn/gofyn/typed/OperatorMirroredPinLaw" = some m.cls := findClass_of_methodNamed Bd.named
  have hnm := (name_of_methodNamed Bd.named Bd.method).1
  have X0 : Stand p l e ({ frames := 0, cells := 0, slots := 0, locals := 0 } : Room) s m #[(.int q1)] below meth c s₁ [] 0 0 := Stand.of_body Bd
  have e0 : s₁.heap = h0 := by rw [← hh, Bd.state]; rfl
  have N0 := Fr.nil n0
  skip
  have pre0 : ∀ t, Steps p.tables e below (s₁.setTop (mkF m 0 #[.val (.int q1), .unset] [])) t → Steps p.tables e below (s₁.setTop (entryFrame m #[(.int q1)] 2)) t := fun t k => castTop (ef_1_19 m q1) k
  let Lb1 : Array Slot := #[.val (.int q1), .val (.int ((q1 &&& (2147483647 : Int32)) % (6 : Int32)))]
  obtain ⟨T2, X2, e2, st2⟩ := getS2 X0 hx hZ hown (host := "") (Or.inl (wk33 hw)) Via.refl e0 ((wd4 hW).ext O0.2) (g := (mkF m 30 Lb1 [])) rfl (hb hby d1_30)
  obtain ⟨fs, hr, hrun, hended, hWm, hsame⟩ := X2.leave (v := some (.ref (w 2))) (fun h => by rw [Bd.returns] at h; cases h)
  refine ⟨_, _, pre0 _ ?_, hrun, hended, _, _, rfl, ?_, ⟨_, rfl⟩, hWm, hsame.mono (by decide) (by decide)⟩
  · show Steps p.tables e below (s₁.setTop (mkF m 0 #[.val (.int q1), .unset] [])) _
    refine sI X0 hx hby d1_0 rfl ?_
    refine X0.ldcInt hx hown (mvT hZ (wk4 hw)) (g := (mkF m 1 #[.val (.int q1), .unset] [(.int q1)])) rfl (hb hby d1_1) _ ?_
    refine XS.iand X0.here hx rfl (hb hby d1_3) rfl ?_
    refine XS.bipush X0.here hx rfl (hb hby d1_4) ?_
    refine iremM X0 hx rfl (hb hby d1_6) rfl (by decide) ?_
    show Steps p.tables e below (s₁.setTop (mkF m 7 #[.val (.int q1), .unset] [(.int ((q1 &&& (2147483647 : Int32)) % (6 : Int32)))])) _
    refine XS.istoreN X0.here hx rfl (hb hby d1_7) rfl (l' := Lb1) rfl ?_
    refine sI X0 hx hby d1_8 rfl ?_
    refine XS.ifYes X0.here hx rfl (pc0 := 9) (pc' := 16) rfl (hb hby d1_9) rfl ((if0 _ _).trans (feq (c1 : ¬ (((q1 &&& (2147483647 : Int32)) % (6 : Int32)) = (0 : Int32)))).2) (by decide) (by decide) ?_
    refine sI X0 hx hby d1_16 rfl ?_
    refine sc X0 hx hby d1_17 ?_
    show Steps p.tables e below (s₁.setTop (mkF m 18 Lb1 [(.int (1 : Int32)), (.int ((q1 &&& (2147483647 : Int32)) % (6 : Int32)))])) _
    refine XS.icmpYes X0.here hx rfl (pc0 := 18) (pc' := 25) rfl (hb hby d1_18) rfl (feq (c2 : ¬ (((q1 &&& (2147483647 : Int32)) % (6 : Int32)) = (1 : Int32)))).2 (by decide) (by decide) ?_
    refine sI X0 hx hby d1_25 rfl ?_
    refine sc X0 hx hby d1_26 ?_
    refine sn X0 hx hby d1_27 (teq (c3 : ((q1 &&& (2147483647 : Int32)) % (6 : Int32)) = (2 : Int32))).2 ?_
    refine st2 _ ?_
    jvm_step X2.here [X2.here.top, hx, (hb hby d1_33), X2.method', Bd.returns, Value.isRef, FieldType.isReference]
    first | (intro acts; rw [hr _ acts rfl rfl rfl]) | rw [hr _ _ rfl rfl rfl]
    exact Steps.refl _
  · show Q1_19 Z w q1 h0 n0 _ T2.heap _
    rw [e2]
    exact ⟨rfl, N0, rfl⟩
theorem ef_3_20 (m : MethodId) (w : Nat → Addr) : entryFrame m #[(.ref (w 2))] 1 = mkF m 0 #[.val (.ref (w 2))] [] := by first | (simp [entryFrame, mkF, argsToLocals, Value.category]; done) | rfl
def Q3_20 (Z : State) (w : Nat → Addr) (h0 : Heap) (n0 : Nat) (v : Option Value) (h : Heap) (L : List Loc) : Prop := v = some (.int (2 : Int32)) ∧ Fr n0 L ∧ h = h0
set_option maxRecDepth 65536 in
set_option maxHeartbeats 40000000 in
theorem rm3_20 (l : Launch) (Z : State) (a0 : Array Value) (hw : ∀ d ∈ tables_1, d.before a0 Z = true) (w : Nat → Addr) (hW : Wd Z w) (ws : List Jvm.Cond) (h0 : Heap) (n0 : Nat) (O0 : Old Z n0 h0) :
    MetFree l ym1 (head1 (Jvm.Cond.code ym1 jdk_37_method_2_code 1 (some .int) :: ws) ({ frames := 0, cells := 0, slots := 0, locals := 0 } : Room)) (fun a U => a = #[(.ref (w 2))] ∧ Z.Warmed39 U.vm ∧ U.heap = h0) (fun _ _ _ _ _ => True) (fun _ U o U' => ∃ v L, o = .returned v ∧ Q3_20 Z w h0 n0 v U'.heap L ∧ FrameEnd U o U' L ({ frames := 0, cells := 0, slots := 0, locals := 0 } : Room).cells ({ frames := 0, cells := 0, slots := 0, locals := 0 } : Room).slots) := by
  refine MetFree.of_bodySF (plainFor_of_name pnc_1) hisR ?_
  intro p e s m args below meth c s₁ Bd hml0 hP hK
  obtain ⟨rfl, hZ, hh⟩ := hP
  have hx := Bd.exec
  have hby := Bd.bytes
  have hml : c.maxLocals = 1 := hml0
  have hown : s.vm.findClass "java/lang/Enum" = some m.cls := findClass_of_methodNamed Bd.named
  have hnm := (name_of_methodNamed Bd.named Bd.method).1
  have X0 : Stand p l e ({ frames := 0, cells := 0, slots := 0, locals := 0 } : Room) s m #[(.ref (w 2))] below meth c s₁ [] 0 0 := Stand.of_body Bd
  have e0 : s₁.heap = h0 := by rw [← hh, Bd.state]; rfl
  have N0 := Fr.nil n0
  skip
  have pre0 : ∀ t, Steps p.tables e below (s₁.setTop (mkF m 0 #[.val (.ref (w 2))] [])) t → Steps p.tables e below (s₁.setTop (entryFrame m #[(.ref (w 2))] 1)) t := fun t k => castTop (ef_3_20 m w) k
  obtain ⟨T1, X1, e1, st1⟩ := getF X0 hx hZ hown (host := "") (Or.inl (wk20 hw)) Via.refl e0 ((wd14 hW).ext O0.2) (g := (mkF m 1 #[.val (.ref (w 2))] [(.ref (w 2))])) rfl rfl (hb hby d3_1)
  obtain ⟨fs, hr, hrun, hended, hWm, hsame⟩ := X1.leave (v := some (.int (2 : Int32))) (fun h => by rw [Bd.returns] at h; cases h)
  refine ⟨_, _, pre0 _ ?_, hrun, hended, _, _, rfl, ?_, ⟨_, rfl⟩, hWm, hsame.mono (by decide) (by decide)⟩
  · show Steps p.tables e below (s₁.setTop (mkF m 0 #[.val (.ref (w 2))] [])) _
    refine sA X0 hx hby d3_0 rfl rfl ?_
    refine st1 _ ?_
    exact retI X1 hx Bd.returns (hb hby d3_4) hr
  · show Q3_20 Z w h0 n0 _ T1.heap _
    rw [e1]
    exact ⟨rfl, N0, rfl⟩
theorem d2_58 : decode prog_75_method_6_code 58 = .ok (.getstatic 16, 3) := by decide +kernel
theorem d2_61 : decode prog_75_method_6_code 61 = .ok (.goto 18, 3) := by decide +kernel
theorem ef_2_21 (m : MethodId) (w : Nat → Addr) : entryFrame m #[(.ref (w 2))] 1 = mkF m 0 #[.val (.ref (w 2))] [] := by first | (simp [entryFrame, mkF, argsToLocals, Value.category]; done) | rfl
def Q2_21 (Z : State) (w : Nat → Addr) (h0 : Heap) (n0 : Nat) (v : Option Value) (h : Heap) (L : List Loc) : Prop := v = some (.ref (w 3)) ∧ Fr n0 L ∧ h = h0
set_option maxRecDepth 65536 in
set_option maxHeartbeats 40000000 in
theorem rm2_21 (l : Launch) (Z : State) (a0 : Array Value) (hw : ∀ d ∈ tables_1, d.before a0 Z = true) (w : Nat → Addr) (hW : Wd Z w) (ws : List Jvm.Cond) (h0 : Heap) (n0 : Nat) (O0 : Old Z n0 h0) :
    MetFree l ym3 (head1 (Jvm.Cond.code ym3 prog_75_method_6_code 1 (some (.object "com/example/gofyn/gofyn/typed/Term$Operator")) :: ws) ({ frames := 1, cells := 0, slots := 0, locals := 12 } : Room)) (fun a U => a = #[(.ref (w 2))] ∧ Z.Warmed39 U.vm ∧ U.heap = h0) (fun _ _ _ _ _ => True) (fun _ U o U' => ∃ v L, o = .returned v ∧ Q2_21 Z w h0 n0 v U'.heap L ∧ FrameEnd U o U' L ({ frames := 1, cells := 0, slots := 0, locals := 12 } : Room).cells ({ frames := 1, cells := 0, slots := 0, locals := 12 } : Room).slots) := by
  refine MetFree.of_bodySF (plainFor_of_name pnc_2) hisR ?_
  intro p e s m args below meth c s₁ Bd hml0 hP hK
  obtain ⟨rfl, hZ, hh⟩ := hP
  have hx := Bd.exec
  have hby := Bd.bytes
  have hml : c.maxLocals = 1 := hml0
  have hown : s.vm.findClass "com/example/gofyn/gofyn/typed/Term$Operator" = some m.cls := findClass_of_methodNamed Bd.named
  have hnm := (name_of_methodNamed Bd.named Bd.method).1
  have X0 : Stand p l e ({ frames := 1, cells := 0, slots := 0, locals := 12 } : Room) s m #[(.ref (w 2))] below meth c s₁ [] 0 0 := Stand.of_body Bd
  have e0 : s₁.heap = h0 := by rw [← hh, Bd.state]; rfl
  have N0 := Fr.nil n0
  skip
  have pre0 : ∀ t, Steps p.tables e below (s₁.setTop (mkF m 0 #[.val (.ref (w 2))] [])) t → Steps p.tables e below (s₁.setTop (entryFrame m #[(.ref (w 2))] 1)) t := fun t k => castTop (ef_2_21 m w) k
  obtain ⟨cq1, kq1, q1a, q1b, q1c⟩ := isOf hZ e0 ((wd5 hW).ext O0.2)
  obtain ⟨_, _, ⟨T1, L1, kk1, nn1⟩, -, X1, ⟨Lc1, hQ1, l1, y1, z1⟩, st1⟩ := X0.virtualBackUp hx (x := ym2) (y := ym1) hown (mvT hZ (wk13 hw)) (mvT hZ (wk14 hw)) (mvT hZ (wk15 hw)) (by decide) (mvT hZ (wk17 hw)) (mvT hZ (wk16 hw)) (backOf (W := 0) (rm3_20 l Z a0 hw w hW []  h0 n0 O0 ) hZ (wk19 hw) (wk18 hw) (by decide) (by decide)) q1a q1c (g := (mkF m 1 #[.val (.ref (w 2))] [(.ref (w 2))])) rfl (by rw [hml]; rfl) (Steps.refl _) (argsL := []) (rest := []) (lenOf pds_1 rfl) rfl (by show 2 * 0 + _ ≤ _; exact Nat.le_of_eq rfl) (hb hby d2_1) (fun _ _ => ⟨rfl, e0, (by decide : 0 + 0 ≤ _), (by decide : 0 + 0 ≤ _)⟩)
  dsimp only [Pt.U, Pt.locs, Pt.cells, Pt.slots] at X1 l1 y1 z1 st1 hQ1
  subst l1 y1 z1
  obtain ⟨rfl, N1q, e1⟩ := hQ1
  have N1 := Fr.app N0 N1q
  obtain ⟨T2, X2, e2, st2⟩ := getS2 X1 hx hZ hown (host := "") (Or.inl (wk35 hw)) Via.refl e1 ((wd6 hW).ext O0.2) (g := (mkF m 58 #[.val (.ref (w 2))] [])) rfl (hb hby d2_58)
  obtain ⟨fs, hr, hrun, hended, hWm, hsame⟩ := X2.leave (v := some (.ref (w 3))) (fun h => by rw [Bd.returns] at h; cases h)
  refine ⟨_, _, pre0 _ ?_, hrun, hended, _, _, rfl, ?_, ⟨_, rfl⟩, hWm, hsame.mono (by decide) (by decide)⟩
  · show Steps p.tables e below (s₁.setTop (mkF m 0 #[.val (.ref (w 2))] [])) _
    refine sA X0 hx hby d2_0 rfl rfl ?_
    refine st1.trans ?_
    refine XS.tswIn X1.here hx rfl (pc0 := 4) (pc' := 58) (o := 54) rfl (hb hby d2_4) rfl (by decide) (by decide) (by decide) (by decide) ?_
    refine st2 _ ?_
    refine sg (pc := 61) (pc' := 79) X2 hx hby d2_61 (by decide) (by decide) ?_
    jvm_step X2.here [X2.here.top, hx, (hb hby d2_79), X2.method', Bd.returns, Value.isRef, FieldType.isReference]
    first | (intro acts; rw [hr _ acts rfl rfl rfl]) | rw [hr _ _ rfl rfl rfl]
    exact Steps.refl _
  · show Q2_21 Z w h0 n0 _ T2.heap _
    rw [e2]
    exact ⟨rfl, N1, rfl⟩
theorem d4_82 : decode prog_75_method_7_code 82 = .ok (.iload_n 3, 1) := by decide +kernel
theorem d4_83 : decode prog_75_method_7_code 83 = .ok (.ifCond .ge 7, 3) := by decide +kernel
theorem d4_86 : decode prog_75_method_7_code 86 = .ok (.iconst 1, 1) := by decide +kernel
theorem d4_87 : decode prog_75_method_7_code 87 = .ok (.goto 40, 3) := by decide +kernel
theorem ef_4_22 (m : MethodId) (w : Nat → Addr) (q1 : Int32) (q2 : Int32) : entryFrame m #[(.ref (w 2)), (.int q1), (.int q2)] 4 = mkF m 0 #[.val (.ref (w 2)), .val (.int q1), .val (.int q2), .unset] [] := by first | (simp [entryFrame, mkF, argsToLocals, Value.category]; done) | rfl
def Q4_22 (Z : State) (w : Nat → Addr) (q1 : Int32) (q2 : Int32) (h0 : Heap) (n0 : Nat) (v : Option Value) (h : Heap) (L : List Loc) : Prop := v = some (.int (1 : Int32)) ∧ Fr n0 L ∧ h = h0
set_option maxRecDepth 65536 in
set_option maxHeartbeats 40000000 in
theorem rm4_22 (l : Launch) (Z : State) (a0 : Array Value) (hw : ∀ d ∈ tables_1, d.before a0 Z = true) (w : Nat → Addr) (hW : Wd Z w) (ws : List Jvm.Cond) (q1 : Int32) (q2 : Int32) (h0 : Heap) (n0 : Nat) (O0 : Old Z n0 h0) (c1 : q1 < q2) :
    MetFree l ym5 (head1 (Jvm.Cond.code ym5 prog_75_method_7_code 4 (some .boolean) :: ws) ({ frames := 1, cells := 0, slots := 0, locals := 13 } : Room)) (fun a U => a = #[(.ref (w 2)), (.int q1), (.int q2)] ∧ Z.Warmed39 U.vm ∧ U.heap = h0) (fun _ _ _ _ _ => True) (fun _ U o U' => ∃ v L, o = .returned v ∧ Q4_22 Z w q1 q2 h0 n0 v U'.heap L ∧ FrameEnd U o U' L ({ frames := 1, cells := 0, slots := 0, locals := 13 } : Room).cells ({ frames := 1, cells := 0, slots := 0, locals := 13 } : Room).slots) := by
  refine MetFree.of_bodySF (plainFor_of_name pnc_2) hisR ?_
  intro p e s m args below meth c s₁ Bd hml0 hP hK
  obtain ⟨rfl, hZ, hh⟩ := hP
  have hx := Bd.exec
  have hby := Bd.bytes
  have hml : c.maxLocals = 4 := hml0
  have hown : s.vm.findClass "com/example/gofyn/gofyn/typed/Term$Operator" = some m.cls := findClass_of_methodNamed Bd.named
  have hnm := (name_of_methodNamed Bd.named Bd.method).1
  have X0 : Stand p l e ({ frames := 1, cells := 0, slots := 0, locals := 13 } : Room) s m #[(.ref (w 2)), (.int q1), (.int q2)] below meth c s₁ [] 0 0 := Stand.of_body Bd
  have e0 : s₁.heap = h0 := by rw [← hh, Bd.state]; rfl
  have N0 := Fr.nil n0
  let La : Array Slot := #[.val (.ref (w 2)), .val (.int q1), .val (.int q2), .unset]
  have pre0 : ∀ t, Steps p.tables e below (s₁.setTop (mkF m 0 #[.val (.ref (w 2)), .val (.int q1), .val (.int q2), .unset] [])) t → Steps p.tables e below (s₁.setTop (entryFrame m #[(.ref (w 2)), (.int q1), (.int q2)] 4)) t := fun t k => castTop (ef_4_22 m w q1 q2) k
  obtain ⟨_, _, ⟨T1, L1, kk1, nn1⟩, -, X1, ⟨Lc1, hQ1, l1, y1, z1⟩, st1⟩ := Jvm.LawKit.callS X0 hx (y := ym4) hown (mvT hZ (wk27 hw)) (mvT hZ (wk28 hw)) (mvT hZ (wk29 hw)) (mvT hZ (wk30 hw)) (by decide) (backOf (W := 0) (rm5_4 l Z a0 hw w hW [] q1 q2 h0 n0 O0 c1) hZ (wk30 hw) (wk29 hw) (by decide) (by decide)) (g := (mkF m 2 La [(.int q2), (.int q1)])) rfl (by rw [hml]; rfl) (argsL := [(.int q1), (.int q2)]) (rest := []) (lenOf pds_3 rfl) rfl (by show 2 * 0 + _ ≤ _; exact Nat.le_of_eq rfl) (hb hby d4_2) (fun _ _ => ⟨rfl, e0, (by decide : 0 + 0 ≤ _), (by decide : 0 + 0 ≤ _)⟩)
  dsimp only [Pt.U, Pt.locs, Pt.cells, Pt.slots] at X1 l1 y1 z1 st1 hQ1
  subst l1 y1 z1
  obtain ⟨rfl, N1q, e1⟩ := hQ1
  have N1 := Fr.app N0 N1q
  let Lb2 : Array Slot := #[.val (.ref (w 2)), .val (.int q1), .val (.int q2), .val (.int (-1 : Int32))]
  obtain ⟨cq3, kq3, q3a, q3b, q3c⟩ := isOf hZ e1 ((wd5 hW).ext O0.2)
  obtain ⟨_, _, ⟨T3, L3, kk3, nn3⟩, -, X3, ⟨Lc3, hQ3, l3, y3, z3⟩, st3⟩ := X1.virtualBackUp hx (x := ym2) (y := ym1) hown (mvT hZ (wk13 hw)) (mvT hZ (wk14 hw)) (mvT hZ (wk15 hw)) (by decide) (mvT hZ (wk17 hw)) (mvT hZ (wk16 hw)) (backOf (W := 0) (rm3_20 l Z a0 hw w hW []  h0 n0 O0 ) hZ (wk19 hw) (wk18 hw) (by decide) (by decide)) q3a q3c (g := (mkF m 7 Lb2 [(.ref (w 2))])) rfl (by rw [hml]; rfl) (Steps.refl _) (argsL := []) (rest := []) (lenOf pds_1 rfl) rfl (by show 2 * 0 + _ ≤ _; exact Nat.le_of_eq rfl) (hb hby d4_7) (fun _ _ => ⟨rfl, e1, (by decide : 0 + 0 ≤ _), (by decide : 0 + 0 ≤ _)⟩)
  dsimp only [Pt.U, Pt.locs, Pt.cells, Pt.slots] at X3 l3 y3 z3 st3 hQ3
  subst l3 y3 z3
  obtain ⟨rfl, N3q, e3⟩ := hQ3
  have N3 := Fr.app N1 N3q
  obtain ⟨fs, hr, hrun, hended, hWm, hsame⟩ := X3.leave (v := some (.int (1 : Int32))) (fun h => by rw [Bd.returns] at h; cases h)
  refine ⟨_, _, pre0 _ ?_, hrun, hended, _, _, rfl, ?_, ⟨_, rfl⟩, hWm, hsame.mono (by decide) (by decide)⟩
  · show Steps p.tables e below (s₁.setTop (mkF m 0 La [])) _
    refine sI X0 hx hby d4_0 rfl ?_
    refine sI X0 hx hby d4_1 rfl ?_
    refine st1 _ ?_
    refine XS.istoreN X1.here hx rfl (hb hby d4_5) rfl (l' := Lb2) rfl ?_
    refine sA X1 hx hby d4_6 rfl rfl ?_
    refine st3.trans ?_
    refine XS.tswIn X3.here hx rfl (pc0 := 10) (pc' := 82) (o := 72) rfl (hb hby d4_10) rfl (by decide) (by decide) (by decide) (by decide) ?_
    refine sI X3 hx hby d4_82 rfl ?_
    refine sN X3 hx hby d4_83 (by decide) ?_
    refine sc X3 hx hby d4_86 ?_
    refine sg (pc := 87) (pc' := 127) X3 hx hby d4_87 (by decide) (by decide) ?_
    show Steps p.tables e below (T3.setTop (mkF m 127 Lb2 [(.int (1 : Int32))])) _
    exact retN X3 hx (t := .boolean) Bd.returns (by simp) (hb hby d4_127) hr
  · show Q4_22 Z w q1 q2 h0 n0 _ T3.heap _
    rw [e3]
    exact ⟨rfl, N3, rfl⟩
theorem ef_3_23 (m : MethodId) (w : Nat → Addr) : entryFrame m #[(.ref (w 3))] 1 = mkF m 0 #[.val (.ref (w 3))] [] := by first | (simp [entryFrame, mkF, argsToLocals, Value.category]; done) | rfl
def Q3_23 (Z : State) (w : Nat → Addr) (h0 : Heap) (n0 : Nat) (v : Option Value) (h : Heap) (L : List Loc) : Prop := v = some (.int (4 : Int32)) ∧ Fr n0 L ∧ h = h0
set_option maxRecDepth 65536 in
set_option maxHeartbeats 40000000 in
theorem rm3_23 (l : Launch) (Z : State) (a0 : Array Value) (hw : ∀ d ∈ tables_1, d.before a0 Z = true) (w : Nat → Addr) (hW : Wd Z w) (ws : List Jvm.Cond) (h0 : Heap) (n0 : Nat) (O0 : Old Z n0 h0) :
    MetFree l ym1 (head1 (Jvm.Cond.code ym1 jdk_37_method_2_code 1 (some .int) :: ws) ({ frames := 0, cells := 0, slots := 0, locals := 0 } : Room)) (fun a U => a = #[(.ref (w 3))] ∧ Z.Warmed39 U.vm ∧ U.heap = h0) (fun _ _ _ _ _ => True) (fun _ U o U' => ∃ v L, o = .returned v ∧ Q3_23 Z w h0 n0 v U'.heap L ∧ FrameEnd U o U' L ({ frames := 0, cells := 0, slots := 0, locals := 0 } : Room).cells ({ frames := 0, cells := 0, slots := 0, locals := 0 } : Room).slots) := by
  refine MetFree.of_bodySF (plainFor_of_name pnc_1) hisR ?_
  intro p e s m args below meth c s₁ Bd hml0 hP hK
  obtain ⟨rfl, hZ, hh⟩ := hP
  have hx := Bd.exec
  have hby := Bd.bytes
  have hml : c.maxLocals = 1 := hml0
  have hown : s.vm.findClass "java/lang/Enum" = some m.cls := findClass_of_methodNamed Bd.named
  have hnm := (name_of_methodNamed Bd.named Bd.method).1
  have X0 : Stand p l e ({ frames := 0, cells := 0, slots := 0, locals := 0 } : Room) s m #[(.ref (w 3))] below meth c s₁ [] 0 0 := Stand.of_body Bd
  have e0 : s₁.heap = h0 := by rw [← hh, Bd.state]; rfl
  have N0 := Fr.nil n0
  skip
  have pre0 : ∀ t, Steps p.tables e below (s₁.setTop (mkF m 0 #[.val (.ref (w 3))] [])) t → Steps p.tables e below (s₁.setTop (entryFrame m #[(.ref (w 3))] 1)) t := fun t k => castTop (ef_3_23 m w) k
  obtain ⟨T1, X1, e1, st1⟩ := getF X0 hx hZ hown (host := "") (Or.inl (wk20 hw)) Via.refl e0 ((wd15 hW).ext O0.2) (g := (mkF m 1 #[.val (.ref (w 3))] [(.ref (w 3))])) rfl rfl (hb hby d3_1)
  obtain ⟨fs, hr, hrun, hended, hWm, hsame⟩ := X1.leave (v := some (.int (4 : Int32))) (fun h => by rw [Bd.returns] at h; cases h)
  refine ⟨_, _, pre0 _ ?_, hrun, hended, _, _, rfl, ?_, ⟨_, rfl⟩, hWm, hsame.mono (by decide) (by decide)⟩
  · show Steps p.tables e below (s₁.setTop (mkF m 0 #[.val (.ref (w 3))] [])) _
    refine sA X0 hx hby d3_0 rfl rfl ?_
    refine st1 _ ?_
    exact retI X1 hx Bd.returns (hb hby d3_4) hr
  · show Q3_23 Z w h0 n0 _ T1.heap _
    rw [e1]
    exact ⟨rfl, N0, rfl⟩
theorem d4_106 : decode prog_75_method_7_code 106 = .ok (.iload_n 3, 1) := by decide +kernel
theorem d4_107 : decode prog_75_method_7_code 107 = .ok (.ifCond .le 7, 3) := by decide +kernel
theorem d4_110 : decode prog_75_method_7_code 110 = .ok (.iconst 1, 1) := by decide +kernel
theorem d4_111 : decode prog_75_method_7_code 111 = .ok (.goto 16, 3) := by decide +kernel
theorem ef_4_24 (m : MethodId) (w : Nat → Addr) (q1 : Int32) (q2 : Int32) : entryFrame m #[(.ref (w 3)), (.int q1), (.int q2)] 4 = mkF m 0 #[.val (.ref (w 3)), .val (.int q1), .val (.int q2), .unset] [] := by first | (simp [entryFrame, mkF, argsToLocals, Value.category]; done) | rfl
def Q4_24 (Z : State) (w : Nat → Addr) (q1 : Int32) (q2 : Int32) (h0 : Heap) (n0 : Nat) (v : Option Value) (h : Heap) (L : List Loc) : Prop := v = some (.int (1 : Int32)) ∧ Fr n0 L ∧ h = h0
set_option maxRecDepth 65536 in
set_option maxHeartbeats 40000000 in
theorem rm4_24 (l : Launch) (Z : State) (a0 : Array Value) (hw : ∀ d ∈ tables_1, d.before a0 Z = true) (w : Nat → Addr) (hW : Wd Z w) (ws : List Jvm.Cond) (q1 : Int32) (q2 : Int32) (h0 : Heap) (n0 : Nat) (O0 : Old Z n0 h0) (c1 : ¬ (q1 < q2)) (c2 : ¬ (q1 = q2)) :
    MetFree l ym5 (head1 (Jvm.Cond.code ym5 prog_75_method_7_code 4 (some .boolean) :: ws) ({ frames := 1, cells := 0, slots := 0, locals := 13 } : Room)) (fun a U => a = #[(.ref (w 3)), (.int q1), (.int q2)] ∧ Z.Warmed39 U.vm ∧ U.heap = h0) (fun _ _ _ _ _ => True) (fun _ U o U' => ∃ v L, o = .returned v ∧ Q4_24 Z w q1 q2 h0 n0 v U'.heap L ∧ FrameEnd U o U' L ({ frames := 1, cells := 0, slots := 0, locals := 13 } : Room).cells ({ frames := 1, cells := 0, slots := 0, locals := 13 } : Room).slots) := by
  refine MetFree.of_bodySF (plainFor_of_name pnc_2) hisR ?_
  intro p e s m args below meth c s₁ Bd hml0 hP hK
  obtain ⟨rfl, hZ, hh⟩ := hP
  have hx := Bd.exec
  have hby := Bd.bytes
  have hml : c.maxLocals = 4 := hml0
  have hown : s.vm.findClass "com/example/gofyn/gofyn/typed/Term$Operator" = some m.cls := findClass_of_methodNamed Bd.named
  have hnm := (name_of_methodNamed Bd.named Bd.method).1
  have X0 : Stand p l e ({ frames := 1, cells := 0, slots := 0, locals := 13 } : Room) s m #[(.ref (w 3)), (.int q1), (.int q2)] below meth c s₁ [] 0 0 := Stand.of_body Bd
  have e0 : s₁.heap = h0 := by rw [← hh, Bd.state]; rfl
  have N0 := Fr.nil n0
  let La : Array Slot := #[.val (.ref (w 3)), .val (.int q1), .val (.int q2), .unset]
  have pre0 : ∀ t, Steps p.tables e below (s₁.setTop (mkF m 0 #[.val (.ref (w 3)), .val (.int q1), .val (.int q2), .unset] [])) t → Steps p.tables e below (s₁.setTop (entryFrame m #[(.ref (w 3)), (.int q1), (.int q2)] 4)) t := fun t k => castTop (ef_4_24 m w q1 q2) k
  obtain ⟨_, _, ⟨T1, L1, kk1, nn1⟩, -, X1, ⟨Lc1, hQ1, l1, y1, z1⟩, st1⟩ := Jvm.LawKit.callS X0 hx (y := ym4) hown (mvT hZ (wk27 hw)) (mvT hZ (wk28 hw)) (mvT hZ (wk29 hw)) (mvT hZ (wk30 hw)) (by decide) (backOf (W := 0) (rm5_6 l Z a0 hw w hW [] q1 q2 h0 n0 O0 c1 c2) hZ (wk30 hw) (wk29 hw) (by decide) (by decide)) (g := (mkF m 2 La [(.int q2), (.int q1)])) rfl (by rw [hml]; rfl) (argsL := [(.int q1), (.int q2)]) (rest := []) (lenOf pds_3 rfl) rfl (by show 2 * 0 + _ ≤ _; exact Nat.le_of_eq rfl) (hb hby d4_2) (fun _ _ => ⟨rfl, e0, (by decide : 0 + 0 ≤ _), (by decide : 0 + 0 ≤ _)⟩)
  dsimp only [Pt.U, Pt.locs, Pt.cells, Pt.slots] at X1 l1 y1 z1 st1 hQ1
  subst l1 y1 z1
  obtain ⟨rfl, N1q, e1⟩ := hQ1
  have N1 := Fr.app N0 N1q
  let Lb2 : Array Slot := #[.val (.ref (w 3)), .val (.int q1), .val (.int q2), .val (.int (1 : Int32))]
  obtain ⟨cq3, kq3, q3a, q3b, q3c⟩ := isOf hZ e1 ((wd7 hW).ext O0.2)
  obtain ⟨_, _, ⟨T3, L3, kk3, nn3⟩, -, X3, ⟨Lc3, hQ3, l3, y3, z3⟩, st3⟩ := X1.virtualBackUp hx (x := ym2) (y := ym1) hown (mvT hZ (wk13 hw)) (mvT hZ (wk14 hw)) (mvT hZ (wk15 hw)) (by decide) (mvT hZ (wk17 hw)) (mvT hZ (wk16 hw)) (backOf (W := 0) (rm3_23 l Z a0 hw w hW []  h0 n0 O0 ) hZ (wk19 hw) (wk18 hw) (by decide) (by decide)) q3a q3c (g := (mkF m 7 Lb2 [(.ref (w 3))])) rfl (by rw [hml]; rfl) (Steps.refl _) (argsL := []) (rest := []) (lenOf pds_1 rfl) rfl (by show 2 * 0 + _ ≤ _; exact Nat.le_of_eq rfl) (hb hby d4_7) (fun _ _ => ⟨rfl, e1, (by decide : 0 + 0 ≤ _), (by decide : 0 + 0 ≤ _)⟩)
  dsimp only [Pt.U, Pt.locs, Pt.cells, Pt.slots] at X3 l3 y3 z3 st3 hQ3
  subst l3 y3 z3
  obtain ⟨rfl, N3q, e3⟩ := hQ3
  have N3 := Fr.app N1 N3q
  obtain ⟨fs, hr, hrun, hended, hWm, hsame⟩ := X3.leave (v := some (.int (1 : Int32))) (fun h => by rw [Bd.returns] at h; cases h)
  refine ⟨_, _, pre0 _ ?_, hrun, hended, _, _, rfl, ?_, ⟨_, rfl⟩, hWm, hsame.mono (by decide) (by decide)⟩
  · show Steps p.tables e below (s₁.setTop (mkF m 0 La [])) _
    refine sI X0 hx hby d4_0 rfl ?_
    refine sI X0 hx hby d4_1 rfl ?_
    refine st1 _ ?_
    refine XS.istoreN X1.here hx rfl (hb hby d4_5) rfl (l' := Lb2) rfl ?_
    refine sA X1 hx hby d4_6 rfl rfl ?_
    refine st3.trans ?_
    refine XS.tswIn X3.here hx rfl (pc0 := 10) (pc' := 106) (o := 96) rfl (hb hby d4_10) rfl (by decide) (by decide) (by decide) (by decide) ?_
    refine sI X3 hx hby d4_106 rfl ?_
    refine sN X3 hx hby d4_107 (by decide) ?_
    refine sc X3 hx hby d4_110 ?_
    refine sg (pc := 111) (pc' := 127) X3 hx hby d4_111 (by decide) (by decide) ?_
    show Steps p.tables e below (T3.setTop (mkF m 127 Lb2 [(.int (1 : Int32))])) _
    exact retN X3 hx (t := .boolean) Bd.returns (by simp) (hb hby d4_127) hr
  · show Q4_24 Z w q1 q2 h0 n0 _ T3.heap _
    rw [e3]
    exact ⟨rfl, N3, rfl⟩
theorem d4_90 : decode prog_75_method_7_code 90 = .ok (.iconst 0, 1) := by decide +kernel
theorem d4_91 : decode prog_75_method_7_code 91 = .ok (.goto 36, 3) := by decide +kernel
theorem ef_4_25 (m : MethodId) (w : Nat → Addr) (q1 : Int32) (q2 : Int32) : entryFrame m #[(.ref (w 2)), (.int q1), (.int q2)] 4 = mkF m 0 #[.val (.ref (w 2)), .val (.int q1), .val (.int q2), .unset] [] := by first | (simp [entryFrame, mkF, argsToLocals, Value.category]; done) | rfl
def Q4_25 (Z : State) (w : Nat → Addr) (q1 : Int32) (q2 : Int32) (h0 : Heap) (n0 : Nat) (v : Option Value) (h : Heap) (L : List Loc) : Prop := v = some (.int (0 : Int32)) ∧ Fr n0 L ∧ h = h0
set_option maxRecDepth 65536 in
set_option maxHeartbeats 40000000 in
theorem rm4_25 (l : Launch) (Z : State) (a0 : Array Value) (hw : ∀ d ∈ tables_1, d.before a0 Z = true) (w : Nat → Addr) (hW : Wd Z w) (ws : List Jvm.Cond) (q1 : Int32) (q2 : Int32) (h0 : Heap) (n0 : Nat) (O0 : Old Z n0 h0) (c1 : ¬ (q1 < q2)) (c2 : ¬ (q1 = q2)) :
    MetFree l ym5 (head1 (Jvm.Cond.code ym5 prog_75_method_7_code 4 (some .boolean) :: ws) ({ frames := 1, cells := 0, slots := 0, locals := 13 } : Room)) (fun a U => a = #[(.ref (w 2)), (.int q1), (.int q2)] ∧ Z.Warmed39 U.vm ∧ U.heap = h0) (fun _ _ _ _ _ => True) (fun _ U o U' => ∃ v L, o = .returned v ∧ Q4_25 Z w q1 q2 h0 n0 v U'.heap L ∧ FrameEnd U o U' L ({ frames := 1, cells := 0, slots := 0, locals := 13 } : Room).cells ({ frames := 1, cells := 0, slots := 0, locals := 13 } : Room).slots) := by
  refine MetFree.of_bodySF (plainFor_of_name pnc_2) hisR ?_
  intro p e s m args below meth c s₁ Bd hml0 hP hK
  obtain ⟨rfl, hZ, hh⟩ := hP
  have hx := Bd.exec
  have hby := Bd.bytes
  have hml : c.maxLocals = 4 := hml0
  have hown : s.vm.findClass "com/example/gofyn/gofyn/typed/Term$Operator" = some m.cls := findClass_of_methodNamed Bd.named
  have hnm := (name_of_methodNamed Bd.named Bd.method).1
  have X0 : Stand p l e ({ frames := 1, cells := 0, slots := 0, locals := 13 } : Room) s m #[(.ref (w 2)), (.int q1), (.int q2)] below meth c s₁ [] 0 0 := Stand.of_body Bd
  have e0 : s₁.heap = h0 := by rw [← hh, Bd.state]; rfl
  have N0 := Fr.nil n0
  let La : Array Slot := #[.val (.ref (w 2)), .val (.int q1), .val (.int q2), .unset]
  have pre0 : ∀ t, Steps p.tables e below (s₁.setTop (mkF m 0 #[.val (.ref (w 2)), .val (.int q1), .val (.int q2), .unset] [])) t → Steps p.tables e below (s₁.setTop (entryFrame m #[(.ref (w 2)), (.int q1), (.int q2)] 4)) t := fun t k => castTop (ef_4_25 m w q1 q2) k
  obtain ⟨_, _, ⟨T1, L1, kk1, nn1⟩, -, X1, ⟨Lc1, hQ1, l1, y1, z1⟩, st1⟩ := Jvm.LawKit.callS X0 hx (y := ym4) hown (mvT hZ (wk27 hw)) (mvT hZ (wk28 hw)) (mvT hZ (wk29 hw)) (mvT hZ (wk30 hw)) (by decide) (backOf (W := 0) (rm5_6 l Z a0 hw w hW [] q1 q2 h0 n0 O0 c1 c2) hZ (wk30 hw) (wk29 hw) (by decide) (by decide)) (g := (mkF m 2 La [(.int q2), (.int q1)])) rfl (by rw [hml]; rfl) (argsL := [(.int q1), (.int q2)]) (rest := []) (lenOf pds_3 rfl) rfl (by show 2 * 0 + _ ≤ _; exact Nat.le_of_eq rfl) (hb hby d4_2) (fun _ _ => ⟨rfl, e0, (by decide : 0 + 0 ≤ _), (by decide : 0 + 0 ≤ _)⟩)
  dsimp only [Pt.U, Pt.locs, Pt.cells, Pt.slots] at X1 l1 y1 z1 st1 hQ1
  subst l1 y1 z1
  obtain ⟨rfl, N1q, e1⟩ := hQ1
  have N1 := Fr.app N0 N1q
  let Lb2 : Array Slot := #[.val (.ref (w 2)), .val (.int q1), .val (.int q2), .val (.int (1 : Int32))]
  obtain ⟨cq3, kq3, q3a, q3b, q3c⟩ := isOf hZ e1 ((wd5 hW).ext O0.2)
  obtain ⟨_, _, ⟨T3, L3, kk3, nn3⟩, -, X3, ⟨Lc3, hQ3, l3, y3, z3⟩, st3⟩ := X1.virtualBackUp hx (x := ym2) (y := ym1) hown (mvT hZ (wk13 hw)) (mvT hZ (wk14 hw)) (mvT hZ (wk15 hw)) (by decide) (mvT hZ (wk17 hw)) (mvT hZ (wk16 hw)) (backOf (W := 0) (rm3_20 l Z a0 hw w hW []  h0 n0 O0 ) hZ (wk19 hw) (wk18 hw) (by decide) (by decide)) q3a q3c (g := (mkF m 7 Lb2 [(.ref (w 2))])) rfl (by rw [hml]; rfl) (Steps.refl _) (argsL := []) (rest := []) (lenOf pds_1 rfl) rfl (by show 2 * 0 + _ ≤ _; exact Nat.le_of_eq rfl) (hb hby d4_7) (fun _ _ => ⟨rfl, e1, (by decide : 0 + 0 ≤ _), (by decide : 0 + 0 ≤ _)⟩)
  dsimp only [Pt.U, Pt.locs, Pt.cells, Pt.slots] at X3 l3 y3 z3 st3 hQ3
  subst l3 y3 z3
  obtain ⟨rfl, N3q, e3⟩ := hQ3
  have N3 := Fr.app N1 N3q
  obtain ⟨fs, hr, hrun, hended, hWm, hsame⟩ := X3.leave (v := some (.int (0 : Int32))) (fun h => by rw [Bd.returns] at h; cases h)
  refine ⟨_, _, pre0 _ ?_, hrun, hended, _, _, rfl, ?_, ⟨_, rfl⟩, hWm, hsame.mono (by decide) (by decide)⟩
  · show Steps p.tables e below (s₁.setTop (mkF m 0 La [])) _
    refine sI X0 hx hby d4_0 rfl ?_
    refine sI X0 hx hby d4_1 rfl ?_
    refine st1 _ ?_
    refine XS.istoreN X1.here hx rfl (hb hby d4_5) rfl (l' := Lb2) rfl ?_
    refine sA X1 hx hby d4_6 rfl rfl ?_
    refine st3.trans ?_
    refine XS.tswIn X3.here hx rfl (pc0 := 10) (pc' := 82) (o := 72) rfl (hb hby d4_10) rfl (by decide) (by decide) (by decide) (by decide) ?_
    refine sI X3 hx hby d4_82 rfl ?_
    refine XS.ifYes X3.here hx rfl (pc0 := 83) (pc' := 90) rfl (hb hby d4_83) rfl (by decide) (by decide) (by decide) ?_
    refine sc X3 hx hby d4_90 ?_
    refine sg (pc := 91) (pc' := 127) X3 hx hby d4_91 (by decide) (by decide) ?_
    show Steps p.tables e below (T3.setTop (mkF m 127 Lb2 [(.int (0 : Int32))])) _
    exact retN X3 hx (t := .boolean) Bd.returns (by simp) (hb hby d4_127) hr
  · show Q4_25 Z w q1 q2 h0 n0 _ T3.heap _
    rw [e3]
    exact ⟨rfl, N3, rfl⟩
theorem d4_114 : decode prog_75_method_7_code 114 = .ok (.iconst 0, 1) := by decide +kernel
theorem d4_115 : decode prog_75_method_7_code 115 = .ok (.goto 12, 3) := by decide +kernel
theorem ef_4_26 (m : MethodId) (w : Nat → Addr) (q1 : Int32) (q2 : Int32) : entryFrame m #[(.ref (w 3)), (.int q1), (.int q2)] 4 = mkF m 0 #[.val (.ref (w 3)), .val (.int q1), .val (.int q2), .unset] [] := by first | (simp [entryFrame, mkF, argsToLocals, Value.category]; done) | rfl
def Q4_26 (Z : State) (w : Nat → Addr) (q1 : Int32) (q2 : Int32) (h0 : Heap) (n0 : Nat) (v : Option Value) (h : Heap) (L : List Loc) : Prop := v = some (.int (0 : Int32)) ∧ Fr n0 L ∧ h = h0
set_option maxRecDepth 65536 in
set_option maxHeartbeats 40000000 in
theorem rm4_26 (l : Launch) (Z : State) (a0 : Array Value) (hw : ∀ d ∈ tables_1, d.before a0 Z = true) (w : Nat → Addr) (hW : Wd Z w) (ws : List Jvm.Cond) (q1 : Int32) (q2 : Int32) (h0 : Heap) (n0 : Nat) (O0 : Old Z n0 h0) (c1 : q1 < q2) :
    MetFree l ym5 (head1 (Jvm.Cond.code ym5 prog_75_method_7_code 4 (some .boolean) :: ws) ({ frames := 1, cells := 0, slots := 0, locals := 13 } : Room)) (fun a U => a = #[(.ref (w 3)), (.int q1), (.int q2)] ∧ Z.Warmed39 U.vm ∧ U.heap = h0) (fun _ _ _ _ _ => True) (fun _ U o U' => ∃ v L, o = .returned v ∧ Q4_26 Z w q1 q2 h0 n0 v U'.heap L ∧ FrameEnd U o U' L ({ frames := 1, cells := 0, slots := 0, locals := 13 } : Room).cells ({ frames := 1, cells := 0, slots := 0, locals := 13 } : Room).slots) := by
  refine MetFree.of_bodySF (plainFor_of_name pnc_2) hisR ?_
  intro p e s m args below meth c s₁ Bd hml0 hP hK
  obtain ⟨rfl, hZ, hh⟩ := hP
  have hx := Bd.exec
  have hby := Bd.bytes
  have hml : c.maxLocals = 4 := hml0
  have hown : s.vm.findClass "com/example/gofyn/gofyn/typed/Term$Operator" = some m.cls := findClass_of_methodNamed Bd.named
  have hnm := (name_of_methodNamed Bd.named Bd.method).1
  have X0 : Stand p l e ({ frames := 1, cells := 0, slots := 0, locals := 13 } : Room) s m #[(.ref (w 3)), (.int q1), (.int q2)] below meth c s₁ [] 0 0 := Stand.of_body Bd
  have e0 : s₁.heap = h0 := by rw [← hh, Bd.state]; rfl
  have N0 := Fr.nil n0
  let La : Array Slot := #[.val (.ref (w 3)), .val (.int q1), .val (.int q2), .unset]
  have pre0 : ∀ t, Steps p.tables e below (s₁.setTop (mkF m 0 #[.val (.ref (w 3)), .val (.int q1), .val (.int q2), .unset] [])) t → Steps p.tables e below (s₁.setTop (entryFrame m #[(.ref (w 3)), (.int q1), (.int q2)] 4)) t := fun t k => castTop (ef_4_26 m w q1 q2) k
  obtain ⟨_, _, ⟨T1, L1, kk1, nn1⟩, -, X1, ⟨Lc1, hQ1, l1, y1, z1⟩, st1⟩ := Jvm.LawKit.callS X0 hx (y := ym4) hown (mvT hZ (wk27 hw)) (mvT hZ (wk28 hw)) (mvT hZ (wk29 hw)) (mvT hZ (wk30 hw)) (by decide) (backOf (W := 0) (rm5_4 l Z a0 hw w hW [] q1 q2 h0 n0 O0 c1) hZ (wk30 hw) (wk29 hw) (by decide) (by decide)) (g := (mkF m 2 La [(.int q2), (.int q1)])) rfl (by rw [hml]; rfl) (argsL := [(.int q1), (.int q2)]) (rest := []) (lenOf pds_3 rfl) rfl (by show 2 * 0 + _ ≤ _; exact Nat.le_of_eq rfl) (hb hby d4_2) (fun _ _ => ⟨rfl, e0, (by decide : 0 + 0 ≤ _), (by decide : 0 + 0 ≤ _)⟩)
  dsimp only [Pt.U, Pt.locs, Pt.cells, Pt.slots] at X1 l1 y1 z1 st1 hQ1
  subst l1 y1 z1
  obtain ⟨rfl, N1q, e1⟩ := hQ1
  have N1 := Fr.app N0 N1q
  let Lb2 : Array Slot := #[.val (.ref (w 3)), .val (.int q1), .val (.int q2), .val (.int (-1 : Int32))]
  obtain ⟨cq3, kq3, q3a, q3b, q3c⟩ := isOf hZ e1 ((wd7 hW).ext O0.2)
  obtain ⟨_, _, ⟨T3, L3, kk3, nn3⟩, -, X3, ⟨Lc3, hQ3, l3, y3, z3⟩, st3⟩ := X1.virtualBackUp hx (x := ym2) (y := ym1) hown (mvT hZ (wk13 hw)) (mvT hZ (wk14 hw)) (mvT hZ (wk15 hw)) (by decide) (mvT hZ (wk17 hw)) (mvT hZ (wk16 hw)) (backOf (W := 0) (rm3_23 l Z a0 hw w hW []  h0 n0 O0 ) hZ (wk19 hw) (wk18 hw) (by decide) (by decide)) q3a q3c (g := (mkF m 7 Lb2 [(.ref (w 3))])) rfl (by rw [hml]; rfl) (Steps.refl _) (argsL := []) (rest := []) (lenOf pds_1 rfl) rfl (by show 2 * 0 + _ ≤ _; exact Nat.le_of_eq rfl) (hb hby d4_7) (fun _ _ => ⟨rfl, e1, (by decide : 0 + 0 ≤ _), (by decide : 0 + 0 ≤ _)⟩)
  dsimp only [Pt.U, Pt.locs, Pt.cells, Pt.slots] at X3 l3 y3 z3 st3 hQ3
  subst l3 y3 z3
  obtain ⟨rfl, N3q, e3⟩ := hQ3
  have N3 := Fr.app N1 N3q
  obtain ⟨fs, hr, hrun, hended, hWm, hsame⟩ := X3.leave (v := some (.int (0 : Int32))) (fun h => by rw [Bd.returns] at h; cases h)
  refine ⟨_, _, pre0 _ ?_, hrun, hended, _, _, rfl, ?_, ⟨_, rfl⟩, hWm, hsame.mono (by decide) (by decide)⟩
  · show Steps p.tables e below (s₁.setTop (mkF m 0 La [])) _
    refine sI X0 hx hby d4_0 rfl ?_
    refine sI X0 hx hby d4_1 rfl ?_
    refine st1 _ ?_
    refine XS.istoreN X1.here hx rfl (hb hby d4_5) rfl (l' := Lb2) rfl ?_
    refine sA X1 hx hby d4_6 rfl rfl ?_
    refine st3.trans ?_
    refine XS.tswIn X3.here hx rfl (pc0 := 10) (pc' := 106) (o := 96) rfl (hb hby d4_10) rfl (by decide) (by decide) (by decide) (by decide) ?_
    refine sI X3 hx hby d4_106 rfl ?_
    refine XS.ifYes X3.here hx rfl (pc0 := 107) (pc' := 114) rfl (hb hby d4_107) rfl (by decide) (by decide) (by decide) ?_
    refine sc X3 hx hby d4_114 ?_
    refine sg (pc := 115) (pc' := 127) X3 hx hby d4_115 (by decide) (by decide) ?_
    show Steps p.tables e below (T3.setTop (mkF m 127 Lb2 [(.int (0 : Int32))])) _
    exact retN X3 hx (t := .boolean) Bd.returns (by simp) (hb hby d4_127) hr
  · show Q4_26 Z w q1 q2 h0 n0 _ T3.heap _
    rw [e3]
    exact ⟨rfl, N3, rfl⟩
theorem ef_4_27 (m : MethodId) (w : Nat → Addr) (q1 : Int32) : entryFrame m #[(.ref (w 2)), (.int q1), (.int q1)] 4 = mkF m 0 #[.val (.ref (w 2)), .val (.int q1), .val (.int q1), .unset] [] := by first | (simp [entryFrame, mkF, argsToLocals, Value.category]; done) | rfl
def Q4_27 (Z : State) (w : Nat → Addr) (q1 : Int32) (h0 : Heap) (n0 : Nat) (v : Option Value) (h : Heap) (L : List Loc) : Prop := v = some (.int (0 : Int32)) ∧ Fr n0 L ∧ h = h0
set_option maxRecDepth 65536 in
set_option maxHeartbeats 40000000 in
theorem rm4_27 (l : Launch) (Z : State) (a0 : Array Value) (hw : ∀ d ∈ tables_1, d.before a0 Z = true) (w : Nat → Addr) (hW : Wd Z w) (ws : List Jvm.Cond) (q1 : Int32) (h0 : Heap) (n0 : Nat) (O0 : Old Z n0 h0) :
    MetFree l ym5 (head1 (Jvm.Cond.code ym5 prog_75_method_7_code 4 (some .boolean) :: ws) ({ frames := 1, cells := 0, slots := 0, locals := 13 } : Room)) (fun a U => a = #[(.ref (w 2)), (.int q1), (.int q1)] ∧ Z.Warmed39 U.vm ∧ U.heap = h0) (fun _ _ _ _ _ => True) (fun _ U o U' => ∃ v L, o = .returned v ∧ Q4_27 Z w q1 h0 n0 v U'.heap L ∧ FrameEnd U o U' L ({ frames := 1, cells := 0, slots := 0, locals := 13 } : Room).cells ({ frames := 1, cells := 0, slots := 0, locals := 13 } : Room).slots) := by
  refine MetFree.of_bodySF (plainFor_of_name pnc_2) hisR ?_
  intro p e s m args below meth c s₁ Bd hml0 hP hK
  obtain ⟨rfl, hZ, hh⟩ := hP
  have hx := Bd.exec
  have hby := Bd.bytes
  have hml : c.maxLocals = 4 := hml0
  have hown : s.vm.findClass "com/example/gofyn/gofyn/typed/Term$Operator" = some m.cls := findClass_of_methodNamed Bd.named
  have hnm := (name_of_methodNamed Bd.named Bd.method).1
  have X0 : Stand p l e ({ frames := 1, cells := 0, slots := 0, locals := 13 } : Room) s m #[(.ref (w 2)), (.int q1), (.int q1)] below meth c s₁ [] 0 0 := Stand.of_body Bd
  have e0 : s₁.heap = h0 := by rw [← hh, Bd.state]; rfl
  have N0 := Fr.nil n0
  let La : Array Slot := #[.val (.ref (w 2)), .val (.int q1), .val (.int q1), .unset]
  have pre0 : ∀ t, Steps p.tables e below (s₁.setTop (mkF m 0 #[.val (.ref (w 2)), .val (.int q1), .val (.int q1), .unset] [])) t → Steps p.tables e below (s₁.setTop (entryFrame m #[(.ref (w 2)), (.int q1), (.int q1)] 4)) t := fun t k => castTop (ef_4_27 m w q1) k
  obtain ⟨_, _, ⟨T1, L1, kk1, nn1⟩, -, X1, ⟨Lc1, hQ1, l1, y1, z1⟩, st1⟩ := Jvm.LawKit.callS X0 hx (y := ym4) hown (mvT hZ (wk27 hw)) (mvT hZ (wk28 hw)) (mvT hZ (wk29 hw)) (mvT hZ (wk30 hw)) (by decide) (backOf (W := 0) (rm5_8 l Z a0 hw w hW [] q1 h0 n0 O0 ) hZ (wk30 hw) (wk29 hw) (by decide) (by decide)) (g := (mkF m 2 La [(.int q1), (.int q1)])) rfl (by rw [hml]; rfl) (argsL := [(.int q1), (.int q1)]) (rest := []) (lenOf pds_3 rfl) rfl (by show 2 * 0 + _ ≤ _; exact Nat.le_of_eq rfl) (hb hby d4_2) (fun _ _ => ⟨rfl, e0, (by decide : 0 + 0 ≤ _), (by decide : 0 + 0 ≤ _)⟩)
  dsimp only [Pt.U, Pt.locs, Pt.cells, Pt.slots] at X1 l1 y1 z1 st1 hQ1
  subst l1 y1 z1
  obtain ⟨rfl, N1q, e1⟩ := hQ1
  have N1 := Fr.app N0 N1q
  let Lb2 : Array Slot := #[.val (.ref (w 2)), .val (.int q1), .val (.int q1), .val (.int (0 : Int32))]
  obtain ⟨cq3, kq3, q3a, q3b, q3c⟩ := isOf hZ e1 ((wd5 hW).ext O0.2)
  obtain ⟨_, _, ⟨T3, L3, kk3, nn3⟩, -, X3, ⟨Lc3, hQ3, l3, y3, z3⟩, st3⟩ := X1.virtualBackUp hx (x := ym2) (y := ym1) hown (mvT hZ (wk13 hw)) (mvT hZ (wk14 hw)) (mvT hZ (wk15 hw)) (by decide) (mvT hZ (wk17 hw)) (mvT hZ (wk16 hw)) (backOf (W := 0) (rm3_20 l Z a0 hw w hW []  h0 n0 O0 ) hZ (wk19 hw) (wk18 hw) (by decide) (by decide)) q3a q3c (g := (mkF m 7 Lb2 [(.ref (w 2))])) rfl (by rw [hml]; rfl) (Steps.refl _) (argsL := []) (rest := []) (lenOf pds_1 rfl) rfl (by show 2 * 0 + _ ≤ _; exact Nat.le_of_eq rfl) (hb hby d4_7) (fun _ _ => ⟨rfl, e1, (by decide : 0 + 0 ≤ _), (by decide : 0 + 0 ≤ _)⟩)
  dsimp only [Pt.U, Pt.locs, Pt.cells, Pt.slots] at X3 l3 y3 z3 st3 hQ3
  subst l3 y3 z3
  obtain ⟨rfl, N3q, e3⟩ := hQ3
  have N3 := Fr.app N1 N3q
  obtain ⟨fs, hr, hrun, hended, hWm, hsame⟩ := X3.leave (v := some (.int (0 : Int32))) (fun h => by rw [Bd.returns] at h; cases h)
  refine ⟨_, _, pre0 _ ?_, hrun, hended, _, _, rfl, ?_, ⟨_, rfl⟩, hWm, hsame.mono (by decide) (by decide)⟩
  · show Steps p.tables e below (s₁.setTop (mkF m 0 La [])) _
    refine sI X0 hx hby d4_0 rfl ?_
    refine sI X0 hx hby d4_1 rfl ?_
    refine st1 _ ?_
    refine XS.istoreN X1.here hx rfl (hb hby d4_5) rfl (l' := Lb2) rfl ?_
    refine sA X1 hx hby d4_6 rfl rfl ?_
    refine st3.trans ?_
    refine XS.tswIn X3.here hx rfl (pc0 := 10) (pc' := 82) (o := 72) rfl (hb hby d4_10) rfl (by decide) (by decide) (by decide) (by decide) ?_
    refine sI X3 hx hby d4_82 rfl ?_
    refine XS.ifYes X3.here hx rfl (pc0 := 83) (pc' := 90) rfl (hb hby d4_83) rfl (by decide) (by decide) (by decide) ?_
    refine sc X3 hx hby d4_90 ?_
    refine sg (pc := 91) (pc' := 127) X3 hx hby d4_91 (by decide) (by decide) ?_
    show Steps p.tables e below (T3.setTop (mkF m 127 Lb2 [(.int (0 : Int32))])) _
    exact retN X3 hx (t := .boolean) Bd.returns (by simp) (hb hby d4_127) hr
  · show Q4_27 Z w q1 h0 n0 _ T3.heap _
    rw [e3]
    exact ⟨rfl, N3, rfl⟩
theorem ef_4_28 (m : MethodId) (w : Nat → Addr) (q1 : Int32) : entryFrame m #[(.ref (w 3)), (.int q1), (.int q1)] 4 = mkF m 0 #[.val (.ref (w 3)), .val (.int q1), .val (.int q1), .unset] [] := by first | (simp [entryFrame, mkF, argsToLocals, Value.category]; done) | rfl
def Q4_28 (Z : State) (w : Nat → Addr) (q1 : Int32) (h0 : Heap) (n0 : Nat) (v : Option Value) (h : Heap) (L : List Loc) : Prop := v = some (.int (0 : Int32)) ∧ Fr n0 L ∧ h = h0
set_option maxRecDepth 65536 in
set_option maxHeartbeats 40000000 in
theorem rm4_28 (l : Launch) (Z : State) (a0 : Array Value) (hw : ∀ d ∈ tables_1, d.before a0 Z = true) (w : Nat → Addr) (hW : Wd Z w) (ws : List Jvm.Cond) (q1 : Int32) (h0 : Heap) (n0 : Nat) (O0 : Old Z n0 h0) :
    MetFree l ym5 (head1 (Jvm.Cond.code ym5 prog_75_method_7_code 4 (some .boolean) :: ws) ({ frames := 1, cells := 0, slots := 0, locals := 13 } : Room)) (fun a U => a = #[(.ref (w 3)), (.int q1), (.int q1)] ∧ Z.Warmed39 U.vm ∧ U.heap = h0) (fun _ _ _ _ _ => True) (fun _ U o U' => ∃ v L, o = .returned v ∧ Q4_28 Z w q1 h0 n0 v U'.heap L ∧ FrameEnd U o U' L ({ frames := 1, cells := 0, slots := 0, locals := 13 } : Room).cells ({ frames := 1, cells := 0, slots := 0, locals := 13 } : Room).slots) := by
  refine MetFree.of_bodySF (plainFor_of_name pnc_2) hisR ?_
  intro p e s m args below meth c s₁ Bd hml0 hP hK
  obtain ⟨rfl, hZ, hh⟩ := hP
  have hx := Bd.exec
  have hby := Bd.bytes
  have hml : c.maxLocals = 4 := hml0
  have hown : s.vm.findClass "com/example/gofyn/gofyn/typed/Term$Operator" = some m.cls := findClass_of_methodNamed Bd.named
  have hnm := (name_of_methodNamed Bd.named Bd.method).1
  have X0 : Stand p l e ({ frames := 1, cells := 0, slots := 0, locals := 13 } : Room) s m #[(.ref (w 3)), (.int q1), (.int q1)] below meth c s₁ [] 0 0 := Stand.of_body Bd
  have e0 : s₁.heap = h0 := by rw [← hh, Bd.state]; rfl
  have N0 := Fr.nil n0
  let La : Array Slot := #[.val (.ref (w 3)), .val (.int q1), .val (.int q1), .unset]
  have pre0 : ∀ t, Steps p.tables e below (s₁.setTop (mkF m 0 #[.val (.ref (w 3)), .val (.int q1), .val (.int q1), .unset] [])) t → Steps p.tables e below (s₁.setTop (entryFrame m #[(.ref (w 3)), (.int q1), (.int q1)] 4)) t := fun t k => castTop (ef_4_28 m w q1) k
  obtain ⟨_, _, ⟨T1, L1, kk1, nn1⟩, -, X1, ⟨Lc1, hQ1, l1, y1, z1⟩, st1⟩ := Jvm.LawKit.callS X0 hx (y := ym4) hown (mvT hZ (wk27 hw)) (mvT hZ (wk28 hw)) (mvT hZ (wk29 hw)) (mvT hZ (wk30 hw)) (by decide) (backOf (W := 0) (rm5_8 l Z a0 hw w hW [] q1 h0 n0 O0 ) hZ (wk30 hw) (wk29 hw) (by decide) (by decide)) (g := (mkF m 2 La [(.int q1), (.int q1)])) rfl (by rw [hml]; rfl) (argsL := [(.int q1), (.int q1)]) (rest := []) (lenOf pds_3 rfl) rfl (by show 2 * 0 + _ ≤ _; exact Nat.le_of_eq rfl) (hb hby d4_2) (fun _ _ => ⟨rfl, e0, (by decide : 0 + 0 ≤ _), (by decide : 0 + 0 ≤ _)⟩)
  dsimp only [Pt.U, Pt.locs, Pt.cells, Pt.slots] at X1 l1 y1 z1 st1 hQ1
  subst l1 y1 z1
  obtain ⟨rfl, N1q, e1⟩ := hQ1
  have N1 := Fr.app N0 N1q
  let Lb2 : Array Slot := #[.val (.ref (w 3)), .val (.int q1), .val (.int q1), .val (.int (0 : Int32))]
  obtain ⟨cq3, kq3, q3a, q3b, q3c⟩ := isOf hZ e1 ((wd7 hW).ext O0.2)
  obtain ⟨_, _, ⟨T3, L3, kk3, nn3⟩, -, X3, ⟨Lc3, hQ3, l3, y3, z3⟩, st3⟩ := X1.virtualBackUp hx (x := ym2) (y := ym1) hown (mvT hZ (wk13 hw)) (mvT hZ (wk14 hw)) (mvT hZ (wk15 hw)) (by decide) (mvT hZ (wk17 hw)) (mvT hZ (wk16 hw)) (backOf (W := 0) (rm3_23 l Z a0 hw w hW []  h0 n0 O0 ) hZ (wk19 hw) (wk18 hw) (by decide) (by decide)) q3a q3c (g := (mkF m 7 Lb2 [(.ref (w 3))])) rfl (by rw [hml]; rfl) (Steps.refl _) (argsL := []) (rest := []) (lenOf pds_1 rfl) rfl (by show 2 * 0 + _ ≤ _; exact Nat.le_of_eq rfl) (hb hby d4_7) (fun _ _ => ⟨rfl, e1, (by decide : 0 + 0 ≤ _), (by decide : 0 + 0 ≤ _)⟩)
  dsimp only [Pt.U, Pt.locs, Pt.cells, Pt.slots] at X3 l3 y3 z3 st3 hQ3
  subst l3 y3 z3
  obtain ⟨rfl, N3q, e3⟩ := hQ3
  have N3 := Fr.app N1 N3q
  obtain ⟨fs, hr, hrun, hended, hWm, hsame⟩ := X3.leave (v := some (.int (0 : Int32))) (fun h => by rw [Bd.returns] at h; cases h)
  refine ⟨_, _, pre0 _ ?_, hrun, hended, _, _, rfl, ?_, ⟨_, rfl⟩, hWm, hsame.mono (by decide) (by decide)⟩
  · show Steps p.tables e below (s₁.setTop (mkF m 0 La [])) _
    refine sI X0 hx hby d4_0 rfl ?_
    refine sI X0 hx hby d4_1 rfl ?_
    refine st1 _ ?_
    refine XS.istoreN X1.here hx rfl (hb hby d4_5) rfl (l' := Lb2) rfl ?_
    refine sA X1 hx hby d4_6 rfl rfl ?_
    refine st3.trans ?_
    refine XS.tswIn X3.here hx rfl (pc0 := 10) (pc' := 106) (o := 96) rfl (hb hby d4_10) rfl (by decide) (by decide) (by decide) (by decide) ?_
    refine sI X3 hx hby d4_106 rfl ?_
    refine XS.ifYes X3.here hx rfl (pc0 := 107) (pc' := 114) rfl (hb hby d4_107) rfl (by decide) (by decide) (by decide) ?_
    refine sc X3 hx hby d4_114 ?_
    refine sg (pc := 115) (pc' := 127) X3 hx hby d4_115 (by decide) (by decide) ?_
    show Steps p.tables e below (T3.setTop (mkF m 127 Lb2 [(.int (0 : Int32))])) _
    exact retN X3 hx (t := .boolean) Bd.returns (by simp) (hb hby d4_127) hr
  · show Q4_28 Z w q1 h0 n0 _ T3.heap _
    rw [e3]
    exact ⟨rfl, N3, rfl⟩
theorem d2_70 : decode prog_75_method_6_code 70 = .ok (.getstatic 10, 3) := by decide +kernel
theorem d2_73 : decode prog_75_method_6_code 73 = .ok (.goto 6, 3) := by decide +kernel
theorem ef_2_29 (m : MethodId) (w : Nat → Addr) : entryFrame m #[(.ref (w 3))] 1 = mkF m 0 #[.val (.ref (w 3))] [] := by first | (simp [entryFrame, mkF, argsToLocals, Value.category]; done) | rfl
def Q2_29 (Z : State) (w : Nat → Addr) (h0 : Heap) (n0 : Nat) (v : Option Value) (h : Heap) (L : List Loc) : Prop := v = some (.ref (w 2)) ∧ Fr n0 L ∧ h = h0
set_option maxRecDepth 65536 in
set_option maxHeartbeats 40000000 in
theorem rm2_29 (l : Launch) (Z : State) (a0 : Array Value) (hw : ∀ d ∈ tables_1, d.before a0 Z = true) (w : Nat → Addr) (hW : Wd Z w) (ws : List Jvm.Cond) (h0 : Heap) (n0 : Nat) (O0 : Old Z n0 h0) :
    MetFree l ym3 (head1 (Jvm.Cond.code ym3 prog_75_method_6_code 1 (some (.object "com/example/gofyn/gofyn/typed/Term$Operator")) :: ws) ({ frames := 1, cells := 0, slots := 0, locals := 12 } : Room)) (fun a U => a = #[(.ref (w 3))] ∧ Z.Warmed39 U.vm ∧ U.heap = h0) (fun _ _ _ _ _ => True) (fun _ U o U' => ∃ v L, o = .returned v ∧ Q2_29 Z w h0 n0 v U'.heap L ∧ FrameEnd U o U' L ({ frames := 1, cells := 0, slots := 0, locals := 12 } : Room).cells ({ frames := 1, cells := 0, slots := 0, locals := 12 } : Room).slots) := by
  refine MetFree.of_bodySF (plainFor_of_name pnc_2) hisR ?_
  intro p e s m args below meth c s₁ Bd hml0 hP hK
  obtain ⟨rfl, hZ, hh⟩ := hP
  have hx := Bd.exec
  have hby := Bd.bytes
  have hml : c.maxLocals = 1 := hml0
  have hown : s.vm.findClass "com/example/gofyn/gofyn/typed/Term$Operator" = some m.cls := findClass_of_methodNamed Bd.named
  have hnm := (name_of_methodNamed Bd.named Bd.method).1
  have X0 : Stand p l e ({ frames := 1, cells := 0, slots := 0, locals := 12 } : Room) s m #[(.ref (w 3))] below meth c s₁ [] 0 0 := Stand.of_body Bd
  have e0 : s₁.heap = h0 := by rw [← hh, Bd.state]; rfl
  have N0 := Fr.nil n0
  skip
  have pre0 : ∀ t, Steps p.tables e below (s₁.setTop (mkF m 0 #[.val (.ref (w 3))] [])) t → Steps p.tables e below (s₁.setTop (entryFrame m #[(.ref (w 3))] 1)) t := fun t k => castTop (ef_2_29 m w) k
  obtain ⟨cq1, kq1, q1a, q1b, q1c⟩ := isOf hZ e0 ((wd7 hW).ext O0.2)
  obtain ⟨_, _, ⟨T1, L1, kk1, nn1⟩, -, X1, ⟨Lc1, hQ1, l1, y1, z1⟩, st1⟩ := X0.virtualBackUp hx (x := ym2) (y := ym1) hown (mvT hZ (wk13 hw)) (mvT hZ (wk14 hw)) (mvT hZ (wk15 hw)) (by decide) (mvT hZ (wk17 hw)) (mvT hZ (wk16 hw)) (backOf (W := 0) (rm3_23 l Z a0 hw w hW []  h0 n0 O0 ) hZ (wk19 hw) (wk18 hw) (by decide) (by decide)) q1a q1c (g := (mkF m 1 #[.val (.ref (w 3))] [(.ref (w 3))])) rfl (by rw [hml]; rfl) (Steps.refl _) (argsL := []) (rest := []) (lenOf pds_1 rfl) rfl (by show 2 * 0 + _ ≤ _; exact Nat.le_of_eq rfl) (hb hby d2_1) (fun _ _ => ⟨rfl, e0, (by decide : 0 + 0 ≤ _), (by decide : 0 + 0 ≤ _)⟩)
  dsimp only [Pt.U, Pt.locs, Pt.cells, Pt.slots] at X1 l1 y1 z1 st1 hQ1
  subst l1 y1 z1
  obtain ⟨rfl, N1q, e1⟩ := hQ1
  have N1 := Fr.app N0 N1q
  obtain ⟨T2, X2, e2, st2⟩ := getS2 X1 hx hZ hown (host := "") (Or.inl (wk37 hw)) Via.refl e1 ((wd4 hW).ext O0.2) (g := (mkF m 70 #[.val (.ref (w 3))] [])) rfl (hb hby d2_70)
  obtain ⟨fs, hr, hrun, hended, hWm, hsame⟩ := X2.leave (v := some (.ref (w 2))) (fun h => by rw [Bd.returns] at h; cases h)
  refine ⟨_, _, pre0 _ ?_, hrun, hended, _, _, rfl, ?_, ⟨_, rfl⟩, hWm, hsame.mono (by decide) (by decide)⟩
  · show Steps p.tables e below (s₁.setTop (mkF m 0 #[.val (.ref (w 3))] [])) _
    refine sA X0 hx hby d2_0 rfl rfl ?_
    refine st1.trans ?_
    refine XS.tswIn X1.here hx rfl (pc0 := 4) (pc' := 70) (o := 66) rfl (hb hby d2_4) rfl (by decide) (by decide) (by decide) (by decide) ?_
    refine st2 _ ?_
    refine sg (pc := 73) (pc' := 79) X2 hx hby d2_73 (by decide) (by decide) ?_
    jvm_step X2.here [X2.here.top, hx, (hb hby d2_79), X2.method', Bd.returns, Value.isRef, FieldType.isReference]
    first | (intro acts; rw [hr _ acts rfl rfl rfl]) | rw [hr _ _ rfl rfl rfl]
    exact Steps.refl _
  · show Q2_29 Z w h0 n0 _ T2.heap _
    rw [e2]
    exact ⟨rfl, N1, rfl⟩
theorem ef_4_30 (m : MethodId) (w : Nat → Addr) (q1 : Int32) (q2 : Int32) : entryFrame m #[(.ref (w 2)), (.int q1), (.int q2)] 4 = mkF m 0 #[.val (.ref (w 2)), .val (.int q1), .val (.int q2), .unset] [] := by first | (simp [entryFrame, mkF, argsToLocals, Value.category]; done) | rfl
def Q4_30 (Z : State) (w : Nat → Addr) (q1 : Int32) (q2 : Int32) (h0 : Heap) (n0 : Nat) (v : Option Value) (h : Heap) (L : List Loc) : Prop := v = some (.int (0 : Int32)) ∧ Fr n0 L ∧ h = h0
set_option maxRecDepth 65536 in
set_option maxHeartbeats 40000000 in
theorem rm4_30 (l : Launch) (Z : State) (a0 : Array Value) (hw : ∀ d ∈ tables_1, d.before a0 Z = true) (w : Nat → Addr) (hW : Wd Z w) (ws : List Jvm.Cond) (q1 : Int32) (q2 : Int32) (h0 : Heap) (n0 : Nat) (O0 : Old Z n0 h0) (c1 : ¬ (q1 < q2)) (c2 : q1 = q2) :
    MetFree l ym5 (head1 (Jvm.Cond.code ym5 prog_75_method_7_code 4 (some .boolean) :: ws) ({ frames := 1, cells := 0, slots := 0, locals := 13 } : Room)) (fun a U => a = #[(.ref (w 2)), (.int q1), (.int q2)] ∧ Z.Warmed39 U.vm ∧ U.heap = h0) (fun _ _ _ _ _ => True) (fun _ U o U' => ∃ v L, o = .returned v ∧ Q4_30 Z w q1 q2 h0 n0 v U'.heap L ∧ FrameEnd U o U' L ({ frames := 1, cells := 0, slots := 0, locals := 13 } : Room).cells ({ frames := 1, cells := 0, slots := 0, locals := 13 } : Room).slots) := by
  refine MetFree.of_bodySF (plainFor_of_name pnc_2) hisR ?_
  intro p e s m args below meth c s₁ Bd hml0 hP hK
  obtain ⟨rfl, hZ, hh⟩ := hP
  have hx := Bd.exec
  have hby := Bd.bytes
  have hml : c.maxLocals = 4 := hml0
  have hown : s.vm.findClass "com/example/gofyn/gofyn/typed/Term$Operator" = some m.cls := findClass_of_methodNamed Bd.named
  have hnm := (name_of_methodNamed Bd.named Bd.method).1
  have X0 : Stand p l e ({ frames := 1, cells := 0, slots := 0, locals := 13 } : Room) s m #[(.ref (w 2)), (.int q1), (.int q2)] below meth c s₁ [] 0 0 := Stand.of_body Bd
  have e0 : s₁.heap = h0 := by rw [← hh, Bd.state]; rfl
  have N0 := Fr.nil n0
  let La : Array Slot := #[.val (.ref (w 2)), .val (.int q1), .val (.int q2), .unset]
  have pre0 : ∀ t, Steps p.tables e below (s₁.setTop (mkF m 0 #[.val (.ref (w 2)), .val (.int q1), .val (.int q2), .unset] [])) t → Steps p.tables e below (s₁.setTop (entryFrame m #[(.ref (w 2)), (.int q1), (.int q2)] 4)) t := fun t k => castTop (ef_4_30 m w q1 q2) k
  obtain ⟨_, _, ⟨T1, L1, kk1, nn1⟩, -, X1, ⟨Lc1, hQ1, l1, y1, z1⟩, st1⟩ := Jvm.LawKit.callS X0 hx (y := ym4) hown (mvT hZ (wk27 hw)) (mvT hZ (wk28 hw)) (mvT hZ (wk29 hw)) (mvT hZ (wk30 hw)) (by decide) (backOf (W := 0) (rm5_10 l Z a0 hw w hW [] q1 q2 h0 n0 O0 c1 c2) hZ (wk30 hw) (wk29 hw) (by decide) (by decide)) (g := (mkF m 2 La [(.int q2), (.int q1)])) rfl (by rw [hml]; rfl) (argsL := [(.int q1), (.int q2)]) (rest := []) (lenOf pds_3 rfl) rfl (by show 2 * 0 + _ ≤ _; exact Nat.le_of_eq rfl) (hb hby d4_2) (fun _ _ => ⟨rfl, e0, (by decide : 0 + 0 ≤ _), (by decide : 0 + 0 ≤ _)⟩)
  dsimp only [Pt.U, Pt.locs, Pt.cells, Pt.slots] at X1 l1 y1 z1 st1 hQ1
  subst l1 y1 z1
  obtain ⟨rfl, N1q, e1⟩ := hQ1
  have N1 := Fr.app N0 N1q
  let Lb2 : Array Slot := #[.val (.ref (w 2)), .val (.int q1), .val (.int q2), .val (.int (0 : Int32))]
  obtain ⟨cq3, kq3, q3a, q3b, q3c⟩ := isOf hZ e1 ((wd5 hW).ext O0.2)
  obtain ⟨_, _, ⟨T3, L3, kk3, nn3⟩, -, X3, ⟨Lc3, hQ3, l3, y3, z3⟩, st3⟩ := X1.virtualBackUp hx (x := ym2) (y := ym1) hown (mvT hZ (wk13 hw)) (mvT hZ (wk14 hw)) (mvT hZ (wk15 hw)) (by decide) (mvT hZ (wk17 hw)) (mvT hZ (wk16 hw)) (backOf (W := 0) (rm3_20 l Z a0 hw w hW []  h0 n0 O0 ) hZ (wk19 hw) (wk18 hw) (by decide) (by decide)) q3a q3c (g := (mkF m 7 Lb2 [(.ref (w 2))])) rfl (by rw [hml]; rfl) (Steps.refl _) (argsL := []) (rest := []) (lenOf pds_1 rfl) rfl (by show 2 * 0 + _ ≤ _; exact Nat.le_of_eq rfl) (hb hby d4_7) (fun _ _ => ⟨rfl, e1, (by decide : 0 + 0 ≤ _), (by decide : 0 + 0 ≤ _)⟩)
  dsimp only [Pt.U, Pt.locs, Pt.cells, Pt.slots] at X3 l3 y3 z3 st3 hQ3
  subst l3 y3 z3
  obtain ⟨rfl, N3q, e3⟩ := hQ3
  have N3 := Fr.app N1 N3q
  obtain ⟨fs, hr, hrun, hended, hWm, hsame⟩ := X3.leave (v := some (.int (0 : Int32))) (fun h => by rw [Bd.returns] at h; cases h)
  refine ⟨_, _, pre0 _ ?_, hrun, hended, _, _, rfl, ?_, ⟨_, rfl⟩, hWm, hsame.mono (by decide) (by decide)⟩
  · show Steps p.tables e below (s₁.setTop (mkF m 0 La [])) _
    refine sI X0 hx hby d4_0 rfl ?_
    refine sI X0 hx hby d4_1 rfl ?_
    refine st1 _ ?_
    refine XS.istoreN X1.here hx rfl (hb hby d4_5) rfl (l' := Lb2) rfl ?_
    refine sA X1 hx hby d4_6 rfl rfl ?_
    refine st3.trans ?_
    refine XS.tswIn X3.here hx rfl (pc0 := 10) (pc' := 82) (o := 72) rfl (hb hby d4_10) rfl (by decide) (by decide) (by decide) (by decide) ?_
    refine sI X3 hx hby d4_82 rfl ?_
    refine XS.ifYes X3.here hx rfl (pc0 := 83) (pc' := 90) rfl (hb hby d4_83) rfl (by decide) (by decide) (by decide) ?_
    refine sc X3 hx hby d4_90 ?_
    refine sg (pc := 91) (pc' := 127) X3 hx hby d4_91 (by decide) (by decide) ?_
    show Steps p.tables e below (T3.setTop (mkF m 127 Lb2 [(.int (0 : Int32))])) _
    exact retN X3 hx (t := .boolean) Bd.returns (by simp) (hb hby d4_127) hr
  · show Q4_30 Z w q1 q2 h0 n0 _ T3.heap _
    rw [e3]
    exact ⟨rfl, N3, rfl⟩
theorem ef_4_31 (m : MethodId) (w : Nat → Addr) (q1 : Int32) (q2 : Int32) : entryFrame m #[(.ref (w 3)), (.int q1), (.int q2)] 4 = mkF m 0 #[.val (.ref (w 3)), .val (.int q1), .val (.int q2), .unset] [] := by first | (simp [entryFrame, mkF, argsToLocals, Value.category]; done) | rfl
def Q4_31 (Z : State) (w : Nat → Addr) (q1 : Int32) (q2 : Int32) (h0 : Heap) (n0 : Nat) (v : Option Value) (h : Heap) (L : List Loc) : Prop := v = some (.int (0 : Int32)) ∧ Fr n0 L ∧ h = h0
set_option maxRecDepth 65536 in
set_option maxHeartbeats 40000000 in
theorem rm4_31 (l : Launch) (Z : State) (a0 : Array Value) (hw : ∀ d ∈ tables_1, d.before a0 Z = true) (w : Nat → Addr) (hW : Wd Z w) (ws : List Jvm.Cond) (q1 : Int32) (q2 : Int32) (h0 : Heap) (n0 : Nat) (O0 : Old Z n0 h0) (c1 : ¬ (q1 < q2)) (c2 : q1 = q2) :
    MetFree l ym5 (head1 (Jvm.Cond.code ym5 prog_75_method_7_code 4 (some .boolean) :: ws) ({ frames := 1, cells := 0, slots := 0, locals := 13 } : Room)) (fun a U => a = #[(.ref (w 3)), (.int q1), (.int q2)] ∧ Z.Warmed39 U.vm ∧ U.heap = h0) (fun _ _ _ _ _ => True) (fun _ U o U' => ∃ v L, o = .returned v ∧ Q4_31 Z w q1 q2 h0 n0 v U'.heap L ∧ FrameEnd U o U' L ({ frames := 1, cells := 0, slots := 0, locals := 13 } : Room).cells ({ frames := 1, cells := 0, slots := 0, locals := 13 } : Room).slots) := by
  refine MetFree.of_bodySF (plainFor_of_name pnc_2) hisR ?_
  intro p e s m args below meth c s₁ Bd hml0 hP hK
  obtain ⟨rfl, hZ, hh⟩ := hP
  have hx := Bd.exec
  have hby := Bd.bytes
  have hml : c.maxLocals = 4 := hml0
  have hown : s.vm.findClass "com/example/gofyn/gofyn/typed/Term$Operator" = some m.cls := findClass_of_methodNamed Bd.named
  have hnm := (name_of_methodNamed Bd.named Bd.method).1
  have X0 : Stand p l e ({ frames := 1, cells := 0, slots := 0, locals := 13 } : Room) s m #[(.ref (w 3)), (.int q1), (.int q2)] below meth c s₁ [] 0 0 := Stand.of_body Bd
  have e0 : s₁.heap = h0 := by rw [← hh, Bd.state]; rfl
  have N0 := Fr.nil n0
  let La : Array Slot := #[.val (.ref (w 3)), .val (.int q1), .val (.int q2), .unset]
  have pre0 : ∀ t, Steps p.tables e below (s₁.setTop (mkF m 0 #[.val (.ref (w 3)), .val (.int q1), .val (.int q2), .unset] [])) t → Steps p.tables e below (s₁.setTop (entryFrame m #[(.ref (w 3)), (.int q1), (.int q2)] 4)) t := fun t k => castTop (ef_4_31 m w q1 q2) k
  obtain ⟨_, _, ⟨T1, L1, kk1, nn1⟩, -, X1, ⟨Lc1, hQ1, l1, y1, z1⟩, st1⟩ := Jvm.LawKit.callS X0 hx (y := ym4) hown (mvT hZ (wk27 hw)) (mvT hZ (wk28 hw)) (mvT hZ (wk29 hw)) (mvT hZ (wk30 hw)) (by decide) (backOf (W := 0) (rm5_10 l Z a0 hw w hW [] q1 q2 h0 n0 O0 c1 c2) hZ (wk30 hw) (wk29 hw) (by decide) (by decide)) (g := (mkF m 2 La [(.int q2), (.int q1)])) rfl (by rw [hml]; rfl) (argsL := [(.int q1), (.int q2)]) (rest := []) (lenOf pds_3 rfl) rfl (by show 2 * 0 + _ ≤ _; exact Nat.le_of_eq rfl) (hb hby d4_2) (fun _ _ => ⟨rfl, e0, (by decide : 0 + 0 ≤ _), (by decide : 0 + 0 ≤ _)⟩)
  dsimp only [Pt.U, Pt.locs, Pt.cells, Pt.slots] at X1 l1 y1 z1 st1 hQ1
  subst l1 y1 z1
  obtain ⟨rfl, N1q, e1⟩ := hQ1
  have N1 := Fr.app N0 N1q
  let Lb2 : Array Slot := #[.val (.ref (w 3)), .val (.int q1), .val (.int q2), .val (.int (0 : Int32))]
  obtain ⟨cq3, kq3, q3a, q3b, q3c⟩ := isOf hZ e1 ((wd7 hW).ext O0.2)
  obtain ⟨_, _, ⟨T3, L3, kk3, nn3⟩, -, X3, ⟨Lc3, hQ3, l3, y3, z3⟩, st3⟩ := X1.virtualBackUp hx (x := ym2) (y := ym1) hown (mvT hZ (wk13 hw)) (mvT hZ (wk14 hw)) (mvT hZ (wk15 hw)) (by decide) (mvT hZ (wk17 hw)) (mvT hZ (wk16 hw)) (backOf (W := 0) (rm3_23 l Z a0 hw w hW []  h0 n0 O0 ) hZ (wk19 hw) (wk18 hw) (by decide) (by decide)) q3a q3c (g := (mkF m 7 Lb2 [(.ref (w 3))])) rfl (by rw [hml]; rfl) (Steps.refl _) (argsL := []) (rest := []) (lenOf pds_1 rfl) rfl (by show 2 * 0 + _ ≤ _; exact Nat.le_of_eq rfl) (hb hby d4_7) (fun _ _ => ⟨rfl, e1, (by decide : 0 + 0 ≤ _), (by decide : 0 + 0 ≤ _)⟩)
  dsimp only [Pt.U, Pt.locs, Pt.cells, Pt.slots] at X3 l3 y3 z3 st3 hQ3
  subst l3 y3 z3
  obtain ⟨rfl, N3q, e3⟩ := hQ3
  have N3 := Fr.app N1 N3q
  obtain ⟨fs, hr, hrun, hended, hWm, hsame⟩ := X3.leave (v := some (.int (0 : Int32))) (fun h => by rw [Bd.returns] at h; cases h)
  refine ⟨_, _, pre0 _ ?_, hrun, hended, _, _, rfl, ?_, ⟨_, rfl⟩, hWm, hsame.mono (by decide) (by decide)⟩
  · show Steps p.tables e below (s₁.setTop (mkF m 0 La [])) _
    refine sI X0 hx hby d4_0 rfl ?_
    refine sI X0 hx hby d4_1 rfl ?_
    refine st1 _ ?_
    refine XS.istoreN X1.here hx rfl (hb hby d4_5) rfl (l' := Lb2) rfl ?_
    refine sA X1 hx hby d4_6 rfl rfl ?_
    refine st3.trans ?_
    refine XS.tswIn X3.here hx rfl (pc0 := 10) (pc' := 106) (o := 96) rfl (hb hby d4_10) rfl (by decide) (by decide) (by decide) (by decide) ?_
    refine sI X3 hx hby d4_106 rfl ?_
    refine XS.ifYes X3.here hx rfl (pc0 := 107) (pc' := 114) rfl (hb hby d4_107) rfl (by decide) (by decide) (by decide) ?_
    refine sc X3 hx hby d4_114 ?_
    refine sg (pc := 115) (pc' := 127) X3 hx hby d4_115 (by decide) (by decide) ?_
    show Steps p.tables e below (T3.setTop (mkF m 127 Lb2 [(.int (0 : Int32))])) _
    exact retN X3 hx (t := .boolean) Bd.returns (by simp) (hb hby d4_127) hr
  · show Q4_31 Z w q1 q2 h0 n0 _ T3.heap _
    rw [e3]
    exact ⟨rfl, N3, rfl⟩
theorem d1_34 : decode method_2_code 34 = .ok (.iload_n 1, 1) := by decide +kernel
theorem d1_35 : decode method_2_code 35 = .ok (.iconst 3, 1) := by decide +kernel
theorem d1_36 : decode method_2_code 36 = .ok (.if_icmp .ne 7, 3) := by decide +kernel
theorem d1_39 : decode method_2_code 39 = .ok (.getstatic 20, 3) := by decide +kernel
theorem d1_42 : decode method_2_code 42 = .ok (.areturn, 1) := by decide +kernel
theorem ef_1_32 (m : MethodId) (q1 : Int32) : entryFrame m #[(.int q1)] 2 = mkF m 0 #[.val (.int q1), .unset] [] := by first | (simp [entryFrame, mkF, argsToLocals, Value.category]; done) | rfl
def Q1_32 (Z : State) (w : Nat → Addr) (q1 : Int32) (h0 : Heap) (n0 : Nat) (v : Option Value) (h : Heap) (L : List Loc) : Prop := v = some (.ref (w 5)) ∧ Fr n0 L ∧ h = h0
set_option maxRecDepth 65536 in
set_option maxHeartbeats 40000000 in
theorem rm1_32 (l : Launch) (Z : State) (a0 : Array Value) (hw : ∀ d ∈ tables_1, d.before a0 Z = true) (w : Nat → Addr) (hW : Wd Z w) (ws : List Jvm.Cond) (q1 : Int32) (h0 : Heap) (n0 : Nat) (O0 : Old Z n0 h0) (c1 : ¬ (((q1 &&& (2147483647 : Int32)) % (6 : Int32)) = (0 : Int32))) (c2 : ¬ (((q1 &&& (2147483647 : Int32)) % (6 : Int32)) = (1 : Int32))) (c3 : ¬ (((q1 &&& (2147483647 : Int32)) % (6 : Int32)) = (2 : Int32))) (c4 : ((q1 &&& (2147483647 : Int32)) % (6 : Int32)) = (3 : Int32)) :
    MetFree l ym0 (head1 (Jvm.Cond.code ym0 method_2_code 2 (some (.object "com/example/gofyn/gofyn/typed/Term$Operator")) :: ws) ({ frames := 0, cells := 0, slots := 0, locals := 0 } : Room)) (fun a U => a = #[(.int q1)] ∧ Z.Warmed39 U.vm ∧ U.heap = h0) (fun _ _ _ _ _ => True) (fun _ U o U' => ∃ v L, o = .returned v ∧ Q1_32 Z w q1 h0 n0 v U'.heap L ∧ FrameEnd U o U' L ({ frames := 0, cells := 0, slots := 0, locals := 0 } : Room).cells ({ frames := 0, cells := 0, slots := 0, locals := 0 } : Room).slots) := by
  refine MetFree.of_bodySF (plainFor_of_name pnc_0) hisR ?_
  intro p e s m args below meth c s₁ Bd hml0 hP hK
  obtain ⟨rfl, hZ, hh⟩ := hP
  have hx := Bd.exec
  have hby := Bd.bytes
  have hml : c.maxLocals = 2 := hml0
  have hown : s.vm.findClass "com/example/gofyn/gofyn/typed/OperatorMirroredPinLaw" = some m.cls := findClass_of_methodNamed Bd.named
  have hnm := (name_of_methodNamed Bd.named Bd.method).1
  have X0 : Stand p l e ({ frames := 0, cells := 0, slots := 0, locals := 0 } : Room) s m #[(.int q1)] below meth c s₁ [] 0 0 := Stand.of_body Bd
  have e0 : s₁.heap = h0 := by rw [← hh, Bd.state]; rfl
  have N0 := Fr.nil n0
  skip
  have pre0 : ∀ t, Steps p.tables e below (s₁.setTop (mkF m 0 #[.val (.int q1), .unset] [])) t → Steps p.tables e below (s₁.setTop (entryFrame m #[(.int q1)] 2)) t := fun t k => castTop (ef_1_32 m q1) k
  let Lb1 : Array Slot := #[.val (.int q1), .val (.int ((q1 &&& (2147483647 : Int32)) % (6 : Int32)))]
  obtain ⟨T2, X2, e2, st2⟩ := getS2 X0 hx hZ hown (host := "") (Or.inl (wk43 hw)) Via.refl e0 ((wd10 hW).ext O0.2) (g := (mkF m 39 Lb1 [])) rfl (hb hby d1_39)
  obtain ⟨fs, hr, hrun, hended, hWm, hsame⟩ := X2.leave (v := some (.ref (w 5))) (fun h => by rw [Bd.returns] at h; cases h)
  refine ⟨_, _, pre0 _ ?_, hrun, hended, _, _, rfl, ?_, ⟨_, rfl⟩, hWm, hsame.mono (by decide) (by decide)⟩
  · show Steps p.tables e below (s₁.setTop (mkF m 0 #[.val (.int q1), .unset] [])) _
    refine sI X0 hx hby d1_0 rfl ?_
    refine X0.ldcInt hx hown (mvT hZ (wk4 hw)) (g := (mkF m 1 #[.val (.int q1), .unset] [(.int q1)])) rfl (hb hby d1_1) _ ?_
    refine XS.iand X0.here hx rfl (hb hby d1_3) rfl ?_
    refine XS.bipush X0.here hx rfl (hb hby d1_4) ?_
    refine iremM X0 hx rfl (hb hby d1_6) rfl (by decide) ?_
    show Steps p.tables e below (s₁.setTop (mkF m 7 #[.val (.int q1), .unset] [(.int ((q1 &&& (2147483647 : Int32)) % (6 : Int32)))])) _
    refine XS.istoreN X0.here hx rfl (hb hby d1_7) rfl (l' := Lb1) rfl ?_
    refine sI X0 hx hby d1_8 rfl ?_
    refine XS.ifYes X0.here hx rfl (pc0 := 9) (pc' := 16) rfl (hb hby d1_9) rfl ((if0 _ _).trans (feq (c1 : ¬ (((q1 &&& (2147483647 : Int32)) % (6 : Int32)) = (0 : Int32)))).2) (by decide) (by decide) ?_
    refine sI X0 hx hby d1_16 rfl ?_
    refine sc X0 hx hby d1_17 ?_
    show Steps p.tables e below (s₁.setTop (mkF m 18 Lb1 [(.int (1 : Int32)), (.int ((q1 &&& (2147483647 : Int32)) % (6 : Int32)))])) _
    refine XS.icmpYes X0.here hx rfl (pc0 := 18) (pc' := 25) rfl (hb hby d1_18) rfl (feq (c2 : ¬ (((q1 &&& (2147483647 : Int32)) % (6 : Int32)) = (1 : Int32)))).2 (by decide) (by decide) ?_
    refine sI X0 hx hby d1_25 rfl ?_
    refine sc X0 hx hby d1_26 ?_
    refine XS.icmpYes X0.here hx rfl (pc0 := 27) (pc' := 34) rfl (hb hby d1_27) rfl (feq (c3 : ¬ (((q1 &&& (2147483647 : Int32)) % (6 : Int32)) = (2 : Int32)))).2 (by decide) (by decide) ?_
    refine sI X0 hx hby d1_34 rfl ?_
    show Steps p.tables e below (s₁.setTop (mkF m 35 Lb1 [(.int ((q1 &&& (2147483647 : Int32)) % (6 : Int32)))])) _
    refine sc X0 hx hby d1_35 ?_
    refine sn X0 hx hby d1_36 (teq (c4 : ((q1 &&& (2147483647 : Int32)) % (6 : Int32)) = (3 : Int32))).2 ?_
    refine st2 _ ?_
    jvm_step X2.here [X2.here.top, hx, (hb hby d1_42), X2.method', Bd.returns, Value.isRef, FieldType.isReference]
    first | (intro acts; rw [hr _ acts rfl rfl rfl]) | rw [hr _ _ rfl rfl rfl]
    exact Steps.refl _
  · show Q1_32 Z w q1 h0 n0 _ T2.heap _
    rw [e2]
    exact ⟨rfl, N0, rfl⟩
theorem ef_3_33 (m : MethodId) (w : Nat → Addr) : entryFrame m #[(.ref (w 5))] 1 = mkF m 0 #[.val (.ref (w 5))] [] := by first | (simp [entryFrame, mkF, argsToLocals, Value.category]; done) | rfl
def Q3_33 (Z : State) (w : Nat → Addr) (h0 : Heap) (n0 : Nat) (v : Option Value) (h : Heap) (L : List Loc) : Prop := v = some (.int (3 : Int32)) ∧ Fr n0 L ∧ h = h0
set_option maxRecDepth 65536 in
set_option maxHeartbeats 40000000 in
theorem rm3_33 (l : Launch) (Z : State) (a0 : Array Value) (hw : ∀ d ∈ tables_1, d.before a0 Z = true) (w : Nat → Addr) (hW : Wd Z w) (ws : List Jvm.Cond) (h0 : Heap) (n0 : Nat) (O0 : Old Z n0 h0) :
    MetFree l ym1 (head1 (Jvm.Cond.code ym1 jdk_37_method_2_code 1 (some .int) :: ws) ({ frames := 0, cells := 0, slots := 0, locals := 0 } : Room)) (fun a U => a = #[(.ref (w 5))] ∧ Z.Warmed39 U.vm ∧ U.heap = h0) (fun _ _ _ _ _ => True) (fun _ U o U' => ∃ v L, o = .returned v ∧ Q3_33 Z w h0 n0 v U'.heap L ∧ FrameEnd U o U' L ({ frames := 0, cells := 0, slots := 0, locals := 0 } : Room).cells ({ frames := 0, cells := 0, slots := 0, locals := 0 } : Room).slots) := by
  refine MetFree.of_bodySF (plainFor_of_name pnc_1) hisR ?_
  intro p e s m args below meth c s₁ Bd hml0 hP hK
  obtain ⟨rfl, hZ, hh⟩ := hP
  have hx := Bd.exec
  have hby := Bd.bytes
  have hml : c.maxLocals = 1 := hml0
  have hown : s.vm.findClass "java/lang/Enum" = some m.cls := findClass_of_methodNamed Bd.named
  have hnm := (name_of_methodNamed Bd.named Bd.method).1
  have X0 : Stand p l e ({ frames := 0, cells := 0, slots := 0, locals := 0 } : Room) s m #[(.ref (w 5))] below meth c s₁ [] 0 0 := Stand.of_body Bd
  have e0 : s₁.heap = h0 := by rw [← hh, Bd.state]; rfl
  have N0 := Fr.nil n0
  skip
  have pre0 : ∀ t, Steps p.tables e below (s₁.setTop (mkF m 0 #[.val (.ref (w 5))] [])) t → Steps p.tables e below (s₁.setTop (entryFrame m #[(.ref (w 5))] 1)) t := fun t k => castTop (ef_3_33 m w) k
  obtain ⟨T1, X1, e1, st1⟩ := getF X0 hx hZ hown (host := "") (Or.inl (wk20 hw)) Via.refl e0 ((wd17 hW).ext O0.2) (g := (mkF m 1 #[.val (.ref (w 5))] [(.ref (w 5))])) rfl rfl (hb hby d3_1)
  obtain ⟨fs, hr, hrun, hended, hWm, hsame⟩ := X1.leave (v := some (.int (3 : Int32))) (fun h => by rw [Bd.returns] at h; cases h)
  refine ⟨_, _, pre0 _ ?_, hrun, hended, _, _, rfl, ?_, ⟨_, rfl⟩, hWm, hsame.mono (by decide) (by decide)⟩
  · show Steps p.tables e below (s₁.setTop (mkF m 0 #[.val (.ref (w 5))] [])) _
    refine sA X0 hx hby d3_0 rfl rfl ?_
    refine st1 _ ?_
    exact retI X1 hx Bd.returns (hb hby d3_4) hr
  · show Q3_33 Z w h0 n0 _ T1.heap _
    rw [e1]
    exact ⟨rfl, N0, rfl⟩
theorem d2_64 : decode prog_75_method_6_code 64 = .ok (.getstatic 19, 3) := by decide +kernel
theorem d2_67 : decode prog_75_method_6_code 67 = .ok (.goto 12, 3) := by decide +kernel
theorem ef_2_34 (m : MethodId) (w : Nat → Addr) : entryFrame m #[(.ref (w 5))] 1 = mkF m 0 #[.val (.ref (w 5))] [] := by first | (simp [entryFrame, mkF, argsToLocals, Value.category]; done) | rfl
def Q2_34 (Z : State) (w : Nat → Addr) (h0 : Heap) (n0 : Nat) (v : Option Value) (h : Heap) (L : List Loc) : Prop := v = some (.ref (w 4)) ∧ Fr n0 L ∧ h = h0
set_option maxRecDepth 65536 in
set_option maxHeartbeats 40000000 in
theorem rm2_34 (l : Launch) (Z : State) (a0 : Array Value) (hw : ∀ d ∈ tables_1, d.before a0 Z = true) (w : Nat → Addr) (hW : Wd Z w) (ws : List Jvm.Cond) (h0 : Heap) (n0 : Nat) (O0 : Old Z n0 h0) :
    MetFree l ym3 (head1 (Jvm.Cond.code ym3 prog_75_method_6_code 1 (some (.object "com/example/gofyn/gofyn/typed/Term$Operator")) :: ws) ({ frames := 1, cells := 0, slots := 0, locals := 12 } : Room)) (fun a U => a = #[(.ref (w 5))] ∧ Z.Warmed39 U.vm ∧ U.heap = h0) (fun _ _ _ _ _ => True) (fun _ U o U' => ∃ v L, o = .returned v ∧ Q2_34 Z w h0 n0 v U'.heap L ∧ FrameEnd U o U' L ({ frames := 1, cells := 0, slots := 0, locals := 12 } : Room).cells ({ frames := 1, cells := 0, slots := 0, locals := 12 } : Room).slots) := by
  refine MetFree.of_bodySF (plainFor_of_name pnc_2) hisR ?_
  intro p e s m args below meth c s₁ Bd hml0 hP hK
  obtain ⟨rfl, hZ, hh⟩ := hP
  have hx := Bd.exec
  have hby := Bd.bytes
  have hml : c.maxLocals = 1 := hml0
  have hown : s.vm.findClass "com/example/gofyn/gofyn/typed/Term$Operator" = some m.cls := findClass_of_methodNamed Bd.named
  have hnm := (name_of_methodNamed Bd.named Bd.method).1
  have X0 : Stand p l e ({ frames := 1, cells := 0, slots := 0, locals := 12 } : Room) s m #[(.ref (w 5))] below meth c s₁ [] 0 0 := Stand.of_body Bd
  have e0 : s₁.heap = h0 := by rw [← hh, Bd.state]; rfl
  have N0 := Fr.nil n0
  skip
  have pre0 : ∀ t, Steps p.tables e below (s₁.setTop (mkF m 0 #[.val (.ref (w 5))] [])) t → Steps p.tables e below (s₁.setTop (entryFrame m #[(.ref (w 5))] 1)) t := fun t k => castTop (ef_2_34 m w) k
  obtain ⟨cq1, kq1, q1a, q1b, q1c⟩ := isOf hZ e0 ((wd11 hW).ext O0.2)
  obtain ⟨_, _, ⟨T1, L1, kk1, nn1⟩, -, X1, ⟨Lc1, hQ1, l1, y1, z1⟩, st1⟩ := X0.virtualBackUp hx (x := ym2) (y := ym1) hown (mvT hZ (wk13 hw)) (mvT hZ (wk14 hw)) (mvT hZ (wk15 hw)) (by decide) (mvT hZ (wk17 hw)) (mvT hZ (wk16 hw)) (backOf (W := 0) (rm3_33 l Z a0 hw w hW []  h0 n0 O0 ) hZ (wk19 hw) (wk18 hw) (by decide) (by decide)) q1a q1c (g := (mkF m 1 #[.val (.ref (w 5))] [(.ref (w 5))])) rfl (by rw [hml]; rfl) (Steps.refl _) (argsL := []) (rest := []) (lenOf pds_1 rfl) rfl (by show 2 * 0 + _ ≤ _; exact Nat.le_of_eq rfl) (hb hby d2_1) (fun _ _ => ⟨rfl, e0, (by decide : 0 + 0 ≤ _), (by decide : 0 + 0 ≤ _)⟩)
  dsimp only [Pt.U, Pt.locs, Pt.cells, Pt.slots] at X1 l1 y1 z1 st1 hQ1
  subst l1 y1 z1
  obtain ⟨rfl, N1q, e1⟩ := hQ1
  have N1 := Fr.app N0 N1q
  obtain ⟨T2, X2, e2, st2⟩ := getS2 X1 hx hZ hown (host := "") (Or.inl (wk42 hw)) Via.refl e1 ((wd8 hW).ext O0.2) (g := (mkF m 64 #[.val (.ref (w 5))] [])) rfl (hb hby d2_64)
  obtain ⟨fs, hr, hrun, hended, hWm, hsame⟩ := X2.leave (v := some (.ref (w 4))) (fun h => by rw [Bd.returns] at h; cases h)
  refine ⟨_, _, pre0 _ ?_, hrun, hended, _, _, rfl, ?_, ⟨_, rfl⟩, hWm, hsame.mono (by decide) (by decide)⟩
  · show Steps p.tables e below (s₁.setTop (mkF m 0 #[.val (.ref (w 5))] [])) _
    refine sA X0 hx hby d2_0 rfl rfl ?_
    refine st1.trans ?_
    refine XS.tswIn X1.here hx rfl (pc0 := 4) (pc' := 64) (o := 60) rfl (hb hby d2_4) rfl (by decide) (by decide) (by decide) (by decide) ?_
    refine st2 _ ?_
    refine sg (pc := 67) (pc' := 79) X2 hx hby d2_67 (by decide) (by decide) ?_
    jvm_step X2.here [X2.here.top, hx, (hb hby d2_79), X2.method', Bd.returns, Value.isRef, FieldType.isReference]
    first | (intro acts; rw [hr _ acts rfl rfl rfl]) | rw [hr _ _ rfl rfl rfl]
    exact Steps.refl _
  · show Q2_34 Z w h0 n0 _ T2.heap _
    rw [e2]
    exact ⟨rfl, N1, rfl⟩
theorem d4_94 : decode prog_75_method_7_code 94 = .ok (.iload_n 3, 1) := by decide +kernel
theorem d4_95 : decode prog_75_method_7_code 95 = .ok (.ifCond .gt 7, 3) := by decide +kernel
theorem d4_98 : decode prog_75_method_7_code 98 = .ok (.iconst 1, 1) := by decide +kernel
theorem d4_99 : decode prog_75_method_7_code 99 = .ok (.goto 28, 3) := by decide +kernel
theorem ef_4_35 (m : MethodId) (w : Nat → Addr) (q1 : Int32) (q2 : Int32) : entryFrame m #[(.ref (w 5)), (.int q1), (.int q2)] 4 = mkF m 0 #[.val (.ref (w 5)), .val (.int q1), .val (.int q2), .unset] [] := by first | (simp [entryFrame, mkF, argsToLocals, Value.category]; done) | rfl
def Q4_35 (Z : State) (w : Nat → Addr) (q1 : Int32) (q2 : Int32) (h0 : Heap) (n0 : Nat) (v : Option Value) (h : Heap) (L : List Loc) : Prop := v = some (.int (1 : Int32)) ∧ Fr n0 L ∧ h = h0
set_option maxRecDepth 65536 in
set_option maxHeartbeats 40000000 in
theorem rm4_35 (l : Launch) (Z : State) (a0 : Array Value) (hw : ∀ d ∈ tables_1, d.before a0 Z = true) (w : Nat → Addr) (hW : Wd Z w) (ws : List Jvm.Cond) (q1 : Int32) (q2 : Int32) (h0 : Heap) (n0 : Nat) (O0 : Old Z n0 h0) (c1 : q1 < q2) :
    MetFree l ym5 (head1 (Jvm.Cond.code ym5 prog_75_method_7_code 4 (some .boolean) :: ws) ({ frames := 1, cells := 0, slots := 0, locals := 13 } : Room)) (fun a U => a = #[(.ref (w 5)), (.int q1), (.int q2)] ∧ Z.Warmed39 U.vm ∧ U.heap = h0) (fun _ _ _ _ _ => True) (fun _ U o U' => ∃ v L, o = .returned v ∧ Q4_35 Z w q1 q2 h0 n0 v U'.heap L ∧ FrameEnd U o U' L ({ frames := 1, cells := 0, slots := 0, locals := 13 } : Room).cells ({ frames := 1, cells := 0, slots := 0, locals := 13 } : Room).slots) := by
  refine MetFree.of_bodySF (plainFor_of_name pnc_2) hisR ?_
  intro p e s m args below meth c s₁ Bd hml0 hP hK
  obtain ⟨rfl, hZ, hh⟩ := hP
  have hx := Bd.exec
  have hby := Bd.bytes
  have hml : c.maxLocals = 4 := hml0
  have hown : s.vm.findClass "com/example/gofyn/gofyn/typed/Term$Operator" = some m.cls := findClass_of_methodNamed Bd.named
  have hnm := (name_of_methodNamed Bd.named Bd.method).1
  have X0 : Stand p l e ({ frames := 1, cells := 0, slots := 0, locals := 13 } : Room) s m #[(.ref (w 5)), (.int q1), (.int q2)] below meth c s₁ [] 0 0 := Stand.of_body Bd
  have e0 : s₁.heap = h0 := by rw [← hh, Bd.state]; rfl
  have N0 := Fr.nil n0
  let La : Array Slot := #[.val (.ref (w 5)), .val (.int q1), .val (.int q2), .unset]
  have pre0 : ∀ t, Steps p.tables e below (s₁.setTop (mkF m 0 #[.val (.ref (w 5)), .val (.int q1), .val (.int q2), .unset] [])) t → Steps p.tables e below (s₁.setTop (entryFrame m #[(.ref (w 5)), (.int q1), (.int q2)] 4)) t := fun t k => castTop (ef_4_35 m w q1 q2) k
  obtain ⟨_, _, ⟨T1, L1, kk1, nn1⟩, -, X1, ⟨Lc1, hQ1, l1, y1, z1⟩, st1⟩ := Jvm.LawKit.callS X0 hx (y := ym4) hown (mvT hZ (wk27 hw)) (mvT hZ (wk28 hw)) (mvT hZ (wk29 hw)) (mvT hZ (wk30 hw)) (by decide) (backOf (W := 0) (rm5_4 l Z a0 hw w hW [] q1 q2 h0 n0 O0 c1) hZ (wk30 hw) (wk29 hw) (by decide) (by decide)) (g := (mkF m 2 La [(.int q2), (.int q1)])) rfl (by rw [hml]; rfl) (argsL := [(.int q1), (.int q2)]) (rest := []) (lenOf pds_3 rfl) rfl (by show 2 * 0 + _ ≤ _; exact Nat.le_of_eq rfl) (hb hby d4_2) (fun _ _ => ⟨rfl, e0, (by decide : 0 + 0 ≤ _), (by decide : 0 + 0 ≤ _)⟩)
  dsimp only [Pt.U, Pt.locs, Pt.cells, Pt.slots] at X1 l1 y1 z1 st1 hQ1
  subst l1 y1 z1
  obtain ⟨rfl, N1q, e1⟩ := hQ1
  have N1 := Fr.app N0 N1q
  let Lb2 : Array Slot := #[.val (.ref (w 5)), .val (.int q1), .val (.int q2), .val (.int (-1 : Int32))]
  obtain ⟨cq3, kq3, q3a, q3b, q3c⟩ := isOf hZ e1 ((wd11 hW).ext O0.2)
  obtain ⟨_, _, ⟨T3, L3, kk3, nn3⟩, -, X3, ⟨Lc3, hQ3, l3, y3, z3⟩, st3⟩ := X1.virtualBackUp hx (x := ym2) (y := ym1) hown (mvT hZ (wk13 hw)) (mvT hZ (wk14 hw)) (mvT hZ (wk15 hw)) (by decide) (mvT hZ (wk17 hw)) (mvT hZ (wk16 hw)) (backOf (W := 0) (rm3_33 l Z a0 hw w hW []  h0 n0 O0 ) hZ (wk19 hw) (wk18 hw) (by decide) (by decide)) q3a q3c (g := (mkF m 7 Lb2 [(.ref (w 5))])) rfl (by rw [hml]; rfl) (Steps.refl _) (argsL := []) (rest := []) (lenOf pds_1 rfl) rfl (by show 2 * 0 + _ ≤ _; exact Nat.le_of_eq rfl) (hb hby d4_7) (fun _ _ => ⟨rfl, e1, (by decide : 0 + 0 ≤ _), (by decide : 0 + 0 ≤ _)⟩)
  dsimp only [Pt.U, Pt.locs, Pt.cells, Pt.slots] at X3 l3 y3 z3 st3 hQ3
  subst l3 y3 z3
  obtain ⟨rfl, N3q, e3⟩ := hQ3
  have N3 := Fr.app N1 N3q
  obtain ⟨fs, hr, hrun, hended, hWm, hsame⟩ := X3.leave (v := some (.int (1 : Int32))) (fun h => by rw [Bd.returns] at h; cases h)
  refine ⟨_, _, pre0 _ ?_, hrun, hended, _, _, rfl, ?_, ⟨_, rfl⟩, hWm, hsame.mono (by decide) (by decide)⟩
  · show Steps p.tables e below (s₁.setTop (mkF m 0 La [])) _
    refine sI X0 hx hby d4_0 rfl ?_
    refine sI X0 hx hby d4_1 rfl ?_
    refine st1 _ ?_
    refine XS.istoreN X1.here hx rfl (hb hby d4_5) rfl (l' := Lb2) rfl ?_
    refine sA X1 hx hby d4_6 rfl rfl ?_
    refine st3.trans ?_
    refine XS.tswIn X3.here hx rfl (pc0 := 10) (pc' := 94) (o := 84) rfl (hb hby d4_10) rfl (by decide) (by decide) (by decide) (by decide) ?_
    refine sI X3 hx hby d4_94 rfl ?_
    refine sN X3 hx hby d4_95 (by decide) ?_
    refine sc X3 hx hby d4_98 ?_
    refine sg (pc := 99) (pc' := 127) X3 hx hby d4_99 (by decide) (by decide) ?_
    show Steps p.tables e below (T3.setTop (mkF m 127 Lb2 [(.int (1 : Int32))])) _
    exact retN X3 hx (t := .boolean) Bd.returns (by simp) (hb hby d4_127) hr
  · show Q4_35 Z w q1 q2 h0 n0 _ T3.heap _
    rw [e3]
    exact ⟨rfl, N3, rfl⟩
theorem ef_3_36 (m : MethodId) (w : Nat → Addr) : entryFrame m #[(.ref (w 4))] 1 = mkF m 0 #[.val (.ref (w 4))] [] := by first | (simp [entryFrame, mkF, argsToLocals, Value.category]; done) | rfl
def Q3_36 (Z : State) (w : Nat → Addr) (h0 : Heap) (n0 : Nat) (v : Option Value) (h : Heap) (L : List Loc) : Prop := v = some (.int (5 : Int32)) ∧ Fr n0 L ∧ h = h0
set_option maxRecDepth 65536 in
set_option maxHeartbeats 40000000 in
theorem rm3_36 (l : Launch) (Z : State) (a0 : Array Value) (hw : ∀ d ∈ tables_1, d.before a0 Z = true) (w : Nat → Addr) (hW : Wd Z w) (ws : List Jvm.Cond) (h0 : Heap) (n0 : Nat) (O0 : Old Z n0 h0) :
    MetFree l ym1 (head1 (Jvm.Cond.code ym1 jdk_37_method_2_code 1 (some .int) :: ws) ({ frames := 0, cells := 0, slots := 0, locals := 0 } : Room)) (fun a U => a = #[(.ref (w 4))] ∧ Z.Warmed39 U.vm ∧ U.heap = h0) (fun _ _ _ _ _ => True) (fun _ U o U' => ∃ v L, o = .returned v ∧ Q3_36 Z w h0 n0 v U'.heap L ∧ FrameEnd U o U' L ({ frames := 0, cells := 0, slots := 0, locals := 0 } : Room).cells ({ frames := 0, cells := 0, slots := 0, locals := 0 } : Room).slots) := by
  refine MetFree.of_bodySF (plainFor_of_name pnc_1) hisR ?_
  intro p e s m args below meth c s₁ Bd hml0 hP hK
  obtain ⟨rfl, hZ, hh⟩ := hP
  have hx := Bd.exec
  have hby := Bd.bytes
  have hml : c.maxLocals = 1 := hml0
  have hown : s.vm.findClass "java/lang/Enum" = some m.cls := findClass_of_methodNamed Bd.named
  have hnm := (name_of_methodNamed Bd.named Bd.method).1
  have X0 : Stand p l e ({ frames := 0, cells := 0, slots := 0, locals := 0 } : Room) s m #[(.ref (w 4))] below meth c s₁ [] 0 0 := Stand.of_body Bd
  have e0 : s₁.heap = h0 := by rw [← hh, Bd.state]; rfl
  have N0 := Fr.nil n0
  skip
  have pre0 : ∀ t, Steps p.tables e below (s₁.setTop (mkF m 0 #[.val (.ref (w 4))] [])) t → Steps p.tables e below (s₁.setTop (entryFrame m #[(.ref (w 4))] 1)) t := fun t k => castTop (ef_3_36 m w) k
  obtain ⟨T1, X1, e1, st1⟩ := getF X0 hx hZ hown (host := "") (Or.inl (wk20 hw)) Via.refl e0 ((wd16 hW).ext O0.2) (g := (mkF m 1 #[.val (.ref (w 4))] [(.ref (w 4))])) rfl rfl (hb hby d3_1)
  obtain ⟨fs, hr, hrun, hended, hWm, hsame⟩ := X1.leave (v := some (.int (5 : Int32))) (fun h => by rw [Bd.returns] at h; cases h)
  refine ⟨_, _, pre0 _ ?_, hrun, hended, _, _, rfl, ?_, ⟨_, rfl⟩, hWm, hsame.mono (by decide) (by decide)⟩
  · show Steps p.tables e below (s₁.setTop (mkF m 0 #[.val (.ref (w 4))] [])) _
    refine sA X0 hx hby d3_0 rfl rfl ?_
    refine st1 _ ?_
    exact retI X1 hx Bd.returns (hb hby d3_4) hr
  · show Q3_36 Z w h0 n0 _ T1.heap _
    rw [e1]
    exact ⟨rfl, N0, rfl⟩
theorem d4_118 : decode prog_75_method_7_code 118 = .ok (.iload_n 3, 1) := by decide +kernel
theorem d4_119 : decode prog_75_method_7_code 119 = .ok (.ifCond .lt 7, 3) := by decide +kernel
theorem d4_122 : decode prog_75_method_7_code 122 = .ok (.iconst 1, 1) := by decide +kernel
theorem d4_123 : decode prog_75_method_7_code 123 = .ok (.goto 4, 3) := by decide +kernel
theorem ef_4_37 (m : MethodId) (w : Nat → Addr) (q1 : Int32) (q2 : Int32) : entryFrame m #[(.ref (w 4)), (.int q1), (.int q2)] 4 = mkF m 0 #[.val (.ref (w 4)), .val (.int q1), .val (.int q2), .unset] [] := by first | (simp [entryFrame, mkF, argsToLocals, Value.category]; done) | rfl
def Q4_37 (Z : State) (w : Nat → Addr) (q1 : Int32) (q2 : Int32) (h0 : Heap) (n0 : Nat) (v : Option Value) (h : Heap) (L : List Loc) : Prop := v = some (.int (1 : Int32)) ∧ Fr n0 L ∧ h = h0
set_option maxRecDepth 65536 in
set_option maxHeartbeats 40000000 in
theorem rm4_37 (l : Launch) (Z : State) (a0 : Array Value) (hw : ∀ d ∈ tables_1, d.before a0 Z = true) (w : Nat → Addr) (hW : Wd Z w) (ws : List Jvm.Cond) (q1 : Int32) (q2 : Int32) (h0 : Heap) (n0 : Nat) (O0 : Old Z n0 h0) (c1 : ¬ (q1 < q2)) (c2 : ¬ (q1 = q2)) :
    MetFree l ym5 (head1 (Jvm.Cond.code ym5 prog_75_method_7_code 4 (some .boolean) :: ws) ({ frames := 1, cells := 0, slots := 0, locals := 13 } : Room)) (fun a U => a = #[(.ref (w 4)), (.int q1), (.int q2)] ∧ Z.Warmed39 U.vm ∧ U.heap = h0) (fun _ _ _ _ _ => True) (fun _ U o U' => ∃ v L, o = .returned v ∧ Q4_37 Z w q1 q2 h0 n0 v U'.heap L ∧ FrameEnd U o U' L ({ frames := 1, cells := 0, slots := 0, locals := 13 } : Room).cells ({ frames := 1, cells := 0, slots := 0, locals := 13 } : Room).slots) := by
  refine MetFree.of_bodySF (plainFor_of_name pnc_2) hisR ?_
  intro p e s m args below meth c s₁ Bd hml0 hP hK
  obtain ⟨rfl, hZ, hh⟩ := hP
  have hx := Bd.exec
  have hby := Bd.bytes
  have hml : c.maxLocals = 4 := hml0
  have hown : s.vm.findClass "com/example/gofyn/gofyn/typed/Term$Operator" = some m.cls := findClass_of_methodNamed Bd.named
  have hnm := (name_of_methodNamed Bd.named Bd.method).1
  have X0 : Stand p l e ({ frames := 1, cells := 0, slots := 0, locals := 13 } : Room) s m #[(.ref (w 4)), (.int q1), (.int q2)] below meth c s₁ [] 0 0 := Stand.of_body Bd
  have e0 : s₁.heap = h0 := by rw [← hh, Bd.state]; rfl
  have N0 := Fr.nil n0
  let La : Array Slot := #[.val (.ref (w 4)), .val (.int q1), .val (.int q2), .unset]
  have pre0 : ∀ t, Steps p.tables e below (s₁.setTop (mkF m 0 #[.val (.ref (w 4)), .val (.int q1), .val (.int q2), .unset] [])) t → Steps p.tables e below (s₁.setTop (entryFrame m #[(.ref (w 4)), (.int q1), (.int q2)] 4)) t := fun t k => castTop (ef_4_37 m w q1 q2) k
  obtain ⟨_, _, ⟨T1, L1, kk1, nn1⟩, -, X1, ⟨Lc1, hQ1, l1, y1, z1⟩, st1⟩ := Jvm.LawKit.callS X0 hx (y := ym4) hown (mvT hZ (wk27 hw)) (mvT hZ (wk28 hw)) (mvT hZ (wk29 hw)) (mvT hZ (wk30 hw)) (by decide) (backOf (W := 0) (rm5_6 l Z a0 hw w hW [] q1 q2 h0 n0 O0 c1 c2) hZ (wk30 hw) (wk29 hw) (by decide) (by decide)) (g := (mkF m 2 La [(.int q2), (.int q1)])) rfl (by rw [hml]; rfl) (argsL := [(.int q1), (.int q2)]) (rest := []) (lenOf pds_3 rfl) rfl (by show 2 * 0 + _ ≤ _; exact Nat.le_of_eq rfl) (hb hby d4_2) (fun _ _ => ⟨rfl, e0, (by decide : 0 + 0 ≤ _), (by decide : 0 + 0 ≤ _)⟩)
  dsimp only [Pt.U, Pt.locs, Pt.cells, Pt.slots] at X1 l1 y1 z1 st1 hQ1
  subst l1 y1 z1
  obtain ⟨rfl, N1q, e1⟩ := hQ1
  have N1 := Fr.app N0 N1q
  let Lb2 : Array Slot := #[.val (.ref (w 4)), .val (.int q1), .val (.int q2), .val (.int (1 : Int32))]
  obtain ⟨cq3, kq3, q3a, q3b, q3c⟩ := isOf hZ e1 ((wd9 hW).ext O0.2)
  obtain ⟨_, _, ⟨T3, L3, kk3, nn3⟩, -, X3, ⟨Lc3, hQ3, l3, y3, z3⟩, st3⟩ := X1.virtualBackUp hx (x := ym2) (y := ym1) hown (mvT hZ (wk13 hw)) (mvT hZ (wk14 hw)) (mvT hZ (wk15 hw)) (by decide) (mvT hZ (wk17 hw)) (mvT hZ (wk16 hw)) (backOf (W := 0) (rm3_36 l Z a0 hw w hW []  h0 n0 O0 ) hZ (wk19 hw) (wk18 hw) (by decide) (by decide)) q3a q3c (g := (mkF m 7 Lb2 [(.ref (w 4))])) rfl (by rw [hml]; rfl) (Steps.refl _) (argsL := []) (rest := []) (lenOf pds_1 rfl) rfl (by show 2 * 0 + _ ≤ _; exact Nat.le_of_eq rfl) (hb hby d4_7) (fun _ _ => ⟨rfl, e1, (by decide : 0 + 0 ≤ _), (by decide : 0 + 0 ≤ _)⟩)
  dsimp only [Pt.U, Pt.locs, Pt.cells, Pt.slots] at X3 l3 y3 z3 st3 hQ3
  subst l3 y3 z3
  obtain ⟨rfl, N3q, e3⟩ := hQ3
  have N3 := Fr.app N1 N3q
  obtain ⟨fs, hr, hrun, hended, hWm, hsame⟩ := X3.leave (v := some (.int (1 : Int32))) (fun h => by rw [Bd.returns] at h; cases h)
  refine ⟨_, _, pre0 _ ?_, hrun, hended, _, _, rfl, ?_, ⟨_, rfl⟩, hWm, hsame.mono (by decide) (by decide)⟩
  · show Steps p.tables e below (s₁.setTop (mkF m 0 La [])) _
    refine sI X0 hx hby d4_0 rfl ?_
    refine sI X0 hx hby d4_1 rfl ?_
    refine st1 _ ?_
    refine XS.istoreN X1.here hx rfl (hb hby d4_5) rfl (l' := Lb2) rfl ?_
    refine sA X1 hx hby d4_6 rfl rfl ?_
    refine st3.trans ?_
    refine XS.tswIn X3.here hx rfl (pc0 := 10) (pc' := 118) (o := 108) rfl (hb hby d4_10) rfl (by decide) (by decide) (by decide) (by decide) ?_
    refine sI X3 hx hby d4_118 rfl ?_
    refine sN X3 hx hby d4_119 (by decide) ?_
    refine sc X3 hx hby d4_122 ?_
    refine sg (pc := 123) (pc' := 127) X3 hx hby d4_123 (by decide) (by decide) ?_
    show Steps p.tables e below (T3.setTop (mkF m 127 Lb2 [(.int (1 : Int32))])) _
    exact retN X3 hx (t := .boolean) Bd.returns (by simp) (hb hby d4_127) hr
  · show Q4_37 Z w q1 q2 h0 n0 _ T3.heap _
    rw [e3]
    exact ⟨rfl, N3, rfl⟩
theorem d4_102 : decode prog_75_method_7_code 102 = .ok (.iconst 0, 1) := by decide +kernel
theorem d4_103 : decode prog_75_method_7_code 103 = .ok (.goto 24, 3) := by decide +kernel
theorem ef_4_38 (m : MethodId) (w : Nat → Addr) (q1 : Int32) (q2 : Int32) : entryFrame m #[(.ref (w 5)), (.int q1), (.int q2)] 4 = mkF m 0 #[.val (.ref (w 5)), .val (.int q1), .val (.int q2), .unset] [] := by first | (simp [entryFrame, mkF, argsToLocals, Value.category]; done) | rfl
def Q4_38 (Z : State) (w : Nat → Addr) (q1 : Int32) (q2 : Int32) (h0 : Heap) (n0 : Nat) (v : Option Value) (h : Heap) (L : List Loc) : Prop := v = some (.int (0 : Int32)) ∧ Fr n0 L ∧ h = h0
set_option maxRecDepth 65536 in
set_option maxHeartbeats 40000000 in
theorem rm4_38 (l : Launch) (Z : State) (a0 : Array Value) (hw : ∀ d ∈ tables_1, d.before a0 Z = true) (w : Nat → Addr) (hW : Wd Z w) (ws : List Jvm.Cond) (q1 : Int32) (q2 : Int32) (h0 : Heap) (n0 : Nat) (O0 : Old Z n0 h0) (c1 : ¬ (q1 < q2)) (c2 : ¬ (q1 = q2)) :
    MetFree l ym5 (head1 (Jvm.Cond.code ym5 prog_75_method_7_code 4 (some .boolean) :: ws) ({ frames := 1, cells := 0, slots := 0, locals := 13 } : Room)) (fun a U => a = #[(.ref (w 5)), (.int q1), (.int q2)] ∧ Z.Warmed39 U.vm ∧ U.heap = h0) (fun _ _ _ _ _ => True) (fun _ U o U' => ∃ v L, o = .returned v ∧ Q4_38 Z w q1 q2 h0 n0 v U'.heap L ∧ FrameEnd U o U' L ({ frames := 1, cells := 0, slots := 0, locals := 13 } : Room).cells ({ frames := 1, cells := 0, slots := 0, locals := 13 } : Room).slots) := by
  refine MetFree.of_bodySF (plainFor_of_name pnc_2) hisR ?_
  intro p e s m args below meth c s₁ Bd hml0 hP hK
  obtain ⟨rfl, hZ, hh⟩ := hP
  have hx := Bd.exec
  have hby := Bd.bytes
  have hml : c.maxLocals = 4 := hml0
  have hown : s.vm.findClass "com/example/gofyn/gofyn/typed/Term$Operator" = some m.cls := findClass_of_methodNamed Bd.named
  have hnm := (name_of_methodNamed Bd.named Bd.method).1
  have X0 : Stand p l e ({ frames := 1, cells := 0, slots := 0, locals := 13 } : Room) s m #[(.ref (w 5)), (.int q1), (.int q2)] below meth c s₁ [] 0 0 := Stand.of_body Bd
  have e0 : s₁.heap = h0 := by rw [← hh, Bd.state]; rfl
  have N0 := Fr.nil n0
  let La : Array Slot := #[.val (.ref (w 5)), .val (.int q1), .val (.int q2), .unset]
  have pre0 : ∀ t, Steps p.tables e below (s₁.setTop (mkF m 0 #[.val (.ref (w 5)), .val (.int q1), .val (.int q2), .unset] [])) t → Steps p.tables e below (s₁.setTop (entryFrame m #[(.ref (w 5)), (.int q1), (.int q2)] 4)) t := fun t k => castTop (ef_4_38 m w q1 q2) k
  obtain ⟨_, _, ⟨T1, L1, kk1, nn1⟩, -, X1, ⟨Lc1, hQ1, l1, y1, z1⟩, st1⟩ := Jvm.LawKit.callS X0 hx (y := ym4) hown (mvT hZ (wk27 hw)) (mvT hZ (wk28 hw)) (mvT hZ (wk29 hw)) (mvT hZ (wk30 hw)) (by decide) (backOf (W := 0) (rm5_6 l Z a0 hw w hW [] q1 q2 h0 n0 O0 c1 c2) hZ (wk30 hw) (wk29 hw) (by decide) (by decide)) (g := (mkF m 2 La [(.int q2), (.int q1)])) rfl (by rw [hml]; rfl) (argsL := [(.int q1), (.int q2)]) (rest := []) (lenOf pds_3 rfl) rfl (by show 2 * 0 + _ ≤ _; exact Nat.le_of_eq rfl) (hb hby d4_2) (fun _ _ => ⟨rfl, e0, (by decide : 0 + 0 ≤ _), (by decide : 0 + 0 ≤ _)⟩)
  dsimp only [Pt.U, Pt.locs, Pt.cells, Pt.slots] at X1 l1 y1 z1 st1 hQ1
  subst l1 y1 z1
  obtain ⟨rfl, N1q, e1⟩ := hQ1
  have N1 := Fr.app N0 N1q
  let Lb2 : Array Slot := #[.val (.ref (w 5)), .val (.int q1), .val (.int q2), .val (.int (1 : Int32))]
  obtain ⟨cq3, kq3, q3a, q3b, q3c⟩ := isOf hZ e1 ((wd11 hW).ext O0.2)
  obtain ⟨_, _, ⟨T3, L3, kk3, nn3⟩, -, X3, ⟨Lc3, hQ3, l3, y3, z3⟩, st3⟩ := X1.virtualBackUp hx (x := ym2) (y := ym1) hown (mvT hZ (wk13 hw)) (mvT hZ (wk14 hw)) (mvT hZ (wk15 hw)) (by decide) (mvT hZ (wk17 hw)) (mvT hZ (wk16 hw)) (backOf (W := 0) (rm3_33 l Z a0 hw w hW []  h0 n0 O0 ) hZ (wk19 hw) (wk18 hw) (by decide) (by decide)) q3a q3c (g := (mkF m 7 Lb2 [(.ref (w 5))])) rfl (by rw [hml]; rfl) (Steps.refl _) (argsL := []) (rest := []) (lenOf pds_1 rfl) rfl (by show 2 * 0 + _ ≤ _; exact Nat.le_of_eq rfl) (hb hby d4_7) (fun _ _ => ⟨rfl, e1, (by decide : 0 + 0 ≤ _), (by decide : 0 + 0 ≤ _)⟩)
  dsimp only [Pt.U, Pt.locs, Pt.cells, Pt.slots] at X3 l3 y3 z3 st3 hQ3
  subst l3 y3 z3
  obtain ⟨rfl, N3q, e3⟩ := hQ3
  have N3 := Fr.app N1 N3q
  obtain ⟨fs, hr, hrun, hended, hWm, hsame⟩ := X3.leave (v := some (.int (0 : Int32))) (fun h => by rw [Bd.returns] at h; cases h)
  refine ⟨_, _, pre0 _ ?_, hrun, hended, _, _, rfl, ?_, ⟨_, rfl⟩, hWm, hsame.mono (by decide) (by decide)⟩
  · show Steps p.tables e below (s₁.setTop (mkF m 0 La [])) _
    refine sI X0 hx hby d4_0 rfl ?_
    refine sI X0 hx hby d4_1 rfl ?_
    refine st1 _ ?_
    refine XS.istoreN X1.here hx rfl (hb hby d4_5) rfl (l' := Lb2) rfl ?_
    refine sA X1 hx hby d4_6 rfl rfl ?_
    refine st3.trans ?_
    refine XS.tswIn X3.here hx rfl (pc0 := 10) (pc' := 94) (o := 84) rfl (hb hby d4_10) rfl (by decide) (by decide) (by decide) (by decide) ?_
    refine sI X3 hx hby d4_94 rfl ?_
    refine XS.ifYes X3.here hx rfl (pc0 := 95) (pc' := 102) rfl (hb hby d4_95) rfl (by decide) (by decide) (by decide) ?_
    refine sc X3 hx hby d4_102 ?_
    refine sg (pc := 103) (pc' := 127) X3 hx hby d4_103 (by decide) (by decide) ?_
    show Steps p.tables e below (T3.setTop (mkF m 127 Lb2 [(.int (0 : Int32))])) _
    exact retN X3 hx (t := .boolean) Bd.returns (by simp) (hb hby d4_127) hr
  · show Q4_38 Z w q1 q2 h0 n0 _ T3.heap _
    rw [e3]
    exact ⟨rfl, N3, rfl⟩
theorem d4_126 : decode prog_75_method_7_code 126 = .ok (.iconst 0, 1) := by decide +kernel
theorem ef_4_39 (m : MethodId) (w : Nat → Addr) (q1 : Int32) (q2 : Int32) : entryFrame m #[(.ref (w 4)), (.int q1), (.int q2)] 4 = mkF m 0 #[.val (.ref (w 4)), .val (.int q1), .val (.int q2), .unset] [] := by first | (simp [entryFrame, mkF, argsToLocals, Value.category]; done) | rfl
def Q4_39 (Z : State) (w : Nat → Addr) (q1 : Int32) (q2 : Int32) (h0 : Heap) (n0 : Nat) (v : Option Value) (h : Heap) (L : List Loc) : Prop := v = some (.int (0 : Int32)) ∧ Fr n0 L ∧ h = h0
set_option maxRecDepth 65536 in
set_option maxHeartbeats 40000000 in
theorem rm4_39 (l : Launch) (Z : State) (a0 : Array Value) (hw : ∀ d ∈ tables_1, d.before a0 Z = true) (w : Nat → Addr) (hW : Wd Z w) (ws : List Jvm.Cond) (q1 : Int32) (q2 : Int32) (h0 : Heap) (n0 : Nat) (O0 : Old Z n0 h0) (c1 : q1 < q2) :
    MetFree l ym5 (head1 (Jvm.Cond.code ym5 prog_75_method_7_code 4 (some .boolean) :: ws) ({ frames := 1, cells := 0, slots := 0, locals := 13 } : Room)) (fun a U => a = #[(.ref (w 4)), (.int q1), (.int q2)] ∧ Z.Warmed39 U.vm ∧ U.heap = h0) (fun _ _ _ _ _ => True) (fun _ U o U' => ∃ v L, o = .returned v ∧ Q4_39 Z w q1 q2 h0 n0 v U'.heap L ∧ FrameEnd U o U' L ({ frames := 1, cells := 0, slots := 0, locals := 13 } : Room).cells ({ frames := 1, cells := 0, slots := 0, locals := 13 } : Room).slots) := by
  refine MetFree.of_bodySF (plainFor_of_name pnc_2) hisR ?_
  intro p e s m args below meth c s₁ Bd hml0 hP hK
  obtain ⟨rfl, hZ, hh⟩ := hP
  have hx := Bd.exec
  have hby := Bd.bytes
  have hml : c.maxLocals = 4 := hml0
  have hown : s.vm.findClass "com/example/gofyn/gofyn/typed/Term$Operator" = some m.cls := findClass_of_methodNamed Bd.named
  have hnm := (name_of_methodNamed Bd.named Bd.method).1
  have X0 : Stand p l e ({ frames := 1, cells := 0, slots := 0, locals := 13 } : Room) s m #[(.ref (w 4)), (.int q1), (.int q2)] below meth c s₁ [] 0 0 := Stand.of_body Bd
  have e0 : s₁.heap = h0 := by rw [← hh, Bd.state]; rfl
  have N0 := Fr.nil n0
  let La : Array Slot := #[.val (.ref (w 4)), .val (.int q1), .val (.int q2), .unset]
  have pre0 : ∀ t, Steps p.tables e below (s₁.setTop (mkF m 0 #[.val (.ref (w 4)), .val (.int q1), .val (.int q2), .unset] [])) t → Steps p.tables e below (s₁.setTop (entryFrame m #[(.ref (w 4)), (.int q1), (.int q2)] 4)) t := fun t k => castTop (ef_4_39 m w q1 q2) k
  obtain ⟨_, _, ⟨T1, L1, kk1, nn1⟩, -, X1, ⟨Lc1, hQ1, l1, y1, z1⟩, st1⟩ := Jvm.LawKit.callS X0 hx (y := ym4) hown (mvT hZ (wk27 hw)) (mvT hZ (wk28 hw)) (mvT hZ (wk29 hw)) (mvT hZ (wk30 hw)) (by decide) (backOf (W := 0) (rm5_4 l Z a0 hw w hW [] q1 q2 h0 n0 O0 c1) hZ (wk30 hw) (wk29 hw) (by decide) (by decide)) (g := (mkF m 2 La [(.int q2), (.int q1)])) rfl (by rw [hml]; rfl) (argsL := [(.int q1), (.int q2)]) (rest := []) (lenOf pds_3 rfl) rfl (by show 2 * 0 + _ ≤ _; exact Nat.le_of_eq rfl) (hb hby d4_2) (fun _ _ => ⟨rfl, e0, (by decide : 0 + 0 ≤ _), (by decide : 0 + 0 ≤ _)⟩)
  dsimp only [Pt.U, Pt.locs, Pt.cells, Pt.slots] at X1 l1 y1 z1 st1 hQ1
  subst l1 y1 z1
  obtain ⟨rfl, N1q, e1⟩ := hQ1
  have N1 := Fr.app N0 N1q
  let Lb2 : Array Slot := #[.val (.ref (w 4)), .val (.int q1), .val (.int q2), .val (.int (-1 : Int32))]
  obtain ⟨cq3, kq3, q3a, q3b, q3c⟩ := isOf hZ e1 ((wd9 hW).ext O0.2)
  obtain ⟨_, _, ⟨T3, L3, kk3, nn3⟩, -, X3, ⟨Lc3, hQ3, l3, y3, z3⟩, st3⟩ := X1.virtualBackUp hx (x := ym2) (y := ym1) hown (mvT hZ (wk13 hw)) (mvT hZ (wk14 hw)) (mvT hZ (wk15 hw)) (by decide) (mvT hZ (wk17 hw)) (mvT hZ (wk16 hw)) (backOf (W := 0) (rm3_36 l Z a0 hw w hW []  h0 n0 O0 ) hZ (wk19 hw) (wk18 hw) (by decide) (by decide)) q3a q3c (g := (mkF m 7 Lb2 [(.ref (w 4))])) rfl (by rw [hml]; rfl) (Steps.refl _) (argsL := []) (rest := []) (lenOf pds_1 rfl) rfl (by show 2 * 0 + _ ≤ _; exact Nat.le_of_eq rfl) (hb hby d4_7) (fun _ _ => ⟨rfl, e1, (by decide : 0 + 0 ≤ _), (by decide : 0 + 0 ≤ _)⟩)
  dsimp only [Pt.U, Pt.locs, Pt.cells, Pt.slots] at X3 l3 y3 z3 st3 hQ3
  subst l3 y3 z3
  obtain ⟨rfl, N3q, e3⟩ := hQ3
  have N3 := Fr.app N1 N3q
  obtain ⟨fs, hr, hrun, hended, hWm, hsame⟩ := X3.leave (v := some (.int (0 : Int32))) (fun h => by rw [Bd.returns] at h; cases h)
  refine ⟨_, _, pre0 _ ?_, hrun, hended, _, _, rfl, ?_, ⟨_, rfl⟩, hWm, hsame.mono (by decide) (by decide)⟩
  · show Steps p.tables e below (s₁.setTop (mkF m 0 La [])) _
    refine sI X0 hx hby d4_0 rfl ?_
    refine sI X0 hx hby d4_1 rfl ?_
    refine st1 _ ?_
    refine XS.istoreN X1.here hx rfl (hb hby d4_5) rfl (l' := Lb2) rfl ?_
    refine sA X1 hx hby d4_6 rfl rfl ?_
    refine st3.trans ?_
    refine XS.tswIn X3.here hx rfl (pc0 := 10) (pc' := 118) (o := 108) rfl (hb hby d4_10) rfl (by decide) (by decide) (by decide) (by decide) ?_
    refine sI X3 hx hby d4_118 rfl ?_
    refine XS.ifYes X3.here hx rfl (pc0 := 119) (pc' := 126) rfl (hb hby d4_119) rfl (by decide) (by decide) (by decide) ?_
    refine sc X3 hx hby d4_126 ?_
    exact retN X3 hx (t := .boolean) Bd.returns (by simp) (hb hby d4_127) hr
  · show Q4_39 Z w q1 q2 h0 n0 _ T3.heap _
    rw [e3]
    exact ⟨rfl, N3, rfl⟩
theorem ef_4_40 (m : MethodId) (w : Nat → Addr) (q1 : Int32) : entryFrame m #[(.ref (w 5)), (.int q1), (.int q1)] 4 = mkF m 0 #[.val (.ref (w 5)), .val (.int q1), .val (.int q1), .unset] [] := by first | (simp [entryFrame, mkF, argsToLocals, Value.category]; done) | rfl
def Q4_40 (Z : State) (w : Nat → Addr) (q1 : Int32) (h0 : Heap) (n0 : Nat) (v : Option Value) (h : Heap) (L : List Loc) : Prop := v = some (.int (1 : Int32)) ∧ Fr n0 L ∧ h = h0
set_option maxRecDepth 65536 in
set_option maxHeartbeats 40000000 in
theorem rm4_40 (l : Launch) (Z : State) (a0 : Array Value) (hw : ∀ d ∈ tables_1, d.before a0 Z = true) (w : Nat → Addr) (hW : Wd Z w) (ws : List Jvm.Cond) (q1 : Int32) (h0 : Heap) (n0 : Nat) (O0 : Old Z n0 h0) :
    MetFree l ym5 (head1 (Jvm.Cond.code ym5 prog_75_method_7_code 4 (some .boolean) :: ws) ({ frames := 1, cells := 0, slots := 0, locals := 13 } : Room)) (fun a U => a = #[(.ref (w 5)), (.int q1), (.int q1)] ∧ Z.Warmed39 U.vm ∧ U.heap = h0) (fun _ _ _ _ _ => True) (fun _ U o U' => ∃ v L, o = .returned v ∧ Q4_40 Z w q1 h0 n0 v U'.heap L ∧ FrameEnd U o U' L ({ frames := 1, cells := 0, slots := 0, locals := 13 } : Room).cells ({ frames := 1, cells := 0, slots := 0, locals := 13 } : Room).slots) := by
  refine MetFree.of_bodySF (plainFor_of_name pnc_2) hisR ?_
  intro p e s m args below meth c s₁ Bd hml0 hP hK
  obtain ⟨rfl, hZ, hh⟩ := hP
  have hx := Bd.exec
  have hby := Bd.bytes
  have hml : c.maxLocals = 4 := hml0
  have hown : s.vm.findClass "com/example/gofyn/gofyn/typed/Term$Operator" = some m.cls := findClass_of_methodNamed Bd.named
  have hnm := (name_of_methodNamed Bd.named Bd.method).1
  have X0 : Stand p l e ({ frames := 1, cells := 0, slots := 0, locals := 13 } : Room) s m #[(.ref (w 5)), (.int q1), (.int q1)] below meth c s₁ [] 0 0 := Stand.of_body Bd
  have e0 : s₁.heap = h0 := by rw [← hh, Bd.state]; rfl
  have N0 := Fr.nil n0
  let La : Array Slot := #[.val (.ref (w 5)), .val (.int q1), .val (.int q1), .unset]
  have pre0 : ∀ t, Steps p.tables e below (s₁.setTop (mkF m 0 #[.val (.ref (w 5)), .val (.int q1), .val (.int q1), .unset] [])) t → Steps p.tables e below (s₁.setTop (entryFrame m #[(.ref (w 5)), (.int q1), (.int q1)] 4)) t := fun t k => castTop (ef_4_40 m w q1) k
  obtain ⟨_, _, ⟨T1, L1, kk1, nn1⟩, -, X1, ⟨Lc1, hQ1, l1, y1, z1⟩, st1⟩ := Jvm.LawKit.callS X0 hx (y := ym4) hown (mvT hZ (wk27 hw)) (mvT hZ (wk28 hw)) (mvT hZ (wk29 hw)) (mvT hZ (wk30 hw)) (by decide) (backOf (W := 0) (rm5_8 l Z a0 hw w hW [] q1 h0 n0 O0 ) hZ (wk30 hw) (wk29 hw) (by decide) (by decide)) (g := (mkF m 2 La [(.int q1), (.int q1)])) rfl (by rw [hml]; rfl) (argsL := [(.int q1), (.int q1)]) (rest := []) (lenOf pds_3 rfl) rfl (by show 2 * 0 + _ ≤ _; exact Nat.le_of_eq rfl) (hb hby d4_2) (fun _ _ => ⟨rfl, e0, (by decide : 0 + 0 ≤ _), (by decide : 0 + 0 ≤ _)⟩)
  dsimp only [Pt.U, Pt.locs, Pt.cells, Pt.slots] at X1 l1 y1 z1 st1 hQ1
  subst l1 y1 z1
  obtain ⟨rfl, N1q, e1⟩ := hQ1
  have N1 := Fr.app N0 N1q
  let Lb2 : Array Slot := #[.val (.ref (w 5)), .val (.int q1), .val (.int q1), .val (.int (0 : Int32))]
  obtain ⟨cq3, kq3, q3a, q3b, q3c⟩ := isOf hZ e1 ((wd11 hW).ext O0.2)
  obtain ⟨_, _, ⟨T3, L3, kk3, nn3⟩, -, X3, ⟨Lc3, hQ3, l3, y3, z3⟩, st3⟩ := X1.virtualBackUp hx (x := ym2) (y := ym1) hown (mvT hZ (wk13 hw)) (mvT hZ (wk14 hw)) (mvT hZ (wk15 hw)) (by decide) (mvT hZ (wk17 hw)) (mvT hZ (wk16 hw)) (backOf (W := 0) (rm3_33 l Z a0 hw w hW []  h0 n0 O0 ) hZ (wk19 hw) (wk18 hw) (by decide) (by decide)) q3a q3c (g := (mkF m 7 Lb2 [(.ref (w 5))])) rfl (by rw [hml]; rfl) (Steps.refl _) (argsL := []) (rest := []) (lenOf pds_1 rfl) rfl (by show 2 * 0 + _ ≤ _; exact Nat.le_of_eq rfl) (hb hby d4_7) (fun _ _ => ⟨rfl, e1, (by decide : 0 + 0 ≤ _), (by decide : 0 + 0 ≤ _)⟩)
  dsimp only [Pt.U, Pt.locs, Pt.cells, Pt.slots] at X3 l3 y3 z3 st3 hQ3
  subst l3 y3 z3
  obtain ⟨rfl, N3q, e3⟩ := hQ3
  have N3 := Fr.app N1 N3q
  obtain ⟨fs, hr, hrun, hended, hWm, hsame⟩ := X3.leave (v := some (.int (1 : Int32))) (fun h => by rw [Bd.returns] at h; cases h)
  refine ⟨_, _, pre0 _ ?_, hrun, hended, _, _, rfl, ?_, ⟨_, rfl⟩, hWm, hsame.mono (by decide) (by decide)⟩
  · show Steps p.tables e below (s₁.setTop (mkF m 0 La [])) _
    refine sI X0 hx hby d4_0 rfl ?_
    refine sI X0 hx hby d4_1 rfl ?_
    refine st1 _ ?_
    refine XS.istoreN X1.here hx rfl (hb hby d4_5) rfl (l' := Lb2) rfl ?_
    refine sA X1 hx hby d4_6 rfl rfl ?_
    refine st3.trans ?_
    refine XS.tswIn X3.here hx rfl (pc0 := 10) (pc' := 94) (o := 84) rfl (hb hby d4_10) rfl (by decide) (by decide) (by decide) (by decide) ?_
    refine sI X3 hx hby d4_94 rfl ?_
    refine sN X3 hx hby d4_95 (by decide) ?_
    refine sc X3 hx hby d4_98 ?_
    refine sg (pc := 99) (pc' := 127) X3 hx hby d4_99 (by decide) (by decide) ?_
    show Steps p.tables e below (T3.setTop (mkF m 127 Lb2 [(.int (1 : Int32))])) _
    exact retN X3 hx (t := .boolean) Bd.returns (by simp) (hb hby d4_127) hr
  · show Q4_40 Z w q1 h0 n0 _ T3.heap _
    rw [e3]
    exact ⟨rfl, N3, rfl⟩
theorem ef_4_41 (m : MethodId) (w : Nat → Addr) (q1 : Int32) : entryFrame m #[(.ref (w 4)), (.int q1), (.int q1)] 4 = mkF m 0 #[.val (.ref (w 4)), .val (.int q1), .val (.int q1), .unset] [] := by first | (simp [entryFrame, mkF, argsToLocals, Value.category]; done) | rfl
def Q4_41 (Z : State) (w : Nat → Addr) (q1 : Int32) (h0 : Heap) (n0 : Nat) (v : Option Value) (h : Heap) (L : List Loc) : Prop := v = some (.int (1 : Int32)) ∧ Fr n0 L ∧ h = h0
set_option maxRecDepth 65536 in
set_option maxHeartbeats 40000000 in
theorem rm4_41 (l : Launch) (Z : State) (a0 : Array Value) (hw : ∀ d ∈ tables_1, d.before a0 Z = true) (w : Nat → Addr) (hW : Wd Z w) (ws : List Jvm.Cond) (q1 : Int32) (h0 : Heap) (n0 : Nat) (O0 : Old Z n0 h0) :
    MetFree l ym5 (head1 (Jvm.Cond.code ym5 prog_75_method_7_code 4 (some .boolean) :: ws) ({ frames := 1, cells := 0, slots := 0, locals := 13 } : Room)) (fun a U => a = #[(.ref (w 4)), (.int q1), (.int q1)] ∧ Z.Warmed39 U.vm ∧ U.heap = h0) (fun _ _ _ _ _ => True) (fun _ U o U' => ∃ v L, o = .returned v ∧ Q4_41 Z w q1 h0 n0 v U'.heap L ∧ FrameEnd U o U' L ({ frames := 1, cells := 0, slots := 0, locals := 13 } : Room).cells ({ frames := 1, cells := 0, slots := 0, locals := 13 } : Room).slots) := by
  refine MetFree.of_bodySF (plainFor_of_name pnc_2) hisR ?_
  intro p e s m args below meth c s₁ Bd hml0 hP hK
  obtain ⟨rfl, hZ, hh⟩ := hP
  have hx := Bd.exec
  have hby := Bd.bytes
  have hml : c.maxLocals = 4 := hml0
  have hown : s.vm.findClass "com/example/gofyn/gofyn/typed/Term$Operator" = some m.cls := findClass_of_methodNamed Bd.named
  have hnm := (name_of_methodNamed Bd.named Bd.method).1
  have X0 : Stand p l e ({ frames := 1, cells := 0, slots := 0, locals := 13 } : Room) s m #[(.ref (w 4)), (.int q1), (.int q1)] below meth c s₁ [] 0 0 := Stand.of_body Bd
  have e0 : s₁.heap = h0 := by rw [← hh, Bd.state]; rfl
  have N0 := Fr.nil n0
  let La : Array Slot := #[.val (.ref (w 4)), .val (.int q1), .val (.int q1), .unset]
  have pre0 : ∀ t, Steps p.tables e below (s₁.setTop (mkF m 0 #[.val (.ref (w 4)), .val (.int q1), .val (.int q1), .unset] [])) t → Steps p.tables e below (s₁.setTop (entryFrame m #[(.ref (w 4)), (.int q1), (.int q1)] 4)) t := fun t k => castTop (ef_4_41 m w q1) k
  obtain ⟨_, _, ⟨T1, L1, kk1, nn1⟩, -, X1, ⟨Lc1, hQ1, l1, y1, z1⟩, st1⟩ := Jvm.LawKit.callS X0 hx (y := ym4) hown (mvT hZ (wk27 hw)) (mvT hZ (wk28 hw)) (mvT hZ (wk29 hw)) (mvT hZ (wk30 hw)) (by decide) (backOf (W := 0) (rm5_8 l Z a0 hw w hW [] q1 h0 n0 O0 ) hZ (wk30 hw) (wk29 hw) (by decide) (by decide)) (g := (mkF m 2 La [(.int q1), (.int q1)])) rfl (by rw [hml]; rfl) (argsL := [(.int q1), (.int q1)]) (rest := []) (lenOf pds_3 rfl) rfl (by show 2 * 0 + _ ≤ _; exact Nat.le_of_eq rfl) (hb hby d4_2) (fun _ _ => ⟨rfl, e0, (by decide : 0 + 0 ≤ _), (by decide : 0 + 0 ≤ _)⟩)
  dsimp only [Pt.U, Pt.locs, Pt.cells, Pt.slots] at X1 l1 y1 z1 st1 hQ1
  subst l1 y1 z1
  obtain ⟨rfl, N1q, e1⟩ := hQ1
  have N1 := Fr.app N0 N1q
  let Lb2 : Array Slot := #[.val (.ref (w 4)), .val (.int q1), .val (.int q1), .val (.int (0 : Int32))]
  obtain ⟨cq3, kq3, q3a, q3b, q3c⟩ := isOf hZ e1 ((wd9 hW).ext O0.2)
  obtain ⟨_, _, ⟨T3, L3, kk3, nn3⟩, -, X3, ⟨Lc3, hQ3, l3, y3, z3⟩, st3⟩ := X1.virtualBackUp hx (x := ym2) (y := ym1) hown (mvT hZ (wk13 hw)) (mvT hZ (wk14 hw)) (mvT hZ (wk15 hw)) (by decide) (mvT hZ (wk17 hw)) (mvT hZ (wk16 hw)) (backOf (W := 0) (rm3_36 l Z a0 hw w hW []  h0 n0 O0 ) hZ (wk19 hw) (wk18 hw) (by decide) (by decide)) q3a q3c (g := (mkF m 7 Lb2 [(.ref (w 4))])) rfl (by rw [hml]; rfl) (Steps.refl _) (argsL := []) (rest := []) (lenOf pds_1 rfl) rfl (by show 2 * 0 + _ ≤ _; exact Nat.le_of_eq rfl) (hb hby d4_7) (fun _ _ => ⟨rfl, e1, (by decide : 0 + 0 ≤ _), (by decide : 0 + 0 ≤ _)⟩)
  dsimp only [Pt.U, Pt.locs, Pt.cells, Pt.slots] at X3 l3 y3 z3 st3 hQ3
  subst l3 y3 z3
  obtain ⟨rfl, N3q, e3⟩ := hQ3
  have N3 := Fr.app N1 N3q
  obtain ⟨fs, hr, hrun, hended, hWm, hsame⟩ := X3.leave (v := some (.int (1 : Int32))) (fun h => by rw [Bd.returns] at h; cases h)
  refine ⟨_, _, pre0 _ ?_, hrun, hended, _, _, rfl, ?_, ⟨_, rfl⟩, hWm, hsame.mono (by decide) (by decide)⟩
  · show Steps p.tables e below (s₁.setTop (mkF m 0 La [])) _
    refine sI X0 hx hby d4_0 rfl ?_
    refine sI X0 hx hby d4_1 rfl ?_
    refine st1 _ ?_
    refine XS.istoreN X1.here hx rfl (hb hby d4_5) rfl (l' := Lb2) rfl ?_
    refine sA X1 hx hby d4_6 rfl rfl ?_
    refine st3.trans ?_
    refine XS.tswIn X3.here hx rfl (pc0 := 10) (pc' := 118) (o := 108) rfl (hb hby d4_10) rfl (by decide) (by decide) (by decide) (by decide) ?_
    refine sI X3 hx hby d4_118 rfl ?_
    refine sN X3 hx hby d4_119 (by decide) ?_
    refine sc X3 hx hby d4_122 ?_
    refine sg (pc := 123) (pc' := 127) X3 hx hby d4_123 (by decide) (by decide) ?_
    show Steps p.tables e below (T3.setTop (mkF m 127 Lb2 [(.int (1 : Int32))])) _
    exact retN X3 hx (t := .boolean) Bd.returns (by simp) (hb hby d4_127) hr
  · show Q4_41 Z w q1 h0 n0 _ T3.heap _
    rw [e3]
    exact ⟨rfl, N3, rfl⟩
theorem d2_76 : decode prog_75_method_6_code 76 = .ok (.getstatic 13, 3) := by decide +kernel
theorem ef_2_42 (m : MethodId) (w : Nat → Addr) : entryFrame m #[(.ref (w 4))] 1 = mkF m 0 #[.val (.ref (w 4))] [] := by first | (simp [entryFrame, mkF, argsToLocals, Value.category]; done) | rfl
def Q2_42 (Z : State) (w : Nat → Addr) (h0 : Heap) (n0 : Nat) (v : Option Value) (h : Heap) (L : List Loc) : Prop := v = some (.ref (w 5)) ∧ Fr n0 L ∧ h = h0
set_option maxRecDepth 65536 in
set_option maxHeartbeats 40000000 in
theorem rm2_42 (l : Launch) (Z : State) (a0 : Array Value) (hw : ∀ d ∈ tables_1, d.before a0 Z = true) (w : Nat → Addr) (hW : Wd Z w) (ws : List Jvm.Cond) (h0 : Heap) (n0 : Nat) (O0 : Old Z n0 h0) :
    MetFree l ym3 (head1 (Jvm.Cond.code ym3 prog_75_method_6_code 1 (some (.object "com/example/gofyn/gofyn/typed/Term$Operator")) :: ws) ({ frames := 1, cells := 0, slots := 0, locals := 12 } : Room)) (fun a U => a = #[(.ref (w 4))] ∧ Z.Warmed39 U.vm ∧ U.heap = h0) (fun _ _ _ _ _ => True) (fun _ U o U' => ∃ v L, o = .returned v ∧ Q2_42 Z w h0 n0 v U'.heap L ∧ FrameEnd U o U' L ({ frames := 1, cells := 0, slots := 0, locals := 12 } : Room).cells ({ frames := 1, cells := 0, slots := 0, locals := 12 } : Room).slots) := by
  refine MetFree.of_bodySF (plainFor_of_name pnc_2) hisR ?_
  intro p e s m args below meth c s₁ Bd hml0 hP hK
  obtain ⟨rfl, hZ, hh⟩ := hP
  have hx := Bd.exec
  have hby := Bd.bytes
  have hml : c.maxLocals = 1 := hml0
  have hown : s.vm.findClass "com/example/gofyn/gofyn/typed/Term$Operator" = some m.cls := findClass_of_methodNamed Bd.named
  have hnm := (name_of_methodNamed Bd.named Bd.method).1
  have X0 : Stand p l e ({ frames := 1, cells := 0, slots := 0, locals := 12 } : Room) s m #[(.ref (w 4))] below meth c s₁ [] 0 0 := Stand.of_body Bd
  have e0 : s₁.heap = h0 := by rw [← hh, Bd.state]; rfl
  have N0 := Fr.nil n0
  skip
  have pre0 : ∀ t, Steps p.tables e below (s₁.setTop (mkF m 0 #[.val (.ref (w 4))] [])) t → Steps p.tables e below (s₁.setTop (entryFrame m #[(.ref (w 4))] 1)) t := fun t k => castTop (ef_2_42 m w) k
  obtain ⟨cq1, kq1, q1a, q1b, q1c⟩ := isOf hZ e0 ((wd9 hW).ext O0.2)
  obtain ⟨_, _, ⟨T1, L1, kk1, nn1⟩, -, X1, ⟨Lc1, hQ1, l1, y1, z1⟩, st1⟩ := X0.virtualBackUp hx (x := ym2) (y := ym1) hown (mvT hZ (wk13 hw)) (mvT hZ (wk14 hw)) (mvT hZ (wk15 hw)) (by decide) (mvT hZ (wk17 hw)) (mvT hZ (wk16 hw)) (backOf (W := 0) (rm3_36 l Z a0 hw w hW []  h0 n0 O0 ) hZ (wk19 hw) (wk18 hw) (by decide) (by decide)) q1a q1c (g := (mkF m 1 #[.val (.ref (w 4))] [(.ref (w 4))])) rfl (by rw [hml]; rfl) (Steps.refl _) (argsL := []) (rest := []) (lenOf pds_1 rfl) rfl (by show 2 * 0 + _ ≤ _; exact Nat.le_of_eq rfl) (hb hby d2_1) (fun _ _ => ⟨rfl, e0, (by decide : 0 + 0 ≤ _), (by decide : 0 + 0 ≤ _)⟩)
  dsimp only [Pt.U, Pt.locs, Pt.cells, Pt.slots] at X1 l1 y1 z1 st1 hQ1
  subst l1 y1 z1
  obtain ⟨rfl, N1q, e1⟩ := hQ1
  have N1 := Fr.app N0 N1q
  obtain ⟨T2, X2, e2, st2⟩ := getS2 X1 hx hZ hown (host := "") (Or.inl (wk40 hw)) Via.refl e1 ((wd10 hW).ext O0.2) (g := (mkF m 76 #[.val (.ref (w 4))] [])) rfl (hb hby d2_76)
  obtain ⟨fs, hr, hrun, hended, hWm, hsame⟩ := X2.leave (v := some (.ref (w 5))) (fun h => by rw [Bd.returns] at h; cases h)
  refine ⟨_, _, pre0 _ ?_, hrun, hended, _, _, rfl, ?_, ⟨_, rfl⟩, hWm, hsame.mono (by decide) (by decide)⟩
  · show Steps p.tables e below (s₁.setTop (mkF m 0 #[.val (.ref (w 4))] [])) _
    refine sA X0 hx hby d2_0 rfl rfl ?_
    refine st1.trans ?_
    refine XS.tswIn X1.here hx rfl (pc0 := 4) (pc' := 76) (o := 72) rfl (hb hby d2_4) rfl (by decide) (by decide) (by decide) (by decide) ?_
    refine st2 _ ?_
    jvm_step X2.here [X2.here.top, hx, (hb hby d2_79), X2.method', Bd.returns, Value.isRef, FieldType.isReference]
    first | (intro acts; rw [hr _ acts rfl rfl rfl]) | rw [hr _ _ rfl rfl rfl]
    exact Steps.refl _
  · show Q2_42 Z w h0 n0 _ T2.heap _
    rw [e2]
    exact ⟨rfl, N1, rfl⟩
theorem ef_4_43 (m : MethodId) (w : Nat → Addr) (q1 : Int32) (q2 : Int32) : entryFrame m #[(.ref (w 5)), (.int q1), (.int q2)] 4 = mkF m 0 #[.val (.ref (w 5)), .val (.int q1), .val (.int q2), .unset] [] := by first | (simp [entryFrame, mkF, argsToLocals, Value.category]; done) | rfl
def Q4_43 (Z : State) (w : Nat → Addr) (q1 : Int32) (q2 : Int32) (h0 : Heap) (n0 : Nat) (v : Option Value) (h : Heap) (L : List Loc) : Prop := v = some (.int (1 : Int32)) ∧ Fr n0 L ∧ h = h0
set_option maxRecDepth 65536 in
set_option maxHeartbeats 40000000 in
theorem rm4_43 (l : Launch) (Z : State) (a0 : Array Value) (hw : ∀ d ∈ tables_1, d.before a0 Z = true) (w : Nat → Addr) (hW : Wd Z w) (ws : List Jvm.Cond) (q1 : Int32) (q2 : Int32) (h0 : Heap) (n0 : Nat) (O0 : Old Z n0 h0) (c1 : ¬ (q1 < q2)) (c2 : q1 = q2) :
    MetFree l ym5 (head1 (Jvm.Cond.code ym5 prog_75_method_7_code 4 (some .boolean) :: ws) ({ frames := 1, cells := 0, slots := 0, locals := 13 } : Room)) (fun a U => a = #[(.ref (w 5)), (.int q1), (.int q2)] ∧ Z.Warmed39 U.vm ∧ U.heap = h0) (fun _ _ _ _ _ => True) (fun _ U o U' => ∃ v L, o = .returned v ∧ Q4_43 Z w q1 q2 h0 n0 v U'.heap L ∧ FrameEnd U o U' L ({ frames := 1, cells := 0, slots := 0, locals := 13 } : Room).cells ({ frames := 1, cells := 0, slots := 0, locals := 13 } : Room).slots) := by
  refine MetFree.of_bodySF (plainFor_of_name pnc_2) hisR ?_
  intro p e s m args below meth c s₁ Bd hml0 hP hK
  obtain ⟨rfl, hZ, hh⟩ := hP
  have hx := Bd.exec
  have hby := Bd.bytes
  have hml : c.maxLocals = 4 := hml0
  have hown : s.vm.findClass "com/example/gofyn/gofyn/typed/Term$Operator" = some m.cls := findClass_of_methodNamed Bd.named
  have hnm := (name_of_methodNamed Bd.named Bd.method).1
  have X0 : Stand p l e ({ frames := 1, cells := 0, slots := 0, locals := 13 } : Room) s m #[(.ref (w 5)), (.int q1), (.int q2)] below meth c s₁ [] 0 0 := Stand.of_body Bd
  have e0 : s₁.heap = h0 := by rw [← hh, Bd.state]; rfl
  have N0 := Fr.nil n0
  let La : Array Slot := #[.val (.ref (w 5)), .val (.int q1), .val (.int q2), .unset]
  have pre0 : ∀ t, Steps p.tables e below (s₁.setTop (mkF m 0 #[.val (.ref (w 5)), .val (.int q1), .val (.int q2), .unset] [])) t → Steps p.tables e below (s₁.setTop (entryFrame m #[(.ref (w 5)), (.int q1), (.int q2)] 4)) t := fun t k => castTop (ef_4_43 m w q1 q2) k
  obtain ⟨_, _, ⟨T1, L1, kk1, nn1⟩, -, X1, ⟨Lc1, hQ1, l1, y1, z1⟩, st1⟩ := Jvm.LawKit.callS X0 hx (y := ym4) hown (mvT hZ (wk27 hw)) (mvT hZ (wk28 hw)) (mvT hZ (wk29 hw)) (mvT hZ (wk30 hw)) (by decide) (backOf (W := 0) (rm5_10 l Z a0 hw w hW [] q1 q2 h0 n0 O0 c1 c2) hZ (wk30 hw) (wk29 hw) (by decide) (by decide)) (g := (mkF m 2 La [(.int q2), (.int q1)])) rfl (by rw [hml]; rfl) (argsL := [(.int q1), (.int q2)]) (rest := []) (lenOf pds_3 rfl) rfl (by show 2 * 0 + _ ≤ _; exact Nat.le_of_eq rfl) (hb hby d4_2) (fun _ _ => ⟨rfl, e0, (by decide : 0 + 0 ≤ _), (by decide : 0 + 0 ≤ _)⟩)
  dsimp only [Pt.U, Pt.locs, Pt.cells, Pt.slots] at X1 l1 y1 z1 st1 hQ1
  subst l1 y1 z1
  obtain ⟨rfl, N1q, e1⟩ := hQ1
  have N1 := Fr.app N0 N1q
  let Lb2 : Array Slot := #[.val (.ref (w 5)), .val (.int q1), .val (.int q2), .val (.int (0 : Int32))]
  obtain ⟨cq3, kq3, q3a, q3b, q3c⟩ := isOf hZ e1 ((wd11 hW).ext O0.2)
  obtain ⟨_, _, ⟨T3, L3, kk3, nn3⟩, -, X3, ⟨Lc3, hQ3, l3, y3, z3⟩, st3⟩ := X1.virtualBackUp hx (x := ym2) (y := ym1) hown (mvT hZ (wk13 hw)) (mvT hZ (wk14 hw)) (mvT hZ (wk15 hw)) (by decide) (mvT hZ (wk17 hw)) (mvT hZ (wk16 hw)) (backOf (W := 0) (rm3_33 l Z a0 hw w hW []  h0 n0 O0 ) hZ (wk19 hw) (wk18 hw) (by decide) (by decide)) q3a q3c (g := (mkF m 7 Lb2 [(.ref (w 5))])) rfl (by rw [hml]; rfl) (Steps.refl _) (argsL := []) (rest := []) (lenOf pds_1 rfl) rfl (by show 2 * 0 + _ ≤ _; exact Nat.le_of_eq rfl) (hb hby d4_7) (fun _ _ => ⟨rfl, e1, (by decide : 0 + 0 ≤ _), (by decide : 0 + 0 ≤ _)⟩)
  dsimp only [Pt.U, Pt.locs, Pt.cells, Pt.slots] at X3 l3 y3 z3 st3 hQ3
  subst l3 y3 z3
  obtain ⟨rfl, N3q, e3⟩ := hQ3
  have N3 := Fr.app N1 N3q
  obtain ⟨fs, hr, hrun, hended, hWm, hsame⟩ := X3.leave (v := some (.int (1 : Int32))) (fun h => by rw [Bd.returns] at h; cases h)
  refine ⟨_, _, pre0 _ ?_, hrun, hended, _, _, rfl, ?_, ⟨_, rfl⟩, hWm, hsame.mono (by decide) (by decide)⟩
  · show Steps p.tables e below (s₁.setTop (mkF m 0 La [])) _
    refine sI X0 hx hby d4_0 rfl ?_
    refine sI X0 hx hby d4_1 rfl ?_
    refine st1 _ ?_
    refine XS.istoreN X1.here hx rfl (hb hby d4_5) rfl (l' := Lb2) rfl ?_
    refine sA X1 hx hby d4_6 rfl rfl ?_
    refine st3.trans ?_
    refine XS.tswIn X3.here hx rfl (pc0 := 10) (pc' := 94) (o := 84) rfl (hb hby d4_10) rfl (by decide) (by decide) (by decide) (by decide) ?_
    refine sI X3 hx hby d4_94 rfl ?_
    refine sN X3 hx hby d4_95 (by decide) ?_
    refine sc X3 hx hby d4_98 ?_
    refine sg (pc := 99) (pc' := 127) X3 hx hby d4_99 (by decide) (by decide) ?_
    show Steps p.tables e below (T3.setTop (mkF m 127 Lb2 [(.int (1 : Int32))])) _
    exact retN X3 hx (t := .boolean) Bd.returns (by simp) (hb hby d4_127) hr
  · show Q4_43 Z w q1 q2 h0 n0 _ T3.heap _
    rw [e3]
    exact ⟨rfl, N3, rfl⟩
theorem ef_4_44 (m : MethodId) (w : Nat → Addr) (q1 : Int32) (q2 : Int32) : entryFrame m #[(.ref (w 4)), (.int q1), (.int q2)] 4 = mkF m 0 #[.val (.ref (w 4)), .val (.int q1), .val (.int q2), .unset] [] := by first | (simp [entryFrame, mkF, argsToLocals, Value.category]; done) | rfl
def Q4_44 (Z : State) (w : Nat → Addr) (q1 : Int32) (q2 : Int32) (h0 : Heap) (n0 : Nat) (v : Option Value) (h : Heap) (L : List Loc) : Prop := v = some (.int (1 : Int32)) ∧ Fr n0 L ∧ h = h0
set_option maxRecDepth 65536 in
set_option maxHeartbeats 40000000 in
theorem rm4_44 (l : Launch) (Z : State) (a0 : Array Value) (hw : ∀ d ∈ tables_1, d.before a0 Z = true) (w : Nat → Addr) (hW : Wd Z w) (ws : List Jvm.Cond) (q1 : Int32) (q2 : Int32) (h0 : Heap) (n0 : Nat) (O0 : Old Z n0 h0) (c1 : ¬ (q1 < q2)) (c2 : q1 = q2) :
    MetFree l ym5 (head1 (Jvm.Cond.code ym5 prog_75_method_7_code 4 (some .boolean) :: ws) ({ frames := 1, cells := 0, slots := 0, locals := 13 } : Room)) (fun a U => a = #[(.ref (w 4)), (.int q1), (.int q2)] ∧ Z.Warmed39 U.vm ∧ U.heap = h0) (fun _ _ _ _ _ => True) (fun _ U o U' => ∃ v L, o = .returned v ∧ Q4_44 Z w q1 q2 h0 n0 v U'.heap L ∧ FrameEnd U o U' L ({ frames := 1, cells := 0, slots := 0, locals := 13 } : Room).cells ({ frames := 1, cells := 0, slots := 0, locals := 13 } : Room).slots) := by
  refine MetFree.of_bodySF (plainFor_of_name pnc_2) hisR ?_
  intro p e s m args below meth c s₁ Bd hml0 hP hK
  obtain ⟨rfl, hZ, hh⟩ := hP
  have hx := Bd.exec
  have hby := Bd.bytes
  have hml : c.maxLocals = 4 := hml0
  have hown : s.vm.findClass "com/example/gofyn/gofyn/typed/Term$Operator" = some m.cls := findClass_of_methodNamed Bd.named
  have hnm := (name_of_methodNamed Bd.named Bd.method).1
  have X0 : Stand p l e ({ frames := 1, cells := 0, slots := 0, locals := 13 } : Room) s m #[(.ref (w 4)), (.int q1), (.int q2)] below meth c s₁ [] 0 0 := Stand.of_body Bd
  have e0 : s₁.heap = h0 := by rw [← hh, Bd.state]; rfl
  have N0 := Fr.nil n0
  let La : Array Slot := #[.val (.ref (w 4)), .val (.int q1), .val (.int q2), .unset]
  have pre0 : ∀ t, Steps p.tables e below (s₁.setTop (mkF m 0 #[.val (.ref (w 4)), .val (.int q1), .val (.int q2), .unset] [])) t → Steps p.tables e below (s₁.setTop (entryFrame m #[(.ref (w 4)), (.int q1), (.int q2)] 4)) t := fun t k => castTop (ef_4_44 m w q1 q2) k
  obtain ⟨_, _, ⟨T1, L1, kk1, nn1⟩, -, X1, ⟨Lc1, hQ1, l1, y1, z1⟩, st1⟩ := Jvm.LawKit.callS X0 hx (y := ym4) hown (mvT hZ (wk27 hw)) (mvT hZ (wk28 hw)) (mvT hZ (wk29 hw)) (mvT hZ (wk30 hw)) (by decide) (backOf (W := 0) (rm5_10 l Z a0 hw w hW [] q1 q2 h0 n0 O0 c1 c2) hZ (wk30 hw) (wk29 hw) (by decide) (by decide)) (g := (mkF m 2 La [(.int q2), (.int q1)])) rfl (by rw [hml]; rfl) (argsL := [(.int q1), (.int q2)]) (rest := []) (lenOf pds_3 rfl) rfl (by show 2 * 0 + _ ≤ _; exact Nat.le_of_eq rfl) (hb hby d4_2) (fun _ _ => ⟨rfl, e0, (by decide : 0 + 0 ≤ _), (by decide : 0 + 0 ≤ _)⟩)
  dsimp only [Pt.U, Pt.locs, Pt.cells, Pt.slots] at X1 l1 y1 z1 st1 hQ1
  subst l1 y1 z1
  obtain ⟨rfl, N1q, e1⟩ := hQ1
  have N1 := Fr.app N0 N1q
  let Lb2 : Array Slot := #[.val (.ref (w 4)), .val (.int q1), .val (.int q2), .val (.int (0 : Int32))]
  obtain ⟨cq3, kq3, q3a, q3b, q3c⟩ := isOf hZ e1 ((wd9 hW).ext O0.2)
  obtain ⟨_, _, ⟨T3, L3, kk3, nn3⟩, -, X3, ⟨Lc3, hQ3, l3, y3, z3⟩, st3⟩ := X1.virtualBackUp hx (x := ym2) (y := ym1) hown (mvT hZ (wk13 hw)) (mvT hZ (wk14 hw)) (mvT hZ (wk15 hw)) (by decide) (mvT hZ (wk17 hw)) (mvT hZ (wk16 hw)) (backOf (W := 0) (rm3_36 l Z a0 hw w hW []  h0 n0 O0 ) hZ (wk19 hw) (wk18 hw) (by decide) (by decide)) q3a q3c (g := (mkF m 7 Lb2 [(.ref (w 4))])) rfl (by rw [hml]; rfl) (Steps.refl _) (argsL := []) (rest := []) (lenOf pds_1 rfl) rfl (by show 2 * 0 + _ ≤ _; exact Nat.le_of_eq rfl) (hb hby d4_7) (fun _ _ => ⟨rfl, e1, (by decide : 0 + 0 ≤ _), (by decide : 0 + 0 ≤ _)⟩)
  dsimp only [Pt.U, Pt.locs, Pt.cells, Pt.slots] at X3 l3 y3 z3 st3 hQ3
  subst l3 y3 z3
  obtain ⟨rfl, N3q, e3⟩ := hQ3
  have N3 := Fr.app N1 N3q
  obtain ⟨fs, hr, hrun, hended, hWm, hsame⟩ := X3.leave (v := some (.int (1 : Int32))) (fun h => by rw [Bd.returns] at h; cases h)
  refine ⟨_, _, pre0 _ ?_, hrun, hended, _, _, rfl, ?_, ⟨_, rfl⟩, hWm, hsame.mono (by decide) (by decide)⟩
  · show Steps p.tables e below (s₁.setTop (mkF m 0 La [])) _
    refine sI X0 hx hby d4_0 rfl ?_
    refine sI X0 hx hby d4_1 rfl ?_
    refine st1 _ ?_
    refine XS.istoreN X1.here hx rfl (hb hby d4_5) rfl (l' := Lb2) rfl ?_
    refine sA X1 hx hby d4_6 rfl rfl ?_
    refine st3.trans ?_
    refine XS.tswIn X3.here hx rfl (pc0 := 10) (pc' := 118) (o := 108) rfl (hb hby d4_10) rfl (by decide) (by decide) (by decide) (by decide) ?_
    refine sI X3 hx hby d4_118 rfl ?_
    refine sN X3 hx hby d4_119 (by decide) ?_
    refine sc X3 hx hby d4_122 ?_
    refine sg (pc := 123) (pc' := 127) X3 hx hby d4_123 (by decide) (by decide) ?_
    show Steps p.tables e below (T3.setTop (mkF m 127 Lb2 [(.int (1 : Int32))])) _
    exact retN X3 hx (t := .boolean) Bd.returns (by simp) (hb hby d4_127) hr
  · show Q4_44 Z w q1 q2 h0 n0 _ T3.heap _
    rw [e3]
    exact ⟨rfl, N3, rfl⟩
theorem d1_43 : decode method_2_code 43 = .ok (.iload_n 1, 1) := by decide +kernel
theorem d1_44 : decode method_2_code 44 = .ok (.iconst 4, 1) := by decide +kernel
theorem d1_45 : decode method_2_code 45 = .ok (.if_icmp .ne 7, 3) := by decide +kernel
theorem d1_48 : decode method_2_code 48 = .ok (.getstatic 23, 3) := by decide +kernel
theorem d1_51 : decode method_2_code 51 = .ok (.areturn, 1) := by decide +kernel
theorem ef_1_45 (m : MethodId) (q1 : Int32) : entryFrame m #[(.int q1)] 2 = mkF m 0 #[.val (.int q1), .unset] [] := by first | (simp [entryFrame, mkF, argsToLocals, Value.category]; done) | rfl
def Q1_45 (Z : State) (w : Nat → Addr) (q1 : Int32) (h0 : Heap) (n0 : Nat) (v : Option Value) (h : Heap) (L : List Loc) : Prop := v = some (.ref (w 3)) ∧ Fr n0 L ∧ h = h0
set_option maxRecDepth 65536 in
set_option maxHeartbeats 40000000 in
theorem rm1_45 (l : Launch) (Z : State) (a0 : Array Value) (hw : ∀ d ∈ tables_1, d.before a0 Z = true) (w : Nat → Addr) (hW : Wd Z w) (ws : List Jvm.Cond) (q1 : Int32) (h0 : Heap) (n0 : Nat) (O0 : Old Z n0 h0) (c1 : ¬ (((q1 &&& (2147483647 : Int32)) % (6 : Int32)) = (0 : Int32))) (c2 : ¬ (((q1 &&& (2147483647 : Int32)) % (6 : Int32)) = (1 : Int32))) (c3 : ¬ (((q1 &&& (2147483647 : Int32)) % (6 : Int32)) = (2 : Int32))) (c4 : ¬ (((q1 &&& (2147483647 : Int32)) % (6 : Int32)) = (3 : Int32))) (c5 : ((q1 &&& (2147483647 : Int32)) % (6 : Int32)) = (4 : Int32)) :
    MetFree l ym0 (head1 (Jvm.Cond.code ym0 method_2_code 2 (some (.object "com/example/gofyn/gofyn/typed/Term$Operator")) :: ws) ({ frames := 0, cells := 0, slots := 0, locals := 0 } : Room)) (fun a U => a = #[(.int q1)] ∧ Z.Warmed39 U.vm ∧ U.heap = h0) (fun _ _ _ _ _ => True) (fun _ U o U' => ∃ v L, o = .returned v ∧ Q1_45 Z w q1 h0 n0 v U'.heap L ∧ FrameEnd U o U' L ({ frames := 0, cells := 0, slots := 0, locals := 0 } : Room).cells ({ frames := 0, cells := 0, slots := 0, locals := 0 } : Room).slots) := by
  refine MetFree.of_bodySF (plainFor_of_name pnc_0) hisR ?_
  intro p e s m args below meth c s₁ Bd hml0 hP hK
  obtain ⟨rfl, hZ, hh⟩ := hP
  have hx := Bd.exec
  have hby := Bd.bytes
  have hml : c.maxLocals = 2 := hml0
  have hown : s.vm.findClass "com/example/gofyn/gofyn/typed/OperatorMirroredPinLaw" = some m.cls := findClass_of_methodNamed Bd.named
  have hnm := (name_of_methodNamed Bd.named Bd.method).1
  have X0 : Stand p l e ({ frames := 0, cells := 0, slots := 0, locals := 0 } : Room) s m #[(.int q1)] below meth c s₁ [] 0 0 := Stand.of_body Bd
  have e0 : s₁.heap = h0 := by rw [← hh, Bd.state]; rfl
  have N0 := Fr.nil n0
  skip
  have pre0 : ∀ t, Steps p.tables e below (s₁.setTop (mkF m 0 #[.val (.int q1), .unset] [])) t → Steps p.tables e below (s₁.setTop (entryFrame m #[(.int q1)] 2)) t := fun t k => castTop (ef_1_45 m q1) k
  let Lb1 : Array Slot := #[.val (.int q1), .val (.int ((q1 &&& (2147483647 : Int32)) % (6 : Int32)))]
  obtain ⟨T2, X2, e2, st2⟩ := getS2 X0 hx hZ hown (host := "") (Or.inl (wk44 hw)) Via.refl e0 ((wd6 hW).ext O0.2) (g := (mkF m 48 Lb1 [])) rfl (hb hby d1_48)
  obtain ⟨fs, hr, hrun, hended, hWm, hsame⟩ := X2.leave (v := some (.ref (w 3))) (fun h => by rw [Bd.returns] at h; cases h)
  refine ⟨_, _, pre0 _ ?_, hrun, hended, _, _, rfl, ?_, ⟨_, rfl⟩, hWm, hsame.mono (by decide) (by decide)⟩
  · show Steps p.tables e below (s₁.setTop (mkF m 0 #[.val (.int q1), .unset] [])) _
    refine sI X0 hx hby d1_0 rfl ?_
    refine X0.ldcInt hx hown (mvT hZ (wk4 hw)) (g := (mkF m 1 #[.val (.int q1), .unset] [(.int q1)])) rfl (hb hby d1_1) _ ?_
    refine XS.iand X0.here hx rfl (hb hby d1_3) rfl ?_
    refine XS.bipush X0.here hx rfl (hb hby d1_4) ?_
    refine iremM X0 hx rfl (hb hby d1_6) rfl (by decide) ?_
    show Steps p.tables e below (s₁.setTop (mkF m 7 #[.val (.int q1), .unset] [(.int ((q1 &&& (2147483647 : Int32)) % (6 : Int32)))])) _
    refine XS.istoreN X0.here hx rfl (hb hby d1_7) rfl (l' := Lb1) rfl ?_
    refine sI X0 hx hby d1_8 rfl ?_
    refine XS.ifYes X0.here hx rfl (pc0 := 9) (pc' := 16) rfl (hb hby d1_9) rfl ((if0 _ _).trans (feq (c1 : ¬ (((q1 &&& (2147483647 : Int32)) % (6 : Int32)) = (0 : Int32)))).2) (by decide) (by decide) ?_
    refine sI X0 hx hby d1_16 rfl ?_
    refine sc X0 hx hby d1_17 ?_
    show Steps p.tables e below (s₁.setTop (mkF m 18 Lb1 [(.int (1 : Int32)), (.int ((q1 &&& (2147483647 : Int32)) % (6 : Int32)))])) _
    refine XS.icmpYes X0.here hx rfl (pc0 := 18) (pc' := 25) rfl (hb hby d1_18) rfl (feq (c2 : ¬ (((q1 &&& (2147483647 : Int32)) % (6 : Int32)) = (1 : Int32)))).2 (by decide) (by decide) ?_
    refine sI X0 hx hby d1_25 rfl ?_
    refine sc X0 hx hby d1_26 ?_
    refine XS.icmpYes X0.here hx rfl (pc0 := 27) (pc' := 34) rfl (hb hby d1_27) rfl (feq (c3 : ¬ (((q1 &&& (2147483647 : Int32)) % (6 : Int32)) = (2 : Int32)))).2 (by decide) (by decide) ?_
    refine sI X0 hx hby d1_34 rfl ?_
    show Steps p.tables e below (s₁.setTop (mkF m 35 Lb1 [(.int ((q1 &&& (2147483647 : Int32)) % (6 : Int32)))])) _
    refine sc X0 hx hby d1_35 ?_
    refine XS.icmpYes X0.here hx rfl (pc0 := 36) (pc' := 43) rfl (hb hby d1_36) rfl (feq (c4 : ¬ (((q1 &&& (2147483647 : Int32)) % (6 : Int32)) = (3 : Int32)))).2 (by decide) (by decide) ?_
    refine sI X0 hx hby d1_43 rfl ?_
    refine sc X0 hx hby d1_44 ?_
    refine sn X0 hx hby d1_45 (teq (c5 : ((q1 &&& (2147483647 : Int32)) % (6 : Int32)) = (4 : Int32))).2 ?_
    show Steps p.tables e below (s₁.setTop (mkF m 48 Lb1 [])) _
    refine st2 _ ?_
    jvm_step X2.here [X2.here.top, hx, (hb hby d1_51), X2.method', Bd.returns, Value.isRef, FieldType.isReference]
    first | (intro acts; rw [hr _ acts rfl rfl rfl]) | rw [hr _ _ rfl rfl rfl]
    exact Steps.refl _
  · show Q1_45 Z w q1 h0 n0 _ T2.heap _
    rw [e2]
    exact ⟨rfl, N0, rfl⟩
theorem d1_52 : decode method_2_code 52 = .ok (.getstatic 26, 3) := by decide +kernel
theorem d1_55 : decode method_2_code 55 = .ok (.areturn, 1) := by decide +kernel
theorem ef_1_46 (m : MethodId) (q1 : Int32) : entryFrame m #[(.int q1)] 2 = mkF m 0 #[.val (.int q1), .unset] [] := by first | (simp [entryFrame, mkF, argsToLocals, Value.category]; done) | rfl
def Q1_46 (Z : State) (w : Nat → Addr) (q1 : Int32) (h0 : Heap) (n0 : Nat) (v : Option Value) (h : Heap) (L : List Loc) : Prop := v = some (.ref (w 4)) ∧ Fr n0 L ∧ h = h0
set_option maxRecDepth 65536 in
set_option maxHeartbeats 40000000 in
theorem rm1_46 (l : Launch) (Z : State) (a0 : Array Value) (hw : ∀ d ∈ tables_1, d.before a0 Z = true) (w : Nat → Addr) (hW : Wd Z w) (ws : List Jvm.Cond) (q1 : Int32) (h0 : Heap) (n0 : Nat) (O0 : Old Z n0 h0) (c1 : ¬ (((q1 &&& (2147483647 : Int32)) % (6 : Int32)) = (0 : Int32))) (c2 : ¬ (((q1 &&& (2147483647 : Int32)) % (6 : Int32)) = (1 : Int32))) (c3 : ¬ (((q1 &&& (2147483647 : Int32)) % (6 : Int32)) = (2 : Int32))) (c4 : ¬ (((q1 &&& (2147483647 : Int32)) % (6 : Int32)) = (3 : Int32))) (c5 : ¬ (((q1 &&& (2147483647 : Int32)) % (6 : Int32)) = (4 : Int32))) :
    MetFree l ym0 (head1 (Jvm.Cond.code ym0 method_2_code 2 (some (.object "com/example/gofyn/gofyn/typed/Term$Operator")) :: ws) ({ frames := 0, cells := 0, slots := 0, locals := 0 } : Room)) (fun a U => a = #[(.int q1)] ∧ Z.Warmed39 U.vm ∧ U.heap = h0) (fun _ _ _ _ _ => True) (fun _ U o U' => ∃ v L, o = .returned v ∧ Q1_46 Z w q1 h0 n0 v U'.heap L ∧ FrameEnd U o U' L ({ frames := 0, cells := 0, slots := 0, locals := 0 } : Room).cells ({ frames := 0, cells := 0, slots := 0, locals := 0 } : Room).slots) := by
  refine MetFree.of_bodySF (plainFor_of_name pnc_0) hisR ?_
  intro p e s m args below meth c s₁ Bd hml0 hP hK
  obtain ⟨rfl, hZ, hh⟩ := hP
  have hx := Bd.exec
  have hby := Bd.bytes
  have hml : c.maxLocals = 2 := hml0
  have hown : s.vm.findClass "com/example/gofyn/gofyn/typed/OperatorMirroredPinLaw" = some m.cls := findClass_of_methodNamed Bd.named
  have hnm := (name_of_methodNamed Bd.named Bd.method).1
  have X0 : Stand p l e ({ frames := 0, cells := 0, slots := 0, locals := 0 } : Room) s m #[(.int q1)] below meth c s₁ [] 0 0 := Stand.of_body Bd
  have e0 : s₁.heap = h0 := by rw [← hh, Bd.state]; rfl
  have N0 := Fr.nil n0
  skip
  have pre0 : ∀ t, Steps p.tables e below (s₁.setTop (mkF m 0 #[.val (.int q1), .unset] [])) t → Steps p.tables e below (s₁.setTop (entryFrame m #[(.int q1)] 2)) t := fun t k => castTop (ef_1_46 m q1) k
  let Lb1 : Array Slot := #[.val (.int q1), .val (.int ((q1 &&& (2147483647 : Int32)) % (6 : Int32)))]
  obtain ⟨T2, X2, e2, st2⟩ := getS2 X0 hx hZ hown (host := "") (Or.inl (wk38 hw)) Via.refl e0 ((wd8 hW).ext O0.2) (g := (mkF m 52 Lb1 [])) rfl (hb hby d1_52)
  obtain ⟨fs, hr, hrun, hended, hWm, hsame⟩ := X2.leave (v := some (.ref (w 4))) (fun h => by rw [Bd.returns] at h; cases h)
  refine ⟨_, _, pre0 _ ?_, hrun, hended, _, _, rfl, ?_, ⟨_, rfl⟩, hWm, hsame.mono (by decide) (by decide)⟩
  · show Steps p.tables e below (s₁.setTop (mkF m 0 #[.val (.int q1), .unset] [])) _
    refine sI X0 hx hby d1_0 rfl ?_
    refine X0.ldcInt hx hown (mvT hZ (wk4 hw)) (g := (mkF m 1 #[.val (.int q1), .unset] [(.int q1)])) rfl (hb hby d1_1) _ ?_
    refine XS.iand X0.here hx rfl (hb hby d1_3) rfl ?_
    refine XS.bipush X0.here hx rfl (hb hby d1_4) ?_
    refine iremM X0 hx rfl (hb hby d1_6) rfl (by decide) ?_
    show Steps p.tables e below (s₁.setTop (mkF m 7 #[.val (.int q1), .unset] [(.int ((q1 &&& (2147483647 : Int32)) % (6 : Int32)))])) _
    refine XS.istoreN X0.here hx rfl (hb hby d1_7) rfl (l' := Lb1) rfl ?_
    refine sI X0 hx hby d1_8 rfl ?_
    refine XS.ifYes X0.here hx rfl (pc0 := 9) (pc' := 16) rfl (hb hby d1_9) rfl ((if0 _ _).trans (feq (c1 : ¬ (((q1 &&& (2147483647 : Int32)) % (6 : Int32)) = (0 : Int32)))).2) (by decide) (by decide) ?_
    refine sI X0 hx hby d1_16 rfl ?_
    refine sc X0 hx hby d1_17 ?_
    show Steps p.tables e below (s₁.setTop (mkF m 18 Lb1 [(.int (1 : Int32)), (.int ((q1 &&& (2147483647 : Int32)) % (6 : Int32)))])) _
    refine XS.icmpYes X0.here hx rfl (pc0 := 18) (pc' := 25) rfl (hb hby d1_18) rfl (feq (c2 : ¬ (((q1 &&& (2147483647 : Int32)) % (6 : Int32)) = (1 : Int32)))).2 (by decide) (by decide) ?_
    refine sI X0 hx hby d1_25 rfl ?_
    refine sc X0 hx hby d1_26 ?_
    refine XS.icmpYes X0.here hx rfl (pc0 := 27) (pc' := 34) rfl (hb hby d1_27) rfl (feq (c3 : ¬ (((q1 &&& (2147483647 : Int32)) % (6 : Int32)) = (2 : Int32)))).2 (by decide) (by decide) ?_
    refine sI X0 hx hby d1_34 rfl ?_
    show Steps p.tables e below (s₁.setTop (mkF m 35 Lb1 [(.int ((q1 &&& (2147483647 : Int32)) % (6 : Int32)))])) _
    refine sc X0 hx hby d1_35 ?_
    refine XS.icmpYes X0.here hx rfl (pc0 := 36) (pc' := 43) rfl (hb hby d1_36) rfl (feq (c4 : ¬ (((q1 &&& (2147483647 : Int32)) % (6 : Int32)) = (3 : Int32)))).2 (by decide) (by decide) ?_
    refine sI X0 hx hby d1_43 rfl ?_
    refine sc X0 hx hby d1_44 ?_
    refine XS.icmpYes X0.here hx rfl (pc0 := 45) (pc' := 52) rfl (hb hby d1_45) rfl (feq (c5 : ¬ (((q1 &&& (2147483647 : Int32)) % (6 : Int32)) = (4 : Int32)))).2 (by decide) (by decide) ?_
    show Steps p.tables e below (s₁.setTop (mkF m 52 Lb1 [])) _
    refine st2 _ ?_
    jvm_step X2.here [X2.here.top, hx, (hb hby d1_55), X2.method', Bd.returns, Value.isRef, FieldType.isReference]
    first | (intro acts; rw [hr _ acts rfl rfl rfl]) | rw [hr _ _ rfl rfl rfl]
    exact Steps.refl _
  · show Q1_46 Z w q1 h0 n0 _ T2.heap _
    rw [e2]
    exact ⟨rfl, N0, rfl⟩
theorem ef_0_47 (m : MethodId) (p0 : Int32) (p1 : Int32) (p2 : Int32) : entryFrame m #[(.int p0), (.int p1), (.int p2)] maxLocals = mkF m 0 #[.val (.int p0), .val (.int p1), .val (.int p2), .unset, .unset, .unset, .unset, .unset, .unset] [] := by first | (simp [entryFrame, mkF, argsToLocals, Value.category, maxLocals]; done) | rfl
def Q0 (n0 : Nat) (v : Option Value) (h : Heap) (L : List Loc) : Prop := v = some (.int (1 : Int32)) ∧ Fr n0 L
set_option maxRecDepth 65536 in
set_option maxHeartbeats 400000000 in
theorem rm0 (l : Launch) (Z : State) (a0 : Array Value) (hw : ∀ d ∈ tables_1, d.before a0 Z = true) (w : Nat → Addr) (hW : Wd Z w) (ws : List Jvm.Cond) (p0 : Int32) (p1 : Int32) (p2 : Int32) (h0 : Heap) (n0 : Nat) (O0 : Old Z n0 h0) :
    MetFree l x (head1 (Jvm.Cond.code x code maxLocals ret :: ws) room_1) (fun a U => a = #[(.int p0), (.int p1), (.int p2)] ∧ Z.Warmed39 U.vm ∧ U.heap = h0) (fun _ _ _ _ _ => True) (fun _ U o U' => ∃ v L, o = .returned v ∧ Q0 n0 v U'.heap L ∧ FrameEnd U o U' L room_1.cells room_1.slots) := by
  refine MetFree.of_bodySF (plainFor_of_name pnc_0) hisR ?_
  intro p e s m args below meth c s₁ Bd hml0 hP hK
  obtain ⟨rfl, hZ, hh⟩ := hP
  have hx := Bd.exec
  have hby := Bd.bytes
  have hml : c.maxLocals = 9 := hml0
  have hown : s.vm.findClass "com/example/gofyn/gofyn/typed/OperatorMirroredPinLaw" = some m.cls := findClass_of_methodNamed Bd.named
  have hnm := (name_of_methodNamed Bd.named Bd.method).1
  have X0 : Stand p l e room_1 s m #[(.int p0), (.int p1), (.int p2)] below meth c s₁ [] 0 0 := Stand.of_body Bd
  have e0 : s₁.heap = h0 := by rw [← hh, Bd.state]; rfl
  have N0 := Fr.nil n0
  let La : Array Slot := #[.val (.int p0), .val (.int p1), .val (.int p2), .unset, .unset, .unset, .unset, .unset, .unset]
  have pre0 : ∀ t, Steps p.tables e below (s₁.setTop (mkF m 0 #[.val (.int p0), .val (.int p1), .val (.int p2), .unset, .unset, .unset, .unset, .unset, .unset] [])) t → Steps p.tables e below (s₁.setTop (entryFrame m #[(.int p0), (.int p1), (.int p2)] maxLocals)) t := fun t k => castTop (ef_0_47 m p0 p1 p2) k
  have pre1 : ∀ t, Steps p.tables e below (s₁.setTop (mkF m 1 #[.val (.int p0), .val (.int p1), .val (.int p2), .unset, .unset, .unset, .unset, .unset, .unset] [(.int p0)])) t → Steps p.tables e below (s₁.setTop (entryFrame m #[(.int p0), (.int p1), (.int p2)] maxLocals)) t := fun t k => pre0 t (by
   show Steps p.tables e below (s₁.setTop (mkF m 0 La [])) _
   refine sI X0 hx hby at_0 rfl ?_
   exact k)
  rcases (own_rem6 p0) with hs2 | hs2 | hs2 | hs2 | hs2 | hs2
  ·
   obtain ⟨_, _, ⟨T3, L3, kk3, nn3⟩, -, X3, ⟨Lc3, hQ3, l3, y3, z3⟩, st3⟩ := Jvm.LawKit.callS X0 hx (y := ym0) hown (mvT hZ (wk0 hw)) (mvT hZ (wk1 hw)) (mvT hZ (wk2 hw)) (mvT hZ (wk3 hw)) (by decide) (backOf (W := 0) (rm1_1 l Z a0 hw w hW [] p0 h0 n0 O0 (by rw [hs2] <;> decide)) hZ (wk3 hw) (wk2 hw) (by decide) (by decide)) (g := (mkF m 1 La [(.int p0)])) rfl (by rw [hml]; rfl) (argsL := [(.int p0)]) (rest := []) (lenOf pds_0 rfl) rfl (by show 2 * 0 + _ ≤ _; exact Nat.le_of_eq rfl) (hb hby at_1) (fun _ _ => ⟨rfl, e0, (by decide : 0 + 0 ≤ _), (by decide : 0 + 0 ≤ _)⟩)
   dsimp only [Pt.U, Pt.locs, Pt.cells, Pt.slots] at X3 l3 y3 z3 st3 hQ3
   subst l3 y3 z3
   obtain ⟨rfl, N3q, e3⟩ := hQ3
   have N3 := Fr.app N0 N3q
   let Lb4 : Array Slot := #[.val (.int p0), .val (.int p1), .val (.int p2), .val (.ref (w 0)), .unset, .unset, .unset, .unset, .unset]
   obtain ⟨cq5, kq5, q5a, q5b, q5c⟩ := isOf hZ e3 ((wd1 hW).ext O0.2)
   obtain ⟨_, _, ⟨T5, L5, kk5, nn5⟩, -, X5, ⟨Lc5, hQ5, l5, y5, z5⟩, st5⟩ := X3.virtualBack hx (y := ym3) (z := ym3) hown (mvT hZ (wk8 hw)) (mvT hZ (wk9 hw)) (notFace_of_selects (args := #[]) (mvT hZ (wk11 hw))) (mvT hZ (wk11 hw)) (mvT hZ (wk10 hw)) (by decide) (backOf (W := 0) (rm2_3 l Z a0 hw w hW []  h0 n0 O0 ) hZ (wk12 hw) (wk6 hw) (by decide) (by decide)) q5a q5c (g := (mkF m 6 Lb4 [(.ref (w 0))])) rfl (by rw [hml]; rfl) (Steps.refl _) (argsL := []) (rest := []) (lenOf pds_2 rfl) rfl (by show 2 * 0 + _ ≤ _; exact Nat.le_of_eq rfl) (hb hby at_6) (fun _ _ => ⟨rfl, e3, (by decide : 0 + 0 ≤ _), (by decide : 0 + 0 ≤ _)⟩)
   dsimp only [Pt.U, Pt.locs, Pt.cells, Pt.slots] at X5 l5 y5 z5 st5 hQ5
   subst l5 y5 z5
   obtain ⟨rfl, N5q, e5⟩ := hQ5
   have N5 := Fr.app N3 N5q
   let Lb6 : Array Slot := #[.val (.int p0), .val (.int p1), .val (.int p2), .val (.ref (w 0)), .val (.ref (w 0)), .unset, .unset, .unset, .unset]
   have pre7 : ∀ t, Steps p.tables e below (T5.setTop (mkF m 14 Lb6 [(.int p2), (.int p1), (.ref (w 0))])) t → Steps p.tables e below (s₁.setTop (entryFrame m #[(.int p0), (.int p1), (.int p2)] maxLocals)) t := fun t k => pre1 t (by
    show Steps p.tables e below (s₁.setTop (mkF m 1 La [(.int p0)])) _
    refine st3 _ ?_
    refine XS.astoreN X3.here hx rfl (hb hby at_4) rfl rfl (l' := Lb4) rfl ?_
    refine sA X3 hx hby at_5 rfl rfl ?_
    refine st5.trans ?_
    refine XS.astore X5.here hx rfl (hb hby at_9) rfl rfl (l' := Lb6) rfl ?_
    refine sA X5 hx hby at_11 rfl rfl ?_
    refine sI X5 hx hby at_12 rfl ?_
    refine sI X5 hx hby at_13 rfl ?_
    exact k)
   by_cases hc8 : p1 < p2
   ·
    obtain ⟨cq9, kq9, q9a, q9b, q9c⟩ := isOf hZ e5 ((wd1 hW).ext O0.2)
    obtain ⟨_, _, ⟨T9, L9, kk9, nn9⟩, -, X9, ⟨Lc9, hQ9, l9, y9, z9⟩, st9⟩ := X5.virtualBack hx (y := ym5) (z := ym5) hown (mvT hZ (wk22 hw)) (mvT hZ (wk23 hw)) (notFace_of_selects (args := #[]) (mvT hZ (wk25 hw))) (mvT hZ (wk25 hw)) (mvT hZ (wk24 hw)) (by decide) (backOf (W := 0) (rm4_5 l Z a0 hw w hW [] p1 p2 h0 n0 O0 hc8) hZ (wk26 hw) (wk6 hw) (by decide) (by decide)) q9a q9c (g := (mkF m 14 Lb6 [(.int p2), (.int p1), (.ref (w 0))])) rfl (by rw [hml]; rfl) (Steps.refl _) (argsL := [(.int p1), (.int p2)]) (rest := []) (lenOf pds_4 rfl) rfl (by show 2 * 0 + _ ≤ _; exact Nat.le_of_eq rfl) (hb hby at_14) (fun _ _ => ⟨rfl, e5, (by decide : 0 + 0 ≤ _), (by decide : 0 + 0 ≤ _)⟩)
    dsimp only [Pt.U, Pt.locs, Pt.cells, Pt.slots] at X9 l9 y9 z9 st9 hQ9
    subst l9 y9 z9
    obtain ⟨rfl, N9q, e9⟩ := hQ9
    have N9 := Fr.app N5 N9q
    have pre10 : ∀ t, Steps p.tables e below (T9.setTop (mkF m 21 Lb6 [(.int p1), (.int p2), (.ref (w 0)), (.int (0 : Int32))])) t → Steps p.tables e below (s₁.setTop (entryFrame m #[(.int p0), (.int p1), (.int p2)] maxLocals)) t := fun t k => pre7 t (by
     show Steps p.tables e below (T5.setTop (mkF m 14 Lb6 [(.int p2), (.int p1), (.ref (w 0))])) _
     refine st9.trans ?_
     refine sa X9 hx hby at_17 rfl rfl ?_
     refine sI X9 hx hby at_19 rfl ?_
     refine sI X9 hx hby at_20 rfl ?_
     exact k)
    by_cases hc11 : p2 < p1
    ·
     exfalso
     have z3 := Int32.lt_iff_toInt_lt.mp hc8
     have z4 := Int32.lt_iff_toInt_lt.mp hc11
     have z1 := rng32 p1
     have z2 := rng32 p2
     omega
    ·
     by_cases hc12 : p2 = p1
     ·
      exfalso
      have z3 := Int32.lt_iff_toInt_lt.mp hc8
      have z4 := Int32.le_iff_toInt_le.mp (Int32.not_lt.mp hc11)
      have z5 := congrArg Int32.toInt hc12
      have z1 := rng32 p1
      have z2 := rng32 p2
      omega
     ·
      obtain ⟨cq13, kq13, q13a, q13b, q13c⟩ := isOf hZ e9 ((wd1 hW).ext O0.2)
      obtain ⟨_, _, ⟨T13, L13, kk13, nn13⟩, -, X13, ⟨Lc13, hQ13, l13, y13, z13⟩, st13⟩ := X9.virtualBack hx (y := ym5) (z := ym5) hown (mvT hZ (wk22 hw)) (mvT hZ (wk23 hw)) (notFace_of_selects (args := #[]) (mvT hZ (wk25 hw))) (mvT hZ (wk25 hw)) (mvT hZ (wk24 hw)) (by decide) (backOf (W := 1) (rm4_7 l Z a0 hw w hW [] p2 p1 h0 n0 O0 hc11 hc12) hZ (wk26 hw) (wk6 hw) (by decide) (by decide)) q13a q13c (g := (mkF m 21 Lb6 [(.int p1), (.int p2), (.ref (w 0)), (.int (0 : Int32))])) rfl (by rw [hml]; rfl) (Steps.refl _) (argsL := [(.int p2), (.int p1)]) (rest := [(.int (0 : Int32))]) (lenOf pds_4 rfl) rfl (by show 2 * 0 + _ ≤ _; exact Nat.le_of_eq rfl) (hb hby at_21) (fun _ _ => ⟨rfl, e9, (by decide : 0 + 0 ≤ _), (by decide : 0 + 0 ≤ _)⟩)
      dsimp only [Pt.U, Pt.locs, Pt.cells, Pt.slots] at X13 l13 y13 z13 st13 hQ13
      subst l13 y13 z13
      obtain ⟨rfl, N13q, e13⟩ := hQ13
      have N13 := Fr.app N9 N13q
      let Lb14 : Array Slot := #[.val (.int p0), .val (.int p1), .val (.int p2), .val (.ref (w 0)), .val (.ref (w 0)), .val (.int (1 : Int32)), .unset, .unset, .unset]
      obtain ⟨cq15, kq15, q15a, q15b, q15c⟩ := isOf hZ e13 ((wd1 hW).ext O0.2)
      obtain ⟨_, _, ⟨T15, L15, kk15, nn15⟩, -, X15, ⟨Lc15, hQ15, l15, y15, z15⟩, st15⟩ := X13.virtualBack hx (y := ym5) (z := ym5) hown (mvT hZ (wk22 hw)) (mvT hZ (wk23 hw)) (notFace_of_selects (args := #[]) (mvT hZ (wk25 hw))) (mvT hZ (wk25 hw)) (mvT hZ (wk24 hw)) (by decide) (backOf (W := 0) (rm4_7 l Z a0 hw w hW [] p2 p1 h0 n0 O0 hc11 hc12) hZ (wk26 hw) (wk6 hw) (by decide) (by decide)) q15a q15c (g := (mkF m 37 Lb14 [(.int p1), (.int p2), (.ref (w 0))])) rfl (by rw [hml]; rfl) (Steps.refl _) (argsL := [(.int p2), (.int p1)]) (rest := []) (lenOf pds_4 rfl) rfl (by show 2 * 0 + _ ≤ _; exact Nat.le_of_eq rfl) (hb hby at_37) (fun _ _ => ⟨rfl, e13, (by decide : 0 + 0 ≤ _), (by decide : 0 + 0 ≤ _)⟩)
      dsimp only [Pt.U, Pt.locs, Pt.cells, Pt.slots] at X15 l15 y15 z15 st15 hQ15
      subst l15 y15 z15
      obtain ⟨rfl, N15q, e15⟩ := hQ15
      have N15 := Fr.app N13 N15q
      obtain ⟨cq16, kq16, q16a, q16b, q16c⟩ := isOf hZ e15 ((wd1 hW).ext O0.2)
      obtain ⟨_, _, ⟨T16, L16, kk16, nn16⟩, -, X16, ⟨Lc16, hQ16, l16, y16, z16⟩, st16⟩ := X15.virtualBack hx (y := ym5) (z := ym5) hown (mvT hZ (wk22 hw)) (mvT hZ (wk23 hw)) (notFace_of_selects (args := #[]) (mvT hZ (wk25 hw))) (mvT hZ (wk25 hw)) (mvT hZ (wk24 hw)) (by decide) (backOf (W := 1) (rm4_5 l Z a0 hw w hW [] p1 p2 h0 n0 O0 hc8) hZ (wk26 hw) (wk6 hw) (by decide) (by decide)) q16a q16c (g := (mkF m 44 Lb14 [(.int p2), (.int p1), (.ref (w 0)), (.int (0 : Int32))])) rfl (by rw [hml]; rfl) (Steps.refl _) (argsL := [(.int p1), (.int p2)]) (rest := [(.int (0 : Int32))]) (lenOf pds_4 rfl) rfl (by show 2 * 0 + _ ≤ _; exact Nat.le_of_eq rfl) (hb hby at_44) (fun _ _ => ⟨rfl, e15, (by decide : 0 + 0 ≤ _), (by decide : 0 + 0 ≤ _)⟩)
      dsimp only [Pt.U, Pt.locs, Pt.cells, Pt.slots] at X16 l16 y16 z16 st16 hQ16
      subst l16 y16 z16
      obtain ⟨rfl, N16q, e16⟩ := hQ16
      have N16 := Fr.app N15 N16q
      let Lb17 : Array Slot := #[.val (.int p0), .val (.int p1), .val (.int p2), .val (.ref (w 0)), .val (.ref (w 0)), .val (.int (1 : Int32)), .val (.int (1 : Int32)), .unset, .unset]
      obtain ⟨cq18, kq18, q18a, q18b, q18c⟩ := isOf hZ e16 ((wd1 hW).ext O0.2)
      obtain ⟨_, _, ⟨T18, L18, kk18, nn18⟩, -, X18, ⟨Lc18, hQ18, l18, y18, z18⟩, st18⟩ := X16.virtualBack hx (y := ym5) (z := ym5) hown (mvT hZ (wk22 hw)) (mvT hZ (wk23 hw)) (notFace_of_selects (args := #[]) (mvT hZ (wk25 hw))) (mvT hZ (wk25 hw)) (mvT hZ (wk24 hw)) (by decide) (backOf (W := 0) (rm4_9 l Z a0 hw w hW [] p1 h0 n0 O0 ) hZ (wk26 hw) (wk6 hw) (by decide) (by decide)) q18a q18c (g := (mkF m 60 Lb17 [(.int p1), (.int p1), (.ref (w 0))])) rfl (by rw [hml]; rfl) (Steps.refl _) (argsL := [(.int p1), (.int p1)]) (rest := []) (lenOf pds_4 rfl) rfl (by show 2 * 0 + _ ≤ _; exact Nat.le_of_eq rfl) (hb hby at_60) (fun _ _ => ⟨rfl, e16, (by decide : 0 + 0 ≤ _), (by decide : 0 + 0 ≤ _)⟩)
      dsimp only [Pt.U, Pt.locs, Pt.cells, Pt.slots] at X18 l18 y18 z18 st18 hQ18
      subst l18 y18 z18
      obtain ⟨rfl, N18q, e18⟩ := hQ18
      have N18 := Fr.app N16 N18q
      obtain ⟨cq19, kq19, q19a, q19b, q19c⟩ := isOf hZ e18 ((wd1 hW).ext O0.2)
      obtain ⟨_, _, ⟨T19, L19, kk19, nn19⟩, -, X19, ⟨Lc19, hQ19, l19, y19, z19⟩, st19⟩ := X18.virtualBack hx (y := ym5) (z := ym5) hown (mvT hZ (wk22 hw)) (mvT hZ (wk23 hw)) (notFace_of_selects (args := #[]) (mvT hZ (wk25 hw))) (mvT hZ (wk25 hw)) (mvT hZ (wk24 hw)) (by decide) (backOf (W := 1) (rm4_9 l Z a0 hw w hW [] p1 h0 n0 O0 ) hZ (wk26 hw) (wk6 hw) (by decide) (by decide)) q19a q19c (g := (mkF m 67 Lb17 [(.int p1), (.int p1), (.ref (w 0)), (.int (1 : Int32))])) rfl (by rw [hml]; rfl) (Steps.refl _) (argsL := [(.int p1), (.int p1)]) (rest := [(.int (1 : Int32))]) (lenOf pds_4 rfl) rfl (by show 2 * 0 + _ ≤ _; exact Nat.le_of_eq rfl) (hb hby at_67) (fun _ _ => ⟨rfl, e18, (by decide : 0 + 0 ≤ _), (by decide : 0 + 0 ≤ _)⟩)
      dsimp only [Pt.U, Pt.locs, Pt.cells, Pt.slots] at X19 l19 y19 z19 st19 hQ19
      subst l19 y19 z19
      obtain ⟨rfl, N19q, e19⟩ := hQ19
      have N19 := Fr.app N18 N19q
      let Lb20 : Array Slot := #[.val (.int p0), .val (.int p1), .val (.int p2), .val (.ref (w 0)), .val (.ref (w 0)), .val (.int (1 : Int32)), .val (.int (1 : Int32)), .val (.int (1 : Int32)), .unset]
      obtain ⟨cq21, kq21, q21a, q21b, q21c⟩ := isOf hZ e19 ((wd1 hW).ext O0.2)
      obtain ⟨_, _, ⟨T21, L21, kk21, nn21⟩, -, X21, ⟨Lc21, hQ21, l21, y21, z21⟩, st21⟩ := X19.virtualBack hx (y := ym3) (z := ym3) hown (mvT hZ (wk8 hw)) (mvT hZ (wk9 hw)) (notFace_of_selects (args := #[]) (mvT hZ (wk11 hw))) (mvT hZ (wk11 hw)) (mvT hZ (wk10 hw)) (by decide) (backOf (W := 0) (rm2_3 l Z a0 hw w hW []  h0 n0 O0 ) hZ (wk12 hw) (wk6 hw) (by decide) (by decide)) q21a q21c (g := (mkF m 82 Lb20 [(.ref (w 0))])) rfl (by rw [hml]; rfl) (Steps.refl _) (argsL := []) (rest := []) (lenOf pds_2 rfl) rfl (by show 2 * 0 + _ ≤ _; exact Nat.le_of_eq rfl) (hb hby at_82) (fun _ _ => ⟨rfl, e19, (by decide : 0 + 0 ≤ _), (by decide : 0 + 0 ≤ _)⟩)
      dsimp only [Pt.U, Pt.locs, Pt.cells, Pt.slots] at X21 l21 y21 z21 st21 hQ21
      subst l21 y21 z21
      obtain ⟨rfl, N21q, e21⟩ := hQ21
      have N21 := Fr.app N19 N21q
      let Lb22 : Array Slot := #[.val (.int p0), .val (.int p1), .val (.int p2), .val (.ref (w 0)), .val (.ref (w 0)), .val (.int (1 : Int32)), .val (.int (1 : Int32)), .val (.int (1 : Int32)), .val (.int (1 : Int32))]
      obtain ⟨fs, hr, hrun, hended, hWm, hsame⟩ := X21.leave (v := some (.int (1 : Int32))) (fun h => by rw [Bd.returns] at h; cases h)
      refine ⟨_, _, pre10 _ ?_, hrun, hended, _, _, rfl, ?_, ⟨_, rfl⟩, hWm, hsame.mono (by decide) (by decide)⟩
      · show Steps p.tables e below (T9.setTop (mkF m 21 Lb6 [(.int p1), (.int p2), (.ref (w 0)), (.int (0 : Int32))])) _
        refine st13.trans ?_
        refine sn X13 hx hby at_24 (by decide) ?_
        refine sc X13 hx hby at_27 ?_
        refine sg (pc := 28) (pc' := 32) X13 hx hby at_28 (by decide) (by decide) ?_
        refine XS.istore X13.here hx rfl (hb hby at_32) rfl (l' := Lb14) rfl ?_
        refine sA X13 hx hby at_34 rfl rfl ?_
        show Steps p.tables e below (T13.setTop (mkF m 35 Lb14 [(.ref (w 0))])) _
        refine sI X13 hx hby at_35 rfl ?_
        refine sI X13 hx hby at_36 rfl ?_
        refine st15.trans ?_
        refine sa X15 hx hby at_40 rfl rfl ?_
        refine sI X15 hx hby at_42 rfl ?_
        refine sI X15 hx hby at_43 rfl ?_
        refine st16.trans ?_
        refine sn X16 hx hby at_47 (by decide) ?_
        refine sc X16 hx hby at_50 ?_
        refine sg (pc := 51) (pc' := 55) X16 hx hby at_51 (by decide) (by decide) ?_
        refine XS.istore X16.here hx rfl (hb hby at_55) rfl (l' := Lb17) rfl ?_
        refine sA X16 hx hby at_57 rfl rfl ?_
        show Steps p.tables e below (T16.setTop (mkF m 58 Lb17 [(.ref (w 0))])) _
        refine sI X16 hx hby at_58 rfl ?_
        refine sI X16 hx hby at_59 rfl ?_
        refine st18.trans ?_
        refine sa X18 hx hby at_63 rfl rfl ?_
        refine sI X18 hx hby at_65 rfl ?_
        refine sI X18 hx hby at_66 rfl ?_
        refine st19.trans ?_
        refine sn X19 hx hby at_70 (by decide) ?_
        refine sc X19 hx hby at_73 ?_
        refine sg (pc := 74) (pc' := 78) X19 hx hby at_74 (by decide) (by decide) ?_
        refine XS.istore X19.here hx rfl (hb hby at_78) rfl (l' := Lb20) rfl ?_
        refine sa X19 hx hby at_80 rfl rfl ?_
        show Steps p.tables e below (T19.setTop (mkF m 82 Lb20 [(.ref (w 0))])) _
        refine st21.trans ?_
        refine sA X21 hx hby at_85 rfl rfl ?_
        refine Jvm.RoadKit.acmp (g := (mkF m 86 Lb20 [(.ref (w 0)), (.ref (w 0))])) X21 hx rfl rfl rfl (pc0 := 86) (pc' := 89) (same := true) rfl (hb hby at_86) rfl (decide_eq_true rfl) (by decide) (by decide) ?_
        refine sc X21 hx hby at_89 ?_
        refine sg (pc := 90) (pc' := 94) X21 hx hby at_90 (by decide) (by decide) ?_
        refine XS.istore X21.here hx rfl (hb hby at_94) rfl (l' := Lb22) rfl ?_
        show Steps p.tables e below (T21.setTop (mkF m 96 Lb22 [])) _
        refine si X21 hx hby at_96 rfl ?_
        refine sN X21 hx hby at_98 (by decide) ?_
        refine si X21 hx hby at_101 rfl ?_
        refine sN X21 hx hby at_103 (by decide) ?_
        refine si X21 hx hby at_106 rfl ?_
        show Steps p.tables e below (T21.setTop (mkF m 108 Lb22 [(.int (1 : Int32))])) _
        refine sN X21 hx hby at_108 (by decide) ?_
        refine si X21 hx hby at_111 rfl ?_
        refine sN X21 hx hby at_113 (by decide) ?_
        refine sc X21 hx hby at_116 ?_
        refine sg (pc := 117) (pc' := 121) X21 hx hby at_117 (by decide) (by decide) ?_
        show Steps p.tables e below (T21.setTop (mkF m 121 Lb22 [(.int (1 : Int32))])) _
        exact retN X21 hx (t := .boolean) Bd.returns (by simp) (hb hby at_121) hr
      · show Q0 n0 _ T21.heap _
        rw [e21]
        exact ⟨rfl, N21⟩
   ·
    by_cases hc23 : p1 = p2
    ·
     obtain ⟨cq24, kq24, q24a, q24b, q24c⟩ := isOf hZ e5 ((wd1 hW).ext O0.2)
     obtain ⟨_, _, ⟨T24, L24, kk24, nn24⟩, -, X24, ⟨Lc24, hQ24, l24, y24, z24⟩, st24⟩ := X5.virtualBack hx (y := ym5) (z := ym5) hown (mvT hZ (wk22 hw)) (mvT hZ (wk23 hw)) (notFace_of_selects (args := #[]) (mvT hZ (wk25 hw))) (mvT hZ (wk25 hw)) (mvT hZ (wk24 hw)) (by decide) (backOf (W := 0) (rm4_11 l Z a0 hw w hW [] p1 p2 h0 n0 O0 hc8 hc23) hZ (wk26 hw) (wk6 hw) (by decide) (by decide)) q24a q24c (g := (mkF m 14 Lb6 [(.int p2), (.int p1), (.ref (w 0))])) rfl (by rw [hml]; rfl) (Steps.refl _) (argsL := [(.int p1), (.int p2)]) (rest := []) (lenOf pds_4 rfl) rfl (by show 2 * 0 + _ ≤ _; exact Nat.le_of_eq rfl) (hb hby at_14) (fun _ _ => ⟨rfl, e5, (by decide : 0 + 0 ≤ _), (by decide : 0 + 0 ≤ _)⟩)
     dsimp only [Pt.U, Pt.locs, Pt.cells, Pt.slots] at X24 l24 y24 z24 st24 hQ24
     subst l24 y24 z24
     obtain ⟨rfl, N24q, e24⟩ := hQ24
     have N24 := Fr.app N5 N24q
     have pre25 : ∀ t, Steps p.tables e below (T24.setTop (mkF m 21 Lb6 [(.int p1), (.int p2), (.ref (w 0)), (.int (1 : Int32))])) t → Steps p.tables e below (s₁.setTop (entryFrame m #[(.int p0), (.int p1), (.int p2)] maxLocals)) t := fun t k => pre7 t (by
      show Steps p.tables e below (T5.setTop (mkF m 14 Lb6 [(.int p2), (.int p1), (.ref (w 0))])) _
      refine st24.trans ?_
      refine sa X24 hx hby at_17 rfl rfl ?_
      refine sI X24 hx hby at_19 rfl ?_
      refine sI X24 hx hby at_20 rfl ?_
      exact k)
     by_cases hc26 : p2 < p1
     ·
      exfalso
      have z3 := Int32.le_iff_toInt_le.mp (Int32.not_lt.mp hc8)
      have z4 := congrArg Int32.toInt hc23
      have z5 := Int32.lt_iff_toInt_lt.mp hc26
      have z1 := rng32 p1
      have z2 := rng32 p2
      omega
     ·
      obtain ⟨cq27, kq27, q27a, q27b, q27c⟩ := isOf hZ e24 ((wd1 hW).ext O0.2)
      obtain ⟨_, _, ⟨T27, L27, kk27, nn27⟩, -, X27, ⟨Lc27, hQ27, l27, y27, z27⟩, st27⟩ := X24.virtualBack hx (y := ym5) (z := ym5) hown (mvT hZ (wk22 hw)) (mvT hZ (wk23 hw)) (notFace_of_selects (args := #[]) (mvT hZ (wk25 hw))) (mvT hZ (wk25 hw)) (mvT hZ (wk24 hw)) (by decide) (backOf (W := 1) (rm4_11 l Z a0 hw w hW [] p2 p1 h0 n0 O0 hc26 (Eq.symm hc23)) hZ (wk26 hw) (wk6 hw) (by decide) (by decide)) q27a q27c (g := (mkF m 21 Lb6 [(.int p1), (.int p2), (.ref (w 0)), (.int (1 : Int32))])) rfl (by rw [hml]; rfl) (Steps.refl _) (argsL := [(.int p2), (.int p1)]) (rest := [(.int (1 : Int32))]) (lenOf pds_4 rfl) rfl (by show 2 * 0 + _ ≤ _; exact Nat.le_of_eq rfl) (hb hby at_21) (fun _ _ => ⟨rfl, e24, (by decide : 0 + 0 ≤ _), (by decide : 0 + 0 ≤ _)⟩)
      dsimp only [Pt.U, Pt.locs, Pt.cells, Pt.slots] at X27 l27 y27 z27 st27 hQ27
      subst l27 y27 z27
      obtain ⟨rfl, N27q, e27⟩ := hQ27
      have N27 := Fr.app N24 N27q
      let Lb28 : Array Slot := #[.val (.int p0), .val (.int p1), .val (.int p2), .val (.ref (w 0)), .val (.ref (w 0)), .val (.int (1 : Int32)), .unset, .unset, .unset]
      obtain ⟨cq29, kq29, q29a, q29b, q29c⟩ := isOf hZ e27 ((wd1 hW).ext O0.2)
      obtain ⟨_, _, ⟨T29, L29, kk29, nn29⟩, -, X29, ⟨Lc29, hQ29, l29, y29, z29⟩, st29⟩ := X27.virtualBack hx (y := ym5) (z := ym5) hown (mvT hZ (wk22 hw)) (mvT hZ (wk23 hw)) (notFace_of_selects (args := #[]) (mvT hZ (wk25 hw))) (mvT hZ (wk25 hw)) (mvT hZ (wk24 hw)) (by decide) (backOf (W := 0) (rm4_11 l Z a0 hw w hW [] p2 p1 h0 n0 O0 hc26 (Eq.symm hc23)) hZ (wk26 hw) (wk6 hw) (by decide) (by decide)) q29a q29c (g := (mkF m 37 Lb28 [(.int p1), (.int p2), (.ref (w 0))])) rfl (by rw [hml]; rfl) (Steps.refl _) (argsL := [(.int p2), (.int p1)]) (rest := []) (lenOf pds_4 rfl) rfl (by show 2 * 0 + _ ≤ _; exact Nat.le_of_eq rfl) (hb hby at_37) (fun _ _ => ⟨rfl, e27, (by decide : 0 + 0 ≤ _), (by decide : 0 + 0 ≤ _)⟩)
      dsimp only [Pt.U, Pt.locs, Pt.cells, Pt.slots] at X29 l29 y29 z29 st29 hQ29
      subst l29 y29 z29
      obtain ⟨rfl, N29q, e29⟩ := hQ29
      have N29 := Fr.app N27 N29q
      obtain ⟨cq30, kq30, q30a, q30b, q30c⟩ := isOf hZ e29 ((wd1 hW).ext O0.2)
      obtain ⟨_, _, ⟨T30, L30, kk30, nn30⟩, -, X30, ⟨Lc30, hQ30, l30, y30, z30⟩, st30⟩ := X29.virtualBack hx (y := ym5) (z := ym5) hown (mvT hZ (wk22 hw)) (mvT hZ (wk23 hw)) (notFace_of_selects (args := #[]) (mvT hZ (wk25 hw))) (mvT hZ (wk25 hw)) (mvT hZ (wk24 hw)) (by decide) (backOf (W := 1) (rm4_11 l Z a0 hw w hW [] p1 p2 h0 n0 O0 hc8 hc23) hZ (wk26 hw) (wk6 hw) (by decide) (by decide)) q30a q30c (g := (mkF m 44 Lb28 [(.int p2), (.int p1), (.ref (w 0)), (.int (1 : Int32))])) rfl (by rw [hml]; rfl) (Steps.refl _) (argsL := [(.int p1), (.int p2)]) (rest := [(.int (1 : Int32))]) (lenOf pds_4 rfl) rfl (by show 2 * 0 + _ ≤ _; exact Nat.le_of_eq rfl) (hb hby at_44) (fun _ _ => ⟨rfl, e29, (by decide : 0 + 0 ≤ _), (by decide : 0 + 0 ≤ _)⟩)
      dsimp only [Pt.U, Pt.locs, Pt.cells, Pt.slots] at X30 l30 y30 z30 st30 hQ30
      subst l30 y30 z30
      obtain ⟨rfl, N30q, e30⟩ := hQ30
      have N30 := Fr.app N29 N30q
      let Lb31 : Array Slot := #[.val (.int p0), .val (.int p1), .val (.int p2), .val (.ref (w 0)), .val (.ref (w 0)), .val (.int (1 : Int32)), .val (.int (1 : Int32)), .unset, .unset]
      obtain ⟨cq32, kq32, q32a, q32b, q32c⟩ := isOf hZ e30 ((wd1 hW).ext O0.2)
      obtain ⟨_, _, ⟨T32, L32, kk32, nn32⟩, -, X32, ⟨Lc32, hQ32, l32, y32, z32⟩, st32⟩ := X30.virtualBack hx (y := ym5) (z := ym5) hown (mvT hZ (wk22 hw)) (mvT hZ (wk23 hw)) (notFace_of_selects (args := #[]) (mvT hZ (wk25 hw))) (mvT hZ (wk25 hw)) (mvT hZ (wk24 hw)) (by decide) (backOf (W := 0) (rm4_9 l Z a0 hw w hW [] p1 h0 n0 O0 ) hZ (wk26 hw) (wk6 hw) (by decide) (by decide)) q32a q32c (g := (mkF m 60 Lb31 [(.int p1), (.int p1), (.ref (w 0))])) rfl (by rw [hml]; rfl) (Steps.refl _) (argsL := [(.int p1), (.int p1)]) (rest := []) (lenOf pds_4 rfl) rfl (by show 2 * 0 + _ ≤ _; exact Nat.le_of_eq rfl) (hb hby at_60) (fun _ _ => ⟨rfl, e30, (by decide : 0 + 0 ≤ _), (by decide : 0 + 0 ≤ _)⟩)
      dsimp only [Pt.U, Pt.locs, Pt.cells, Pt.slots] at X32 l32 y32 z32 st32 hQ32
      subst l32 y32 z32
      obtain ⟨rfl, N32q, e32⟩ := hQ32
      have N32 := Fr.app N30 N32q
      obtain ⟨cq33, kq33, q33a, q33b, q33c⟩ := isOf hZ e32 ((wd1 hW).ext O0.2)
      obtain ⟨_, _, ⟨T33, L33, kk33, nn33⟩, -, X33, ⟨Lc33, hQ33, l33, y33, z33⟩, st33⟩ := X32.virtualBack hx (y := ym5) (z := ym5) hown (mvT hZ (wk22 hw)) (mvT hZ (wk23 hw)) (notFace_of_selects (args := #[]) (mvT hZ (wk25 hw))) (mvT hZ (wk25 hw)) (mvT hZ (wk24 hw)) (by decide) (backOf (W := 1) (rm4_9 l Z a0 hw w hW [] p1 h0 n0 O0 ) hZ (wk26 hw) (wk6 hw) (by decide) (by decide)) q33a q33c (g := (mkF m 67 Lb31 [(.int p1), (.int p1), (.ref (w 0)), (.int (1 : Int32))])) rfl (by rw [hml]; rfl) (Steps.refl _) (argsL := [(.int p1), (.int p1)]) (rest := [(.int (1 : Int32))]) (lenOf pds_4 rfl) rfl (by show 2 * 0 + _ ≤ _; exact Nat.le_of_eq rfl) (hb hby at_67) (fun _ _ => ⟨rfl, e32, (by decide : 0 + 0 ≤ _), (by decide : 0 + 0 ≤ _)⟩)
      dsimp only [Pt.U, Pt.locs, Pt.cells, Pt.slots] at X33 l33 y33 z33 st33 hQ33
      subst l33 y33 z33
      obtain ⟨rfl, N33q, e33⟩ := hQ33
      have N33 := Fr.app N32 N33q
      let Lb34 : Array Slot := #[.val (.int p0), .val (.int p1), .val (.int p2), .val (.ref (w 0)), .val (.ref (w 0)), .val (.int (1 : Int32)), .val (.int (1 : Int32)), .val (.int (1 : Int32)), .unset]
      obtain ⟨cq35, kq35, q35a, q35b, q35c⟩ := isOf hZ e33 ((wd1 hW).ext O0.2)
      obtain ⟨_, _, ⟨T35, L35, kk35, nn35⟩, -, X35, ⟨Lc35, hQ35, l35, y35, z35⟩, st35⟩ := X33.virtualBack hx (y := ym3) (z := ym3) hown (mvT hZ (wk8 hw)) (mvT hZ (wk9 hw)) (notFace_of_selects (args := #[]) (mvT hZ (wk11 hw))) (mvT hZ (wk11 hw)) (mvT hZ (wk10 hw)) (by decide) (backOf (W := 0) (rm2_3 l Z a0 hw w hW []  h0 n0 O0 ) hZ (wk12 hw) (wk6 hw) (by decide) (by decide)) q35a q35c (g := (mkF m 82 Lb34 [(.ref (w 0))])) rfl (by rw [hml]; rfl) (Steps.refl _) (argsL := []) (rest := []) (lenOf pds_2 rfl) rfl (by show 2 * 0 + _ ≤ _; exact Nat.le_of_eq rfl) (hb hby at_82) (fun _ _ => ⟨rfl, e33, (by decide : 0 + 0 ≤ _), (by decide : 0 + 0 ≤ _)⟩)
      dsimp only [Pt.U, Pt.locs, Pt.cells, Pt.slots] at X35 l35 y35 z35 st35 hQ35
      subst l35 y35 z35
      obtain ⟨rfl, N35q, e35⟩ := hQ35
      have N35 := Fr.app N33 N35q
      let Lb36 : Array Slot := #[.val (.int p0), .val (.int p1), .val (.int p2), .val (.ref (w 0)), .val (.ref (w 0)), .val (.int (1 : Int32)), .val (.int (1 : Int32)), .val (.int (1 : Int32)), .val (.int (1 : Int32))]
      obtain ⟨fs, hr, hrun, hended, hWm, hsame⟩ := X35.leave (v := some (.int (1 : Int32))) (fun h => by rw [Bd.returns] at h; cases h)
      refine ⟨_, _, pre25 _ ?_, hrun, hended, _, _, rfl, ?_, ⟨_, rfl⟩, hWm, hsame.mono (by decide) (by decide)⟩
      · show Steps p.tables e below (T24.setTop (mkF m 21 Lb6 [(.int p1), (.int p2), (.ref (w 0)), (.int (1 : Int32))])) _
        refine st27.trans ?_
        refine sn X27 hx hby at_24 (by decide) ?_
        refine sc X27 hx hby at_27 ?_
        refine sg (pc := 28) (pc' := 32) X27 hx hby at_28 (by decide) (by decide) ?_
        refine XS.istore X27.here hx rfl (hb hby at_32) rfl (l' := Lb28) rfl ?_
        refine sA X27 hx hby at_34 rfl rfl ?_
        show Steps p.tables e below (T27.setTop (mkF m 35 Lb28 [(.ref (w 0))])) _
        refine sI X27 hx hby at_35 rfl ?_
        refine sI X27 hx hby at_36 rfl ?_
        refine st29.trans ?_
        refine sa X29 hx hby at_40 rfl rfl ?_
        refine sI X29 hx hby at_42 rfl ?_
        refine sI X29 hx hby at_43 rfl ?_
        refine st30.trans ?_
        refine sn X30 hx hby at_47 (by decide) ?_
        refine sc X30 hx hby at_50 ?_
        refine sg (pc := 51) (pc' := 55) X30 hx hby at_51 (by decide) (by decide) ?_
        refine XS.istore X30.here hx rfl (hb hby at_55) rfl (l' := Lb31) rfl ?_
        refine sA X30 hx hby at_57 rfl rfl ?_
        show Steps p.tables e below (T30.setTop (mkF m 58 Lb31 [(.ref (w 0))])) _
        refine sI X30 hx hby at_58 rfl ?_
        refine sI X30 hx hby at_59 rfl ?_
        refine st32.trans ?_
        refine sa X32 hx hby at_63 rfl rfl ?_
        refine sI X32 hx hby at_65 rfl ?_
        refine sI X32 hx hby at_66 rfl ?_
        refine st33.trans ?_
        refine sn X33 hx hby at_70 (by decide) ?_
        refine sc X33 hx hby at_73 ?_
        refine sg (pc := 74) (pc' := 78) X33 hx hby at_74 (by decide) (by decide) ?_
        refine XS.istore X33.here hx rfl (hb hby at_78) rfl (l' := Lb34) rfl ?_
        refine sa X33 hx hby at_80 rfl rfl ?_
        show Steps p.tables e below (T33.setTop (mkF m 82 Lb34 [(.ref (w 0))])) _
        refine st35.trans ?_
        refine sA X35 hx hby at_85 rfl rfl ?_
        refine Jvm.RoadKit.acmp (g := (mkF m 86 Lb34 [(.ref (w 0)), (.ref (w 0))])) X35 hx rfl rfl rfl (pc0 := 86) (pc' := 89) (same := true) rfl (hb hby at_86) rfl (decide_eq_true rfl) (by decide) (by decide) ?_
        refine sc X35 hx hby at_89 ?_
        refine sg (pc := 90) (pc' := 94) X35 hx hby at_90 (by decide) (by decide) ?_
        refine XS.istore X35.here hx rfl (hb hby at_94) rfl (l' := Lb36) rfl ?_
        show Steps p.tables e below (T35.setTop (mkF m 96 Lb36 [])) _
        refine si X35 hx hby at_96 rfl ?_
        refine sN X35 hx hby at_98 (by decide) ?_
        refine si X35 hx hby at_101 rfl ?_
        refine sN X35 hx hby at_103 (by decide) ?_
        refine si X35 hx hby at_106 rfl ?_
        show Steps p.tables e below (T35.setTop (mkF m 108 Lb36 [(.int (1 : Int32))])) _
        refine sN X35 hx hby at_108 (by decide) ?_
        refine si X35 hx hby at_111 rfl ?_
        refine sN X35 hx hby at_113 (by decide) ?_
        refine sc X35 hx hby at_116 ?_
        refine sg (pc := 117) (pc' := 121) X35 hx hby at_117 (by decide) (by decide) ?_
        show Steps p.tables e below (T35.setTop (mkF m 121 Lb36 [(.int (1 : Int32))])) _
        exact retN X35 hx (t := .boolean) Bd.returns (by simp) (hb hby at_121) hr
      · show Q0 n0 _ T35.heap _
        rw [e35]
        exact ⟨rfl, N35⟩
    ·
     obtain ⟨cq37, kq37, q37a, q37b, q37c⟩ := isOf hZ e5 ((wd1 hW).ext O0.2)
     obtain ⟨_, _, ⟨T37, L37, kk37, nn37⟩, -, X37, ⟨Lc37, hQ37, l37, y37, z37⟩, st37⟩ := X5.virtualBack hx (y := ym5) (z := ym5) hown (mvT hZ (wk22 hw)) (mvT hZ (wk23 hw)) (notFace_of_selects (args := #[]) (mvT hZ (wk25 hw))) (mvT hZ (wk25 hw)) (mvT hZ (wk24 hw)) (by decide) (backOf (W := 0) (rm4_7 l Z a0 hw w hW [] p1 p2 h0 n0 O0 hc8 hc23) hZ (wk26 hw) (wk6 hw) (by decide) (by decide)) q37a q37c (g := (mkF m 14 Lb6 [(.int p2), (.int p1), (.ref (w 0))])) rfl (by rw [hml]; rfl) (Steps.refl _) (argsL := [(.int p1), (.int p2)]) (rest := []) (lenOf pds_4 rfl) rfl (by show 2 * 0 + _ ≤ _; exact Nat.le_of_eq rfl) (hb hby at_14) (fun _ _ => ⟨rfl, e5, (by decide : 0 + 0 ≤ _), (by decide : 0 + 0 ≤ _)⟩)
     dsimp only [Pt.U, Pt.locs, Pt.cells, Pt.slots] at X37 l37 y37 z37 st37 hQ37
     subst l37 y37 z37
     obtain ⟨rfl, N37q, e37⟩ := hQ37
     have N37 := Fr.app N5 N37q
     have pre38 : ∀ t, Steps p.tables e below (T37.setTop (mkF m 21 Lb6 [(.int p1), (.int p2), (.ref (w 0)), (.int (0 : Int32))])) t → Steps p.tables e below (s₁.setTop (entryFrame m #[(.int p0), (.int p1), (.int p2)] maxLocals)) t := fun t k => pre7 t (by
      show Steps p.tables e below (T5.setTop (mkF m 14 Lb6 [(.int p2), (.int p1), (.ref (w 0))])) _
      refine st37.trans ?_
      refine sa X37 hx hby at_17 rfl rfl ?_
      refine sI X37 hx hby at_19 rfl ?_
      refine sI X37 hx hby at_20 rfl ?_
      exact k)
     by_cases hc39 : p2 < p1
     ·
      obtain ⟨cq40, kq40, q40a, q40b, q40c⟩ := isOf hZ e37 ((wd1 hW).ext O0.2)
      obtain ⟨_, _, ⟨T40, L40, kk40, nn40⟩, -, X40, ⟨Lc40, hQ40, l40, y40, z40⟩, st40⟩ := X37.virtualBack hx (y := ym5) (z := ym5) hown (mvT hZ (wk22 hw)) (mvT hZ (wk23 hw)) (notFace_of_selects (args := #[]) (mvT hZ (wk25 hw))) (mvT hZ (wk25 hw)) (mvT hZ (wk24 hw)) (by decide) (backOf (W := 1) (rm4_5 l Z a0 hw w hW [] p2 p1 h0 n0 O0 hc39) hZ (wk26 hw) (wk6 hw) (by decide) (by decide)) q40a q40c (g := (mkF m 21 Lb6 [(.int p1), (.int p2), (.ref (w 0)), (.int (0 : Int32))])) rfl (by rw [hml]; rfl) (Steps.refl _) (argsL := [(.int p2), (.int p1)]) (rest := [(.int (0 : Int32))]) (lenOf pds_4 rfl) rfl (by show 2 * 0 + _ ≤ _; exact Nat.le_of_eq rfl) (hb hby at_21) (fun _ _ => ⟨rfl, e37, (by decide : 0 + 0 ≤ _), (by decide : 0 + 0 ≤ _)⟩)
      dsimp only [Pt.U, Pt.locs, Pt.cells, Pt.slots] at X40 l40 y40 z40 st40 hQ40
      subst l40 y40 z40
      obtain ⟨rfl, N40q, e40⟩ := hQ40
      have N40 := Fr.app N37 N40q
      let Lb41 : Array Slot := #[.val (.int p0), .val (.int p1), .val (.int p2), .val (.ref (w 0)), .val (.ref (w 0)), .val (.int (1 : Int32)), .unset, .unset, .unset]
      obtain ⟨cq42, kq42, q42a, q42b, q42c⟩ := isOf hZ e40 ((wd1 hW).ext O0.2)
      obtain ⟨_, _, ⟨T42, L42, kk42, nn42⟩, -, X42, ⟨Lc42, hQ42, l42, y42, z42⟩, st42⟩ := X40.virtualBack hx (y := ym5) (z := ym5) hown (mvT hZ (wk22 hw)) (mvT hZ (wk23 hw)) (notFace_of_selects (args := #[]) (mvT hZ (wk25 hw))) (mvT hZ (wk25 hw)) (mvT hZ (wk24 hw)) (by decide) (backOf (W := 0) (rm4_5 l Z a0 hw w hW [] p2 p1 h0 n0 O0 hc39) hZ (wk26 hw) (wk6 hw) (by decide) (by decide)) q42a q42c (g := (mkF m 37 Lb41 [(.int p1), (.int p2), (.ref (w 0))])) rfl (by rw [hml]; rfl) (Steps.refl _) (argsL := [(.int p2), (.int p1)]) (rest := []) (lenOf pds_4 rfl) rfl (by show 2 * 0 + _ ≤ _; exact Nat.le_of_eq rfl) (hb hby at_37) (fun _ _ => ⟨rfl, e40, (by decide : 0 + 0 ≤ _), (by decide : 0 + 0 ≤ _)⟩)
      dsimp only [Pt.U, Pt.locs, Pt.cells, Pt.slots] at X42 l42 y42 z42 st42 hQ42
      subst l42 y42 z42
      obtain ⟨rfl, N42q, e42⟩ := hQ42
      have N42 := Fr.app N40 N42q
      obtain ⟨cq43, kq43, q43a, q43b, q43c⟩ := isOf hZ e42 ((wd1 hW).ext O0.2)
      obtain ⟨_, _, ⟨T43, L43, kk43, nn43⟩, -, X43, ⟨Lc43, hQ43, l43, y43, z43⟩, st43⟩ := X42.virtualBack hx (y := ym5) (z := ym5) hown (mvT hZ (wk22 hw)) (mvT hZ (wk23 hw)) (notFace_of_selects (args := #[]) (mvT hZ (wk25 hw))) (mvT hZ (wk25 hw)) (mvT hZ (wk24 hw)) (by decide) (backOf (W := 1) (rm4_7 l Z a0 hw w hW [] p1 p2 h0 n0 O0 hc8 hc23) hZ (wk26 hw) (wk6 hw) (by decide) (by decide)) q43a q43c (g := (mkF m 44 Lb41 [(.int p2), (.int p1), (.ref (w 0)), (.int (0 : Int32))])) rfl (by rw [hml]; rfl) (Steps.refl _) (argsL := [(.int p1), (.int p2)]) (rest := [(.int (0 : Int32))]) (lenOf pds_4 rfl) rfl (by show 2 * 0 + _ ≤ _; exact Nat.le_of_eq rfl) (hb hby at_44) (fun _ _ => ⟨rfl, e42, (by decide : 0 + 0 ≤ _), (by decide : 0 + 0 ≤ _)⟩)
      dsimp only [Pt.U, Pt.locs, Pt.cells, Pt.slots] at X43 l43 y43 z43 st43 hQ43
      subst l43 y43 z43
      obtain ⟨rfl, N43q, e43⟩ := hQ43
      have N43 := Fr.app N42 N43q
      let Lb44 : Array Slot := #[.val (.int p0), .val (.int p1), .val (.int p2), .val (.ref (w 0)), .val (.ref (w 0)), .val (.int (1 : Int32)), .val (.int (1 : Int32)), .unset, .unset]
      obtain ⟨cq45, kq45, q45a, q45b, q45c⟩ := isOf hZ e43 ((wd1 hW).ext O0.2)
      obtain ⟨_, _, ⟨T45, L45, kk45, nn45⟩, -, X45, ⟨Lc45, hQ45, l45, y45, z45⟩, st45⟩ := X43.virtualBack hx (y := ym5) (z := ym5) hown (mvT hZ (wk22 hw)) (mvT hZ (wk23 hw)) (notFace_of_selects (args := #[]) (mvT hZ (wk25 hw))) (mvT hZ (wk25 hw)) (mvT hZ (wk24 hw)) (by decide) (backOf (W := 0) (rm4_9 l Z a0 hw w hW [] p1 h0 n0 O0 ) hZ (wk26 hw) (wk6 hw) (by decide) (by decide)) q45a q45c (g := (mkF m 60 Lb44 [(.int p1), (.int p1), (.ref (w 0))])) rfl (by rw [hml]; rfl) (Steps.refl _) (argsL := [(.int p1), (.int p1)]) (rest := []) (lenOf pds_4 rfl) rfl (by show 2 * 0 + _ ≤ _; exact Nat.le_of_eq rfl) (hb hby at_60) (fun _ _ => ⟨rfl, e43, (by decide : 0 + 0 ≤ _), (by decide : 0 + 0 ≤ _)⟩)
      dsimp only [Pt.U, Pt.locs, Pt.cells, Pt.slots] at X45 l45 y45 z45 st45 hQ45
      subst l45 y45 z45
      obtain ⟨rfl, N45q, e45⟩ := hQ45
      have N45 := Fr.app N43 N45q
      obtain ⟨cq46, kq46, q46a, q46b, q46c⟩ := isOf hZ e45 ((wd1 hW).ext O0.2)
      obtain ⟨_, _, ⟨T46, L46, kk46, nn46⟩, -, X46, ⟨Lc46, hQ46, l46, y46, z46⟩, st46⟩ := X45.virtualBack hx (y := ym5) (z := ym5) hown (mvT hZ (wk22 hw)) (mvT hZ (wk23 hw)) (notFace_of_selects (args := #[]) (mvT hZ (wk25 hw))) (mvT hZ (wk25 hw)) (mvT hZ (wk24 hw)) (by decide) (backOf (W := 1) (rm4_9 l Z a0 hw w hW [] p1 h0 n0 O0 ) hZ (wk26 hw) (wk6 hw) (by decide) (by decide)) q46a q46c (g := (mkF m 67 Lb44 [(.int p1), (.int p1), (.ref (w 0)), (.int (1 : Int32))])) rfl (by rw [hml]; rfl) (Steps.refl _) (argsL := [(.int p1), (.int p1)]) (rest := [(.int (1 : Int32))]) (lenOf pds_4 rfl) rfl (by show 2 * 0 + _ ≤ _; exact Nat.le_of_eq rfl) (hb hby at_67) (fun _ _ => ⟨rfl, e45, (by decide : 0 + 0 ≤ _), (by decide : 0 + 0 ≤ _)⟩)
      dsimp only [Pt.U, Pt.locs, Pt.cells, Pt.slots] at X46 l46 y46 z46 st46 hQ46
      subst l46 y46 z46
      obtain ⟨rfl, N46q, e46⟩ := hQ46
      have N46 := Fr.app N45 N46q
      let Lb47 : Array Slot := #[.val (.int p0), .val (.int p1), .val (.int p2), .val (.ref (w 0)), .val (.ref (w 0)), .val (.int (1 : Int32)), .val (.int (1 : Int32)), .val (.int (1 : Int32)), .unset]
      obtain ⟨cq48, kq48, q48a, q48b, q48c⟩ := isOf hZ e46 ((wd1 hW).ext O0.2)
      obtain ⟨_, _, ⟨T48, L48, kk48, nn48⟩, -, X48, ⟨Lc48, hQ48, l48, y48, z48⟩, st48⟩ := X46.virtualBack hx (y := ym3) (z := ym3) hown (mvT hZ (wk8 hw)) (mvT hZ (wk9 hw)) (notFace_of_selects (args := #[]) (mvT hZ (wk11 hw))) (mvT hZ (wk11 hw)) (mvT hZ (wk10 hw)) (by decide) (backOf (W := 0) (rm2_3 l Z a0 hw w hW []  h0 n0 O0 ) hZ (wk12 hw) (wk6 hw) (by decide) (by decide)) q48a q48c (g := (mkF m 82 Lb47 [(.ref (w 0))])) rfl (by rw [hml]; rfl) (Steps.refl _) (argsL := []) (rest := []) (lenOf pds_2 rfl) rfl (by show 2 * 0 + _ ≤ _; exact Nat.le_of_eq rfl) (hb hby at_82) (fun _ _ => ⟨rfl, e46, (by decide : 0 + 0 ≤ _), (by decide : 0 + 0 ≤ _)⟩)
      dsimp only [Pt.U, Pt.locs, Pt.cells, Pt.slots] at X48 l48 y48 z48 st48 hQ48
      subst l48 y48 z48
      obtain ⟨rfl, N48q, e48⟩ := hQ48
      have N48 := Fr.app N46 N48q
      let Lb49 : Array Slot := #[.val (.int p0), .val (.int p1), .val (.int p2), .val (.ref (w 0)), .val (.ref (w 0)), .val (.int (1 : Int32)), .val (.int (1 : Int32)), .val (.int (1 : Int32)), .val (.int (1 : Int32))]
      obtain ⟨fs, hr, hrun, hended, hWm, hsame⟩ := X48.leave (v := some (.int (1 : Int32))) (fun h => by rw [Bd.returns] at h; cases h)
      refine ⟨_, _, pre38 _ ?_, hrun, hended, _, _, rfl, ?_, ⟨_, rfl⟩, hWm, hsame.mono (by decide) (by decide)⟩
      · show Steps p.tables e below (T37.setTop (mkF m 21 Lb6 [(.int p1), (.int p2), (.ref (w 0)), (.int (0 : Int32))])) _
        refine st40.trans ?_
        refine sn X40 hx hby at_24 (by decide) ?_
        refine sc X40 hx hby at_27 ?_
        refine sg (pc := 28) (pc' := 32) X40 hx hby at_28 (by decide) (by decide) ?_
        refine XS.istore X40.here hx rfl (hb hby at_32) rfl (l' := Lb41) rfl ?_
        refine sA X40 hx hby at_34 rfl rfl ?_
        show Steps p.tables e below (T40.setTop (mkF m 35 Lb41 [(.ref (w 0))])) _
        refine sI X40 hx hby at_35 rfl ?_
        refine sI X40 hx hby at_36 rfl ?_
        refine st42.trans ?_
        refine sa X42 hx hby at_40 rfl rfl ?_
        refine sI X42 hx hby at_42 rfl ?_
        refine sI X42 hx hby at_43 rfl ?_
        refine st43.trans ?_
        refine sn X43 hx hby at_47 (by decide) ?_
        refine sc X43 hx hby at_50 ?_
        refine sg (pc := 51) (pc' := 55) X43 hx hby at_51 (by decide) (by decide) ?_
        refine XS.istore X43.here hx rfl (hb hby at_55) rfl (l' := Lb44) rfl ?_
        refine sA X43 hx hby at_57 rfl rfl ?_
        show Steps p.tables e below (T43.setTop (mkF m 58 Lb44 [(.ref (w 0))])) _
        refine sI X43 hx hby at_58 rfl ?_
        refine sI X43 hx hby at_59 rfl ?_
        refine st45.trans ?_
        refine sa X45 hx hby at_63 rfl rfl ?_
        refine sI X45 hx hby at_65 rfl ?_
        refine sI X45 hx hby at_66 rfl ?_
        refine st46.trans ?_
        refine sn X46 hx hby at_70 (by decide) ?_
        refine sc X46 hx hby at_73 ?_
        refine sg (pc := 74) (pc' := 78) X46 hx hby at_74 (by decide) (by decide) ?_
        refine XS.istore X46.here hx rfl (hb hby at_78) rfl (l' := Lb47) rfl ?_
        refine sa X46 hx hby at_80 rfl rfl ?_
        show Steps p.tables e below (T46.setTop (mkF m 82 Lb47 [(.ref (w 0))])) _
        refine st48.trans ?_
        refine sA X48 hx hby at_85 rfl rfl ?_
        refine Jvm.RoadKit.acmp (g := (mkF m 86 Lb47 [(.ref (w 0)), (.ref (w 0))])) X48 hx rfl rfl rfl (pc0 := 86) (pc' := 89) (same := true) rfl (hb hby at_86) rfl (decide_eq_true rfl) (by decide) (by decide) ?_
        refine sc X48 hx hby at_89 ?_
        refine sg (pc := 90) (pc' := 94) X48 hx hby at_90 (by decide) (by decide) ?_
        refine XS.istore X48.here hx rfl (hb hby at_94) rfl (l' := Lb49) rfl ?_
        show Steps p.tables e below (T48.setTop (mkF m 96 Lb49 [])) _
        refine si X48 hx hby at_96 rfl ?_
        refine sN X48 hx hby at_98 (by decide) ?_
        refine si X48 hx hby at_101 rfl ?_
        refine sN X48 hx hby at_103 (by decide) ?_
        refine si X48 hx hby at_106 rfl ?_
        show Steps p.tables e below (T48.setTop (mkF m 108 Lb49 [(.int (1 : Int32))])) _
        refine sN X48 hx hby at_108 (by decide) ?_
        refine si X48 hx hby at_111 rfl ?_
        refine sN X48 hx hby at_113 (by decide) ?_
        refine sc X48 hx hby at_116 ?_
        refine sg (pc := 117) (pc' := 121) X48 hx hby at_117 (by decide) (by decide) ?_
        show Steps p.tables e below (T48.setTop (mkF m 121 Lb49 [(.int (1 : Int32))])) _
        exact retN X48 hx (t := .boolean) Bd.returns (by simp) (hb hby at_121) hr
      · show Q0 n0 _ T48.heap _
        rw [e48]
        exact ⟨rfl, N48⟩
     ·
      exfalso
      have z3 := Int32.le_iff_toInt_le.mp (Int32.not_lt.mp hc8)
      have z4 : (p1).toInt ≠ (p2).toInt := fun q => hc23 (Int32.toInt_inj.mp q)
      have z5 := Int32.le_iff_toInt_le.mp (Int32.not_lt.mp hc39)
      have z1 := rng32 p1
      have z2 := rng32 p2
      omega
  ·
   obtain ⟨_, _, ⟨T50, L50, kk50, nn50⟩, -, X50, ⟨Lc50, hQ50, l50, y50, z50⟩, st50⟩ := Jvm.LawKit.callS X0 hx (y := ym0) hown (mvT hZ (wk0 hw)) (mvT hZ (wk1 hw)) (mvT hZ (wk2 hw)) (mvT hZ (wk3 hw)) (by decide) (backOf (W := 0) (rm1_12 l Z a0 hw w hW [] p0 h0 n0 O0 (by rw [hs2] <;> decide) (by rw [hs2] <;> decide)) hZ (wk3 hw) (wk2 hw) (by decide) (by decide)) (g := (mkF m 1 La [(.int p0)])) rfl (by rw [hml]; rfl) (argsL := [(.int p0)]) (rest := []) (lenOf pds_0 rfl) rfl (by show 2 * 0 + _ ≤ _; exact Nat.le_of_eq rfl) (hb hby at_1) (fun _ _ => ⟨rfl, e0, (by decide : 0 + 0 ≤ _), (by decide : 0 + 0 ≤ _)⟩)
   dsimp only [Pt.U, Pt.locs, Pt.cells, Pt.slots] at X50 l50 y50 z50 st50 hQ50
   subst l50 y50 z50
   obtain ⟨rfl, N50q, e50⟩ := hQ50
   have N50 := Fr.app N0 N50q
   let Lb51 : Array Slot := #[.val (.int p0), .val (.int p1), .val (.int p2), .val (.ref (w 1)), .unset, .unset, .unset, .unset, .unset]
   obtain ⟨cq52, kq52, q52a, q52b, q52c⟩ := isOf hZ e50 ((wd3 hW).ext O0.2)
   obtain ⟨_, _, ⟨T52, L52, kk52, nn52⟩, -, X52, ⟨Lc52, hQ52, l52, y52, z52⟩, st52⟩ := X50.virtualBack hx (y := ym3) (z := ym3) hown (mvT hZ (wk8 hw)) (mvT hZ (wk9 hw)) (notFace_of_selects (args := #[]) (mvT hZ (wk11 hw))) (mvT hZ (wk11 hw)) (mvT hZ (wk10 hw)) (by decide) (backOf (W := 0) (rm2_14 l Z a0 hw w hW []  h0 n0 O0 ) hZ (wk12 hw) (wk6 hw) (by decide) (by decide)) q52a q52c (g := (mkF m 6 Lb51 [(.ref (w 1))])) rfl (by rw [hml]; rfl) (Steps.refl _) (argsL := []) (rest := []) (lenOf pds_2 rfl) rfl (by show 2 * 0 + _ ≤ _; exact Nat.le_of_eq rfl) (hb hby at_6) (fun _ _ => ⟨rfl, e50, (by decide : 0 + 0 ≤ _), (by decide : 0 + 0 ≤ _)⟩)
   dsimp only [Pt.U, Pt.locs, Pt.cells, Pt.slots] at X52 l52 y52 z52 st52 hQ52
   subst l52 y52 z52
   obtain ⟨rfl, N52q, e52⟩ := hQ52
   have N52 := Fr.app N50 N52q
   let Lb53 : Array Slot := #[.val (.int p0), .val (.int p1), .val (.int p2), .val (.ref (w 1)), .val (.ref (w 1)), .unset, .unset, .unset, .unset]
   have pre54 : ∀ t, Steps p.tables e below (T52.setTop (mkF m 14 Lb53 [(.int p2), (.int p1), (.ref (w 1))])) t → Steps p.tables e below (s₁.setTop (entryFrame m #[(.int p0), (.int p1), (.int p2)] maxLocals)) t := fun t k => pre1 t (by
    show Steps p.tables e below (s₁.setTop (mkF m 1 La [(.int p0)])) _
    refine st50 _ ?_
    refine XS.astoreN X50.here hx rfl (hb hby at_4) rfl rfl (l' := Lb51) rfl ?_
    refine sA X50 hx hby at_5 rfl rfl ?_
    refine st52.trans ?_
    refine XS.astore X52.here hx rfl (hb hby at_9) rfl rfl (l' := Lb53) rfl ?_
    refine sA X52 hx hby at_11 rfl rfl ?_
    refine sI X52 hx hby at_12 rfl ?_
    refine sI X52 hx hby at_13 rfl ?_
    exact k)
   by_cases hc55 : p1 < p2
   ·
    obtain ⟨cq56, kq56, q56a, q56b, q56c⟩ := isOf hZ e52 ((wd3 hW).ext O0.2)
    obtain ⟨_, _, ⟨T56, L56, kk56, nn56⟩, -, X56, ⟨Lc56, hQ56, l56, y56, z56⟩, st56⟩ := X52.virtualBack hx (y := ym5) (z := ym5) hown (mvT hZ (wk22 hw)) (mvT hZ (wk23 hw)) (notFace_of_selects (args := #[]) (mvT hZ (wk25 hw))) (mvT hZ (wk25 hw)) (mvT hZ (wk24 hw)) (by decide) (backOf (W := 0) (rm4_15 l Z a0 hw w hW [] p1 p2 h0 n0 O0 hc55) hZ (wk26 hw) (wk6 hw) (by decide) (by decide)) q56a q56c (g := (mkF m 14 Lb53 [(.int p2), (.int p1), (.ref (w 1))])) rfl (by rw [hml]; rfl) (Steps.refl _) (argsL := [(.int p1), (.int p2)]) (rest := []) (lenOf pds_4 rfl) rfl (by show 2 * 0 + _ ≤ _; exact Nat.le_of_eq rfl) (hb hby at_14) (fun _ _ => ⟨rfl, e52, (by decide : 0 + 0 ≤ _), (by decide : 0 + 0 ≤ _)⟩)
    dsimp only [Pt.U, Pt.locs, Pt.cells, Pt.slots] at X56 l56 y56 z56 st56 hQ56
    subst l56 y56 z56
    obtain ⟨rfl, N56q, e56⟩ := hQ56
    have N56 := Fr.app N52 N56q
    have pre57 : ∀ t, Steps p.tables e below (T56.setTop (mkF m 21 Lb53 [(.int p1), (.int p2), (.ref (w 1)), (.int (1 : Int32))])) t → Steps p.tables e below (s₁.setTop (entryFrame m #[(.int p0), (.int p1), (.int p2)] maxLocals)) t := fun t k => pre54 t (by
     show Steps p.tables e below (T52.setTop (mkF m 14 Lb53 [(.int p2), (.int p1), (.ref (w 1))])) _
     refine st56.trans ?_
     refine sa X56 hx hby at_17 rfl rfl ?_
     refine sI X56 hx hby at_19 rfl ?_
     refine sI X56 hx hby at_20 rfl ?_
     exact k)
    by_cases hc58 : p2 < p1
    ·
     exfalso
     have z3 := Int32.lt_iff_toInt_lt.mp hc55
     have z4 := Int32.lt_iff_toInt_lt.mp hc58
     have z1 := rng32 p1
     have z2 := rng32 p2
     omega
    ·
     by_cases hc59 : p2 = p1
     ·
      exfalso
      have z3 := Int32.lt_iff_toInt_lt.mp hc55
      have z4 := Int32.le_iff_toInt_le.mp (Int32.not_lt.mp hc58)
      have z5 := congrArg Int32.toInt hc59
      have z1 := rng32 p1
      have z2 := rng32 p2
      omega
     ·
      obtain ⟨cq60, kq60, q60a, q60b, q60c⟩ := isOf hZ e56 ((wd3 hW).ext O0.2)
      obtain ⟨_, _, ⟨T60, L60, kk60, nn60⟩, -, X60, ⟨Lc60, hQ60, l60, y60, z60⟩, st60⟩ := X56.virtualBack hx (y := ym5) (z := ym5) hown (mvT hZ (wk22 hw)) (mvT hZ (wk23 hw)) (notFace_of_selects (args := #[]) (mvT hZ (wk25 hw))) (mvT hZ (wk25 hw)) (mvT hZ (wk24 hw)) (by decide) (backOf (W := 1) (rm4_16 l Z a0 hw w hW [] p2 p1 h0 n0 O0 hc58 hc59) hZ (wk26 hw) (wk6 hw) (by decide) (by decide)) q60a q60c (g := (mkF m 21 Lb53 [(.int p1), (.int p2), (.ref (w 1)), (.int (1 : Int32))])) rfl (by rw [hml]; rfl) (Steps.refl _) (argsL := [(.int p2), (.int p1)]) (rest := [(.int (1 : Int32))]) (lenOf pds_4 rfl) rfl (by show 2 * 0 + _ ≤ _; exact Nat.le_of_eq rfl) (hb hby at_21) (fun _ _ => ⟨rfl, e56, (by decide : 0 + 0 ≤ _), (by decide : 0 + 0 ≤ _)⟩)
      dsimp only [Pt.U, Pt.locs, Pt.cells, Pt.slots] at X60 l60 y60 z60 st60 hQ60
      subst l60 y60 z60
      obtain ⟨rfl, N60q, e60⟩ := hQ60
      have N60 := Fr.app N56 N60q
      let Lb61 : Array Slot := #[.val (.int p0), .val (.int p1), .val (.int p2), .val (.ref (w 1)), .val (.ref (w 1)), .val (.int (1 : Int32)), .unset, .unset, .unset]
      obtain ⟨cq62, kq62, q62a, q62b, q62c⟩ := isOf hZ e60 ((wd3 hW).ext O0.2)
      obtain ⟨_, _, ⟨T62, L62, kk62, nn62⟩, -, X62, ⟨Lc62, hQ62, l62, y62, z62⟩, st62⟩ := X60.virtualBack hx (y := ym5) (z := ym5) hown (mvT hZ (wk22 hw)) (mvT hZ (wk23 hw)) (notFace_of_selects (args := #[]) (mvT hZ (wk25 hw))) (mvT hZ (wk25 hw)) (mvT hZ (wk24 hw)) (by decide) (backOf (W := 0) (rm4_16 l Z a0 hw w hW [] p2 p1 h0 n0 O0 hc58 hc59) hZ (wk26 hw) (wk6 hw) (by decide) (by decide)) q62a q62c (g := (mkF m 37 Lb61 [(.int p1), (.int p2), (.ref (w 1))])) rfl (by rw [hml]; rfl) (Steps.refl _) (argsL := [(.int p2), (.int p1)]) (rest := []) (lenOf pds_4 rfl) rfl (by show 2 * 0 + _ ≤ _; exact Nat.le_of_eq rfl) (hb hby at_37) (fun _ _ => ⟨rfl, e60, (by decide : 0 + 0 ≤ _), (by decide : 0 + 0 ≤ _)⟩)
      dsimp only [Pt.U, Pt.locs, Pt.cells, Pt.slots] at X62 l62 y62 z62 st62 hQ62
      subst l62 y62 z62
      obtain ⟨rfl, N62q, e62⟩ := hQ62
      have N62 := Fr.app N60 N62q
      obtain ⟨cq63, kq63, q63a, q63b, q63c⟩ := isOf hZ e62 ((wd3 hW).ext O0.2)
      obtain ⟨_, _, ⟨T63, L63, kk63, nn63⟩, -, X63, ⟨Lc63, hQ63, l63, y63, z63⟩, st63⟩ := X62.virtualBack hx (y := ym5) (z := ym5) hown (mvT hZ (wk22 hw)) (mvT hZ (wk23 hw)) (notFace_of_selects (args := #[]) (mvT hZ (wk25 hw))) (mvT hZ (wk25 hw)) (mvT hZ (wk24 hw)) (by decide) (backOf (W := 1) (rm4_15 l Z a0 hw w hW [] p1 p2 h0 n0 O0 hc55) hZ (wk26 hw) (wk6 hw) (by decide) (by decide)) q63a q63c (g := (mkF m 44 Lb61 [(.int p2), (.int p1), (.ref (w 1)), (.int (1 : Int32))])) rfl (by rw [hml]; rfl) (Steps.refl _) (argsL := [(.int p1), (.int p2)]) (rest := [(.int (1 : Int32))]) (lenOf pds_4 rfl) rfl (by show 2 * 0 + _ ≤ _; exact Nat.le_of_eq rfl) (hb hby at_44) (fun _ _ => ⟨rfl, e62, (by decide : 0 + 0 ≤ _), (by decide : 0 + 0 ≤ _)⟩)
      dsimp only [Pt.U, Pt.locs, Pt.cells, Pt.slots] at X63 l63 y63 z63 st63 hQ63
      subst l63 y63 z63
      obtain ⟨rfl, N63q, e63⟩ := hQ63
      have N63 := Fr.app N62 N63q
      let Lb64 : Array Slot := #[.val (.int p0), .val (.int p1), .val (.int p2), .val (.ref (w 1)), .val (.ref (w 1)), .val (.int (1 : Int32)), .val (.int (1 : Int32)), .unset, .unset]
      obtain ⟨cq65, kq65, q65a, q65b, q65c⟩ := isOf hZ e63 ((wd3 hW).ext O0.2)
      obtain ⟨_, _, ⟨T65, L65, kk65, nn65⟩, -, X65, ⟨Lc65, hQ65, l65, y65, z65⟩, st65⟩ := X63.virtualBack hx (y := ym5) (z := ym5) hown (mvT hZ (wk22 hw)) (mvT hZ (wk23 hw)) (notFace_of_selects (args := #[]) (mvT hZ (wk25 hw))) (mvT hZ (wk25 hw)) (mvT hZ (wk24 hw)) (by decide) (backOf (W := 0) (rm4_17 l Z a0 hw w hW [] p1 h0 n0 O0 ) hZ (wk26 hw) (wk6 hw) (by decide) (by decide)) q65a q65c (g := (mkF m 60 Lb64 [(.int p1), (.int p1), (.ref (w 1))])) rfl (by rw [hml]; rfl) (Steps.refl _) (argsL := [(.int p1), (.int p1)]) (rest := []) (lenOf pds_4 rfl) rfl (by show 2 * 0 + _ ≤ _; exact Nat.le_of_eq rfl) (hb hby at_60) (fun _ _ => ⟨rfl, e63, (by decide : 0 + 0 ≤ _), (by decide : 0 + 0 ≤ _)⟩)
      dsimp only [Pt.U, Pt.locs, Pt.cells, Pt.slots] at X65 l65 y65 z65 st65 hQ65
      subst l65 y65 z65
      obtain ⟨rfl, N65q, e65⟩ := hQ65
      have N65 := Fr.app N63 N65q
      obtain ⟨cq66, kq66, q66a, q66b, q66c⟩ := isOf hZ e65 ((wd3 hW).ext O0.2)
      obtain ⟨_, _, ⟨T66, L66, kk66, nn66⟩, -, X66, ⟨Lc66, hQ66, l66, y66, z66⟩, st66⟩ := X65.virtualBack hx (y := ym5) (z := ym5) hown (mvT hZ (wk22 hw)) (mvT hZ (wk23 hw)) (notFace_of_selects (args := #[]) (mvT hZ (wk25 hw))) (mvT hZ (wk25 hw)) (mvT hZ (wk24 hw)) (by decide) (backOf (W := 1) (rm4_17 l Z a0 hw w hW [] p1 h0 n0 O0 ) hZ (wk26 hw) (wk6 hw) (by decide) (by decide)) q66a q66c (g := (mkF m 67 Lb64 [(.int p1), (.int p1), (.ref (w 1)), (.int (0 : Int32))])) rfl (by rw [hml]; rfl) (Steps.refl _) (argsL := [(.int p1), (.int p1)]) (rest := [(.int (0 : Int32))]) (lenOf pds_4 rfl) rfl (by show 2 * 0 + _ ≤ _; exact Nat.le_of_eq rfl) (hb hby at_67) (fun _ _ => ⟨rfl, e65, (by decide : 0 + 0 ≤ _), (by decide : 0 + 0 ≤ _)⟩)
      dsimp only [Pt.U, Pt.locs, Pt.cells, Pt.slots] at X66 l66 y66 z66 st66 hQ66
      subst l66 y66 z66
      obtain ⟨rfl, N66q, e66⟩ := hQ66
      have N66 := Fr.app N65 N66q
      let Lb67 : Array Slot := #[.val (.int p0), .val (.int p1), .val (.int p2), .val (.ref (w 1)), .val (.ref (w 1)), .val (.int (1 : Int32)), .val (.int (1 : Int32)), .val (.int (1 : Int32)), .unset]
      obtain ⟨cq68, kq68, q68a, q68b, q68c⟩ := isOf hZ e66 ((wd3 hW).ext O0.2)
      obtain ⟨_, _, ⟨T68, L68, kk68, nn68⟩, -, X68, ⟨Lc68, hQ68, l68, y68, z68⟩, st68⟩ := X66.virtualBack hx (y := ym3) (z := ym3) hown (mvT hZ (wk8 hw)) (mvT hZ (wk9 hw)) (notFace_of_selects (args := #[]) (mvT hZ (wk11 hw))) (mvT hZ (wk11 hw)) (mvT hZ (wk10 hw)) (by decide) (backOf (W := 0) (rm2_14 l Z a0 hw w hW []  h0 n0 O0 ) hZ (wk12 hw) (wk6 hw) (by decide) (by decide)) q68a q68c (g := (mkF m 82 Lb67 [(.ref (w 1))])) rfl (by rw [hml]; rfl) (Steps.refl _) (argsL := []) (rest := []) (lenOf pds_2 rfl) rfl (by show 2 * 0 + _ ≤ _; exact Nat.le_of_eq rfl) (hb hby at_82) (fun _ _ => ⟨rfl, e66, (by decide : 0 + 0 ≤ _), (by decide : 0 + 0 ≤ _)⟩)
      dsimp only [Pt.U, Pt.locs, Pt.cells, Pt.slots] at X68 l68 y68 z68 st68 hQ68
      subst l68 y68 z68
      obtain ⟨rfl, N68q, e68⟩ := hQ68
      have N68 := Fr.app N66 N68q
      let Lb69 : Array Slot := #[.val (.int p0), .val (.int p1), .val (.int p2), .val (.ref (w 1)), .val (.ref (w 1)), .val (.int (1 : Int32)), .val (.int (1 : Int32)), .val (.int (1 : Int32)), .val (.int (1 : Int32))]
      obtain ⟨fs, hr, hrun, hended, hWm, hsame⟩ := X68.leave (v := some (.int (1 : Int32))) (fun h => by rw [Bd.returns] at h; cases h)
      refine ⟨_, _, pre57 _ ?_, hrun, hended, _, _, rfl, ?_, ⟨_, rfl⟩, hWm, hsame.mono (by decide) (by decide)⟩
      · show Steps p.tables e below (T56.setTop (mkF m 21 Lb53 [(.int p1), (.int p2), (.ref (w 1)), (.int (1 : Int32))])) _
        refine st60.trans ?_
        refine sn X60 hx hby at_24 (by decide) ?_
        refine sc X60 hx hby at_27 ?_
        refine sg (pc := 28) (pc' := 32) X60 hx hby at_28 (by decide) (by decide) ?_
        refine XS.istore X60.here hx rfl (hb hby at_32) rfl (l' := Lb61) rfl ?_
        refine sA X60 hx hby at_34 rfl rfl ?_
        show Steps p.tables e below (T60.setTop (mkF m 35 Lb61 [(.ref (w 1))])) _
        refine sI X60 hx hby at_35 rfl ?_
        refine sI X60 hx hby at_36 rfl ?_
        refine st62.trans ?_
        refine sa X62 hx hby at_40 rfl rfl ?_
        refine sI X62 hx hby at_42 rfl ?_
        refine sI X62 hx hby at_43 rfl ?_
        refine st63.trans ?_
        refine sn X63 hx hby at_47 (by decide) ?_
        refine sc X63 hx hby at_50 ?_
        refine sg (pc := 51) (pc' := 55) X63 hx hby at_51 (by decide) (by decide) ?_
        refine XS.istore X63.here hx rfl (hb hby at_55) rfl (l' := Lb64) rfl ?_
        refine sA X63 hx hby at_57 rfl rfl ?_
        show Steps p.tables e below (T63.setTop (mkF m 58 Lb64 [(.ref (w 1))])) _
        refine sI X63 hx hby at_58 rfl ?_
        refine sI X63 hx hby at_59 rfl ?_
        refine st65.trans ?_
        refine sa X65 hx hby at_63 rfl rfl ?_
        refine sI X65 hx hby at_65 rfl ?_
        refine sI X65 hx hby at_66 rfl ?_
        refine st66.trans ?_
        refine sn X66 hx hby at_70 (by decide) ?_
        refine sc X66 hx hby at_73 ?_
        refine sg (pc := 74) (pc' := 78) X66 hx hby at_74 (by decide) (by decide) ?_
        refine XS.istore X66.here hx rfl (hb hby at_78) rfl (l' := Lb67) rfl ?_
        refine sa X66 hx hby at_80 rfl rfl ?_
        show Steps p.tables e below (T66.setTop (mkF m 82 Lb67 [(.ref (w 1))])) _
        refine st68.trans ?_
        refine sA X68 hx hby at_85 rfl rfl ?_
        refine Jvm.RoadKit.acmp (g := (mkF m 86 Lb67 [(.ref (w 1)), (.ref (w 1))])) X68 hx rfl rfl rfl (pc0 := 86) (pc' := 89) (same := true) rfl (hb hby at_86) rfl (decide_eq_true rfl) (by decide) (by decide) ?_
        refine sc X68 hx hby at_89 ?_
        refine sg (pc := 90) (pc' := 94) X68 hx hby at_90 (by decide) (by decide) ?_
        refine XS.istore X68.here hx rfl (hb hby at_94) rfl (l' := Lb69) rfl ?_
        show Steps p.tables e below (T68.setTop (mkF m 96 Lb69 [])) _
        refine si X68 hx hby at_96 rfl ?_
        refine sN X68 hx hby at_98 (by decide) ?_
        refine si X68 hx hby at_101 rfl ?_
        refine sN X68 hx hby at_103 (by decide) ?_
        refine si X68 hx hby at_106 rfl ?_
        show Steps p.tables e below (T68.setTop (mkF m 108 Lb69 [(.int (1 : Int32))])) _
        refine sN X68 hx hby at_108 (by decide) ?_
        refine si X68 hx hby at_111 rfl ?_
        refine sN X68 hx hby at_113 (by decide) ?_
        refine sc X68 hx hby at_116 ?_
        refine sg (pc := 117) (pc' := 121) X68 hx hby at_117 (by decide) (by decide) ?_
        show Steps p.tables e below (T68.setTop (mkF m 121 Lb69 [(.int (1 : Int32))])) _
        exact retN X68 hx (t := .boolean) Bd.returns (by simp) (hb hby at_121) hr
      · show Q0 n0 _ T68.heap _
        rw [e68]
        exact ⟨rfl, N68⟩
   ·
    by_cases hc70 : p1 = p2
    ·
     obtain ⟨cq71, kq71, q71a, q71b, q71c⟩ := isOf hZ e52 ((wd3 hW).ext O0.2)
     obtain ⟨_, _, ⟨T71, L71, kk71, nn71⟩, -, X71, ⟨Lc71, hQ71, l71, y71, z71⟩, st71⟩ := X52.virtualBack hx (y := ym5) (z := ym5) hown (mvT hZ (wk22 hw)) (mvT hZ (wk23 hw)) (notFace_of_selects (args := #[]) (mvT hZ (wk25 hw))) (mvT hZ (wk25 hw)) (mvT hZ (wk24 hw)) (by decide) (backOf (W := 0) (rm4_18 l Z a0 hw w hW [] p1 p2 h0 n0 O0 hc55 hc70) hZ (wk26 hw) (wk6 hw) (by decide) (by decide)) q71a q71c (g := (mkF m 14 Lb53 [(.int p2), (.int p1), (.ref (w 1))])) rfl (by rw [hml]; rfl) (Steps.refl _) (argsL := [(.int p1), (.int p2)]) (rest := []) (lenOf pds_4 rfl) rfl (by show 2 * 0 + _ ≤ _; exact Nat.le_of_eq rfl) (hb hby at_14) (fun _ _ => ⟨rfl, e52, (by decide : 0 + 0 ≤ _), (by decide : 0 + 0 ≤ _)⟩)
     dsimp only [Pt.U, Pt.locs, Pt.cells, Pt.slots] at X71 l71 y71 z71 st71 hQ71
     subst l71 y71 z71
     obtain ⟨rfl, N71q, e71⟩ := hQ71
     have N71 := Fr.app N52 N71q
     have pre72 : ∀ t, Steps p.tables e below (T71.setTop (mkF m 21 Lb53 [(.int p1), (.int p2), (.ref (w 1)), (.int (0 : Int32))])) t → Steps p.tables e below (s₁.setTop (entryFrame m #[(.int p0), (.int p1), (.int p2)] maxLocals)) t := fun t k => pre54 t (by
      show Steps p.tables e below (T52.setTop (mkF m 14 Lb53 [(.int p2), (.int p1), (.ref (w 1))])) _
      refine st71.trans ?_
      refine sa X71 hx hby at_17 rfl rfl ?_
      refine sI X71 hx hby at_19 rfl ?_
      refine sI X71 hx hby at_20 rfl ?_
      exact k)
     by_cases hc73 : p2 < p1
     ·
      exfalso
      have z3 := Int32.le_iff_toInt_le.mp (Int32.not_lt.mp hc55)
      have z4 := congrArg Int32.toInt hc70
      have z5 := Int32.lt_iff_toInt_lt.mp hc73
      have z1 := rng32 p1
      have z2 := rng32 p2
      omega
     ·
      obtain ⟨cq74, kq74, q74a, q74b, q74c⟩ := isOf hZ e71 ((wd3 hW).ext O0.2)
      obtain ⟨_, _, ⟨T74, L74, kk74, nn74⟩, -, X74, ⟨Lc74, hQ74, l74, y74, z74⟩, st74⟩ := X71.virtualBack hx (y := ym5) (z := ym5) hown (mvT hZ (wk22 hw)) (mvT hZ (wk23 hw)) (notFace_of_selects (args := #[]) (mvT hZ (wk25 hw))) (mvT hZ (wk25 hw)) (mvT hZ (wk24 hw)) (by decide) (backOf (W := 1) (rm4_18 l Z a0 hw w hW [] p2 p1 h0 n0 O0 hc73 (Eq.symm hc70)) hZ (wk26 hw) (wk6 hw) (by decide) (by decide)) q74a q74c (g := (mkF m 21 Lb53 [(.int p1), (.int p2), (.ref (w 1)), (.int (0 : Int32))])) rfl (by rw [hml]; rfl) (Steps.refl _) (argsL := [(.int p2), (.int p1)]) (rest := [(.int (0 : Int32))]) (lenOf pds_4 rfl) rfl (by show 2 * 0 + _ ≤ _; exact Nat.le_of_eq rfl) (hb hby at_21) (fun _ _ => ⟨rfl, e71, (by decide : 0 + 0 ≤ _), (by decide : 0 + 0 ≤ _)⟩)
      dsimp only [Pt.U, Pt.locs, Pt.cells, Pt.slots] at X74 l74 y74 z74 st74 hQ74
      subst l74 y74 z74
      obtain ⟨rfl, N74q, e74⟩ := hQ74
      have N74 := Fr.app N71 N74q
      let Lb75 : Array Slot := #[.val (.int p0), .val (.int p1), .val (.int p2), .val (.ref (w 1)), .val (.ref (w 1)), .val (.int (1 : Int32)), .unset, .unset, .unset]
      obtain ⟨cq76, kq76, q76a, q76b, q76c⟩ := isOf hZ e74 ((wd3 hW).ext O0.2)
      obtain ⟨_, _, ⟨T76, L76, kk76, nn76⟩, -, X76, ⟨Lc76, hQ76, l76, y76, z76⟩, st76⟩ := X74.virtualBack hx (y := ym5) (z := ym5) hown (mvT hZ (wk22 hw)) (mvT hZ (wk23 hw)) (notFace_of_selects (args := #[]) (mvT hZ (wk25 hw))) (mvT hZ (wk25 hw)) (mvT hZ (wk24 hw)) (by decide) (backOf (W := 0) (rm4_18 l Z a0 hw w hW [] p2 p1 h0 n0 O0 hc73 (Eq.symm hc70)) hZ (wk26 hw) (wk6 hw) (by decide) (by decide)) q76a q76c (g := (mkF m 37 Lb75 [(.int p1), (.int p2), (.ref (w 1))])) rfl (by rw [hml]; rfl) (Steps.refl _) (argsL := [(.int p2), (.int p1)]) (rest := []) (lenOf pds_4 rfl) rfl (by show 2 * 0 + _ ≤ _; exact Nat.le_of_eq rfl) (hb hby at_37) (fun _ _ => ⟨rfl, e74, (by decide : 0 + 0 ≤ _), (by decide : 0 + 0 ≤ _)⟩)
      dsimp only [Pt.U, Pt.locs, Pt.cells, Pt.slots] at X76 l76 y76 z76 st76 hQ76
      subst l76 y76 z76
      obtain ⟨rfl, N76q, e76⟩ := hQ76
      have N76 := Fr.app N74 N76q
      obtain ⟨cq77, kq77, q77a, q77b, q77c⟩ := isOf hZ e76 ((wd3 hW).ext O0.2)
      obtain ⟨_, _, ⟨T77, L77, kk77, nn77⟩, -, X77, ⟨Lc77, hQ77, l77, y77, z77⟩, st77⟩ := X76.virtualBack hx (y := ym5) (z := ym5) hown (mvT hZ (wk22 hw)) (mvT hZ (wk23 hw)) (notFace_of_selects (args := #[]) (mvT hZ (wk25 hw))) (mvT hZ (wk25 hw)) (mvT hZ (wk24 hw)) (by decide) (backOf (W := 1) (rm4_18 l Z a0 hw w hW [] p1 p2 h0 n0 O0 hc55 hc70) hZ (wk26 hw) (wk6 hw) (by decide) (by decide)) q77a q77c (g := (mkF m 44 Lb75 [(.int p2), (.int p1), (.ref (w 1)), (.int (0 : Int32))])) rfl (by rw [hml]; rfl) (Steps.refl _) (argsL := [(.int p1), (.int p2)]) (rest := [(.int (0 : Int32))]) (lenOf pds_4 rfl) rfl (by show 2 * 0 + _ ≤ _; exact Nat.le_of_eq rfl) (hb hby at_44) (fun _ _ => ⟨rfl, e76, (by decide : 0 + 0 ≤ _), (by decide : 0 + 0 ≤ _)⟩)
      dsimp only [Pt.U, Pt.locs, Pt.cells, Pt.slots] at X77 l77 y77 z77 st77 hQ77
      subst l77 y77 z77
      obtain ⟨rfl, N77q, e77⟩ := hQ77
      have N77 := Fr.app N76 N77q
      let Lb78 : Array Slot := #[.val (.int p0), .val (.int p1), .val (.int p2), .val (.ref (w 1)), .val (.ref (w 1)), .val (.int (1 : Int32)), .val (.int (1 : Int32)), .unset, .unset]
      obtain ⟨cq79, kq79, q79a, q79b, q79c⟩ := isOf hZ e77 ((wd3 hW).ext O0.2)
      obtain ⟨_, _, ⟨T79, L79, kk79, nn79⟩, -, X79, ⟨Lc79, hQ79, l79, y79, z79⟩, st79⟩ := X77.virtualBack hx (y := ym5) (z := ym5) hown (mvT hZ (wk22 hw)) (mvT hZ (wk23 hw)) (notFace_of_selects (args := #[]) (mvT hZ (wk25 hw))) (mvT hZ (wk25 hw)) (mvT hZ (wk24 hw)) (by decide) (backOf (W := 0) (rm4_17 l Z a0 hw w hW [] p1 h0 n0 O0 ) hZ (wk26 hw) (wk6 hw) (by decide) (by decide)) q79a q79c (g := (mkF m 60 Lb78 [(.int p1), (.int p1), (.ref (w 1))])) rfl (by rw [hml]; rfl) (Steps.refl _) (argsL := [(.int p1), (.int p1)]) (rest := []) (lenOf pds_4 rfl) rfl (by show 2 * 0 + _ ≤ _; exact Nat.le_of_eq rfl) (hb hby at_60) (fun _ _ => ⟨rfl, e77, (by decide : 0 + 0 ≤ _), (by decide : 0 + 0 ≤ _)⟩)
      dsimp only [Pt.U, Pt.locs, Pt.cells, Pt.slots] at X79 l79 y79 z79 st79 hQ79
      subst l79 y79 z79
      obtain ⟨rfl, N79q, e79⟩ := hQ79
      have N79 := Fr.app N77 N79q
      obtain ⟨cq80, kq80, q80a, q80b, q80c⟩ := isOf hZ e79 ((wd3 hW).ext O0.2)
      obtain ⟨_, _, ⟨T80, L80, kk80, nn80⟩, -, X80, ⟨Lc80, hQ80, l80, y80, z80⟩, st80⟩ := X79.virtualBack hx (y := ym5) (z := ym5) hown (mvT hZ (wk22 hw)) (mvT hZ (wk23 hw)) (notFace_of_selects (args := #[]) (mvT hZ (wk25 hw))) (mvT hZ (wk25 hw)) (mvT hZ (wk24 hw)) (by decide) (backOf (W := 1) (rm4_17 l Z a0 hw w hW [] p1 h0 n0 O0 ) hZ (wk26 hw) (wk6 hw) (by decide) (by decide)) q80a q80c (g := (mkF m 67 Lb78 [(.int p1), (.int p1), (.ref (w 1)), (.int (0 : Int32))])) rfl (by rw [hml]; rfl) (Steps.refl _) (argsL := [(.int p1), (.int p1)]) (rest := [(.int (0 : Int32))]) (lenOf pds_4 rfl) rfl (by show 2 * 0 + _ ≤ _; exact Nat.le_of_eq rfl) (hb hby at_67) (fun _ _ => ⟨rfl, e79, (by decide : 0 + 0 ≤ _), (by decide : 0 + 0 ≤ _)⟩)
      dsimp only [Pt.U, Pt.locs, Pt.cells, Pt.slots] at X80 l80 y80 z80 st80 hQ80
      subst l80 y80 z80
      obtain ⟨rfl, N80q, e80⟩ := hQ80
      have N80 := Fr.app N79 N80q
      let Lb81 : Array Slot := #[.val (.int p0), .val (.int p1), .val (.int p2), .val (.ref (w 1)), .val (.ref (w 1)), .val (.int (1 : Int32)), .val (.int (1 : Int32)), .val (.int (1 : Int32)), .unset]
      obtain ⟨cq82, kq82, q82a, q82b, q82c⟩ := isOf hZ e80 ((wd3 hW).ext O0.2)
      obtain ⟨_, _, ⟨T82, L82, kk82, nn82⟩, -, X82, ⟨Lc82, hQ82, l82, y82, z82⟩, st82⟩ := X80.virtualBack hx (y := ym3) (z := ym3) hown (mvT hZ (wk8 hw)) (mvT hZ (wk9 hw)) (notFace_of_selects (args := #[]) (mvT hZ (wk11 hw))) (mvT hZ (wk11 hw)) (mvT hZ (wk10 hw)) (by decide) (backOf (W := 0) (rm2_14 l Z a0 hw w hW []  h0 n0 O0 ) hZ (wk12 hw) (wk6 hw) (by decide) (by decide)) q82a q82c (g := (mkF m 82 Lb81 [(.ref (w 1))])) rfl (by rw [hml]; rfl) (Steps.refl _) (argsL := []) (rest := []) (lenOf pds_2 rfl) rfl (by show 2 * 0 + _ ≤ _; exact Nat.le_of_eq rfl) (hb hby at_82) (fun _ _ => ⟨rfl, e80, (by decide : 0 + 0 ≤ _), (by decide : 0 + 0 ≤ _)⟩)
      dsimp only [Pt.U, Pt.locs, Pt.cells, Pt.slots] at X82 l82 y82 z82 st82 hQ82
      subst l82 y82 z82
      obtain ⟨rfl, N82q, e82⟩ := hQ82
      have N82 := Fr.app N80 N82q
      let Lb83 : Array Slot := #[.val (.int p0), .val (.int p1), .val (.int p2), .val (.ref (w 1)), .val (.ref (w 1)), .val (.int (1 : Int32)), .val (.int (1 : Int32)), .val (.int (1 : Int32)), .val (.int (1 : Int32))]
      obtain ⟨fs, hr, hrun, hended, hWm, hsame⟩ := X82.leave (v := some (.int (1 : Int32))) (fun h => by rw [Bd.returns] at h; cases h)
      refine ⟨_, _, pre72 _ ?_, hrun, hended, _, _, rfl, ?_, ⟨_, rfl⟩, hWm, hsame.mono (by decide) (by decide)⟩
      · show Steps p.tables e below (T71.setTop (mkF m 21 Lb53 [(.int p1), (.int p2), (.ref (w 1)), (.int (0 : Int32))])) _
        refine st74.trans ?_
        refine sn X74 hx hby at_24 (by decide) ?_
        refine sc X74 hx hby at_27 ?_
        refine sg (pc := 28) (pc' := 32) X74 hx hby at_28 (by decide) (by decide) ?_
        refine XS.istore X74.here hx rfl (hb hby at_32) rfl (l' := Lb75) rfl ?_
        refine sA X74 hx hby at_34 rfl rfl ?_
        show Steps p.tables e below (T74.setTop (mkF m 35 Lb75 [(.ref (w 1))])) _
        refine sI X74 hx hby at_35 rfl ?_
        refine sI X74 hx hby at_36 rfl ?_
        refine st76.trans ?_
        refine sa X76 hx hby at_40 rfl rfl ?_
        refine sI X76 hx hby at_42 rfl ?_
        refine sI X76 hx hby at_43 rfl ?_
        refine st77.trans ?_
        refine sn X77 hx hby at_47 (by decide) ?_
        refine sc X77 hx hby at_50 ?_
        refine sg (pc := 51) (pc' := 55) X77 hx hby at_51 (by decide) (by decide) ?_
        refine XS.istore X77.here hx rfl (hb hby at_55) rfl (l' := Lb78) rfl ?_
        refine sA X77 hx hby at_57 rfl rfl ?_
        show Steps p.tables e below (T77.setTop (mkF m 58 Lb78 [(.ref (w 1))])) _
        refine sI X77 hx hby at_58 rfl ?_
        refine sI X77 hx hby at_59 rfl ?_
        refine st79.trans ?_
        refine sa X79 hx hby at_63 rfl rfl ?_
        refine sI X79 hx hby at_65 rfl ?_
        refine sI X79 hx hby at_66 rfl ?_
        refine st80.trans ?_
        refine sn X80 hx hby at_70 (by decide) ?_
        refine sc X80 hx hby at_73 ?_
        refine sg (pc := 74) (pc' := 78) X80 hx hby at_74 (by decide) (by decide) ?_
        refine XS.istore X80.here hx rfl (hb hby at_78) rfl (l' := Lb81) rfl ?_
        refine sa X80 hx hby at_80 rfl rfl ?_
        show Steps p.tables e below (T80.setTop (mkF m 82 Lb81 [(.ref (w 1))])) _
        refine st82.trans ?_
        refine sA X82 hx hby at_85 rfl rfl ?_
        refine Jvm.RoadKit.acmp (g := (mkF m 86 Lb81 [(.ref (w 1)), (.ref (w 1))])) X82 hx rfl rfl rfl (pc0 := 86) (pc' := 89) (same := true) rfl (hb hby at_86) rfl (decide_eq_true rfl) (by decide) (by decide) ?_
        refine sc X82 hx hby at_89 ?_
        refine sg (pc := 90) (pc' := 94) X82 hx hby at_90 (by decide) (by decide) ?_
        refine XS.istore X82.here hx rfl (hb hby at_94) rfl (l' := Lb83) rfl ?_
        show Steps p.tables e below (T82.setTop (mkF m 96 Lb83 [])) _
        refine si X82 hx hby at_96 rfl ?_
        refine sN X82 hx hby at_98 (by decide) ?_
        refine si X82 hx hby at_101 rfl ?_
        refine sN X82 hx hby at_103 (by decide) ?_
        refine si X82 hx hby at_106 rfl ?_
        show Steps p.tables e below (T82.setTop (mkF m 108 Lb83 [(.int (1 : Int32))])) _
        refine sN X82 hx hby at_108 (by decide) ?_
        refine si X82 hx hby at_111 rfl ?_
        refine sN X82 hx hby at_113 (by decide) ?_
        refine sc X82 hx hby at_116 ?_
        refine sg (pc := 117) (pc' := 121) X82 hx hby at_117 (by decide) (by decide) ?_
        show Steps p.tables e below (T82.setTop (mkF m 121 Lb83 [(.int (1 : Int32))])) _
        exact retN X82 hx (t := .boolean) Bd.returns (by simp) (hb hby at_121) hr
      · show Q0 n0 _ T82.heap _
        rw [e82]
        exact ⟨rfl, N82⟩
    ·
     obtain ⟨cq84, kq84, q84a, q84b, q84c⟩ := isOf hZ e52 ((wd3 hW).ext O0.2)
     obtain ⟨_, _, ⟨T84, L84, kk84, nn84⟩, -, X84, ⟨Lc84, hQ84, l84, y84, z84⟩, st84⟩ := X52.virtualBack hx (y := ym5) (z := ym5) hown (mvT hZ (wk22 hw)) (mvT hZ (wk23 hw)) (notFace_of_selects (args := #[]) (mvT hZ (wk25 hw))) (mvT hZ (wk25 hw)) (mvT hZ (wk24 hw)) (by decide) (backOf (W := 0) (rm4_16 l Z a0 hw w hW [] p1 p2 h0 n0 O0 hc55 hc70) hZ (wk26 hw) (wk6 hw) (by decide) (by decide)) q84a q84c (g := (mkF m 14 Lb53 [(.int p2), (.int p1), (.ref (w 1))])) rfl (by rw [hml]; rfl) (Steps.refl _) (argsL := [(.int p1), (.int p2)]) (rest := []) (lenOf pds_4 rfl) rfl (by show 2 * 0 + _ ≤ _; exact Nat.le_of_eq rfl) (hb hby at_14) (fun _ _ => ⟨rfl, e52, (by decide : 0 + 0 ≤ _), (by decide : 0 + 0 ≤ _)⟩)
     dsimp only [Pt.U, Pt.locs, Pt.cells, Pt.slots] at X84 l84 y84 z84 st84 hQ84
     subst l84 y84 z84
     obtain ⟨rfl, N84q, e84⟩ := hQ84
     have N84 := Fr.app N52 N84q
     have pre85 : ∀ t, Steps p.tables e below (T84.setTop (mkF m 21 Lb53 [(.int p1), (.int p2), (.ref (w 1)), (.int (1 : Int32))])) t → Steps p.tables e below (s₁.setTop (entryFrame m #[(.int p0), (.int p1), (.int p2)] maxLocals)) t := fun t k => pre54 t (by
      show Steps p.tables e below (T52.setTop (mkF m 14 Lb53 [(.int p2), (.int p1), (.ref (w 1))])) _
      refine st84.trans ?_
      refine sa X84 hx hby at_17 rfl rfl ?_
      refine sI X84 hx hby at_19 rfl ?_
      refine sI X84 hx hby at_20 rfl ?_
      exact k)
     by_cases hc86 : p2 < p1
     ·
      obtain ⟨cq87, kq87, q87a, q87b, q87c⟩ := isOf hZ e84 ((wd3 hW).ext O0.2)
      obtain ⟨_, _, ⟨T87, L87, kk87, nn87⟩, -, X87, ⟨Lc87, hQ87, l87, y87, z87⟩, st87⟩ := X84.virtualBack hx (y := ym5) (z := ym5) hown (mvT hZ (wk22 hw)) (mvT hZ (wk23 hw)) (notFace_of_selects (args := #[]) (mvT hZ (wk25 hw))) (mvT hZ (wk25 hw)) (mvT hZ (wk24 hw)) (by decide) (backOf (W := 1) (rm4_15 l Z a0 hw w hW [] p2 p1 h0 n0 O0 hc86) hZ (wk26 hw) (wk6 hw) (by decide) (by decide)) q87a q87c (g := (mkF m 21 Lb53 [(.int p1), (.int p2), (.ref (w 1)), (.int (1 : Int32))])) rfl (by rw [hml]; rfl) (Steps.refl _) (argsL := [(.int p2), (.int p1)]) (rest := [(.int (1 : Int32))]) (lenOf pds_4 rfl) rfl (by show 2 * 0 + _ ≤ _; exact Nat.le_of_eq rfl) (hb hby at_21) (fun _ _ => ⟨rfl, e84, (by decide : 0 + 0 ≤ _), (by decide : 0 + 0 ≤ _)⟩)
      dsimp only [Pt.U, Pt.locs, Pt.cells, Pt.slots] at X87 l87 y87 z87 st87 hQ87
      subst l87 y87 z87
      obtain ⟨rfl, N87q, e87⟩ := hQ87
      have N87 := Fr.app N84 N87q
      let Lb88 : Array Slot := #[.val (.int p0), .val (.int p1), .val (.int p2), .val (.ref (w 1)), .val (.ref (w 1)), .val (.int (1 : Int32)), .unset, .unset, .unset]
      obtain ⟨cq89, kq89, q89a, q89b, q89c⟩ := isOf hZ e87 ((wd3 hW).ext O0.2)
      obtain ⟨_, _, ⟨T89, L89, kk89, nn89⟩, -, X89, ⟨Lc89, hQ89, l89, y89, z89⟩, st89⟩ := X87.virtualBack hx (y := ym5) (z := ym5) hown (mvT hZ (wk22 hw)) (mvT hZ (wk23 hw)) (notFace_of_selects (args := #[]) (mvT hZ (wk25 hw))) (mvT hZ (wk25 hw)) (mvT hZ (wk24 hw)) (by decide) (backOf (W := 0) (rm4_15 l Z a0 hw w hW [] p2 p1 h0 n0 O0 hc86) hZ (wk26 hw) (wk6 hw) (by decide) (by decide)) q89a q89c (g := (mkF m 37 Lb88 [(.int p1), (.int p2), (.ref (w 1))])) rfl (by rw [hml]; rfl) (Steps.refl _) (argsL := [(.int p2), (.int p1)]) (rest := []) (lenOf pds_4 rfl) rfl (by show 2 * 0 + _ ≤ _; exact Nat.le_of_eq rfl) (hb hby at_37) (fun _ _ => ⟨rfl, e87, (by decide : 0 + 0 ≤ _), (by decide : 0 + 0 ≤ _)⟩)
      dsimp only [Pt.U, Pt.locs, Pt.cells, Pt.slots] at X89 l89 y89 z89 st89 hQ89
      subst l89 y89 z89
      obtain ⟨rfl, N89q, e89⟩ := hQ89
      have N89 := Fr.app N87 N89q
      obtain ⟨cq90, kq90, q90a, q90b, q90c⟩ := isOf hZ e89 ((wd3 hW).ext O0.2)
      obtain ⟨_, _, ⟨T90, L90, kk90, nn90⟩, -, X90, ⟨Lc90, hQ90, l90, y90, z90⟩, st90⟩ := X89.virtualBack hx (y := ym5) (z := ym5) hown (mvT hZ (wk22 hw)) (mvT hZ (wk23 hw)) (notFace_of_selects (args := #[]) (mvT hZ (wk25 hw))) (mvT hZ (wk25 hw)) (mvT hZ (wk24 hw)) (by decide) (backOf (W := 1) (rm4_16 l Z a0 hw w hW [] p1 p2 h0 n0 O0 hc55 hc70) hZ (wk26 hw) (wk6 hw) (by decide) (by decide)) q90a q90c (g := (mkF m 44 Lb88 [(.int p2), (.int p1), (.ref (w 1)), (.int (1 : Int32))])) rfl (by rw [hml]; rfl) (Steps.refl _) (argsL := [(.int p1), (.int p2)]) (rest := [(.int (1 : Int32))]) (lenOf pds_4 rfl) rfl (by show 2 * 0 + _ ≤ _; exact Nat.le_of_eq rfl) (hb hby at_44) (fun _ _ => ⟨rfl, e89, (by decide : 0 + 0 ≤ _), (by decide : 0 + 0 ≤ _)⟩)
      dsimp only [Pt.U, Pt.locs, Pt.cells, Pt.slots] at X90 l90 y90 z90 st90 hQ90
      subst l90 y90 z90
      obtain ⟨rfl, N90q, e90⟩ := hQ90
      have N90 := Fr.app N89 N90q
      let Lb91 : Array Slot := #[.val (.int p0), .val (.int p1), .val (.int p2), .val (.ref (w 1)), .val (.ref (w 1)), .val (.int (1 : Int32)), .val (.int (1 : Int32)), .unset, .unset]
      obtain ⟨cq92, kq92, q92a, q92b, q92c⟩ := isOf hZ e90 ((wd3 hW).ext O0.2)
      obtain ⟨_, _, ⟨T92, L92, kk92, nn92⟩, -, X92, ⟨Lc92, hQ92, l92, y92, z92⟩, st92⟩ := X90.virtualBack hx (y := ym5) (z := ym5) hown (mvT hZ (wk22 hw)) (mvT hZ (wk23 hw)) (notFace_of_selects (args := #[]) (mvT hZ (wk25 hw))) (mvT hZ (wk25 hw)) (mvT hZ (wk24 hw)) (by decide) (backOf (W := 0) (rm4_17 l Z a0 hw w hW [] p1 h0 n0 O0 ) hZ (wk26 hw) (wk6 hw) (by decide) (by decide)) q92a q92c (g := (mkF m 60 Lb91 [(.int p1), (.int p1), (.ref (w 1))])) rfl (by rw [hml]; rfl) (Steps.refl _) (argsL := [(.int p1), (.int p1)]) (rest := []) (lenOf pds_4 rfl) rfl (by show 2 * 0 + _ ≤ _; exact Nat.le_of_eq rfl) (hb hby at_60) (fun _ _ => ⟨rfl, e90, (by decide : 0 + 0 ≤ _), (by decide : 0 + 0 ≤ _)⟩)
      dsimp only [Pt.U, Pt.locs, Pt.cells, Pt.slots] at X92 l92 y92 z92 st92 hQ92
      subst l92 y92 z92
      obtain ⟨rfl, N92q, e92⟩ := hQ92
      have N92 := Fr.app N90 N92q
      obtain ⟨cq93, kq93, q93a, q93b, q93c⟩ := isOf hZ e92 ((wd3 hW).ext O0.2)
      obtain ⟨_, _, ⟨T93, L93, kk93, nn93⟩, -, X93, ⟨Lc93, hQ93, l93, y93, z93⟩, st93⟩ := X92.virtualBack hx (y := ym5) (z := ym5) hown (mvT hZ (wk22 hw)) (mvT hZ (wk23 hw)) (notFace_of_selects (args := #[]) (mvT hZ (wk25 hw))) (mvT hZ (wk25 hw)) (mvT hZ (wk24 hw)) (by decide) (backOf (W := 1) (rm4_17 l Z a0 hw w hW [] p1 h0 n0 O0 ) hZ (wk26 hw) (wk6 hw) (by decide) (by decide)) q93a q93c (g := (mkF m 67 Lb91 [(.int p1), (.int p1), (.ref (w 1)), (.int (0 : Int32))])) rfl (by rw [hml]; rfl) (Steps.refl _) (argsL := [(.int p1), (.int p1)]) (rest := [(.int (0 : Int32))]) (lenOf pds_4 rfl) rfl (by show 2 * 0 + _ ≤ _; exact Nat.le_of_eq rfl) (hb hby at_67) (fun _ _ => ⟨rfl, e92, (by decide : 0 + 0 ≤ _), (by decide : 0 + 0 ≤ _)⟩)
      dsimp only [Pt.U, Pt.locs, Pt.cells, Pt.slots] at X93 l93 y93 z93 st93 hQ93
      subst l93 y93 z93
      obtain ⟨rfl, N93q, e93⟩ := hQ93
      have N93 := Fr.app N92 N93q
      let Lb94 : Array Slot := #[.val (.int p0), .val (.int p1), .val (.int p2), .val (.ref (w 1)), .val (.ref (w 1)), .val (.int (1 : Int32)), .val (.int (1 : Int32)), .val (.int (1 : Int32)), .unset]
      obtain ⟨cq95, kq95, q95a, q95b, q95c⟩ := isOf hZ e93 ((wd3 hW).ext O0.2)
      obtain ⟨_, _, ⟨T95, L95, kk95, nn95⟩, -, X95, ⟨Lc95, hQ95, l95, y95, z95⟩, st95⟩ := X93.virtualBack hx (y := ym3) (z := ym3) hown (mvT hZ (wk8 hw)) (mvT hZ (wk9 hw)) (notFace_of_selects (args := #[]) (mvT hZ (wk11 hw))) (mvT hZ (wk11 hw)) (mvT hZ (wk10 hw)) (by decide) (backOf (W := 0) (rm2_14 l Z a0 hw w hW []  h0 n0 O0 ) hZ (wk12 hw) (wk6 hw) (by decide) (by decide)) q95a q95c (g := (mkF m 82 Lb94 [(.ref (w 1))])) rfl (by rw [hml]; rfl) (Steps.refl _) (argsL := []) (rest := []) (lenOf pds_2 rfl) rfl (by show 2 * 0 + _ ≤ _; exact Nat.le_of_eq rfl) (hb hby at_82) (fun _ _ => ⟨rfl, e93, (by decide : 0 + 0 ≤ _), (by decide : 0 + 0 ≤ _)⟩)
      dsimp only [Pt.U, Pt.locs, Pt.cells, Pt.slots] at X95 l95 y95 z95 st95 hQ95
      subst l95 y95 z95
      obtain ⟨rfl, N95q, e95⟩ := hQ95
      have N95 := Fr.app N93 N95q
      let Lb96 : Array Slot := #[.val (.int p0), .val (.int p1), .val (.int p2), .val (.ref (w 1)), .val (.ref (w 1)), .val (.int (1 : Int32)), .val (.int (1 : Int32)), .val (.int (1 : Int32)), .val (.int (1 : Int32))]
      obtain ⟨fs, hr, hrun, hended, hWm, hsame⟩ := X95.leave (v := some (.int (1 : Int32))) (fun h => by rw [Bd.returns] at h; cases h)
      refine ⟨_, _, pre85 _ ?_, hrun, hended, _, _, rfl, ?_, ⟨_, rfl⟩, hWm, hsame.mono (by decide) (by decide)⟩
      · show Steps p.tables e below (T84.setTop (mkF m 21 Lb53 [(.int p1), (.int p2), (.ref (w 1)), (.int (1 : Int32))])) _
        refine st87.trans ?_
        refine sn X87 hx hby at_24 (by decide) ?_
        refine sc X87 hx hby at_27 ?_
        refine sg (pc := 28) (pc' := 32) X87 hx hby at_28 (by decide) (by decide) ?_
        refine XS.istore X87.here hx rfl (hb hby at_32) rfl (l' := Lb88) rfl ?_
        refine sA X87 hx hby at_34 rfl rfl ?_
        show Steps p.tables e below (T87.setTop (mkF m 35 Lb88 [(.ref (w 1))])) _
        refine sI X87 hx hby at_35 rfl ?_
        refine sI X87 hx hby at_36 rfl ?_
        refine st89.trans ?_
        refine sa X89 hx hby at_40 rfl rfl ?_
        refine sI X89 hx hby at_42 rfl ?_
        refine sI X89 hx hby at_43 rfl ?_
        refine st90.trans ?_
        refine sn X90 hx hby at_47 (by decide) ?_
        refine sc X90 hx hby at_50 ?_
        refine sg (pc := 51) (pc' := 55) X90 hx hby at_51 (by decide) (by decide) ?_
        refine XS.istore X90.here hx rfl (hb hby at_55) rfl (l' := Lb91) rfl ?_
        refine sA X90 hx hby at_57 rfl rfl ?_
        show Steps p.tables e below (T90.setTop (mkF m 58 Lb91 [(.ref (w 1))])) _
        refine sI X90 hx hby at_58 rfl ?_
        refine sI X90 hx hby at_59 rfl ?_
        refine st92.trans ?_
        refine sa X92 hx hby at_63 rfl rfl ?_
        refine sI X92 hx hby at_65 rfl ?_
        refine sI X92 hx hby at_66 rfl ?_
        refine st93.trans ?_
        refine sn X93 hx hby at_70 (by decide) ?_
        refine sc X93 hx hby at_73 ?_
        refine sg (pc := 74) (pc' := 78) X93 hx hby at_74 (by decide) (by decide) ?_
        refine XS.istore X93.here hx rfl (hb hby at_78) rfl (l' := Lb94) rfl ?_
        refine sa X93 hx hby at_80 rfl rfl ?_
        show Steps p.tables e below (T93.setTop (mkF m 82 Lb94 [(.ref (w 1))])) _
        refine st95.trans ?_
        refine sA X95 hx hby at_85 rfl rfl ?_
        refine Jvm.RoadKit.acmp (g := (mkF m 86 Lb94 [(.ref (w 1)), (.ref (w 1))])) X95 hx rfl rfl rfl (pc0 := 86) (pc' := 89) (same := true) rfl (hb hby at_86) rfl (decide_eq_true rfl) (by decide) (by decide) ?_
        refine sc X95 hx hby at_89 ?_
        refine sg (pc := 90) (pc' := 94) X95 hx hby at_90 (by decide) (by decide) ?_
        refine XS.istore X95.here hx rfl (hb hby at_94) rfl (l' := Lb96) rfl ?_
        show Steps p.tables e below (T95.setTop (mkF m 96 Lb96 [])) _
        refine si X95 hx hby at_96 rfl ?_
        refine sN X95 hx hby at_98 (by decide) ?_
        refine si X95 hx hby at_101 rfl ?_
        refine sN X95 hx hby at_103 (by decide) ?_
        refine si X95 hx hby at_106 rfl ?_
        show Steps p.tables e below (T95.setTop (mkF m 108 Lb96 [(.int (1 : Int32))])) _
        refine sN X95 hx hby at_108 (by decide) ?_
        refine si X95 hx hby at_111 rfl ?_
        refine sN X95 hx hby at_113 (by decide) ?_
        refine sc X95 hx hby at_116 ?_
        refine sg (pc := 117) (pc' := 121) X95 hx hby at_117 (by decide) (by decide) ?_
        show Steps p.tables e below (T95.setTop (mkF m 121 Lb96 [(.int (1 : Int32))])) _
        exact retN X95 hx (t := .boolean) Bd.returns (by simp) (hb hby at_121) hr
      · show Q0 n0 _ T95.heap _
        rw [e95]
        exact ⟨rfl, N95⟩
     ·
      exfalso
      have z3 := Int32.le_iff_toInt_le.mp (Int32.not_lt.mp hc55)
      have z4 : (p1).toInt ≠ (p2).toInt := fun q => hc70 (Int32.toInt_inj.mp q)
      have z5 := Int32.le_iff_toInt_le.mp (Int32.not_lt.mp hc86)
      have z1 := rng32 p1
      have z2 := rng32 p2
      omega
  ·
   obtain ⟨_, _, ⟨T97, L97, kk97, nn97⟩, -, X97, ⟨Lc97, hQ97, l97, y97, z97⟩, st97⟩ := Jvm.LawKit.callS X0 hx (y := ym0) hown (mvT hZ (wk0 hw)) (mvT hZ (wk1 hw)) (mvT hZ (wk2 hw)) (mvT hZ (wk3 hw)) (by decide) (backOf (W := 0) (rm1_19 l Z a0 hw w hW [] p0 h0 n0 O0 (by rw [hs2] <;> decide) (by rw [hs2] <;> decide) (by rw [hs2] <;> decide)) hZ (wk3 hw) (wk2 hw) (by decide) (by decide)) (g := (mkF m 1 La [(.int p0)])) rfl (by rw [hml]; rfl) (argsL := [(.int p0)]) (rest := []) (lenOf pds_0 rfl) rfl (by show 2 * 0 + _ ≤ _; exact Nat.le_of_eq rfl) (hb hby at_1) (fun _ _ => ⟨rfl, e0, (by decide : 0 + 0 ≤ _), (by decide : 0 + 0 ≤ _)⟩)
   dsimp only [Pt.U, Pt.locs, Pt.cells, Pt.slots] at X97 l97 y97 z97 st97 hQ97
   subst l97 y97 z97
   obtain ⟨rfl, N97q, e97⟩ := hQ97
   have N97 := Fr.app N0 N97q
   let Lb98 : Array Slot := #[.val (.int p0), .val (.int p1), .val (.int p2), .val (.ref (w 2)), .unset, .unset, .unset, .unset, .unset]
   obtain ⟨cq99, kq99, q99a, q99b, q99c⟩ := isOf hZ e97 ((wd5 hW).ext O0.2)
   obtain ⟨_, _, ⟨T99, L99, kk99, nn99⟩, -, X99, ⟨Lc99, hQ99, l99, y99, z99⟩, st99⟩ := X97.virtualBack hx (y := ym3) (z := ym3) hown (mvT hZ (wk8 hw)) (mvT hZ (wk9 hw)) (notFace_of_selects (args := #[]) (mvT hZ (wk11 hw))) (mvT hZ (wk11 hw)) (mvT hZ (wk10 hw)) (by decide) (backOf (W := 0) (rm2_21 l Z a0 hw w hW []  h0 n0 O0 ) hZ (wk12 hw) (wk6 hw) (by decide) (by decide)) q99a q99c (g := (mkF m 6 Lb98 [(.ref (w 2))])) rfl (by rw [hml]; rfl) (Steps.refl _) (argsL := []) (rest := []) (lenOf pds_2 rfl) rfl (by show 2 * 0 + _ ≤ _; exact Nat.le_of_eq rfl) (hb hby at_6) (fun _ _ => ⟨rfl, e97, (by decide : 0 + 0 ≤ _), (by decide : 0 + 0 ≤ _)⟩)
   dsimp only [Pt.U, Pt.locs, Pt.cells, Pt.slots] at X99 l99 y99 z99 st99 hQ99
   subst l99 y99 z99
   obtain ⟨rfl, N99q, e99⟩ := hQ99
   have N99 := Fr.app N97 N99q
   let Lb100 : Array Slot := #[.val (.int p0), .val (.int p1), .val (.int p2), .val (.ref (w 2)), .val (.ref (w 3)), .unset, .unset, .unset, .unset]
   have pre101 : ∀ t, Steps p.tables e below (T99.setTop (mkF m 14 Lb100 [(.int p2), (.int p1), (.ref (w 2))])) t → Steps p.tables e below (s₁.setTop (entryFrame m #[(.int p0), (.int p1), (.int p2)] maxLocals)) t := fun t k => pre1 t (by
    show Steps p.tables e below (s₁.setTop (mkF m 1 La [(.int p0)])) _
    refine st97 _ ?_
    refine XS.astoreN X97.here hx rfl (hb hby at_4) rfl rfl (l' := Lb98) rfl ?_
    refine sA X97 hx hby at_5 rfl rfl ?_
    refine st99.trans ?_
    refine XS.astore X99.here hx rfl (hb hby at_9) rfl rfl (l' := Lb100) rfl ?_
    refine sA X99 hx hby at_11 rfl rfl ?_
    refine sI X99 hx hby at_12 rfl ?_
    refine sI X99 hx hby at_13 rfl ?_
    exact k)
   by_cases hc102 : p1 < p2
   ·
    obtain ⟨cq103, kq103, q103a, q103b, q103c⟩ := isOf hZ e99 ((wd5 hW).ext O0.2)
    obtain ⟨_, _, ⟨T103, L103, kk103, nn103⟩, -, X103, ⟨Lc103, hQ103, l103, y103, z103⟩, st103⟩ := X99.virtualBack hx (y := ym5) (z := ym5) hown (mvT hZ (wk22 hw)) (mvT hZ (wk23 hw)) (notFace_of_selects (args := #[]) (mvT hZ (wk25 hw))) (mvT hZ (wk25 hw)) (mvT hZ (wk24 hw)) (by decide) (backOf (W := 0) (rm4_22 l Z a0 hw w hW [] p1 p2 h0 n0 O0 hc102) hZ (wk26 hw) (wk6 hw) (by decide) (by decide)) q103a q103c (g := (mkF m 14 Lb100 [(.int p2), (.int p1), (.ref (w 2))])) rfl (by rw [hml]; rfl) (Steps.refl _) (argsL := [(.int p1), (.int p2)]) (rest := []) (lenOf pds_4 rfl) rfl (by show 2 * 0 + _ ≤ _; exact Nat.le_of_eq rfl) (hb hby at_14) (fun _ _ => ⟨rfl, e99, (by decide : 0 + 0 ≤ _), (by decide : 0 + 0 ≤ _)⟩)
    dsimp only [Pt.U, Pt.locs, Pt.cells, Pt.slots] at X103 l103 y103 z103 st103 hQ103
    subst l103 y103 z103
    obtain ⟨rfl, N103q, e103⟩ := hQ103
    have N103 := Fr.app N99 N103q
    have pre104 : ∀ t, Steps p.tables e below (T103.setTop (mkF m 21 Lb100 [(.int p1), (.int p2), (.ref (w 3)), (.int (1 : Int32))])) t → Steps p.tables e below (s₁.setTop (entryFrame m #[(.int p0), (.int p1), (.int p2)] maxLocals)) t := fun t k => pre101 t (by
     show Steps p.tables e below (T99.setTop (mkF m 14 Lb100 [(.int p2), (.int p1), (.ref (w 2))])) _
     refine st103.trans ?_
     refine sa X103 hx hby at_17 rfl rfl ?_
     refine sI X103 hx hby at_19 rfl ?_
     refine sI X103 hx hby at_20 rfl ?_
     exact k)
    by_cases hc105 : p2 < p1
    ·
     exfalso
     have z3 := Int32.lt_iff_toInt_lt.mp hc102
     have z4 := Int32.lt_iff_toInt_lt.mp hc105
     have z1 := rng32 p1
     have z2 := rng32 p2
     omega
    ·
     by_cases hc106 : p2 = p1
     ·
      exfalso
      have z3 := Int32.lt_iff_toInt_lt.mp hc102
      have z4 := Int32.le_iff_toInt_le.mp (Int32.not_lt.mp hc105)
      have z5 := congrArg Int32.toInt hc106
      have z1 := rng32 p1
      have z2 := rng32 p2
      omega
     ·
      obtain ⟨cq107, kq107, q107a, q107b, q107c⟩ := isOf hZ e103 ((wd7 hW).ext O0.2)
      obtain ⟨_, _, ⟨T107, L107, kk107, nn107⟩, -, X107, ⟨Lc107, hQ107, l107, y107, z107⟩, st107⟩ := X103.virtualBack hx (y := ym5) (z := ym5) hown (mvT hZ (wk22 hw)) (mvT hZ (wk23 hw)) (notFace_of_selects (args := #[]) (mvT hZ (wk25 hw))) (mvT hZ (wk25 hw)) (mvT hZ (wk24 hw)) (by decide) (backOf (W := 1) (rm4_24 l Z a0 hw w hW [] p2 p1 h0 n0 O0 hc105 hc106) hZ (wk26 hw) (wk6 hw) (by decide) (by decide)) q107a q107c (g := (mkF m 21 Lb100 [(.int p1), (.int p2), (.ref (w 3)), (.int (1 : Int32))])) rfl (by rw [hml]; rfl) (Steps.refl _) (argsL := [(.int p2), (.int p1)]) (rest := [(.int (1 : Int32))]) (lenOf pds_4 rfl) rfl (by show 2 * 0 + _ ≤ _; exact Nat.le_of_eq rfl) (hb hby at_21) (fun _ _ => ⟨rfl, e103, (by decide : 0 + 0 ≤ _), (by decide : 0 + 0 ≤ _)⟩)
      dsimp only [Pt.U, Pt.locs, Pt.cells, Pt.slots] at X107 l107 y107 z107 st107 hQ107
      subst l107 y107 z107
      obtain ⟨rfl, N107q, e107⟩ := hQ107
      have N107 := Fr.app N103 N107q
      let Lb108 : Array Slot := #[.val (.int p0), .val (.int p1), .val (.int p2), .val (.ref (w 2)), .val (.ref (w 3)), .val (.int (1 : Int32)), .unset, .unset, .unset]
      obtain ⟨cq109, kq109, q109a, q109b, q109c⟩ := isOf hZ e107 ((wd5 hW).ext O0.2)
      obtain ⟨_, _, ⟨T109, L109, kk109, nn109⟩, -, X109, ⟨Lc109, hQ109, l109, y109, z109⟩, st109⟩ := X107.virtualBack hx (y := ym5) (z := ym5) hown (mvT hZ (wk22 hw)) (mvT hZ (wk23 hw)) (notFace_of_selects (args := #[]) (mvT hZ (wk25 hw))) (mvT hZ (wk25 hw)) (mvT hZ (wk24 hw)) (by decide) (backOf (W := 0) (rm4_25 l Z a0 hw w hW [] p2 p1 h0 n0 O0 hc105 hc106) hZ (wk26 hw) (wk6 hw) (by decide) (by decide)) q109a q109c (g := (mkF m 37 Lb108 [(.int p1), (.int p2), (.ref (w 2))])) rfl (by rw [hml]; rfl) (Steps.refl _) (argsL := [(.int p2), (.int p1)]) (rest := []) (lenOf pds_4 rfl) rfl (by show 2 * 0 + _ ≤ _; exact Nat.le_of_eq rfl) (hb hby at_37) (fun _ _ => ⟨rfl, e107, (by decide : 0 + 0 ≤ _), (by decide : 0 + 0 ≤ _)⟩)
      dsimp only [Pt.U, Pt.locs, Pt.cells, Pt.slots] at X109 l109 y109 z109 st109 hQ109
      subst l109 y109 z109
      obtain ⟨rfl, N109q, e109⟩ := hQ109
      have N109 := Fr.app N107 N109q
      obtain ⟨cq110, kq110, q110a, q110b, q110c⟩ := isOf hZ e109 ((wd7 hW).ext O0.2)
      obtain ⟨_, _, ⟨T110, L110, kk110, nn110⟩, -, X110, ⟨Lc110, hQ110, l110, y110, z110⟩, st110⟩ := X109.virtualBack hx (y := ym5) (z := ym5) hown (mvT hZ (wk22 hw)) (mvT hZ (wk23 hw)) (notFace_of_selects (args := #[]) (mvT hZ (wk25 hw))) (mvT hZ (wk25 hw)) (mvT hZ (wk24 hw)) (by decide) (backOf (W := 1) (rm4_26 l Z a0 hw w hW [] p1 p2 h0 n0 O0 hc102) hZ (wk26 hw) (wk6 hw) (by decide) (by decide)) q110a q110c (g := (mkF m 44 Lb108 [(.int p2), (.int p1), (.ref (w 3)), (.int (0 : Int32))])) rfl (by rw [hml]; rfl) (Steps.refl _) (argsL := [(.int p1), (.int p2)]) (rest := [(.int (0 : Int32))]) (lenOf pds_4 rfl) rfl (by show 2 * 0 + _ ≤ _; exact Nat.le_of_eq rfl) (hb hby at_44) (fun _ _ => ⟨rfl, e109, (by decide : 0 + 0 ≤ _), (by decide : 0 + 0 ≤ _)⟩)
      dsimp only [Pt.U, Pt.locs, Pt.cells, Pt.slots] at X110 l110 y110 z110 st110 hQ110
      subst l110 y110 z110
      obtain ⟨rfl, N110q, e110⟩ := hQ110
      have N110 := Fr.app N109 N110q
      let Lb111 : Array Slot := #[.val (.int p0), .val (.int p1), .val (.int p2), .val (.ref (w 2)), .val (.ref (w 3)), .val (.int (1 : Int32)), .val (.int (1 : Int32)), .unset, .unset]
      obtain ⟨cq112, kq112, q112a, q112b, q112c⟩ := isOf hZ e110 ((wd5 hW).ext O0.2)
      obtain ⟨_, _, ⟨T112, L112, kk112, nn112⟩, -, X112, ⟨Lc112, hQ112, l112, y112, z112⟩, st112⟩ := X110.virtualBack hx (y := ym5) (z := ym5) hown (mvT hZ (wk22 hw)) (mvT hZ (wk23 hw)) (notFace_of_selects (args := #[]) (mvT hZ (wk25 hw))) (mvT hZ (wk25 hw)) (mvT hZ (wk24 hw)) (by decide) (backOf (W := 0) (rm4_27 l Z a0 hw w hW [] p1 h0 n0 O0 ) hZ (wk26 hw) (wk6 hw) (by decide) (by decide)) q112a q112c (g := (mkF m 60 Lb111 [(.int p1), (.int p1), (.ref (w 2))])) rfl (by rw [hml]; rfl) (Steps.refl _) (argsL := [(.int p1), (.int p1)]) (rest := []) (lenOf pds_4 rfl) rfl (by show 2 * 0 + _ ≤ _; exact Nat.le_of_eq rfl) (hb hby at_60) (fun _ _ => ⟨rfl, e110, (by decide : 0 + 0 ≤ _), (by decide : 0 + 0 ≤ _)⟩)
      dsimp only [Pt.U, Pt.locs, Pt.cells, Pt.slots] at X112 l112 y112 z112 st112 hQ112
      subst l112 y112 z112
      obtain ⟨rfl, N112q, e112⟩ := hQ112
      have N112 := Fr.app N110 N112q
      obtain ⟨cq113, kq113, q113a, q113b, q113c⟩ := isOf hZ e112 ((wd7 hW).ext O0.2)
      obtain ⟨_, _, ⟨T113, L113, kk113, nn113⟩, -, X113, ⟨Lc113, hQ113, l113, y113, z113⟩, st113⟩ := X112.virtualBack hx (y := ym5) (z := ym5) hown (mvT hZ (wk22 hw)) (mvT hZ (wk23 hw)) (notFace_of_selects (args := #[]) (mvT hZ (wk25 hw))) (mvT hZ (wk25 hw)) (mvT hZ (wk24 hw)) (by decide) (backOf (W := 1) (rm4_28 l Z a0 hw w hW [] p1 h0 n0 O0 ) hZ (wk26 hw) (wk6 hw) (by decide) (by decide)) q113a q113c (g := (mkF m 67 Lb111 [(.int p1), (.int p1), (.ref (w 3)), (.int (0 : Int32))])) rfl (by rw [hml]; rfl) (Steps.refl _) (argsL := [(.int p1), (.int p1)]) (rest := [(.int (0 : Int32))]) (lenOf pds_4 rfl) rfl (by show 2 * 0 + _ ≤ _; exact Nat.le_of_eq rfl) (hb hby at_67) (fun _ _ => ⟨rfl, e112, (by decide : 0 + 0 ≤ _), (by decide : 0 + 0 ≤ _)⟩)
      dsimp only [Pt.U, Pt.locs, Pt.cells, Pt.slots] at X113 l113 y113 z113 st113 hQ113
      subst l113 y113 z113
      obtain ⟨rfl, N113q, e113⟩ := hQ113
      have N113 := Fr.app N112 N113q
      let Lb114 : Array Slot := #[.val (.int p0), .val (.int p1), .val (.int p2), .val (.ref (w 2)), .val (.ref (w 3)), .val (.int (1 : Int32)), .val (.int (1 : Int32)), .val (.int (1 : Int32)), .unset]
      obtain ⟨cq115, kq115, q115a, q115b, q115c⟩ := isOf hZ e113 ((wd7 hW).ext O0.2)
      obtain ⟨_, _, ⟨T115, L115, kk115, nn115⟩, -, X115, ⟨Lc115, hQ115, l115, y115, z115⟩, st115⟩ := X113.virtualBack hx (y := ym3) (z := ym3) hown (mvT hZ (wk8 hw)) (mvT hZ (wk9 hw)) (notFace_of_selects (args := #[]) (mvT hZ (wk11 hw))) (mvT hZ (wk11 hw)) (mvT hZ (wk10 hw)) (by decide) (backOf (W := 0) (rm2_29 l Z a0 hw w hW []  h0 n0 O0 ) hZ (wk12 hw) (wk6 hw) (by decide) (by decide)) q115a q115c (g := (mkF m 82 Lb114 [(.ref (w 3))])) rfl (by rw [hml]; rfl) (Steps.refl _) (argsL := []) (rest := []) (lenOf pds_2 rfl) rfl (by show 2 * 0 + _ ≤ _; exact Nat.le_of_eq rfl) (hb hby at_82) (fun _ _ => ⟨rfl, e113, (by decide : 0 + 0 ≤ _), (by decide : 0 + 0 ≤ _)⟩)
      dsimp only [Pt.U, Pt.locs, Pt.cells, Pt.slots] at X115 l115 y115 z115 st115 hQ115
      subst l115 y115 z115
      obtain ⟨rfl, N115q, e115⟩ := hQ115
      have N115 := Fr.app N113 N115q
      let Lb116 : Array Slot := #[.val (.int p0), .val (.int p1), .val (.int p2), .val (.ref (w 2)), .val (.ref (w 3)), .val (.int (1 : Int32)), .val (.int (1 : Int32)), .val (.int (1 : Int32)), .val (.int (1 : Int32))]
      obtain ⟨fs, hr, hrun, hended, hWm, hsame⟩ := X115.leave (v := some (.int (1 : Int32))) (fun h => by rw [Bd.returns] at h; cases h)
      refine ⟨_, _, pre104 _ ?_, hrun, hended, _, _, rfl, ?_, ⟨_, rfl⟩, hWm, hsame.mono (by decide) (by decide)⟩
      · show Steps p.tables e below (T103.setTop (mkF m 21 Lb100 [(.int p1), (.int p2), (.ref (w 3)), (.int (1 : Int32))])) _
        refine st107.trans ?_
        refine sn X107 hx hby at_24 (by decide) ?_
        refine sc X107 hx hby at_27 ?_
        refine sg (pc := 28) (pc' := 32) X107 hx hby at_28 (by decide) (by decide) ?_
        refine XS.istore X107.here hx rfl (hb hby at_32) rfl (l' := Lb108) rfl ?_
        refine sA X107 hx hby at_34 rfl rfl ?_
        show Steps p.tables e below (T107.setTop (mkF m 35 Lb108 [(.ref (w 2))])) _
        refine sI X107 hx hby at_35 rfl ?_
        refine sI X107 hx hby at_36 rfl ?_
        refine st109.trans ?_
        refine sa X109 hx hby at_40 rfl rfl ?_
        refine sI X109 hx hby at_42 rfl ?_
        refine sI X109 hx hby at_43 rfl ?_
        refine st110.trans ?_
        refine sn X110 hx hby at_47 (by decide) ?_
        refine sc X110 hx hby at_50 ?_
        refine sg (pc := 51) (pc' := 55) X110 hx hby at_51 (by decide) (by decide) ?_
        refine XS.istore X110.here hx rfl (hb hby at_55) rfl (l' := Lb111) rfl ?_
        refine sA X110 hx hby at_57 rfl rfl ?_
        show Steps p.tables e below (T110.setTop (mkF m 58 Lb111 [(.ref (w 2))])) _
        refine sI X110 hx hby at_58 rfl ?_
        refine sI X110 hx hby at_59 rfl ?_
        refine st112.trans ?_
        refine sa X112 hx hby at_63 rfl rfl ?_
        refine sI X112 hx hby at_65 rfl ?_
        refine sI X112 hx hby at_66 rfl ?_
        refine st113.trans ?_
        refine sn X113 hx hby at_70 (by decide) ?_
        refine sc X113 hx hby at_73 ?_
        refine sg (pc := 74) (pc' := 78) X113 hx hby at_74 (by decide) (by decide) ?_
        refine XS.istore X113.here hx rfl (hb hby at_78) rfl (l' := Lb114) rfl ?_
        refine sa X113 hx hby at_80 rfl rfl ?_
        show Steps p.tables e below (T113.setTop (mkF m 82 Lb114 [(.ref (w 3))])) _
        refine st115.trans ?_
        refine sA X115 hx hby at_85 rfl rfl ?_
        refine Jvm.RoadKit.acmp (g := (mkF m 86 Lb114 [(.ref (w 2)), (.ref (w 2))])) X115 hx rfl rfl rfl (pc0 := 86) (pc' := 89) (same := true) rfl (hb hby at_86) rfl (decide_eq_true rfl) (by decide) (by decide) ?_
        refine sc X115 hx hby at_89 ?_
        refine sg (pc := 90) (pc' := 94) X115 hx hby at_90 (by decide) (by decide) ?_
        refine XS.istore X115.here hx rfl (hb hby at_94) rfl (l' := Lb116) rfl ?_
        show Steps p.tables e below (T115.setTop (mkF m 96 Lb116 [])) _
        refine si X115 hx hby at_96 rfl ?_
        refine sN X115 hx hby at_98 (by decide) ?_
        refine si X115 hx hby at_101 rfl ?_
        refine sN X115 hx hby at_103 (by decide) ?_
        refine si X115 hx hby at_106 rfl ?_
        show Steps p.tables e below (T115.setTop (mkF m 108 Lb116 [(.int (1 : Int32))])) _
        refine sN X115 hx hby at_108 (by decide) ?_
        refine si X115 hx hby at_111 rfl ?_
        refine sN X115 hx hby at_113 (by decide) ?_
        refine sc X115 hx hby at_116 ?_
        refine sg (pc := 117) (pc' := 121) X115 hx hby at_117 (by decide) (by decide) ?_
        show Steps p.tables e below (T115.setTop (mkF m 121 Lb116 [(.int (1 : Int32))])) _
        exact retN X115 hx (t := .boolean) Bd.returns (by simp) (hb hby at_121) hr
      · show Q0 n0 _ T115.heap _
        rw [e115]
        exact ⟨rfl, N115⟩
   ·
    by_cases hc117 : p1 = p2
    ·
     obtain ⟨cq118, kq118, q118a, q118b, q118c⟩ := isOf hZ e99 ((wd5 hW).ext O0.2)
     obtain ⟨_, _, ⟨T118, L118, kk118, nn118⟩, -, X118, ⟨Lc118, hQ118, l118, y118, z118⟩, st118⟩ := X99.virtualBack hx (y := ym5) (z := ym5) hown (mvT hZ (wk22 hw)) (mvT hZ (wk23 hw)) (notFace_of_selects (args := #[]) (mvT hZ (wk25 hw))) (mvT hZ (wk25 hw)) (mvT hZ (wk24 hw)) (by decide) (backOf (W := 0) (rm4_30 l Z a0 hw w hW [] p1 p2 h0 n0 O0 hc102 hc117) hZ (wk26 hw) (wk6 hw) (by decide) (by decide)) q118a q118c (g := (mkF m 14 Lb100 [(.int p2), (.int p1), (.ref (w 2))])) rfl (by rw [hml]; rfl) (Steps.refl _) (argsL := [(.int p1), (.int p2)]) (rest := []) (lenOf pds_4 rfl) rfl (by show 2 * 0 + _ ≤ _; exact Nat.le_of_eq rfl) (hb hby at_14) (fun _ _ => ⟨rfl, e99, (by decide : 0 + 0 ≤ _), (by decide : 0 + 0 ≤ _)⟩)
     dsimp only [Pt.U, Pt.locs, Pt.cells, Pt.slots] at X118 l118 y118 z118 st118 hQ118
     subst l118 y118 z118
     obtain ⟨rfl, N118q, e118⟩ := hQ118
     have N118 := Fr.app N99 N118q
     have pre119 : ∀ t, Steps p.tables e below (T118.setTop (mkF m 21 Lb100 [(.int p1), (.int p2), (.ref (w 3)), (.int (0 : Int32))])) t → Steps p.tables e below (s₁.setTop (entryFrame m #[(.int p0), (.int p1), (.int p2)] maxLocals)) t := fun t k => pre101 t (by
      show Steps p.tables e below (T99.setTop (mkF m 14 Lb100 [(.int p2), (.int p1), (.ref (w 2))])) _
      refine st118.trans ?_
      refine sa X118 hx hby at_17 rfl rfl ?_
      refine sI X118 hx hby at_19 rfl ?_
      refine sI X118 hx hby at_20 rfl ?_
      exact k)
     by_cases hc120 : p2 < p1
     ·
      exfalso
      have z3 := Int32.le_iff_toInt_le.mp (Int32.not_lt.mp hc102)
      have z4 := congrArg Int32.toInt hc117
      have z5 := Int32.lt_iff_toInt_lt.mp hc120
      have z1 := rng32 p1
      have z2 := rng32 p2
      omega
     ·
      obtain ⟨cq121, kq121, q121a, q121b, q121c⟩ := isOf hZ e118 ((wd7 hW).ext O0.2)
      obtain ⟨_, _, ⟨T121, L121, kk121, nn121⟩, -, X121, ⟨Lc121, hQ121, l121, y121, z121⟩, st121⟩ := X118.virtualBack hx (y := ym5) (z := ym5) hown (mvT hZ (wk22 hw)) (mvT hZ (wk23 hw)) (notFace_of_selects (args := #[]) (mvT hZ (wk25 hw))) (mvT hZ (wk25 hw)) (mvT hZ (wk24 hw)) (by decide) (backOf (W := 1) (rm4_31 l Z a0 hw w hW [] p2 p1 h0 n0 O0 hc120 (Eq.symm hc117)) hZ (wk26 hw) (wk6 hw) (by decide) (by decide)) q121a q121c (g := (mkF m 21 Lb100 [(.int p1), (.int p2), (.ref (w 3)), (.int (0 : Int32))])) rfl (by rw [hml]; rfl) (Steps.refl _) (argsL := [(.int p2), (.int p1)]) (rest := [(.int (0 : Int32))]) (lenOf pds_4 rfl) rfl (by show 2 * 0 + _ ≤ _; exact Nat.le_of_eq rfl) (hb hby at_21) (fun _ _ => ⟨rfl, e118, (by decide : 0 + 0 ≤ _), (by decide : 0 + 0 ≤ _)⟩)
      dsimp only [Pt.U, Pt.locs, Pt.cells, Pt.slots] at X121 l121 y121 z121 st121 hQ121
      subst l121 y121 z121
      obtain ⟨rfl, N121q, e121⟩ := hQ121
      have N121 := Fr.app N118 N121q
      let Lb122 : Array Slot := #[.val (.int p0), .val (.int p1), .val (.int p2), .val (.ref (w 2)), .val (.ref (w 3)), .val (.int (1 : Int32)), .unset, .unset, .unset]
      obtain ⟨cq123, kq123, q123a, q123b, q123c⟩ := isOf hZ e121 ((wd5 hW).ext O0.2)
      obtain ⟨_, _, ⟨T123, L123, kk123, nn123⟩, -, X123, ⟨Lc123, hQ123, l123, y123, z123⟩, st123⟩ := X121.virtualBack hx (y := ym5) (z := ym5) hown (mvT hZ (wk22 hw)) (mvT hZ (wk23 hw)) (notFace_of_selects (args := #[]) (mvT hZ (wk25 hw))) (mvT hZ (wk25 hw)) (mvT hZ (wk24 hw)) (by decide) (backOf (W := 0) (rm4_30 l Z a0 hw w hW [] p2 p1 h0 n0 O0 hc120 (Eq.symm hc117)) hZ (wk26 hw) (wk6 hw) (by decide) (by decide)) q123a q123c (g := (mkF m 37 Lb122 [(.int p1), (.int p2), (.ref (w 2))])) rfl (by rw [hml]; rfl) (Steps.refl _) (argsL := [(.int p2), (.int p1)]) (rest := []) (lenOf pds_4 rfl) rfl (by show 2 * 0 + _ ≤ _; exact Nat.le_of_eq rfl) (hb hby at_37) (fun _ _ => ⟨rfl, e121, (by decide : 0 + 0 ≤ _), (by decide : 0 + 0 ≤ _)⟩)
      dsimp only [Pt.U, Pt.locs, Pt.cells, Pt.slots] at X123 l123 y123 z123 st123 hQ123
      subst l123 y123 z123
      obtain ⟨rfl, N123q, e123⟩ := hQ123
      have N123 := Fr.app N121 N123q
      obtain ⟨cq124, kq124, q124a, q124b, q124c⟩ := isOf hZ e123 ((wd7 hW).ext O0.2)
      obtain ⟨_, _, ⟨T124, L124, kk124, nn124⟩, -, X124, ⟨Lc124, hQ124, l124, y124, z124⟩, st124⟩ := X123.virtualBack hx (y := ym5) (z := ym5) hown (mvT hZ (wk22 hw)) (mvT hZ (wk23 hw)) (notFace_of_selects (args := #[]) (mvT hZ (wk25 hw))) (mvT hZ (wk25 hw)) (mvT hZ (wk24 hw)) (by decide) (backOf (W := 1) (rm4_31 l Z a0 hw w hW [] p1 p2 h0 n0 O0 hc102 hc117) hZ (wk26 hw) (wk6 hw) (by decide) (by decide)) q124a q124c (g := (mkF m 44 Lb122 [(.int p2), (.int p1), (.ref (w 3)), (.int (0 : Int32))])) rfl (by rw [hml]; rfl) (Steps.refl _) (argsL := [(.int p1), (.int p2)]) (rest := [(.int (0 : Int32))]) (lenOf pds_4 rfl) rfl (by show 2 * 0 + _ ≤ _; exact Nat.le_of_eq rfl) (hb hby at_44) (fun _ _ => ⟨rfl, e123, (by decide : 0 + 0 ≤ _), (by decide : 0 + 0 ≤ _)⟩)
      dsimp only [Pt.U, Pt.locs, Pt.cells, Pt.slots] at X124 l124 y124 z124 st124 hQ124
      subst l124 y124 z124
      obtain ⟨rfl, N124q, e124⟩ := hQ124
      have N124 := Fr.app N123 N124q
      let Lb125 : Array Slot := #[.val (.int p0), .val (.int p1), .val (.int p2), .val (.ref (w 2)), .val (.ref (w 3)), .val (.int (1 : Int32)), .val (.int (1 : Int32)), .unset, .unset]
      obtain ⟨cq126, kq126, q126a, q126b, q126c⟩ := isOf hZ e124 ((wd5 hW).ext O0.2)
      obtain ⟨_, _, ⟨T126, L126, kk126, nn126⟩, -, X126, ⟨Lc126, hQ126, l126, y126, z126⟩, st126⟩ := X124.virtualBack hx (y := ym5) (z := ym5) hown (mvT hZ (wk22 hw)) (mvT hZ (wk23 hw)) (notFace_of_selects (args := #[]) (mvT hZ (wk25 hw))) (mvT hZ (wk25 hw)) (mvT hZ (wk24 hw)) (by decide) (backOf (W := 0) (rm4_27 l Z a0 hw w hW [] p1 h0 n0 O0 ) hZ (wk26 hw) (wk6 hw) (by decide) (by decide)) q126a q126c (g := (mkF m 60 Lb125 [(.int p1), (.int p1), (.ref (w 2))])) rfl (by rw [hml]; rfl) (Steps.refl _) (argsL := [(.int p1), (.int p1)]) (rest := []) (lenOf pds_4 rfl) rfl (by show 2 * 0 + _ ≤ _; exact Nat.le_of_eq rfl) (hb hby at_60) (fun _ _ => ⟨rfl, e124, (by decide : 0 + 0 ≤ _), (by decide : 0 + 0 ≤ _)⟩)
      dsimp only [Pt.U, Pt.locs, Pt.cells, Pt.slots] at X126 l126 y126 z126 st126 hQ126
      subst l126 y126 z126
      obtain ⟨rfl, N126q, e126⟩ := hQ126
      have N126 := Fr.app N124 N126q
      obtain ⟨cq127, kq127, q127a, q127b, q127c⟩ := isOf hZ e126 ((wd7 hW).ext O0.2)
      obtain ⟨_, _, ⟨T127, L127, kk127, nn127⟩, -, X127, ⟨Lc127, hQ127, l127, y127, z127⟩, st127⟩ := X126.virtualBack hx (y := ym5) (z := ym5) hown (mvT hZ (wk22 hw)) (mvT hZ (wk23 hw)) (notFace_of_selects (args := #[]) (mvT hZ (wk25 hw))) (mvT hZ (wk25 hw)) (mvT hZ (wk24 hw)) (by decide) (backOf (W := 1) (rm4_28 l Z a0 hw w hW [] p1 h0 n0 O0 ) hZ (wk26 hw) (wk6 hw) (by decide) (by decide)) q127a q127c (g := (mkF m 67 Lb125 [(.int p1), (.int p1), (.ref (w 3)), (.int (0 : Int32))])) rfl (by rw [hml]; rfl) (Steps.refl _) (argsL := [(.int p1), (.int p1)]) (rest := [(.int (0 : Int32))]) (lenOf pds_4 rfl) rfl (by show 2 * 0 + _ ≤ _; exact Nat.le_of_eq rfl) (hb hby at_67) (fun _ _ => ⟨rfl, e126, (by decide : 0 + 0 ≤ _), (by decide : 0 + 0 ≤ _)⟩)
      dsimp only [Pt.U, Pt.locs, Pt.cells, Pt.slots] at X127 l127 y127 z127 st127 hQ127
      subst l127 y127 z127
      obtain ⟨rfl, N127q, e127⟩ := hQ127
      have N127 := Fr.app N126 N127q
      let Lb128 : Array Slot := #[.val (.int p0), .val (.int p1), .val (.int p2), .val (.ref (w 2)), .val (.ref (w 3)), .val (.int (1 : Int32)), .val (.int (1 : Int32)), .val (.int (1 : Int32)), .unset]
      obtain ⟨cq129, kq129, q129a, q129b, q129c⟩ := isOf hZ e127 ((wd7 hW).ext O0.2)
      obtain ⟨_, _, ⟨T129, L129, kk129, nn129⟩, -, X129, ⟨Lc129, hQ129, l129, y129, z129⟩, st129⟩ := X127.virtualBack hx (y := ym3) (z := ym3) hown (mvT hZ (wk8 hw)) (mvT hZ (wk9 hw)) (notFace_of_selects (args := #[]) (mvT hZ (wk11 hw))) (mvT hZ (wk11 hw)) (mvT hZ (wk10 hw)) (by decide) (backOf (W := 0) (rm2_29 l Z a0 hw w hW []  h0 n0 O0 ) hZ (wk12 hw) (wk6 hw) (by decide) (by decide)) q129a q129c (g := (mkF m 82 Lb128 [(.ref (w 3))])) rfl (by rw [hml]; rfl) (Steps.refl _) (argsL := []) (rest := []) (lenOf pds_2 rfl) rfl (by show 2 * 0 + _ ≤ _; exact Nat.le_of_eq rfl) (hb hby at_82) (fun _ _ => ⟨rfl, e127, (by decide : 0 + 0 ≤ _), (by decide : 0 + 0 ≤ _)⟩)
      dsimp only [Pt.U, Pt.locs, Pt.cells, Pt.slots] at X129 l129 y129 z129 st129 hQ129
      subst l129 y129 z129
      obtain ⟨rfl, N129q, e129⟩ := hQ129
      have N129 := Fr.app N127 N129q
      let Lb130 : Array Slot := #[.val (.int p0), .val (.int p1), .val (.int p2), .val (.ref (w 2)), .val (.ref (w 3)), .val (.int (1 : Int32)), .val (.int (1 : Int32)), .val (.int (1 : Int32)), .val (.int (1 : Int32))]
      obtain ⟨fs, hr, hrun, hended, hWm, hsame⟩ := X129.leave (v := some (.int (1 : Int32))) (fun h => by rw [Bd.returns] at h; cases h)
      refine ⟨_, _, pre119 _ ?_, hrun, hended, _, _, rfl, ?_, ⟨_, rfl⟩, hWm, hsame.mono (by decide) (by decide)⟩
      · show Steps p.tables e below (T118.setTop (mkF m 21 Lb100 [(.int p1), (.int p2), (.ref (w 3)), (.int (0 : Int32))])) _
        refine st121.trans ?_
        refine sn X121 hx hby at_24 (by decide) ?_
        refine sc X121 hx hby at_27 ?_
        refine sg (pc := 28) (pc' := 32) X121 hx hby at_28 (by decide) (by decide) ?_
        refine XS.istore X121.here hx rfl (hb hby at_32) rfl (l' := Lb122) rfl ?_
        refine sA X121 hx hby at_34 rfl rfl ?_
        show Steps p.tables e below (T121.setTop (mkF m 35 Lb122 [(.ref (w 2))])) _
        refine sI X121 hx hby at_35 rfl ?_
        refine sI X121 hx hby at_36 rfl ?_
        refine st123.trans ?_
        refine sa X123 hx hby at_40 rfl rfl ?_
        refine sI X123 hx hby at_42 rfl ?_
        refine sI X123 hx hby at_43 rfl ?_
        refine st124.trans ?_
        refine sn X124 hx hby at_47 (by decide) ?_
        refine sc X124 hx hby at_50 ?_
        refine sg (pc := 51) (pc' := 55) X124 hx hby at_51 (by decide) (by decide) ?_
        refine XS.istore X124.here hx rfl (hb hby at_55) rfl (l' := Lb125) rfl ?_
        refine sA X124 hx hby at_57 rfl rfl ?_
        show Steps p.tables e below (T124.setTop (mkF m 58 Lb125 [(.ref (w 2))])) _
        refine sI X124 hx hby at_58 rfl ?_
        refine sI X124 hx hby at_59 rfl ?_
        refine st126.trans ?_
        refine sa X126 hx hby at_63 rfl rfl ?_
        refine sI X126 hx hby at_65 rfl ?_
        refine sI X126 hx hby at_66 rfl ?_
        refine st127.trans ?_
        refine sn X127 hx hby at_70 (by decide) ?_
        refine sc X127 hx hby at_73 ?_
        refine sg (pc := 74) (pc' := 78) X127 hx hby at_74 (by decide) (by decide) ?_
        refine XS.istore X127.here hx rfl (hb hby at_78) rfl (l' := Lb128) rfl ?_
        refine sa X127 hx hby at_80 rfl rfl ?_
        show Steps p.tables e below (T127.setTop (mkF m 82 Lb128 [(.ref (w 3))])) _
        refine st129.trans ?_
        refine sA X129 hx hby at_85 rfl rfl ?_
        refine Jvm.RoadKit.acmp (g := (mkF m 86 Lb128 [(.ref (w 2)), (.ref (w 2))])) X129 hx rfl rfl rfl (pc0 := 86) (pc' := 89) (same := true) rfl (hb hby at_86) rfl (decide_eq_true rfl) (by decide) (by decide) ?_
        refine sc X129 hx hby at_89 ?_
        refine sg (pc := 90) (pc' := 94) X129 hx hby at_90 (by decide) (by decide) ?_
        refine XS.istore X129.here hx rfl (hb hby at_94) rfl (l' := Lb130) rfl ?_
        show Steps p.tables e below (T129.setTop (mkF m 96 Lb130 [])) _
        refine si X129 hx hby at_96 rfl ?_
        refine sN X129 hx hby at_98 (by decide) ?_
        refine si X129 hx hby at_101 rfl ?_
        refine sN X129 hx hby at_103 (by decide) ?_
        refine si X129 hx hby at_106 rfl ?_
        show Steps p.tables e below (T129.setTop (mkF m 108 Lb130 [(.int (1 : Int32))])) _
        refine sN X129 hx hby at_108 (by decide) ?_
        refine si X129 hx hby at_111 rfl ?_
        refine sN X129 hx hby at_113 (by decide) ?_
        refine sc X129 hx hby at_116 ?_
        refine sg (pc := 117) (pc' := 121) X129 hx hby at_117 (by decide) (by decide) ?_
        show Steps p.tables e below (T129.setTop (mkF m 121 Lb130 [(.int (1 : Int32))])) _
        exact retN X129 hx (t := .boolean) Bd.returns (by simp) (hb hby at_121) hr
      · show Q0 n0 _ T129.heap _
        rw [e129]
        exact ⟨rfl, N129⟩
    ·
     obtain ⟨cq131, kq131, q131a, q131b, q131c⟩ := isOf hZ e99 ((wd5 hW).ext O0.2)
     obtain ⟨_, _, ⟨T131, L131, kk131, nn131⟩, -, X131, ⟨Lc131, hQ131, l131, y131, z131⟩, st131⟩ := X99.virtualBack hx (y := ym5) (z := ym5) hown (mvT hZ (wk22 hw)) (mvT hZ (wk23 hw)) (notFace_of_selects (args := #[]) (mvT hZ (wk25 hw))) (mvT hZ (wk25 hw)) (mvT hZ (wk24 hw)) (by decide) (backOf (W := 0) (rm4_25 l Z a0 hw w hW [] p1 p2 h0 n0 O0 hc102 hc117) hZ (wk26 hw) (wk6 hw) (by decide) (by decide)) q131a q131c (g := (mkF m 14 Lb100 [(.int p2), (.int p1), (.ref (w 2))])) rfl (by rw [hml]; rfl) (Steps.refl _) (argsL := [(.int p1), (.int p2)]) (rest := []) (lenOf pds_4 rfl) rfl (by show 2 * 0 + _ ≤ _; exact Nat.le_of_eq rfl) (hb hby at_14) (fun _ _ => ⟨rfl, e99, (by decide : 0 + 0 ≤ _), (by decide : 0 + 0 ≤ _)⟩)
     dsimp only [Pt.U, Pt.locs, Pt.cells, Pt.slots] at X131 l131 y131 z131 st131 hQ131
     subst l131 y131 z131
     obtain ⟨rfl, N131q, e131⟩ := hQ131
     have N131 := Fr.app N99 N131q
     have pre132 : ∀ t, Steps p.tables e below (T131.setTop (mkF m 21 Lb100 [(.int p1), (.int p2), (.ref (w 3)), (.int (0 : Int32))])) t → Steps p.tables e below (s₁.setTop (entryFrame m #[(.int p0), (.int p1), (.int p2)] maxLocals)) t := fun t k => pre101 t (by
      show Steps p.tables e below (T99.setTop (mkF m 14 Lb100 [(.int p2), (.int p1), (.ref (w 2))])) _
      refine st131.trans ?_
      refine sa X131 hx hby at_17 rfl rfl ?_
      refine sI X131 hx hby at_19 rfl ?_
      refine sI X131 hx hby at_20 rfl ?_
      exact k)
     by_cases hc133 : p2 < p1
     ·
      obtain ⟨cq134, kq134, q134a, q134b, q134c⟩ := isOf hZ e131 ((wd7 hW).ext O0.2)
      obtain ⟨_, _, ⟨T134, L134, kk134, nn134⟩, -, X134, ⟨Lc134, hQ134, l134, y134, z134⟩, st134⟩ := X131.virtualBack hx (y := ym5) (z := ym5) hown (mvT hZ (wk22 hw)) (mvT hZ (wk23 hw)) (notFace_of_selects (args := #[]) (mvT hZ (wk25 hw))) (mvT hZ (wk25 hw)) (mvT hZ (wk24 hw)) (by decide) (backOf (W := 1) (rm4_26 l Z a0 hw w hW [] p2 p1 h0 n0 O0 hc133) hZ (wk26 hw) (wk6 hw) (by decide) (by decide)) q134a q134c (g := (mkF m 21 Lb100 [(.int p1), (.int p2), (.ref (w 3)), (.int (0 : Int32))])) rfl (by rw [hml]; rfl) (Steps.refl _) (argsL := [(.int p2), (.int p1)]) (rest := [(.int (0 : Int32))]) (lenOf pds_4 rfl) rfl (by show 2 * 0 + _ ≤ _; exact Nat.le_of_eq rfl) (hb hby at_21) (fun _ _ => ⟨rfl, e131, (by decide : 0 + 0 ≤ _), (by decide : 0 + 0 ≤ _)⟩)
      dsimp only [Pt.U, Pt.locs, Pt.cells, Pt.slots] at X134 l134 y134 z134 st134 hQ134
      subst l134 y134 z134
      obtain ⟨rfl, N134q, e134⟩ := hQ134
      have N134 := Fr.app N131 N134q
      let Lb135 : Array Slot := #[.val (.int p0), .val (.int p1), .val (.int p2), .val (.ref (w 2)), .val (.ref (w 3)), .val (.int (1 : Int32)), .unset, .unset, .unset]
      obtain ⟨cq136, kq136, q136a, q136b, q136c⟩ := isOf hZ e134 ((wd5 hW).ext O0.2)
      obtain ⟨_, _, ⟨T136, L136, kk136, nn136⟩, -, X136, ⟨Lc136, hQ136, l136, y136, z136⟩, st136⟩ := X134.virtualBack hx (y := ym5) (z := ym5) hown (mvT hZ (wk22 hw)) (mvT hZ (wk23 hw)) (notFace_of_selects (args := #[]) (mvT hZ (wk25 hw))) (mvT hZ (wk25 hw)) (mvT hZ (wk24 hw)) (by decide) (backOf (W := 0) (rm4_22 l Z a0 hw w hW [] p2 p1 h0 n0 O0 hc133) hZ (wk26 hw) (wk6 hw) (by decide) (by decide)) q136a q136c (g := (mkF m 37 Lb135 [(.int p1), (.int p2), (.ref (w 2))])) rfl (by rw [hml]; rfl) (Steps.refl _) (argsL := [(.int p2), (.int p1)]) (rest := []) (lenOf pds_4 rfl) rfl (by show 2 * 0 + _ ≤ _; exact Nat.le_of_eq rfl) (hb hby at_37) (fun _ _ => ⟨rfl, e134, (by decide : 0 + 0 ≤ _), (by decide : 0 + 0 ≤ _)⟩)
      dsimp only [Pt.U, Pt.locs, Pt.cells, Pt.slots] at X136 l136 y136 z136 st136 hQ136
      subst l136 y136 z136
      obtain ⟨rfl, N136q, e136⟩ := hQ136
      have N136 := Fr.app N134 N136q
      obtain ⟨cq137, kq137, q137a, q137b, q137c⟩ := isOf hZ e136 ((wd7 hW).ext O0.2)
      obtain ⟨_, _, ⟨T137, L137, kk137, nn137⟩, -, X137, ⟨Lc137, hQ137, l137, y137, z137⟩, st137⟩ := X136.virtualBack hx (y := ym5) (z := ym5) hown (mvT hZ (wk22 hw)) (mvT hZ (wk23 hw)) (notFace_of_selects (args := #[]) (mvT hZ (wk25 hw))) (mvT hZ (wk25 hw)) (mvT hZ (wk24 hw)) (by decide) (backOf (W := 1) (rm4_24 l Z a0 hw w hW [] p1 p2 h0 n0 O0 hc102 hc117) hZ (wk26 hw) (wk6 hw) (by decide) (by decide)) q137a q137c (g := (mkF m 44 Lb135 [(.int p2), (.int p1), (.ref (w 3)), (.int (1 : Int32))])) rfl (by rw [hml]; rfl) (Steps.refl _) (argsL := [(.int p1), (.int p2)]) (rest := [(.int (1 : Int32))]) (lenOf pds_4 rfl) rfl (by show 2 * 0 + _ ≤ _; exact Nat.le_of_eq rfl) (hb hby at_44) (fun _ _ => ⟨rfl, e136, (by decide : 0 + 0 ≤ _), (by decide : 0 + 0 ≤ _)⟩)
      dsimp only [Pt.U, Pt.locs, Pt.cells, Pt.slots] at X137 l137 y137 z137 st137 hQ137
      subst l137 y137 z137
      obtain ⟨rfl, N137q, e137⟩ := hQ137
      have N137 := Fr.app N136 N137q
      let Lb138 : Array Slot := #[.val (.int p0), .val (.int p1), .val (.int p2), .val (.ref (w 2)), .val (.ref (w 3)), .val (.int (1 : Int32)), .val (.int (1 : Int32)), .unset, .unset]
      obtain ⟨cq139, kq139, q139a, q139b, q139c⟩ := isOf hZ e137 ((wd5 hW).ext O0.2)
      obtain ⟨_, _, ⟨T139, L139, kk139, nn139⟩, -, X139, ⟨Lc139, hQ139, l139, y139, z139⟩, st139⟩ := X137.virtualBack hx (y := ym5) (z := ym5) hown (mvT hZ (wk22 hw)) (mvT hZ (wk23 hw)) (notFace_of_selects (args := #[]) (mvT hZ (wk25 hw))) (mvT hZ (wk25 hw)) (mvT hZ (wk24 hw)) (by decide) (backOf (W := 0) (rm4_27 l Z a0 hw w hW [] p1 h0 n0 O0 ) hZ (wk26 hw) (wk6 hw) (by decide) (by decide)) q139a q139c (g := (mkF m 60 Lb138 [(.int p1), (.int p1), (.ref (w 2))])) rfl (by rw [hml]; rfl) (Steps.refl _) (argsL := [(.int p1), (.int p1)]) (rest := []) (lenOf pds_4 rfl) rfl (by show 2 * 0 + _ ≤ _; exact Nat.le_of_eq rfl) (hb hby at_60) (fun _ _ => ⟨rfl, e137, (by decide : 0 + 0 ≤ _), (by decide : 0 + 0 ≤ _)⟩)
      dsimp only [Pt.U, Pt.locs, Pt.cells, Pt.slots] at X139 l139 y139 z139 st139 hQ139
      subst l139 y139 z139
      obtain ⟨rfl, N139q, e139⟩ := hQ139
      have N139 := Fr.app N137 N139q
      obtain ⟨cq140, kq140, q140a, q140b, q140c⟩ := isOf hZ e139 ((wd7 hW).ext O0.2)
      obtain ⟨_, _, ⟨T140, L140, kk140, nn140⟩, -, X140, ⟨Lc140, hQ140, l140, y140, z140⟩, st140⟩ := X139.virtualBack hx (y := ym5) (z := ym5) hown (mvT hZ (wk22 hw)) (mvT hZ (wk23 hw)) (notFace_of_selects (args := #[]) (mvT hZ (wk25 hw))) (mvT hZ (wk25 hw)) (mvT hZ (wk24 hw)) (by decide) (backOf (W := 1) (rm4_28 l Z a0 hw w hW [] p1 h0 n0 O0 ) hZ (wk26 hw) (wk6 hw) (by decide) (by decide)) q140a q140c (g := (mkF m 67 Lb138 [(.int p1), (.int p1), (.ref (w 3)), (.int (0 : Int32))])) rfl (by rw [hml]; rfl) (Steps.refl _) (argsL := [(.int p1), (.int p1)]) (rest := [(.int (0 : Int32))]) (lenOf pds_4 rfl) rfl (by show 2 * 0 + _ ≤ _; exact Nat.le_of_eq rfl) (hb hby at_67) (fun _ _ => ⟨rfl, e139, (by decide : 0 + 0 ≤ _), (by decide : 0 + 0 ≤ _)⟩)
      dsimp only [Pt.U, Pt.locs, Pt.cells, Pt.slots] at X140 l140 y140 z140 st140 hQ140
      subst l140 y140 z140
      obtain ⟨rfl, N140q, e140⟩ := hQ140
      have N140 := Fr.app N139 N140q
      let Lb141 : Array Slot := #[.val (.int p0), .val (.int p1), .val (.int p2), .val (.ref (w 2)), .val (.ref (w 3)), .val (.int (1 : Int32)), .val (.int (1 : Int32)), .val (.int (1 : Int32)), .unset]
      obtain ⟨cq142, kq142, q142a, q142b, q142c⟩ := isOf hZ e140 ((wd7 hW).ext O0.2)
      obtain ⟨_, _, ⟨T142, L142, kk142, nn142⟩, -, X142, ⟨Lc142, hQ142, l142, y142, z142⟩, st142⟩ := X140.virtualBack hx (y := ym3) (z := ym3) hown (mvT hZ (wk8 hw)) (mvT hZ (wk9 hw)) (notFace_of_selects (args := #[]) (mvT hZ (wk11 hw))) (mvT hZ (wk11 hw)) (mvT hZ (wk10 hw)) (by decide) (backOf (W := 0) (rm2_29 l Z a0 hw w hW []  h0 n0 O0 ) hZ (wk12 hw) (wk6 hw) (by decide) (by decide)) q142a q142c (g := (mkF m 82 Lb141 [(.ref (w 3))])) rfl (by rw [hml]; rfl) (Steps.refl _) (argsL := []) (rest := []) (lenOf pds_2 rfl) rfl (by show 2 * 0 + _ ≤ _; exact Nat.le_of_eq rfl) (hb hby at_82) (fun _ _ => ⟨rfl, e140, (by decide : 0 + 0 ≤ _), (by decide : 0 + 0 ≤ _)⟩)
      dsimp only [Pt.U, Pt.locs, Pt.cells, Pt.slots] at X142 l142 y142 z142 st142 hQ142
      subst l142 y142 z142
      obtain ⟨rfl, N142q, e142⟩ := hQ142
      have N142 := Fr.app N140 N142q
      let Lb143 : Array Slot := #[.val (.int p0), .val (.int p1), .val (.int p2), .val (.ref (w 2)), .val (.ref (w 3)), .val (.int (1 : Int32)), .val (.int (1 : Int32)), .val (.int (1 : Int32)), .val (.int (1 : Int32))]
      obtain ⟨fs, hr, hrun, hended, hWm, hsame⟩ := X142.leave (v := some (.int (1 : Int32))) (fun h => by rw [Bd.returns] at h; cases h)
      refine ⟨_, _, pre132 _ ?_, hrun, hended, _, _, rfl, ?_, ⟨_, rfl⟩, hWm, hsame.mono (by decide) (by decide)⟩
      · show Steps p.tables e below (T131.setTop (mkF m 21 Lb100 [(.int p1), (.int p2), (.ref (w 3)), (.int (0 : Int32))])) _
        refine st134.trans ?_
        refine sn X134 hx hby at_24 (by decide) ?_
        refine sc X134 hx hby at_27 ?_
        refine sg (pc := 28) (pc' := 32) X134 hx hby at_28 (by decide) (by decide) ?_
        refine XS.istore X134.here hx rfl (hb hby at_32) rfl (l' := Lb135) rfl ?_
        refine sA X134 hx hby at_34 rfl rfl ?_
        show Steps p.tables e below (T134.setTop (mkF m 35 Lb135 [(.ref (w 2))])) _
        refine sI X134 hx hby at_35 rfl ?_
        refine sI X134 hx hby at_36 rfl ?_
        refine st136.trans ?_
        refine sa X136 hx hby at_40 rfl rfl ?_
        refine sI X136 hx hby at_42 rfl ?_
        refine sI X136 hx hby at_43 rfl ?_
        refine st137.trans ?_
        refine sn X137 hx hby at_47 (by decide) ?_
        refine sc X137 hx hby at_50 ?_
        refine sg (pc := 51) (pc' := 55) X137 hx hby at_51 (by decide) (by decide) ?_
        refine XS.istore X137.here hx rfl (hb hby at_55) rfl (l' := Lb138) rfl ?_
        refine sA X137 hx hby at_57 rfl rfl ?_
        show Steps p.tables e below (T137.setTop (mkF m 58 Lb138 [(.ref (w 2))])) _
        refine sI X137 hx hby at_58 rfl ?_
        refine sI X137 hx hby at_59 rfl ?_
        refine st139.trans ?_
        refine sa X139 hx hby at_63 rfl rfl ?_
        refine sI X139 hx hby at_65 rfl ?_
        refine sI X139 hx hby at_66 rfl ?_
        refine st140.trans ?_
        refine sn X140 hx hby at_70 (by decide) ?_
        refine sc X140 hx hby at_73 ?_
        refine sg (pc := 74) (pc' := 78) X140 hx hby at_74 (by decide) (by decide) ?_
        refine XS.istore X140.here hx rfl (hb hby at_78) rfl (l' := Lb141) rfl ?_
        refine sa X140 hx hby at_80 rfl rfl ?_
        show Steps p.tables e below (T140.setTop (mkF m 82 Lb141 [(.ref (w 3))])) _
        refine st142.trans ?_
        refine sA X142 hx hby at_85 rfl rfl ?_
        refine Jvm.RoadKit.acmp (g := (mkF m 86 Lb141 [(.ref (w 2)), (.ref (w 2))])) X142 hx rfl rfl rfl (pc0 := 86) (pc' := 89) (same := true) rfl (hb hby at_86) rfl (decide_eq_true rfl) (by decide) (by decide) ?_
        refine sc X142 hx hby at_89 ?_
        refine sg (pc := 90) (pc' := 94) X142 hx hby at_90 (by decide) (by decide) ?_
        refine XS.istore X142.here hx rfl (hb hby at_94) rfl (l' := Lb143) rfl ?_
        show Steps p.tables e below (T142.setTop (mkF m 96 Lb143 [])) _
        refine si X142 hx hby at_96 rfl ?_
        refine sN X142 hx hby at_98 (by decide) ?_
        refine si X142 hx hby at_101 rfl ?_
        refine sN X142 hx hby at_103 (by decide) ?_
        refine si X142 hx hby at_106 rfl ?_
        show Steps p.tables e below (T142.setTop (mkF m 108 Lb143 [(.int (1 : Int32))])) _
        refine sN X142 hx hby at_108 (by decide) ?_
        refine si X142 hx hby at_111 rfl ?_
        refine sN X142 hx hby at_113 (by decide) ?_
        refine sc X142 hx hby at_116 ?_
        refine sg (pc := 117) (pc' := 121) X142 hx hby at_117 (by decide) (by decide) ?_
        show Steps p.tables e below (T142.setTop (mkF m 121 Lb143 [(.int (1 : Int32))])) _
        exact retN X142 hx (t := .boolean) Bd.returns (by simp) (hb hby at_121) hr
      · show Q0 n0 _ T142.heap _
        rw [e142]
        exact ⟨rfl, N142⟩
     ·
      exfalso
      have z3 := Int32.le_iff_toInt_le.mp (Int32.not_lt.mp hc102)
      have z4 : (p1).toInt ≠ (p2).toInt := fun q => hc117 (Int32.toInt_inj.mp q)
      have z5 := Int32.le_iff_toInt_le.mp (Int32.not_lt.mp hc133)
      have z1 := rng32 p1
      have z2 := rng32 p2
      omega
  ·
   obtain ⟨_, _, ⟨T144, L144, kk144, nn144⟩, -, X144, ⟨Lc144, hQ144, l144, y144, z144⟩, st144⟩ := Jvm.LawKit.callS X0 hx (y := ym0) hown (mvT hZ (wk0 hw)) (mvT hZ (wk1 hw)) (mvT hZ (wk2 hw)) (mvT hZ (wk3 hw)) (by decide) (backOf (W := 0) (rm1_32 l Z a0 hw w hW [] p0 h0 n0 O0 (by rw [hs2] <;> decide) (by rw [hs2] <;> decide) (by rw [hs2] <;> decide) (by rw [hs2] <;> decide)) hZ (wk3 hw) (wk2 hw) (by decide) (by decide)) (g := (mkF m 1 La [(.int p0)])) rfl (by rw [hml]; rfl) (argsL := [(.int p0)]) (rest := []) (lenOf pds_0 rfl) rfl (by show 2 * 0 + _ ≤ _; exact Nat.le_of_eq rfl) (hb hby at_1) (fun _ _ => ⟨rfl, e0, (by decide : 0 + 0 ≤ _), (by decide : 0 + 0 ≤ _)⟩)
   dsimp only [Pt.U, Pt.locs, Pt.cells, Pt.slots] at X144 l144 y144 z144 st144 hQ144
   subst l144 y144 z144
   obtain ⟨rfl, N144q, e144⟩ := hQ144
   have N144 := Fr.app N0 N144q
   let Lb145 : Array Slot := #[.val (.int p0), .val (.int p1), .val (.int p2), .val (.ref (w 5)), .unset, .unset, .unset, .unset, .unset]
   obtain ⟨cq146, kq146, q146a, q146b, q146c⟩ := isOf hZ e144 ((wd11 hW).ext O0.2)
   obtain ⟨_, _, ⟨T146, L146, kk146, nn146⟩, -, X146, ⟨Lc146, hQ146, l146, y146, z146⟩, st146⟩ := X144.virtualBack hx (y := ym3) (z := ym3) hown (mvT hZ (wk8 hw)) (mvT hZ (wk9 hw)) (notFace_of_selects (args := #[]) (mvT hZ (wk11 hw))) (mvT hZ (wk11 hw)) (mvT hZ (wk10 hw)) (by decide) (backOf (W := 0) (rm2_34 l Z a0 hw w hW []  h0 n0 O0 ) hZ (wk12 hw) (wk6 hw) (by decide) (by decide)) q146a q146c (g := (mkF m 6 Lb145 [(.ref (w 5))])) rfl (by rw [hml]; rfl) (Steps.refl _) (argsL := []) (rest := []) (lenOf pds_2 rfl) rfl (by show 2 * 0 + _ ≤ _; exact Nat.le_of_eq rfl) (hb hby at_6) (fun _ _ => ⟨rfl, e144, (by decide : 0 + 0 ≤ _), (by decide : 0 + 0 ≤ _)⟩)
   dsimp only [Pt.U, Pt.locs, Pt.cells, Pt.slots] at X146 l146 y146 z146 st146 hQ146
   subst l146 y146 z146
   obtain ⟨rfl, N146q, e146⟩ := hQ146
   have N146 := Fr.app N144 N146q
   let Lb147 : Array Slot := #[.val (.int p0), .val (.int p1), .val (.int p2), .val (.ref (w 5)), .val (.ref (w 4)), .unset, .unset, .unset, .unset]
   have pre148 : ∀ t, Steps p.tables e below (T146.setTop (mkF m 14 Lb147 [(.int p2), (.int p1), (.ref (w 5))])) t → Steps p.tables e below (s₁.setTop (entryFrame m #[(.int p0), (.int p1), (.int p2)] maxLocals)) t := fun t k => pre1 t (by
    show Steps p.tables e below (s₁.setTop (mkF m 1 La [(.int p0)])) _
    refine st144 _ ?_
    refine XS.astoreN X144.here hx rfl (hb hby at_4) rfl rfl (l' := Lb145) rfl ?_
    refine sA X144 hx hby at_5 rfl rfl ?_
    refine st146.trans ?_
    refine XS.astore X146.here hx rfl (hb hby at_9) rfl rfl (l' := Lb147) rfl ?_
    refine sA X146 hx hby at_11 rfl rfl ?_
    refine sI X146 hx hby at_12 rfl ?_
    refine sI X146 hx hby at_13 rfl ?_
    exact k)
   by_cases hc149 : p1 < p2
   ·
    obtain ⟨cq150, kq150, q150a, q150b, q150c⟩ := isOf hZ e146 ((wd11 hW).ext O0.2)
    obtain ⟨_, _, ⟨T150, L150, kk150, nn150⟩, -, X150, ⟨Lc150, hQ150, l150, y150, z150⟩, st150⟩ := X146.virtualBack hx (y := ym5) (z := ym5) hown (mvT hZ (wk22 hw)) (mvT hZ (wk23 hw)) (notFace_of_selects (args := #[]) (mvT hZ (wk25 hw))) (mvT hZ (wk25 hw)) (mvT hZ (wk24 hw)) (by decide) (backOf (W := 0) (rm4_35 l Z a0 hw w hW [] p1 p2 h0 n0 O0 hc149) hZ (wk26 hw) (wk6 hw) (by decide) (by decide)) q150a q150c (g := (mkF m 14 Lb147 [(.int p2), (.int p1), (.ref (w 5))])) rfl (by rw [hml]; rfl) (Steps.refl _) (argsL := [(.int p1), (.int p2)]) (rest := []) (lenOf pds_4 rfl) rfl (by show 2 * 0 + _ ≤ _; exact Nat.le_of_eq rfl) (hb hby at_14) (fun _ _ => ⟨rfl, e146, (by decide : 0 + 0 ≤ _), (by decide : 0 + 0 ≤ _)⟩)
    dsimp only [Pt.U, Pt.locs, Pt.cells, Pt.slots] at X150 l150 y150 z150 st150 hQ150
    subst l150 y150 z150
    obtain ⟨rfl, N150q, e150⟩ := hQ150
    have N150 := Fr.app N146 N150q
    have pre151 : ∀ t, Steps p.tables e below (T150.setTop (mkF m 21 Lb147 [(.int p1), (.int p2), (.ref (w 4)), (.int (1 : Int32))])) t → Steps p.tables e below (s₁.setTop (entryFrame m #[(.int p0), (.int p1), (.int p2)] maxLocals)) t := fun t k => pre148 t (by
     show Steps p.tables e below (T146.setTop (mkF m 14 Lb147 [(.int p2), (.int p1), (.ref (w 5))])) _
     refine st150.trans ?_
     refine sa X150 hx hby at_17 rfl rfl ?_
     refine sI X150 hx hby at_19 rfl ?_
     refine sI X150 hx hby at_20 rfl ?_
     exact k)
    by_cases hc152 : p2 < p1
    ·
     exfalso
     have z3 := Int32.lt_iff_toInt_lt.mp hc149
     have z4 := Int32.lt_iff_toInt_lt.mp hc152
     have z1 := rng32 p1
     have z2 := rng32 p2
     omega
    ·
     by_cases hc153 : p2 = p1
     ·
      exfalso
      have z3 := Int32.lt_iff_toInt_lt.mp hc149
      have z4 := Int32.le_iff_toInt_le.mp (Int32.not_lt.mp hc152)
      have z5 := congrArg Int32.toInt hc153
      have z1 := rng32 p1
      have z2 := rng32 p2
      omega
     ·
      obtain ⟨cq154, kq154, q154a, q154b, q154c⟩ := isOf hZ e150 ((wd9 hW).ext O0.2)
      obtain ⟨_, _, ⟨T154, L154, kk154, nn154⟩, -, X154, ⟨Lc154, hQ154, l154, y154, z154⟩, st154⟩ := X150.virtualBack hx (y := ym5) (z := ym5) hown (mvT hZ (wk22 hw)) (mvT hZ (wk23 hw)) (notFace_of_selects (args := #[]) (mvT hZ (wk25 hw))) (mvT hZ (wk25 hw)) (mvT hZ (wk24 hw)) (by decide) (backOf (W := 1) (rm4_37 l Z a0 hw w hW [] p2 p1 h0 n0 O0 hc152 hc153) hZ (wk26 hw) (wk6 hw) (by decide) (by decide)) q154a q154c (g := (mkF m 21 Lb147 [(.int p1), (.int p2), (.ref (w 4)), (.int (1 : Int32))])) rfl (by rw [hml]; rfl) (Steps.refl _) (argsL := [(.int p2), (.int p1)]) (rest := [(.int (1 : Int32))]) (lenOf pds_4 rfl) rfl (by show 2 * 0 + _ ≤ _; exact Nat.le_of_eq rfl) (hb hby at_21) (fun _ _ => ⟨rfl, e150, (by decide : 0 + 0 ≤ _), (by decide : 0 + 0 ≤ _)⟩)
      dsimp only [Pt.U, Pt.locs, Pt.cells, Pt.slots] at X154 l154 y154 z154 st154 hQ154
      subst l154 y154 z154
      obtain ⟨rfl, N154q, e154⟩ := hQ154
      have N154 := Fr.app N150 N154q
      let Lb155 : Array Slot := #[.val (.int p0), .val (.int p1), .val (.int p2), .val (.ref (w 5)), .val (.ref (w 4)), .val (.int (1 : Int32)), .unset, .unset, .unset]
      obtain ⟨cq156, kq156, q156a, q156b, q156c⟩ := isOf hZ e154 ((wd11 hW).ext O0.2)
      obtain ⟨_, _, ⟨T156, L156, kk156, nn156⟩, -, X156, ⟨Lc156, hQ156, l156, y156, z156⟩, st156⟩ := X154.virtualBack hx (y := ym5) (z := ym5) hown (mvT hZ (wk22 hw)) (mvT hZ (wk23 hw)) (notFace_of_selects (args := #[]) (mvT hZ (wk25 hw))) (mvT hZ (wk25 hw)) (mvT hZ (wk24 hw)) (by decide) (backOf (W := 0) (rm4_38 l Z a0 hw w hW [] p2 p1 h0 n0 O0 hc152 hc153) hZ (wk26 hw) (wk6 hw) (by decide) (by decide)) q156a q156c (g := (mkF m 37 Lb155 [(.int p1), (.int p2), (.ref (w 5))])) rfl (by rw [hml]; rfl) (Steps.refl _) (argsL := [(.int p2), (.int p1)]) (rest := []) (lenOf pds_4 rfl) rfl (by show 2 * 0 + _ ≤ _; exact Nat.le_of_eq rfl) (hb hby at_37) (fun _ _ => ⟨rfl, e154, (by decide : 0 + 0 ≤ _), (by decide : 0 + 0 ≤ _)⟩)
      dsimp only [Pt.U, Pt.locs, Pt.cells, Pt.slots] at X156 l156 y156 z156 st156 hQ156
      subst l156 y156 z156
      obtain ⟨rfl, N156q, e156⟩ := hQ156
      have N156 := Fr.app N154 N156q
      obtain ⟨cq157, kq157, q157a, q157b, q157c⟩ := isOf hZ e156 ((wd9 hW).ext O0.2)
      obtain ⟨_, _, ⟨T157, L157, kk157, nn157⟩, -, X157, ⟨Lc157, hQ157, l157, y157, z157⟩, st157⟩ := X156.virtualBack hx (y := ym5) (z := ym5) hown (mvT hZ (wk22 hw)) (mvT hZ (wk23 hw)) (notFace_of_selects (args := #[]) (mvT hZ (wk25 hw))) (mvT hZ (wk25 hw)) (mvT hZ (wk24 hw)) (by decide) (backOf (W := 1) (rm4_39 l Z a0 hw w hW [] p1 p2 h0 n0 O0 hc149) hZ (wk26 hw) (wk6 hw) (by decide) (by decide)) q157a q157c (g := (mkF m 44 Lb155 [(.int p2), (.int p1), (.ref (w 4)), (.int (0 : Int32))])) rfl (by rw [hml]; rfl) (Steps.refl _) (argsL := [(.int p1), (.int p2)]) (rest := [(.int (0 : Int32))]) (lenOf pds_4 rfl) rfl (by show 2 * 0 + _ ≤ _; exact Nat.le_of_eq rfl) (hb hby at_44) (fun _ _ => ⟨rfl, e156, (by decide : 0 + 0 ≤ _), (by decide : 0 + 0 ≤ _)⟩)
      dsimp only [Pt.U, Pt.locs, Pt.cells, Pt.slots] at X157 l157 y157 z157 st157 hQ157
      subst l157 y157 z157
      obtain ⟨rfl, N157q, e157⟩ := hQ157
      have N157 := Fr.app N156 N157q
      let Lb158 : Array Slot := #[.val (.int p0), .val (.int p1), .val (.int p2), .val (.ref (w 5)), .val (.ref (w 4)), .val (.int (1 : Int32)), .val (.int (1 : Int32)), .unset, .unset]
      obtain ⟨cq159, kq159, q159a, q159b, q159c⟩ := isOf hZ e157 ((wd11 hW).ext O0.2)
      obtain ⟨_, _, ⟨T159, L159, kk159, nn159⟩, -, X159, ⟨Lc159, hQ159, l159, y159, z159⟩, st159⟩ := X157.virtualBack hx (y := ym5) (z := ym5) hown (mvT hZ (wk22 hw)) (mvT hZ (wk23 hw)) (notFace_of_selects (args := #[]) (mvT hZ (wk25 hw))) (mvT hZ (wk25 hw)) (mvT hZ (wk24 hw)) (by decide) (backOf (W := 0) (rm4_40 l Z a0 hw w hW [] p1 h0 n0 O0 ) hZ (wk26 hw) (wk6 hw) (by decide) (by decide)) q159a q159c (g := (mkF m 60 Lb158 [(.int p1), (.int p1), (.ref (w 5))])) rfl (by rw [hml]; rfl) (Steps.refl _) (argsL := [(.int p1), (.int p1)]) (rest := []) (lenOf pds_4 rfl) rfl (by show 2 * 0 + _ ≤ _; exact Nat.le_of_eq rfl) (hb hby at_60) (fun _ _ => ⟨rfl, e157, (by decide : 0 + 0 ≤ _), (by decide : 0 + 0 ≤ _)⟩)
      dsimp only [Pt.U, Pt.locs, Pt.cells, Pt.slots] at X159 l159 y159 z159 st159 hQ159
      subst l159 y159 z159
      obtain ⟨rfl, N159q, e159⟩ := hQ159
      have N159 := Fr.app N157 N159q
      obtain ⟨cq160, kq160, q160a, q160b, q160c⟩ := isOf hZ e159 ((wd9 hW).ext O0.2)
      obtain ⟨_, _, ⟨T160, L160, kk160, nn160⟩, -, X160, ⟨Lc160, hQ160, l160, y160, z160⟩, st160⟩ := X159.virtualBack hx (y := ym5) (z := ym5) hown (mvT hZ (wk22 hw)) (mvT hZ (wk23 hw)) (notFace_of_selects (args := #[]) (mvT hZ (wk25 hw))) (mvT hZ (wk25 hw)) (mvT hZ (wk24 hw)) (by decide) (backOf (W := 1) (rm4_41 l Z a0 hw w hW [] p1 h0 n0 O0 ) hZ (wk26 hw) (wk6 hw) (by decide) (by decide)) q160a q160c (g := (mkF m 67 Lb158 [(.int p1), (.int p1), (.ref (w 4)), (.int (1 : Int32))])) rfl (by rw [hml]; rfl) (Steps.refl _) (argsL := [(.int p1), (.int p1)]) (rest := [(.int (1 : Int32))]) (lenOf pds_4 rfl) rfl (by show 2 * 0 + _ ≤ _; exact Nat.le_of_eq rfl) (hb hby at_67) (fun _ _ => ⟨rfl, e159, (by decide : 0 + 0 ≤ _), (by decide : 0 + 0 ≤ _)⟩)
      dsimp only [Pt.U, Pt.locs, Pt.cells, Pt.slots] at X160 l160 y160 z160 st160 hQ160
      subst l160 y160 z160
      obtain ⟨rfl, N160q, e160⟩ := hQ160
      have N160 := Fr.app N159 N160q
      let Lb161 : Array Slot := #[.val (.int p0), .val (.int p1), .val (.int p2), .val (.ref (w 5)), .val (.ref (w 4)), .val (.int (1 : Int32)), .val (.int (1 : Int32)), .val (.int (1 : Int32)), .unset]
      obtain ⟨cq162, kq162, q162a, q162b, q162c⟩ := isOf hZ e160 ((wd9 hW).ext O0.2)
      obtain ⟨_, _, ⟨T162, L162, kk162, nn162⟩, -, X162, ⟨Lc162, hQ162, l162, y162, z162⟩, st162⟩ := X160.virtualBack hx (y := ym3) (z := ym3) hown (mvT hZ (wk8 hw)) (mvT hZ (wk9 hw)) (notFace_of_selects (args := #[]) (mvT hZ (wk11 hw))) (mvT hZ (wk11 hw)) (mvT hZ (wk10 hw)) (by decide) (backOf (W := 0) (rm2_42 l Z a0 hw w hW []  h0 n0 O0 ) hZ (wk12 hw) (wk6 hw) (by decide) (by decide)) q162a q162c (g := (mkF m 82 Lb161 [(.ref (w 4))])) rfl (by rw [hml]; rfl) (Steps.refl _) (argsL := []) (rest := []) (lenOf pds_2 rfl) rfl (by show 2 * 0 + _ ≤ _; exact Nat.le_of_eq rfl) (hb hby at_82) (fun _ _ => ⟨rfl, e160, (by decide : 0 + 0 ≤ _), (by decide : 0 + 0 ≤ _)⟩)
      dsimp only [Pt.U, Pt.locs, Pt.cells, Pt.slots] at X162 l162 y162 z162 st162 hQ162
      subst l162 y162 z162
      obtain ⟨rfl, N162q, e162⟩ := hQ162
      have N162 := Fr.app N160 N162q
      let Lb163 : Array Slot := #[.val (.int p0), .val (.int p1), .val (.int p2), .val (.ref (w 5)), .val (.ref (w 4)), .val (.int (1 : Int32)), .val (.int (1 : Int32)), .val (.int (1 : Int32)), .val (.int (1 : Int32))]
      obtain ⟨fs, hr, hrun, hended, hWm, hsame⟩ := X162.leave (v := some (.int (1 : Int32))) (fun h => by rw [Bd.returns] at h; cases h)
      refine ⟨_, _, pre151 _ ?_, hrun, hended, _, _, rfl, ?_, ⟨_, rfl⟩, hWm, hsame.mono (by decide) (by decide)⟩
      · show Steps p.tables e below (T150.setTop (mkF m 21 Lb147 [(.int p1), (.int p2), (.ref (w 4)), (.int (1 : Int32))])) _
        refine st154.trans ?_
        refine sn X154 hx hby at_24 (by decide) ?_
        refine sc X154 hx hby at_27 ?_
        refine sg (pc := 28) (pc' := 32) X154 hx hby at_28 (by decide) (by decide) ?_
        refine XS.istore X154.here hx rfl (hb hby at_32) rfl (l' := Lb155) rfl ?_
        refine sA X154 hx hby at_34 rfl rfl ?_
        show Steps p.tables e below (T154.setTop (mkF m 35 Lb155 [(.ref (w 5))])) _
        refine sI X154 hx hby at_35 rfl ?_
        refine sI X154 hx hby at_36 rfl ?_
        refine st156.trans ?_
        refine sa X156 hx hby at_40 rfl rfl ?_
        refine sI X156 hx hby at_42 rfl ?_
        refine sI X156 hx hby at_43 rfl ?_
        refine st157.trans ?_
        refine sn X157 hx hby at_47 (by decide) ?_
        refine sc X157 hx hby at_50 ?_
        refine sg (pc := 51) (pc' := 55) X157 hx hby at_51 (by decide) (by decide) ?_
        refine XS.istore X157.here hx rfl (hb hby at_55) rfl (l' := Lb158) rfl ?_
        refine sA X157 hx hby at_57 rfl rfl ?_
        show Steps p.tables e below (T157.setTop (mkF m 58 Lb158 [(.ref (w 5))])) _
        refine sI X157 hx hby at_58 rfl ?_
        refine sI X157 hx hby at_59 rfl ?_
        refine st159.trans ?_
        refine sa X159 hx hby at_63 rfl rfl ?_
        refine sI X159 hx hby at_65 rfl ?_
        refine sI X159 hx hby at_66 rfl ?_
        refine st160.trans ?_
        refine sn X160 hx hby at_70 (by decide) ?_
        refine sc X160 hx hby at_73 ?_
        refine sg (pc := 74) (pc' := 78) X160 hx hby at_74 (by decide) (by decide) ?_
        refine XS.istore X160.here hx rfl (hb hby at_78) rfl (l' := Lb161) rfl ?_
        refine sa X160 hx hby at_80 rfl rfl ?_
        show Steps p.tables e below (T160.setTop (mkF m 82 Lb161 [(.ref (w 4))])) _
        refine st162.trans ?_
        refine sA X162 hx hby at_85 rfl rfl ?_
        refine Jvm.RoadKit.acmp (g := (mkF m 86 Lb161 [(.ref (w 5)), (.ref (w 5))])) X162 hx rfl rfl rfl (pc0 := 86) (pc' := 89) (same := true) rfl (hb hby at_86) rfl (decide_eq_true rfl) (by decide) (by decide) ?_
        refine sc X162 hx hby at_89 ?_
        refine sg (pc := 90) (pc' := 94) X162 hx hby at_90 (by decide) (by decide) ?_
        refine XS.istore X162.here hx rfl (hb hby at_94) rfl (l' := Lb163) rfl ?_
        show Steps p.tables e below (T162.setTop (mkF m 96 Lb163 [])) _
        refine si X162 hx hby at_96 rfl ?_
        refine sN X162 hx hby at_98 (by decide) ?_
        refine si X162 hx hby at_101 rfl ?_
        refine sN X162 hx hby at_103 (by decide) ?_
        refine si X162 hx hby at_106 rfl ?_
        show Steps p.tables e below (T162.setTop (mkF m 108 Lb163 [(.int (1 : Int32))])) _
        refine sN X162 hx hby at_108 (by decide) ?_
        refine si X162 hx hby at_111 rfl ?_
        refine sN X162 hx hby at_113 (by decide) ?_
        refine sc X162 hx hby at_116 ?_
        refine sg (pc := 117) (pc' := 121) X162 hx hby at_117 (by decide) (by decide) ?_
        show Steps p.tables e below (T162.setTop (mkF m 121 Lb163 [(.int (1 : Int32))])) _
        exact retN X162 hx (t := .boolean) Bd.returns (by simp) (hb hby at_121) hr
      · show Q0 n0 _ T162.heap _
        rw [e162]
        exact ⟨rfl, N162⟩
   ·
    by_cases hc164 : p1 = p2
    ·
     obtain ⟨cq165, kq165, q165a, q165b, q165c⟩ := isOf hZ e146 ((wd11 hW).ext O0.2)
     obtain ⟨_, _, ⟨T165, L165, kk165, nn165⟩, -, X165, ⟨Lc165, hQ165, l165, y165, z165⟩, st165⟩ := X146.virtualBack hx (y := ym5) (z := ym5) hown (mvT hZ (wk22 hw)) (mvT hZ (wk23 hw)) (notFace_of_selects (args := #[]) (mvT hZ (wk25 hw))) (mvT hZ (wk25 hw)) (mvT hZ (wk24 hw)) (by decide) (backOf (W := 0) (rm4_43 l Z a0 hw w hW [] p1 p2 h0 n0 O0 hc149 hc164) hZ (wk26 hw) (wk6 hw) (by decide) (by decide)) q165a q165c (g := (mkF m 14 Lb147 [(.int p2), (.int p1), (.ref (w 5))])) rfl (by rw [hml]; rfl) (Steps.refl _) (argsL := [(.int p1), (.int p2)]) (rest := []) (lenOf pds_4 rfl) rfl (by show 2 * 0 + _ ≤ _; exact Nat.le_of_eq rfl) (hb hby at_14) (fun _ _ => ⟨rfl, e146, (by decide : 0 + 0 ≤ _), (by decide : 0 + 0 ≤ _)⟩)
     dsimp only [Pt.U, Pt.locs, Pt.cells, Pt.slots] at X165 l165 y165 z165 st165 hQ165
     subst l165 y165 z165
     obtain ⟨rfl, N165q, e165⟩ := hQ165
     have N165 := Fr.app N146 N165q
     have pre166 : ∀ t, Steps p.tables e below (T165.setTop (mkF m 21 Lb147 [(.int p1), (.int p2), (.ref (w 4)), (.int (1 : Int32))])) t → Steps p.tables e below (s₁.setTop (entryFrame m #[(.int p0), (.int p1), (.int p2)] maxLocals)) t := fun t k => pre148 t (by
      show Steps p.tables e below (T146.setTop (mkF m 14 Lb147 [(.int p2), (.int p1), (.ref (w 5))])) _
      refine st165.trans ?_
      refine sa X165 hx hby at_17 rfl rfl ?_
      refine sI X165 hx hby at_19 rfl ?_
      refine sI X165 hx hby at_20 rfl ?_
      exact k)
     by_cases hc167 : p2 < p1
     ·
      exfalso
      have z3 := Int32.le_iff_toInt_le.mp (Int32.not_lt.mp hc149)
      have z4 := congrArg Int32.toInt hc164
      have z5 := Int32.lt_iff_toInt_lt.mp hc167
      have z1 := rng32 p1
      have z2 := rng32 p2
      omega
     ·
      obtain ⟨cq168, kq168, q168a, q168b, q168c⟩ := isOf hZ e165 ((wd9 hW).ext O0.2)
      obtain ⟨_, _, ⟨T168, L168, kk168, nn168⟩, -, X168, ⟨Lc168, hQ168, l168, y168, z168⟩, st168⟩ := X165.virtualBack hx (y := ym5) (z := ym5) hown (mvT hZ (wk22 hw)) (mvT hZ (wk23 hw)) (notFace_of_selects (args := #[]) (mvT hZ (wk25 hw))) (mvT hZ (wk25 hw)) (mvT hZ (wk24 hw)) (by decide) (backOf (W := 1) (rm4_44 l Z a0 hw w hW [] p2 p1 h0 n0 O0 hc167 (Eq.symm hc164)) hZ (wk26 hw) (wk6 hw) (by decide) (by decide)) q168a q168c (g := (mkF m 21 Lb147 [(.int p1), (.int p2), (.ref (w 4)), (.int (1 : Int32))])) rfl (by rw [hml]; rfl) (Steps.refl _) (argsL := [(.int p2), (.int p1)]) (rest := [(.int (1 : Int32))]) (lenOf pds_4 rfl) rfl (by show 2 * 0 + _ ≤ _; exact Nat.le_of_eq rfl) (hb hby at_21) (fun _ _ => ⟨rfl, e165, (by decide : 0 + 0 ≤ _), (by decide : 0 + 0 ≤ _)⟩)
      dsimp only [Pt.U, Pt.locs, Pt.cells, Pt.slots] at X168 l168 y168 z168 st168 hQ168
      subst l168 y168 z168
      obtain ⟨rfl, N168q, e168⟩ := hQ168
      have N168 := Fr.app N165 N168q
      let Lb169 : Array Slot := #[.val (.int p0), .val (.int p1), .val (.int p2), .val (.ref (w 5)), .val (.ref (w 4)), .val (.int (1 : Int32)), .unset, .unset, .unset]
      obtain ⟨cq170, kq170, q170a, q170b, q170c⟩ := isOf hZ e168 ((wd11 hW).ext O0.2)
      obtain ⟨_, _, ⟨T170, L170, kk170, nn170⟩, -, X170, ⟨Lc170, hQ170, l170, y170, z170⟩, st170⟩ := X168.virtualBack hx (y := ym5) (z := ym5) hown (mvT hZ (wk22 hw)) (mvT hZ (wk23 hw)) (notFace_of_selects (args := #[]) (mvT hZ (wk25 hw))) (mvT hZ (wk25 hw)) (mvT hZ (wk24 hw)) (by decide) (backOf (W := 0) (rm4_43 l Z a0 hw w hW [] p2 p1 h0 n0 O0 hc167 (Eq.symm hc164)) hZ (wk26 hw) (wk6 hw) (by decide) (by decide)) q170a q170c (g := (mkF m 37 Lb169 [(.int p1), (.int p2), (.ref (w 5))])) rfl (by rw [hml]; rfl) (Steps.refl _) (argsL := [(.int p2), (.int p1)]) (rest := []) (lenOf pds_4 rfl) rfl (by show 2 * 0 + _ ≤ _; exact Nat.le_of_eq rfl) (hb hby at_37) (fun _ _ => ⟨rfl, e168, (by decide : 0 + 0 ≤ _), (by decide : 0 + 0 ≤ _)⟩)
      dsimp only [Pt.U, Pt.locs, Pt.cells, Pt.slots] at X170 l170 y170 z170 st170 hQ170
      subst l170 y170 z170
      obtain ⟨rfl, N170q, e170⟩ := hQ170
      have N170 := Fr.app N168 N170q
      obtain ⟨cq171, kq171, q171a, q171b, q171c⟩ := isOf hZ e170 ((wd9 hW).ext O0.2)
      obtain ⟨_, _, ⟨T171, L171, kk171, nn171⟩, -, X171, ⟨Lc171, hQ171, l171, y171, z171⟩, st171⟩ := X170.virtualBack hx (y := ym5) (z := ym5) hown (mvT hZ (wk22 hw)) (mvT hZ (wk23 hw)) (notFace_of_selects (args := #[]) (mvT hZ (wk25 hw))) (mvT hZ (wk25 hw)) (mvT hZ (wk24 hw)) (by decide) (backOf (W := 1) (rm4_44 l Z a0 hw w hW [] p1 p2 h0 n0 O0 hc149 hc164) hZ (wk26 hw) (wk6 hw) (by decide) (by decide)) q171a q171c (g := (mkF m 44 Lb169 [(.int p2), (.int p1), (.ref (w 4)), (.int (1 : Int32))])) rfl (by rw [hml]; rfl) (Steps.refl _) (argsL := [(.int p1), (.int p2)]) (rest := [(.int (1 : Int32))]) (lenOf pds_4 rfl) rfl (by show 2 * 0 + _ ≤ _; exact Nat.le_of_eq rfl) (hb hby at_44) (fun _ _ => ⟨rfl, e170, (by decide : 0 + 0 ≤ _), (by decide : 0 + 0 ≤ _)⟩)
      dsimp only [Pt.U, Pt.locs, Pt.cells, Pt.slots] at X171 l171 y171 z171 st171 hQ171
      subst l171 y171 z171
      obtain ⟨rfl, N171q, e171⟩ := hQ171
      have N171 := Fr.app N170 N171q
      let Lb172 : Array Slot := #[.val (.int p0), .val (.int p1), .val (.int p2), .val (.ref (w 5)), .val (.ref (w 4)), .val (.int (1 : Int32)), .val (.int (1 : Int32)), .unset, .unset]
      obtain ⟨cq173, kq173, q173a, q173b, q173c⟩ := isOf hZ e171 ((wd11 hW).ext O0.2)
      obtain ⟨_, _, ⟨T173, L173, kk173, nn173⟩, -, X173, ⟨Lc173, hQ173, l173, y173, z173⟩, st173⟩ := X171.virtualBack hx (y := ym5) (z := ym5) hown (mvT hZ (wk22 hw)) (mvT hZ (wk23 hw)) (notFace_of_selects (args := #[]) (mvT hZ (wk25 hw))) (mvT hZ (wk25 hw)) (mvT hZ (wk24 hw)) (by decide) (backOf (W := 0) (rm4_40 l Z a0 hw w hW [] p1 h0 n0 O0 ) hZ (wk26 hw) (wk6 hw) (by decide) (by decide)) q173a q173c (g := (mkF m 60 Lb172 [(.int p1), (.int p1), (.ref (w 5))])) rfl (by rw [hml]; rfl) (Steps.refl _) (argsL := [(.int p1), (.int p1)]) (rest := []) (lenOf pds_4 rfl) rfl (by show 2 * 0 + _ ≤ _; exact Nat.le_of_eq rfl) (hb hby at_60) (fun _ _ => ⟨rfl, e171, (by decide : 0 + 0 ≤ _), (by decide : 0 + 0 ≤ _)⟩)
      dsimp only [Pt.U, Pt.locs, Pt.cells, Pt.slots] at X173 l173 y173 z173 st173 hQ173
      subst l173 y173 z173
      obtain ⟨rfl, N173q, e173⟩ := hQ173
      have N173 := Fr.app N171 N173q
      obtain ⟨cq174, kq174, q174a, q174b, q174c⟩ := isOf hZ e173 ((wd9 hW).ext O0.2)
      obtain ⟨_, _, ⟨T174, L174, kk174, nn174⟩, -, X174, ⟨Lc174, hQ174, l174, y174, z174⟩, st174⟩ := X173.virtualBack hx (y := ym5) (z := ym5) hown (mvT hZ (wk22 hw)) (mvT hZ (wk23 hw)) (notFace_of_selects (args := #[]) (mvT hZ (wk25 hw))) (mvT hZ (wk25 hw)) (mvT hZ (wk24 hw)) (by decide) (backOf (W := 1) (rm4_41 l Z a0 hw w hW [] p1 h0 n0 O0 ) hZ (wk26 hw) (wk6 hw) (by decide) (by decide)) q174a q174c (g := (mkF m 67 Lb172 [(.int p1), (.int p1), (.ref (w 4)), (.int (1 : Int32))])) rfl (by rw [hml]; rfl) (Steps.refl _) (argsL := [(.int p1), (.int p1)]) (rest := [(.int (1 : Int32))]) (lenOf pds_4 rfl) rfl (by show 2 * 0 + _ ≤ _; exact Nat.le_of_eq rfl) (hb hby at_67) (fun _ _ => ⟨rfl, e173, (by decide : 0 + 0 ≤ _), (by decide : 0 + 0 ≤ _)⟩)
      dsimp only [Pt.U, Pt.locs, Pt.cells, Pt.slots] at X174 l174 y174 z174 st174 hQ174
      subst l174 y174 z174
      obtain ⟨rfl, N174q, e174⟩ := hQ174
      have N174 := Fr.app N173 N174q
      let Lb175 : Array Slot := #[.val (.int p0), .val (.int p1), .val (.int p2), .val (.ref (w 5)), .val (.ref (w 4)), .val (.int (1 : Int32)), .val (.int (1 : Int32)), .val (.int (1 : Int32)), .unset]
      obtain ⟨cq176, kq176, q176a, q176b, q176c⟩ := isOf hZ e174 ((wd9 hW).ext O0.2)
      obtain ⟨_, _, ⟨T176, L176, kk176, nn176⟩, -, X176, ⟨Lc176, hQ176, l176, y176, z176⟩, st176⟩ := X174.virtualBack hx (y := ym3) (z := ym3) hown (mvT hZ (wk8 hw)) (mvT hZ (wk9 hw)) (notFace_of_selects (args := #[]) (mvT hZ (wk11 hw))) (mvT hZ (wk11 hw)) (mvT hZ (wk10 hw)) (by decide) (backOf (W := 0) (rm2_42 l Z a0 hw w hW []  h0 n0 O0 ) hZ (wk12 hw) (wk6 hw) (by decide) (by decide)) q176a q176c (g := (mkF m 82 Lb175 [(.ref (w 4))])) rfl (by rw [hml]; rfl) (Steps.refl _) (argsL := []) (rest := []) (lenOf pds_2 rfl) rfl (by show 2 * 0 + _ ≤ _; exact Nat.le_of_eq rfl) (hb hby at_82) (fun _ _ => ⟨rfl, e174, (by decide : 0 + 0 ≤ _), (by decide : 0 + 0 ≤ _)⟩)
      dsimp only [Pt.U, Pt.locs, Pt.cells, Pt.slots] at X176 l176 y176 z176 st176 hQ176
      subst l176 y176 z176
      obtain ⟨rfl, N176q, e176⟩ := hQ176
      have N176 := Fr.app N174 N176q
      let Lb177 : Array Slot := #[.val (.int p0), .val (.int p1), .val (.int p2), .val (.ref (w 5)), .val (.ref (w 4)), .val (.int (1 : Int32)), .val (.int (1 : Int32)), .val (.int (1 : Int32)), .val (.int (1 : Int32))]
      obtain ⟨fs, hr, hrun, hended, hWm, hsame⟩ := X176.leave (v := some (.int (1 : Int32))) (fun h => by rw [Bd.returns] at h; cases h)
      refine ⟨_, _, pre166 _ ?_, hrun, hended, _, _, rfl, ?_, ⟨_, rfl⟩, hWm, hsame.mono (by decide) (by decide)⟩
      · show Steps p.tables e below (T165.setTop (mkF m 21 Lb147 [(.int p1), (.int p2), (.ref (w 4)), (.int (1 : Int32))])) _
        refine st168.trans ?_
        refine sn X168 hx hby at_24 (by decide) ?_
        refine sc X168 hx hby at_27 ?_
        refine sg (pc := 28) (pc' := 32) X168 hx hby at_28 (by decide) (by decide) ?_
        refine XS.istore X168.here hx rfl (hb hby at_32) rfl (l' := Lb169) rfl ?_
        refine sA X168 hx hby at_34 rfl rfl ?_
        show Steps p.tables e below (T168.setTop (mkF m 35 Lb169 [(.ref (w 5))])) _
        refine sI X168 hx hby at_35 rfl ?_
        refine sI X168 hx hby at_36 rfl ?_
        refine st170.trans ?_
        refine sa X170 hx hby at_40 rfl rfl ?_
        refine sI X170 hx hby at_42 rfl ?_
        refine sI X170 hx hby at_43 rfl ?_
        refine st171.trans ?_
        refine sn X171 hx hby at_47 (by decide) ?_
        refine sc X171 hx hby at_50 ?_
        refine sg (pc := 51) (pc' := 55) X171 hx hby at_51 (by decide) (by decide) ?_
        refine XS.istore X171.here hx rfl (hb hby at_55) rfl (l' := Lb172) rfl ?_
        refine sA X171 hx hby at_57 rfl rfl ?_
        show Steps p.tables e below (T171.setTop (mkF m 58 Lb172 [(.ref (w 5))])) _
        refine sI X171 hx hby at_58 rfl ?_
        refine sI X171 hx hby at_59 rfl ?_
        refine st173.trans ?_
        refine sa X173 hx hby at_63 rfl rfl ?_
        refine sI X173 hx hby at_65 rfl ?_
        refine sI X173 hx hby at_66 rfl ?_
        refine st174.trans ?_
        refine sn X174 hx hby at_70 (by decide) ?_
        refine sc X174 hx hby at_73 ?_
        refine sg (pc := 74) (pc' := 78) X174 hx hby at_74 (by decide) (by decide) ?_
        refine XS.istore X174.here hx rfl (hb hby at_78) rfl (l' := Lb175) rfl ?_
        refine sa X174 hx hby at_80 rfl rfl ?_
        show Steps p.tables e below (T174.setTop (mkF m 82 Lb175 [(.ref (w 4))])) _
        refine st176.trans ?_
        refine sA X176 hx hby at_85 rfl rfl ?_
        refine Jvm.RoadKit.acmp (g := (mkF m 86 Lb175 [(.ref (w 5)), (.ref (w 5))])) X176 hx rfl rfl rfl (pc0 := 86) (pc' := 89) (same := true) rfl (hb hby at_86) rfl (decide_eq_true rfl) (by decide) (by decide) ?_
        refine sc X176 hx hby at_89 ?_
        refine sg (pc := 90) (pc' := 94) X176 hx hby at_90 (by decide) (by decide) ?_
        refine XS.istore X176.here hx rfl (hb hby at_94) rfl (l' := Lb177) rfl ?_
        show Steps p.tables e below (T176.setTop (mkF m 96 Lb177 [])) _
        refine si X176 hx hby at_96 rfl ?_
        refine sN X176 hx hby at_98 (by decide) ?_
        refine si X176 hx hby at_101 rfl ?_
        refine sN X176 hx hby at_103 (by decide) ?_
        refine si X176 hx hby at_106 rfl ?_
        show Steps p.tables e below (T176.setTop (mkF m 108 Lb177 [(.int (1 : Int32))])) _
        refine sN X176 hx hby at_108 (by decide) ?_
        refine si X176 hx hby at_111 rfl ?_
        refine sN X176 hx hby at_113 (by decide) ?_
        refine sc X176 hx hby at_116 ?_
        refine sg (pc := 117) (pc' := 121) X176 hx hby at_117 (by decide) (by decide) ?_
        show Steps p.tables e below (T176.setTop (mkF m 121 Lb177 [(.int (1 : Int32))])) _
        exact retN X176 hx (t := .boolean) Bd.returns (by simp) (hb hby at_121) hr
      · show Q0 n0 _ T176.heap _
        rw [e176]
        exact ⟨rfl, N176⟩
    ·
     obtain ⟨cq178, kq178, q178a, q178b, q178c⟩ := isOf hZ e146 ((wd11 hW).ext O0.2)
     obtain ⟨_, _, ⟨T178, L178, kk178, nn178⟩, -, X178, ⟨Lc178, hQ178, l178, y178, z178⟩, st178⟩ := X146.virtualBack hx (y := ym5) (z := ym5) hown (mvT hZ (wk22 hw)) (mvT hZ (wk23 hw)) (notFace_of_selects (args := #[]) (mvT hZ (wk25 hw))) (mvT hZ (wk25 hw)) (mvT hZ (wk24 hw)) (by decide) (backOf (W := 0) (rm4_38 l Z a0 hw w hW [] p1 p2 h0 n0 O0 hc149 hc164) hZ (wk26 hw) (wk6 hw) (by decide) (by decide)) q178a q178c (g := (mkF m 14 Lb147 [(.int p2), (.int p1), (.ref (w 5))])) rfl (by rw [hml]; rfl) (Steps.refl _) (argsL := [(.int p1), (.int p2)]) (rest := []) (lenOf pds_4 rfl) rfl (by show 2 * 0 + _ ≤ _; exact Nat.le_of_eq rfl) (hb hby at_14) (fun _ _ => ⟨rfl, e146, (by decide : 0 + 0 ≤ _), (by decide : 0 + 0 ≤ _)⟩)
     dsimp only [Pt.U, Pt.locs, Pt.cells, Pt.slots] at X178 l178 y178 z178 st178 hQ178
     subst l178 y178 z178
     obtain ⟨rfl, N178q, e178⟩ := hQ178
     have N178 := Fr.app N146 N178q
     have pre179 : ∀ t, Steps p.tables e below (T178.setTop (mkF m 21 Lb147 [(.int p1), (.int p2), (.ref (w 4)), (.int (0 : Int32))])) t → Steps p.tables e below (s₁.setTop (entryFrame m #[(.int p0), (.int p1), (.int p2)] maxLocals)) t := fun t k => pre148 t (by
      show Steps p.tables e below (T146.setTop (mkF m 14 Lb147 [(.int p2), (.int p1), (.ref (w 5))])) _
      refine st178.trans ?_
      refine sa X178 hx hby at_17 rfl rfl ?_
      refine sI X178 hx hby at_19 rfl ?_
      refine sI X178 hx hby at_20 rfl ?_
      exact k)
     by_cases hc180 : p2 < p1
     ·
      obtain ⟨cq181, kq181, q181a, q181b, q181c⟩ := isOf hZ e178 ((wd9 hW).ext O0.2)
      obtain ⟨_, _, ⟨T181, L181, kk181, nn181⟩, -, X181, ⟨Lc181, hQ181, l181, y181, z181⟩, st181⟩ := X178.virtualBack hx (y := ym5) (z := ym5) hown (mvT hZ (wk22 hw)) (mvT hZ (wk23 hw)) (notFace_of_selects (args := #[]) (mvT hZ (wk25 hw))) (mvT hZ (wk25 hw)) (mvT hZ (wk24 hw)) (by decide) (backOf (W := 1) (rm4_39 l Z a0 hw w hW [] p2 p1 h0 n0 O0 hc180) hZ (wk26 hw) (wk6 hw) (by decide) (by decide)) q181a q181c (g := (mkF m 21 Lb147 [(.int p1), (.int p2), (.ref (w 4)), (.int (0 : Int32))])) rfl (by rw [hml]; rfl) (Steps.refl _) (argsL := [(.int p2), (.int p1)]) (rest := [(.int (0 : Int32))]) (lenOf pds_4 rfl) rfl (by show 2 * 0 + _ ≤ _; exact Nat.le_of_eq rfl) (hb hby at_21) (fun _ _ => ⟨rfl, e178, (by decide : 0 + 0 ≤ _), (by decide : 0 + 0 ≤ _)⟩)
      dsimp only [Pt.U, Pt.locs, Pt.cells, Pt.slots] at X181 l181 y181 z181 st181 hQ181
      subst l181 y181 z181
      obtain ⟨rfl, N181q, e181⟩ := hQ181
      have N181 := Fr.app N178 N181q
      let Lb182 : Array Slot := #[.val (.int p0), .val (.int p1), .val (.int p2), .val (.ref (w 5)), .val (.ref (w 4)), .val (.int (1 : Int32)), .unset, .unset, .unset]
      obtain ⟨cq183, kq183, q183a, q183b, q183c⟩ := isOf hZ e181 ((wd11 hW).ext O0.2)
      obtain ⟨_, _, ⟨T183, L183, kk183, nn183⟩, -, X183, ⟨Lc183, hQ183, l183, y183, z183⟩, st183⟩ := X181.virtualBack hx (y := ym5) (z := ym5) hown (mvT hZ (wk22 hw)) (mvT hZ (wk23 hw)) (notFace_of_selects (args := #[]) (mvT hZ (wk25 hw))) (mvT hZ (wk25 hw)) (mvT hZ (wk24 hw)) (by decide) (backOf (W := 0) (rm4_35 l Z a0 hw w hW [] p2 p1 h0 n0 O0 hc180) hZ (wk26 hw) (wk6 hw) (by decide) (by decide)) q183a q183c (g := (mkF m 37 Lb182 [(.int p1), (.int p2), (.ref (w 5))])) rfl (by rw [hml]; rfl) (Steps.refl _) (argsL := [(.int p2), (.int p1)]) (rest := []) (lenOf pds_4 rfl) rfl (by show 2 * 0 + _ ≤ _; exact Nat.le_of_eq rfl) (hb hby at_37) (fun _ _ => ⟨rfl, e181, (by decide : 0 + 0 ≤ _), (by decide : 0 + 0 ≤ _)⟩)
      dsimp only [Pt.U, Pt.locs, Pt.cells, Pt.slots] at X183 l183 y183 z183 st183 hQ183
      subst l183 y183 z183
      obtain ⟨rfl, N183q, e183⟩ := hQ183
      have N183 := Fr.app N181 N183q
      obtain ⟨cq184, kq184, q184a, q184b, q184c⟩ := isOf hZ e183 ((wd9 hW).ext O0.2)
      obtain ⟨_, _, ⟨T184, L184, kk184, nn184⟩, -, X184, ⟨Lc184, hQ184, l184, y184, z184⟩, st184⟩ := X183.virtualBack hx (y := ym5) (z := ym5) hown (mvT hZ (wk22 hw)) (mvT hZ (wk23 hw)) (notFace_of_selects (args := #[]) (mvT hZ (wk25 hw))) (mvT hZ (wk25 hw)) (mvT hZ (wk24 hw)) (by decide) (backOf (W := 1) (rm4_37 l Z a0 hw w hW [] p1 p2 h0 n0 O0 hc149 hc164) hZ (wk26 hw) (wk6 hw) (by decide) (by decide)) q184a q184c (g := (mkF m 44 Lb182 [(.int p2), (.int p1), (.ref (w 4)), (.int (1 : Int32))])) rfl (by rw [hml]; rfl) (Steps.refl _) (argsL := [(.int p1), (.int p2)]) (rest := [(.int (1 : Int32))]) (lenOf pds_4 rfl) rfl (by show 2 * 0 + _ ≤ _; exact Nat.le_of_eq rfl) (hb hby at_44) (fun _ _ => ⟨rfl, e183, (by decide : 0 + 0 ≤ _), (by decide : 0 + 0 ≤ _)⟩)
      dsimp only [Pt.U, Pt.locs, Pt.cells, Pt.slots] at X184 l184 y184 z184 st184 hQ184
      subst l184 y184 z184
      obtain ⟨rfl, N184q, e184⟩ := hQ184
      have N184 := Fr.app N183 N184q
      let Lb185 : Array Slot := #[.val (.int p0), .val (.int p1), .val (.int p2), .val (.ref (w 5)), .val (.ref (w 4)), .val (.int (1 : Int32)), .val (.int (1 : Int32)), .unset, .unset]
      obtain ⟨cq186, kq186, q186a, q186b, q186c⟩ := isOf hZ e184 ((wd11 hW).ext O0.2)
      obtain ⟨_, _, ⟨T186, L186, kk186, nn186⟩, -, X186, ⟨Lc186, hQ186, l186, y186, z186⟩, st186⟩ := X184.virtualBack hx (y := ym5) (z := ym5) hown (mvT hZ (wk22 hw)) (mvT hZ (wk23 hw)) (notFace_of_selects (args := #[]) (mvT hZ (wk25 hw))) (mvT hZ (wk25 hw)) (mvT hZ (wk24 hw)) (by decide) (backOf (W := 0) (rm4_40 l Z a0 hw w hW [] p1 h0 n0 O0 ) hZ (wk26 hw) (wk6 hw) (by decide) (by decide)) q186a q186c (g := (mkF m 60 Lb185 [(.int p1), (.int p1), (.ref (w 5))])) rfl (by rw [hml]; rfl) (Steps.refl _) (argsL := [(.int p1), (.int p1)]) (rest := []) (lenOf pds_4 rfl) rfl (by show 2 * 0 + _ ≤ _; exact Nat.le_of_eq rfl) (hb hby at_60) (fun _ _ => ⟨rfl, e184, (by decide : 0 + 0 ≤ _), (by decide : 0 + 0 ≤ _)⟩)
      dsimp only [Pt.U, Pt.locs, Pt.cells, Pt.slots] at X186 l186 y186 z186 st186 hQ186
      subst l186 y186 z186
      obtain ⟨rfl, N186q, e186⟩ := hQ186
      have N186 := Fr.app N184 N186q
      obtain ⟨cq187, kq187, q187a, q187b, q187c⟩ := isOf hZ e186 ((wd9 hW).ext O0.2)
      obtain ⟨_, _, ⟨T187, L187, kk187, nn187⟩, -, X187, ⟨Lc187, hQ187, l187, y187, z187⟩, st187⟩ := X186.virtualBack hx (y := ym5) (z := ym5) hown (mvT hZ (wk22 hw)) (mvT hZ (wk23 hw)) (notFace_of_selects (args := #[]) (mvT hZ (wk25 hw))) (mvT hZ (wk25 hw)) (mvT hZ (wk24 hw)) (by decide) (backOf (W := 1) (rm4_41 l Z a0 hw w hW [] p1 h0 n0 O0 ) hZ (wk26 hw) (wk6 hw) (by decide) (by decide)) q187a q187c (g := (mkF m 67 Lb185 [(.int p1), (.int p1), (.ref (w 4)), (.int (1 : Int32))])) rfl (by rw [hml]; rfl) (Steps.refl _) (argsL := [(.int p1), (.int p1)]) (rest := [(.int (1 : Int32))]) (lenOf pds_4 rfl) rfl (by show 2 * 0 + _ ≤ _; exact Nat.le_of_eq rfl) (hb hby at_67) (fun _ _ => ⟨rfl, e186, (by decide : 0 + 0 ≤ _), (by decide : 0 + 0 ≤ _)⟩)
      dsimp only [Pt.U, Pt.locs, Pt.cells, Pt.slots] at X187 l187 y187 z187 st187 hQ187
      subst l187 y187 z187
      obtain ⟨rfl, N187q, e187⟩ := hQ187
      have N187 := Fr.app N186 N187q
      let Lb188 : Array Slot := #[.val (.int p0), .val (.int p1), .val (.int p2), .val (.ref (w 5)), .val (.ref (w 4)), .val (.int (1 : Int32)), .val (.int (1 : Int32)), .val (.int (1 : Int32)), .unset]
      obtain ⟨cq189, kq189, q189a, q189b, q189c⟩ := isOf hZ e187 ((wd9 hW).ext O0.2)
      obtain ⟨_, _, ⟨T189, L189, kk189, nn189⟩, -, X189, ⟨Lc189, hQ189, l189, y189, z189⟩, st189⟩ := X187.virtualBack hx (y := ym3) (z := ym3) hown (mvT hZ (wk8 hw)) (mvT hZ (wk9 hw)) (notFace_of_selects (args := #[]) (mvT hZ (wk11 hw))) (mvT hZ (wk11 hw)) (mvT hZ (wk10 hw)) (by decide) (backOf (W := 0) (rm2_42 l Z a0 hw w hW []  h0 n0 O0 ) hZ (wk12 hw) (wk6 hw) (by decide) (by decide)) q189a q189c (g := (mkF m 82 Lb188 [(.ref (w 4))])) rfl (by rw [hml]; rfl) (Steps.refl _) (argsL := []) (rest := []) (lenOf pds_2 rfl) rfl (by show 2 * 0 + _ ≤ _; exact Nat.le_of_eq rfl) (hb hby at_82) (fun _ _ => ⟨rfl, e187, (by decide : 0 + 0 ≤ _), (by decide : 0 + 0 ≤ _)⟩)
      dsimp only [Pt.U, Pt.locs, Pt.cells, Pt.slots] at X189 l189 y189 z189 st189 hQ189
      subst l189 y189 z189
      obtain ⟨rfl, N189q, e189⟩ := hQ189
      have N189 := Fr.app N187 N189q
      let Lb190 : Array Slot := #[.val (.int p0), .val (.int p1), .val (.int p2), .val (.ref (w 5)), .val (.ref (w 4)), .val (.int (1 : Int32)), .val (.int (1 : Int32)), .val (.int (1 : Int32)), .val (.int (1 : Int32))]
      obtain ⟨fs, hr, hrun, hended, hWm, hsame⟩ := X189.leave (v := some (.int (1 : Int32))) (fun h => by rw [Bd.returns] at h; cases h)
      refine ⟨_, _, pre179 _ ?_, hrun, hended, _, _, rfl, ?_, ⟨_, rfl⟩, hWm, hsame.mono (by decide) (by decide)⟩
      · show Steps p.tables e below (T178.setTop (mkF m 21 Lb147 [(.int p1), (.int p2), (.ref (w 4)), (.int (0 : Int32))])) _
        refine st181.trans ?_
        refine sn X181 hx hby at_24 (by decide) ?_
        refine sc X181 hx hby at_27 ?_
        refine sg (pc := 28) (pc' := 32) X181 hx hby at_28 (by decide) (by decide) ?_
        refine XS.istore X181.here hx rfl (hb hby at_32) rfl (l' := Lb182) rfl ?_
        refine sA X181 hx hby at_34 rfl rfl ?_
        show Steps p.tables e below (T181.setTop (mkF m 35 Lb182 [(.ref (w 5))])) _
        refine sI X181 hx hby at_35 rfl ?_
        refine sI X181 hx hby at_36 rfl ?_
        refine st183.trans ?_
        refine sa X183 hx hby at_40 rfl rfl ?_
        refine sI X183 hx hby at_42 rfl ?_
        refine sI X183 hx hby at_43 rfl ?_
        refine st184.trans ?_
        refine sn X184 hx hby at_47 (by decide) ?_
        refine sc X184 hx hby at_50 ?_
        refine sg (pc := 51) (pc' := 55) X184 hx hby at_51 (by decide) (by decide) ?_
        refine XS.istore X184.here hx rfl (hb hby at_55) rfl (l' := Lb185) rfl ?_
        refine sA X184 hx hby at_57 rfl rfl ?_
        show Steps p.tables e below (T184.setTop (mkF m 58 Lb185 [(.ref (w 5))])) _
        refine sI X184 hx hby at_58 rfl ?_
        refine sI X184 hx hby at_59 rfl ?_
        refine st186.trans ?_
        refine sa X186 hx hby at_63 rfl rfl ?_
        refine sI X186 hx hby at_65 rfl ?_
        refine sI X186 hx hby at_66 rfl ?_
        refine st187.trans ?_
        refine sn X187 hx hby at_70 (by decide) ?_
        refine sc X187 hx hby at_73 ?_
        refine sg (pc := 74) (pc' := 78) X187 hx hby at_74 (by decide) (by decide) ?_
        refine XS.istore X187.here hx rfl (hb hby at_78) rfl (l' := Lb188) rfl ?_
        refine sa X187 hx hby at_80 rfl rfl ?_
        show Steps p.tables e below (T187.setTop (mkF m 82 Lb188 [(.ref (w 4))])) _
        refine st189.trans ?_
        refine sA X189 hx hby at_85 rfl rfl ?_
        refine Jvm.RoadKit.acmp (g := (mkF m 86 Lb188 [(.ref (w 5)), (.ref (w 5))])) X189 hx rfl rfl rfl (pc0 := 86) (pc' := 89) (same := true) rfl (hb hby at_86) rfl (decide_eq_true rfl) (by decide) (by decide) ?_
        refine sc X189 hx hby at_89 ?_
        refine sg (pc := 90) (pc' := 94) X189 hx hby at_90 (by decide) (by decide) ?_
        refine XS.istore X189.here hx rfl (hb hby at_94) rfl (l' := Lb190) rfl ?_
        show Steps p.tables e below (T189.setTop (mkF m 96 Lb190 [])) _
        refine si X189 hx hby at_96 rfl ?_
        refine sN X189 hx hby at_98 (by decide) ?_
        refine si X189 hx hby at_101 rfl ?_
        refine sN X189 hx hby at_103 (by decide) ?_
        refine si X189 hx hby at_106 rfl ?_
        show Steps p.tables e below (T189.setTop (mkF m 108 Lb190 [(.int (1 : Int32))])) _
        refine sN X189 hx hby at_108 (by decide) ?_
        refine si X189 hx hby at_111 rfl ?_
        refine sN X189 hx hby at_113 (by decide) ?_
        refine sc X189 hx hby at_116 ?_
        refine sg (pc := 117) (pc' := 121) X189 hx hby at_117 (by decide) (by decide) ?_
        show Steps p.tables e below (T189.setTop (mkF m 121 Lb190 [(.int (1 : Int32))])) _
        exact retN X189 hx (t := .boolean) Bd.returns (by simp) (hb hby at_121) hr
      · show Q0 n0 _ T189.heap _
        rw [e189]
        exact ⟨rfl, N189⟩
     ·
      exfalso
      have z3 := Int32.le_iff_toInt_le.mp (Int32.not_lt.mp hc149)
      have z4 : (p1).toInt ≠ (p2).toInt := fun q => hc164 (Int32.toInt_inj.mp q)
      have z5 := Int32.le_iff_toInt_le.mp (Int32.not_lt.mp hc180)
      have z1 := rng32 p1
      have z2 := rng32 p2
      omega
  ·
   obtain ⟨_, _, ⟨T191, L191, kk191, nn191⟩, -, X191, ⟨Lc191, hQ191, l191, y191, z191⟩, st191⟩ := Jvm.LawKit.callS X0 hx (y := ym0) hown (mvT hZ (wk0 hw)) (mvT hZ (wk1 hw)) (mvT hZ (wk2 hw)) (mvT hZ (wk3 hw)) (by decide) (backOf (W := 0) (rm1_45 l Z a0 hw w hW [] p0 h0 n0 O0 (by rw [hs2] <;> decide) (by rw [hs2] <;> decide) (by rw [hs2] <;> decide) (by rw [hs2] <;> decide) (by rw [hs2] <;> decide)) hZ (wk3 hw) (wk2 hw) (by decide) (by decide)) (g := (mkF m 1 La [(.int p0)])) rfl (by rw [hml]; rfl) (argsL := [(.int p0)]) (rest := []) (lenOf pds_0 rfl) rfl (by show 2 * 0 + _ ≤ _; exact Nat.le_of_eq rfl) (hb hby at_1) (fun _ _ => ⟨rfl, e0, (by decide : 0 + 0 ≤ _), (by decide : 0 + 0 ≤ _)⟩)
   dsimp only [Pt.U, Pt.locs, Pt.cells, Pt.slots] at X191 l191 y191 z191 st191 hQ191
   subst l191 y191 z191
   obtain ⟨rfl, N191q, e191⟩ := hQ191
   have N191 := Fr.app N0 N191q
   let Lb192 : Array Slot := #[.val (.int p0), .val (.int p1), .val (.int p2), .val (.ref (w 3)), .unset, .unset, .unset, .unset, .unset]
   obtain ⟨cq193, kq193, q193a, q193b, q193c⟩ := isOf hZ e191 ((wd7 hW).ext O0.2)
   obtain ⟨_, _, ⟨T193, L193, kk193, nn193⟩, -, X193, ⟨Lc193, hQ193, l193, y193, z193⟩, st193⟩ := X191.virtualBack hx (y := ym3) (z := ym3) hown (mvT hZ (wk8 hw)) (mvT hZ (wk9 hw)) (notFace_of_selects (args := #[]) (mvT hZ (wk11 hw))) (mvT hZ (wk11 hw)) (mvT hZ (wk10 hw)) (by decide) (backOf (W := 0) (rm2_29 l Z a0 hw w hW []  h0 n0 O0 ) hZ (wk12 hw) (wk6 hw) (by decide) (by decide)) q193a q193c (g := (mkF m 6 Lb192 [(.ref (w 3))])) rfl (by rw [hml]; rfl) (Steps.refl _) (argsL := []) (rest := []) (lenOf pds_2 rfl) rfl (by show 2 * 0 + _ ≤ _; exact Nat.le_of_eq rfl) (hb hby at_6) (fun _ _ => ⟨rfl, e191, (by decide : 0 + 0 ≤ _), (by decide : 0 + 0 ≤ _)⟩)
   dsimp only [Pt.U, Pt.locs, Pt.cells, Pt.slots] at X193 l193 y193 z193 st193 hQ193
   subst l193 y193 z193
   obtain ⟨rfl, N193q, e193⟩ := hQ193
   have N193 := Fr.app N191 N193q
   let Lb194 : Array Slot := #[.val (.int p0), .val (.int p1), .val (.int p2), .val (.ref (w 3)), .val (.ref (w 2)), .unset, .unset, .unset, .unset]
   have pre195 : ∀ t, Steps p.tables e below (T193.setTop (mkF m 14 Lb194 [(.int p2), (.int p1), (.ref (w 3))])) t → Steps p.tables e below (s₁.setTop (entryFrame m #[(.int p0), (.int p1), (.int p2)] maxLocals)) t := fun t k => pre1 t (by
    show Steps p.tables e below (s₁.setTop (mkF m 1 La [(.int p0)])) _
    refine st191 _ ?_
    refine XS.astoreN X191.here hx rfl (hb hby at_4) rfl rfl (l' := Lb192) rfl ?_
    refine sA X191 hx hby at_5 rfl rfl ?_
    refine st193.trans ?_
    refine XS.astore X193.here hx rfl (hb hby at_9) rfl rfl (l' := Lb194) rfl ?_
    refine sA X193 hx hby at_11 rfl rfl ?_
    refine sI X193 hx hby at_12 rfl ?_
    refine sI X193 hx hby at_13 rfl ?_
    exact k)
   by_cases hc196 : p1 < p2
   ·
    obtain ⟨cq197, kq197, q197a, q197b, q197c⟩ := isOf hZ e193 ((wd7 hW).ext O0.2)
    obtain ⟨_, _, ⟨T197, L197, kk197, nn197⟩, -, X197, ⟨Lc197, hQ197, l197, y197, z197⟩, st197⟩ := X193.virtualBack hx (y := ym5) (z := ym5) hown (mvT hZ (wk22 hw)) (mvT hZ (wk23 hw)) (notFace_of_selects (args := #[]) (mvT hZ (wk25 hw))) (mvT hZ (wk25 hw)) (mvT hZ (wk24 hw)) (by decide) (backOf (W := 0) (rm4_26 l Z a0 hw w hW [] p1 p2 h0 n0 O0 hc196) hZ (wk26 hw) (wk6 hw) (by decide) (by decide)) q197a q197c (g := (mkF m 14 Lb194 [(.int p2), (.int p1), (.ref (w 3))])) rfl (by rw [hml]; rfl) (Steps.refl _) (argsL := [(.int p1), (.int p2)]) (rest := []) (lenOf pds_4 rfl) rfl (by show 2 * 0 + _ ≤ _; exact Nat.le_of_eq rfl) (hb hby at_14) (fun _ _ => ⟨rfl, e193, (by decide : 0 + 0 ≤ _), (by decide : 0 + 0 ≤ _)⟩)
    dsimp only [Pt.U, Pt.locs, Pt.cells, Pt.slots] at X197 l197 y197 z197 st197 hQ197
    subst l197 y197 z197
    obtain ⟨rfl, N197q, e197⟩ := hQ197
    have N197 := Fr.app N193 N197q
    have pre198 : ∀ t, Steps p.tables e below (T197.setTop (mkF m 21 Lb194 [(.int p1), (.int p2), (.ref (w 2)), (.int (0 : Int32))])) t → Steps p.tables e below (s₁.setTop (entryFrame m #[(.int p0), (.int p1), (.int p2)] maxLocals)) t := fun t k => pre195 t (by
     show Steps p.tables e below (T193.setTop (mkF m 14 Lb194 [(.int p2), (.int p1), (.ref (w 3))])) _
     refine st197.trans ?_
     refine sa X197 hx hby at_17 rfl rfl ?_
     refine sI X197 hx hby at_19 rfl ?_
     refine sI X197 hx hby at_20 rfl ?_
     exact k)
    by_cases hc199 : p2 < p1
    ·
     exfalso
     have z3 := Int32.lt_iff_toInt_lt.mp hc196
     have z4 := Int32.lt_iff_toInt_lt.mp hc199
     have z1 := rng32 p1
     have z2 := rng32 p2
     omega
    ·
     by_cases hc200 : p2 = p1
     ·
      exfalso
      have z3 := Int32.lt_iff_toInt_lt.mp hc196
      have z4 := Int32.le_iff_toInt_le.mp (Int32.not_lt.mp hc199)
      have z5 := congrArg Int32.toInt hc200
      have z1 := rng32 p1
      have z2 := rng32 p2
      omega
     ·
      obtain ⟨cq201, kq201, q201a, q201b, q201c⟩ := isOf hZ e197 ((wd5 hW).ext O0.2)
      obtain ⟨_, _, ⟨T201, L201, kk201, nn201⟩, -, X201, ⟨Lc201, hQ201, l201, y201, z201⟩, st201⟩ := X197.virtualBack hx (y := ym5) (z := ym5) hown (mvT hZ (wk22 hw)) (mvT hZ (wk23 hw)) (notFace_of_selects (args := #[]) (mvT hZ (wk25 hw))) (mvT hZ (wk25 hw)) (mvT hZ (wk24 hw)) (by decide) (backOf (W := 1) (rm4_25 l Z a0 hw w hW [] p2 p1 h0 n0 O0 hc199 hc200) hZ (wk26 hw) (wk6 hw) (by decide) (by decide)) q201a q201c (g := (mkF m 21 Lb194 [(.int p1), (.int p2), (.ref (w 2)), (.int (0 : Int32))])) rfl (by rw [hml]; rfl) (Steps.refl _) (argsL := [(.int p2), (.int p1)]) (rest := [(.int (0 : Int32))]) (lenOf pds_4 rfl) rfl (by show 2 * 0 + _ ≤ _; exact Nat.le_of_eq rfl) (hb hby at_21) (fun _ _ => ⟨rfl, e197, (by decide : 0 + 0 ≤ _), (by decide : 0 + 0 ≤ _)⟩)
      dsimp only [Pt.U, Pt.locs, Pt.cells, Pt.slots] at X201 l201 y201 z201 st201 hQ201
      subst l201 y201 z201
      obtain ⟨rfl, N201q, e201⟩ := hQ201
      have N201 := Fr.app N197 N201q
      let Lb202 : Array Slot := #[.val (.int p0), .val (.int p1), .val (.int p2), .val (.ref (w 3)), .val (.ref (w 2)), .val (.int (1 : Int32)), .unset, .unset, .unset]
      obtain ⟨cq203, kq203, q203a, q203b, q203c⟩ := isOf hZ e201 ((wd7 hW).ext O0.2)
      obtain ⟨_, _, ⟨T203, L203, kk203, nn203⟩, -, X203, ⟨Lc203, hQ203, l203, y203, z203⟩, st203⟩ := X201.virtualBack hx (y := ym5) (z := ym5) hown (mvT hZ (wk22 hw)) (mvT hZ (wk23 hw)) (notFace_of_selects (args := #[]) (mvT hZ (wk25 hw))) (mvT hZ (wk25 hw)) (mvT hZ (wk24 hw)) (by decide) (backOf (W := 0) (rm4_24 l Z a0 hw w hW [] p2 p1 h0 n0 O0 hc199 hc200) hZ (wk26 hw) (wk6 hw) (by decide) (by decide)) q203a q203c (g := (mkF m 37 Lb202 [(.int p1), (.int p2), (.ref (w 3))])) rfl (by rw [hml]; rfl) (Steps.refl _) (argsL := [(.int p2), (.int p1)]) (rest := []) (lenOf pds_4 rfl) rfl (by show 2 * 0 + _ ≤ _; exact Nat.le_of_eq rfl) (hb hby at_37) (fun _ _ => ⟨rfl, e201, (by decide : 0 + 0 ≤ _), (by decide : 0 + 0 ≤ _)⟩)
      dsimp only [Pt.U, Pt.locs, Pt.cells, Pt.slots] at X203 l203 y203 z203 st203 hQ203
      subst l203 y203 z203
      obtain ⟨rfl, N203q, e203⟩ := hQ203
      have N203 := Fr.app N201 N203q
      obtain ⟨cq204, kq204, q204a, q204b, q204c⟩ := isOf hZ e203 ((wd5 hW).ext O0.2)
      obtain ⟨_, _, ⟨T204, L204, kk204, nn204⟩, -, X204, ⟨Lc204, hQ204, l204, y204, z204⟩, st204⟩ := X203.virtualBack hx (y := ym5) (z := ym5) hown (mvT hZ (wk22 hw)) (mvT hZ (wk23 hw)) (notFace_of_selects (args := #[]) (mvT hZ (wk25 hw))) (mvT hZ (wk25 hw)) (mvT hZ (wk24 hw)) (by decide) (backOf (W := 1) (rm4_22 l Z a0 hw w hW [] p1 p2 h0 n0 O0 hc196) hZ (wk26 hw) (wk6 hw) (by decide) (by decide)) q204a q204c (g := (mkF m 44 Lb202 [(.int p2), (.int p1), (.ref (w 2)), (.int (1 : Int32))])) rfl (by rw [hml]; rfl) (Steps.refl _) (argsL := [(.int p1), (.int p2)]) (rest := [(.int (1 : Int32))]) (lenOf pds_4 rfl) rfl (by show 2 * 0 + _ ≤ _; exact Nat.le_of_eq rfl) (hb hby at_44) (fun _ _ => ⟨rfl, e203, (by decide : 0 + 0 ≤ _), (by decide : 0 + 0 ≤ _)⟩)
      dsimp only [Pt.U, Pt.locs, Pt.cells, Pt.slots] at X204 l204 y204 z204 st204 hQ204
      subst l204 y204 z204
      obtain ⟨rfl, N204q, e204⟩ := hQ204
      have N204 := Fr.app N203 N204q
      let Lb205 : Array Slot := #[.val (.int p0), .val (.int p1), .val (.int p2), .val (.ref (w 3)), .val (.ref (w 2)), .val (.int (1 : Int32)), .val (.int (1 : Int32)), .unset, .unset]
      obtain ⟨cq206, kq206, q206a, q206b, q206c⟩ := isOf hZ e204 ((wd7 hW).ext O0.2)
      obtain ⟨_, _, ⟨T206, L206, kk206, nn206⟩, -, X206, ⟨Lc206, hQ206, l206, y206, z206⟩, st206⟩ := X204.virtualBack hx (y := ym5) (z := ym5) hown (mvT hZ (wk22 hw)) (mvT hZ (wk23 hw)) (notFace_of_selects (args := #[]) (mvT hZ (wk25 hw))) (mvT hZ (wk25 hw)) (mvT hZ (wk24 hw)) (by decide) (backOf (W := 0) (rm4_28 l Z a0 hw w hW [] p1 h0 n0 O0 ) hZ (wk26 hw) (wk6 hw) (by decide) (by decide)) q206a q206c (g := (mkF m 60 Lb205 [(.int p1), (.int p1), (.ref (w 3))])) rfl (by rw [hml]; rfl) (Steps.refl _) (argsL := [(.int p1), (.int p1)]) (rest := []) (lenOf pds_4 rfl) rfl (by show 2 * 0 + _ ≤ _; exact Nat.le_of_eq rfl) (hb hby at_60) (fun _ _ => ⟨rfl, e204, (by decide : 0 + 0 ≤ _), (by decide : 0 + 0 ≤ _)⟩)
      dsimp only [Pt.U, Pt.locs, Pt.cells, Pt.slots] at X206 l206 y206 z206 st206 hQ206
      subst l206 y206 z206
      obtain ⟨rfl, N206q, e206⟩ := hQ206
      have N206 := Fr.app N204 N206q
      obtain ⟨cq207, kq207, q207a, q207b, q207c⟩ := isOf hZ e206 ((wd5 hW).ext O0.2)
      obtain ⟨_, _, ⟨T207, L207, kk207, nn207⟩, -, X207, ⟨Lc207, hQ207, l207, y207, z207⟩, st207⟩ := X206.virtualBack hx (y := ym5) (z := ym5) hown (mvT hZ (wk22 hw)) (mvT hZ (wk23 hw)) (notFace_of_selects (args := #[]) (mvT hZ (wk25 hw))) (mvT hZ (wk25 hw)) (mvT hZ (wk24 hw)) (by decide) (backOf (W := 1) (rm4_27 l Z a0 hw w hW [] p1 h0 n0 O0 ) hZ (wk26 hw) (wk6 hw) (by decide) (by decide)) q207a q207c (g := (mkF m 67 Lb205 [(.int p1), (.int p1), (.ref (w 2)), (.int (0 : Int32))])) rfl (by rw [hml]; rfl) (Steps.refl _) (argsL := [(.int p1), (.int p1)]) (rest := [(.int (0 : Int32))]) (lenOf pds_4 rfl) rfl (by show 2 * 0 + _ ≤ _; exact Nat.le_of_eq rfl) (hb hby at_67) (fun _ _ => ⟨rfl, e206, (by decide : 0 + 0 ≤ _), (by decide : 0 + 0 ≤ _)⟩)
      dsimp only [Pt.U, Pt.locs, Pt.cells, Pt.slots] at X207 l207 y207 z207 st207 hQ207
      subst l207 y207 z207
      obtain ⟨rfl, N207q, e207⟩ := hQ207
      have N207 := Fr.app N206 N207q
      let Lb208 : Array Slot := #[.val (.int p0), .val (.int p1), .val (.int p2), .val (.ref (w 3)), .val (.ref (w 2)), .val (.int (1 : Int32)), .val (.int (1 : Int32)), .val (.int (1 : Int32)), .unset]
      obtain ⟨cq209, kq209, q209a, q209b, q209c⟩ := isOf hZ e207 ((wd5 hW).ext O0.2)
      obtain ⟨_, _, ⟨T209, L209, kk209, nn209⟩, -, X209, ⟨Lc209, hQ209, l209, y209, z209⟩, st209⟩ := X207.virtualBack hx (y := ym3) (z := ym3) hown (mvT hZ (wk8 hw)) (mvT hZ (wk9 hw)) (notFace_of_selects (args := #[]) (mvT hZ (wk11 hw))) (mvT hZ (wk11 hw)) (mvT hZ (wk10 hw)) (by decide) (backOf (W := 0) (rm2_21 l Z a0 hw w hW []  h0 n0 O0 ) hZ (wk12 hw) (wk6 hw) (by decide) (by decide)) q209a q209c (g := (mkF m 82 Lb208 [(.ref (w 2))])) rfl (by rw [hml]; rfl) (Steps.refl _) (argsL := []) (rest := []) (lenOf pds_2 rfl) rfl (by show 2 * 0 + _ ≤ _; exact Nat.le_of_eq rfl) (hb hby at_82) (fun _ _ => ⟨rfl, e207, (by decide : 0 + 0 ≤ _), (by decide : 0 + 0 ≤ _)⟩)
      dsimp only [Pt.U, Pt.locs, Pt.cells, Pt.slots] at X209 l209 y209 z209 st209 hQ209
      subst l209 y209 z209
      obtain ⟨rfl, N209q, e209⟩ := hQ209
      have N209 := Fr.app N207 N209q
      let Lb210 : Array Slot := #[.val (.int p0), .val (.int p1), .val (.int p2), .val (.ref (w 3)), .val (.ref (w 2)), .val (.int (1 : Int32)), .val (.int (1 : Int32)), .val (.int (1 : Int32)), .val (.int (1 : Int32))]
      obtain ⟨fs, hr, hrun, hended, hWm, hsame⟩ := X209.leave (v := some (.int (1 : Int32))) (fun h => by rw [Bd.returns] at h; cases h)
      refine ⟨_, _, pre198 _ ?_, hrun, hended, _, _, rfl, ?_, ⟨_, rfl⟩, hWm, hsame.mono (by decide) (by decide)⟩
      · show Steps p.tables e below (T197.setTop (mkF m 21 Lb194 [(.int p1), (.int p2), (.ref (w 2)), (.int (0 : Int32))])) _
        refine st201.trans ?_
        refine sn X201 hx hby at_24 (by decide) ?_
        refine sc X201 hx hby at_27 ?_
        refine sg (pc := 28) (pc' := 32) X201 hx hby at_28 (by decide) (by decide) ?_
        refine XS.istore X201.here hx rfl (hb hby at_32) rfl (l' := Lb202) rfl ?_
        refine sA X201 hx hby at_34 rfl rfl ?_
        show Steps p.tables e below (T201.setTop (mkF m 35 Lb202 [(.ref (w 3))])) _
        refine sI X201 hx hby at_35 rfl ?_
        refine sI X201 hx hby at_36 rfl ?_
        refine st203.trans ?_
        refine sa X203 hx hby at_40 rfl rfl ?_
        refine sI X203 hx hby at_42 rfl ?_
        refine sI X203 hx hby at_43 rfl ?_
        refine st204.trans ?_
        refine sn X204 hx hby at_47 (by decide) ?_
        refine sc X204 hx hby at_50 ?_
        refine sg (pc := 51) (pc' := 55) X204 hx hby at_51 (by decide) (by decide) ?_
        refine XS.istore X204.here hx rfl (hb hby at_55) rfl (l' := Lb205) rfl ?_
        refine sA X204 hx hby at_57 rfl rfl ?_
        show Steps p.tables e below (T204.setTop (mkF m 58 Lb205 [(.ref (w 3))])) _
        refine sI X204 hx hby at_58 rfl ?_
        refine sI X204 hx hby at_59 rfl ?_
        refine st206.trans ?_
        refine sa X206 hx hby at_63 rfl rfl ?_
        refine sI X206 hx hby at_65 rfl ?_
        refine sI X206 hx hby at_66 rfl ?_
        refine st207.trans ?_
        refine sn X207 hx hby at_70 (by decide) ?_
        refine sc X207 hx hby at_73 ?_
        refine sg (pc := 74) (pc' := 78) X207 hx hby at_74 (by decide) (by decide) ?_
        refine XS.istore X207.here hx rfl (hb hby at_78) rfl (l' := Lb208) rfl ?_
        refine sa X207 hx hby at_80 rfl rfl ?_
        show Steps p.tables e below (T207.setTop (mkF m 82 Lb208 [(.ref (w 2))])) _
        refine st209.trans ?_
        refine sA X209 hx hby at_85 rfl rfl ?_
        refine Jvm.RoadKit.acmp (g := (mkF m 86 Lb208 [(.ref (w 3)), (.ref (w 3))])) X209 hx rfl rfl rfl (pc0 := 86) (pc' := 89) (same := true) rfl (hb hby at_86) rfl (decide_eq_true rfl) (by decide) (by decide) ?_
        refine sc X209 hx hby at_89 ?_
        refine sg (pc := 90) (pc' := 94) X209 hx hby at_90 (by decide) (by decide) ?_
        refine XS.istore X209.here hx rfl (hb hby at_94) rfl (l' := Lb210) rfl ?_
        show Steps p.tables e below (T209.setTop (mkF m 96 Lb210 [])) _
        refine si X209 hx hby at_96 rfl ?_
        refine sN X209 hx hby at_98 (by decide) ?_
        refine si X209 hx hby at_101 rfl ?_
        refine sN X209 hx hby at_103 (by decide) ?_
        refine si X209 hx hby at_106 rfl ?_
        show Steps p.tables e below (T209.setTop (mkF m 108 Lb210 [(.int (1 : Int32))])) _
        refine sN X209 hx hby at_108 (by decide) ?_
        refine si X209 hx hby at_111 rfl ?_
        refine sN X209 hx hby at_113 (by decide) ?_
        refine sc X209 hx hby at_116 ?_
        refine sg (pc := 117) (pc' := 121) X209 hx hby at_117 (by decide) (by decide) ?_
        show Steps p.tables e below (T209.setTop (mkF m 121 Lb210 [(.int (1 : Int32))])) _
        exact retN X209 hx (t := .boolean) Bd.returns (by simp) (hb hby at_121) hr
      · show Q0 n0 _ T209.heap _
        rw [e209]
        exact ⟨rfl, N209⟩
   ·
    by_cases hc211 : p1 = p2
    ·
     obtain ⟨cq212, kq212, q212a, q212b, q212c⟩ := isOf hZ e193 ((wd7 hW).ext O0.2)
     obtain ⟨_, _, ⟨T212, L212, kk212, nn212⟩, -, X212, ⟨Lc212, hQ212, l212, y212, z212⟩, st212⟩ := X193.virtualBack hx (y := ym5) (z := ym5) hown (mvT hZ (wk22 hw)) (mvT hZ (wk23 hw)) (notFace_of_selects (args := #[]) (mvT hZ (wk25 hw))) (mvT hZ (wk25 hw)) (mvT hZ (wk24 hw)) (by decide) (backOf (W := 0) (rm4_31 l Z a0 hw w hW [] p1 p2 h0 n0 O0 hc196 hc211) hZ (wk26 hw) (wk6 hw) (by decide) (by decide)) q212a q212c (g := (mkF m 14 Lb194 [(.int p2), (.int p1), (.ref (w 3))])) rfl (by rw [hml]; rfl) (Steps.refl _) (argsL := [(.int p1), (.int p2)]) (rest := []) (lenOf pds_4 rfl) rfl (by show 2 * 0 + _ ≤ _; exact Nat.le_of_eq rfl) (hb hby at_14) (fun _ _ => ⟨rfl, e193, (by decide : 0 + 0 ≤ _), (by decide : 0 + 0 ≤ _)⟩)
     dsimp only [Pt.U, Pt.locs, Pt.cells, Pt.slots] at X212 l212 y212 z212 st212 hQ212
     subst l212 y212 z212
     obtain ⟨rfl, N212q, e212⟩ := hQ212
     have N212 := Fr.app N193 N212q
     have pre213 : ∀ t, Steps p.tables e below (T212.setTop (mkF m 21 Lb194 [(.int p1), (.int p2), (.ref (w 2)), (.int (0 : Int32))])) t → Steps p.tables e below (s₁.setTop (entryFrame m #[(.int p0), (.int p1), (.int p2)] maxLocals)) t := fun t k => pre195 t (by
      show Steps p.tables e below (T193.setTop (mkF m 14 Lb194 [(.int p2), (.int p1), (.ref (w 3))])) _
      refine st212.trans ?_
      refine sa X212 hx hby at_17 rfl rfl ?_
      refine sI X212 hx hby at_19 rfl ?_
      refine sI X212 hx hby at_20 rfl ?_
      exact k)
     by_cases hc214 : p2 < p1
     ·
      exfalso
      have z3 := Int32.le_iff_toInt_le.mp (Int32.not_lt.mp hc196)
      have z4 := congrArg Int32.toInt hc211
      have z5 := Int32.lt_iff_toInt_lt.mp hc214
      have z1 := rng32 p1
      have z2 := rng32 p2
      omega
     ·
      obtain ⟨cq215, kq215, q215a, q215b, q215c⟩ := isOf hZ e212 ((wd5 hW).ext O0.2)
      obtain ⟨_, _, ⟨T215, L215, kk215, nn215⟩, -, X215, ⟨Lc215, hQ215, l215, y215, z215⟩, st215⟩ := X212.virtualBack hx (y := ym5) (z := ym5) hown (mvT hZ (wk22 hw)) (mvT hZ (wk23 hw)) (notFace_of_selects (args := #[]) (mvT hZ (wk25 hw))) (mvT hZ (wk25 hw)) (mvT hZ (wk24 hw)) (by decide) (backOf (W := 1) (rm4_30 l Z a0 hw w hW [] p2 p1 h0 n0 O0 hc214 (Eq.symm hc211)) hZ (wk26 hw) (wk6 hw) (by decide) (by decide)) q215a q215c (g := (mkF m 21 Lb194 [(.int p1), (.int p2), (.ref (w 2)), (.int (0 : Int32))])) rfl (by rw [hml]; rfl) (Steps.refl _) (argsL := [(.int p2), (.int p1)]) (rest := [(.int (0 : Int32))]) (lenOf pds_4 rfl) rfl (by show 2 * 0 + _ ≤ _; exact Nat.le_of_eq rfl) (hb hby at_21) (fun _ _ => ⟨rfl, e212, (by decide : 0 + 0 ≤ _), (by decide : 0 + 0 ≤ _)⟩)
      dsimp only [Pt.U, Pt.locs, Pt.cells, Pt.slots] at X215 l215 y215 z215 st215 hQ215
      subst l215 y215 z215
      obtain ⟨rfl, N215q, e215⟩ := hQ215
      have N215 := Fr.app N212 N215q
      let Lb216 : Array Slot := #[.val (.int p0), .val (.int p1), .val (.int p2), .val (.ref (w 3)), .val (.ref (w 2)), .val (.int (1 : Int32)), .unset, .unset, .unset]
      obtain ⟨cq217, kq217, q217a, q217b, q217c⟩ := isOf hZ e215 ((wd7 hW).ext O0.2)
      obtain ⟨_, _, ⟨T217, L217, kk217, nn217⟩, -, X217, ⟨Lc217, hQ217, l217, y217, z217⟩, st217⟩ := X215.virtualBack hx (y := ym5) (z := ym5) hown (mvT hZ (wk22 hw)) (mvT hZ (wk23 hw)) (notFace_of_selects (args := #[]) (mvT hZ (wk25 hw))) (mvT hZ (wk25 hw)) (mvT hZ (wk24 hw)) (by decide) (backOf (W := 0) (rm4_31 l Z a0 hw w hW [] p2 p1 h0 n0 O0 hc214 (Eq.symm hc211)) hZ (wk26 hw) (wk6 hw) (by decide) (by decide)) q217a q217c (g := (mkF m 37 Lb216 [(.int p1), (.int p2), (.ref (w 3))])) rfl (by rw [hml]; rfl) (Steps.refl _) (argsL := [(.int p2), (.int p1)]) (rest := []) (lenOf pds_4 rfl) rfl (by show 2 * 0 + _ ≤ _; exact Nat.le_of_eq rfl) (hb hby at_37) (fun _ _ => ⟨rfl, e215, (by decide : 0 + 0 ≤ _), (by decide : 0 + 0 ≤ _)⟩)
      dsimp only [Pt.U, Pt.locs, Pt.cells, Pt.slots] at X217 l217 y217 z217 st217 hQ217
      subst l217 y217 z217
      obtain ⟨rfl, N217q, e217⟩ := hQ217
      have N217 := Fr.app N215 N217q
      obtain ⟨cq218, kq218, q218a, q218b, q218c⟩ := isOf hZ e217 ((wd5 hW).ext O0.2)
      obtain ⟨_, _, ⟨T218, L218, kk218, nn218⟩, -, X218, ⟨Lc218, hQ218, l218, y218, z218⟩, st218⟩ := X217.virtualBack hx (y := ym5) (z := ym5) hown (mvT hZ (wk22 hw)) (mvT hZ (wk23 hw)) (notFace_of_selects (args := #[]) (mvT hZ (wk25 hw))) (mvT hZ (wk25 hw)) (mvT hZ (wk24 hw)) (by decide) (backOf (W := 1) (rm4_30 l Z a0 hw w hW [] p1 p2 h0 n0 O0 hc196 hc211) hZ (wk26 hw) (wk6 hw) (by decide) (by decide)) q218a q218c (g := (mkF m 44 Lb216 [(.int p2), (.int p1), (.ref (w 2)), (.int (0 : Int32))])) rfl (by rw [hml]; rfl) (Steps.refl _) (argsL := [(.int p1), (.int p2)]) (rest := [(.int (0 : Int32))]) (lenOf pds_4 rfl) rfl (by show 2 * 0 + _ ≤ _; exact Nat.le_of_eq rfl) (hb hby at_44) (fun _ _ => ⟨rfl, e217, (by decide : 0 + 0 ≤ _), (by decide : 0 + 0 ≤ _)⟩)
      dsimp only [Pt.U, Pt.locs, Pt.cells, Pt.slots] at X218 l218 y218 z218 st218 hQ218
      subst l218 y218 z218
      obtain ⟨rfl, N218q, e218⟩ := hQ218
      have N218 := Fr.app N217 N218q
      let Lb219 : Array Slot := #[.val (.int p0), .val (.int p1), .val (.int p2), .val (.ref (w 3)), .val (.ref (w 2)), .val (.int (1 : Int32)), .val (.int (1 : Int32)), .unset, .unset]
      obtain ⟨cq220, kq220, q220a, q220b, q220c⟩ := isOf hZ e218 ((wd7 hW).ext O0.2)
      obtain ⟨_, _, ⟨T220, L220, kk220, nn220⟩, -, X220, ⟨Lc220, hQ220, l220, y220, z220⟩, st220⟩ := X218.virtualBack hx (y := ym5) (z := ym5) hown (mvT hZ (wk22 hw)) (mvT hZ (wk23 hw)) (notFace_of_selects (args := #[]) (mvT hZ (wk25 hw))) (mvT hZ (wk25 hw)) (mvT hZ (wk24 hw)) (by decide) (backOf (W := 0) (rm4_28 l Z a0 hw w hW [] p1 h0 n0 O0 ) hZ (wk26 hw) (wk6 hw) (by decide) (by decide)) q220a q220c (g := (mkF m 60 Lb219 [(.int p1), (.int p1), (.ref (w 3))])) rfl (by rw [hml]; rfl) (Steps.refl _) (argsL := [(.int p1), (.int p1)]) (rest := []) (lenOf pds_4 rfl) rfl (by show 2 * 0 + _ ≤ _; exact Nat.le_of_eq rfl) (hb hby at_60) (fun _ _ => ⟨rfl, e218, (by decide : 0 + 0 ≤ _), (by decide : 0 + 0 ≤ _)⟩)
      dsimp only [Pt.U, Pt.locs, Pt.cells, Pt.slots] at X220 l220 y220 z220 st220 hQ220
      subst l220 y220 z220
      obtain ⟨rfl, N220q, e220⟩ := hQ220
      have N220 := Fr.app N218 N220q
      obtain ⟨cq221, kq221, q221a, q221b, q221c⟩ := isOf hZ e220 ((wd5 hW).ext O0.2)
      obtain ⟨_, _, ⟨T221, L221, kk221, nn221⟩, -, X221, ⟨Lc221, hQ221, l221, y221, z221⟩, st221⟩ := X220.virtualBack hx (y := ym5) (z := ym5) hown (mvT hZ (wk22 hw)) (mvT hZ (wk23 hw)) (notFace_of_selects (args := #[]) (mvT hZ (wk25 hw))) (mvT hZ (wk25 hw)) (mvT hZ (wk24 hw)) (by decide) (backOf (W := 1) (rm4_27 l Z a0 hw w hW [] p1 h0 n0 O0 ) hZ (wk26 hw) (wk6 hw) (by decide) (by decide)) q221a q221c (g := (mkF m 67 Lb219 [(.int p1), (.int p1), (.ref (w 2)), (.int (0 : Int32))])) rfl (by rw [hml]; rfl) (Steps.refl _) (argsL := [(.int p1), (.int p1)]) (rest := [(.int (0 : Int32))]) (lenOf pds_4 rfl) rfl (by show 2 * 0 + _ ≤ _; exact Nat.le_of_eq rfl) (hb hby at_67) (fun _ _ => ⟨rfl, e220, (by decide : 0 + 0 ≤ _), (by decide : 0 + 0 ≤ _)⟩)
      dsimp only [Pt.U, Pt.locs, Pt.cells, Pt.slots] at X221 l221 y221 z221 st221 hQ221
      subst l221 y221 z221
      obtain ⟨rfl, N221q, e221⟩ := hQ221
      have N221 := Fr.app N220 N221q
      let Lb222 : Array Slot := #[.val (.int p0), .val (.int p1), .val (.int p2), .val (.ref (w 3)), .val (.ref (w 2)), .val (.int (1 : Int32)), .val (.int (1 : Int32)), .val (.int (1 : Int32)), .unset]
      obtain ⟨cq223, kq223, q223a, q223b, q223c⟩ := isOf hZ e221 ((wd5 hW).ext O0.2)
      obtain ⟨_, _, ⟨T223, L223, kk223, nn223⟩, -, X223, ⟨Lc223, hQ223, l223, y223, z223⟩, st223⟩ := X221.virtualBack hx (y := ym3) (z := ym3) hown (mvT hZ (wk8 hw)) (mvT hZ (wk9 hw)) (notFace_of_selects (args := #[]) (mvT hZ (wk11 hw))) (mvT hZ (wk11 hw)) (mvT hZ (wk10 hw)) (by decide) (backOf (W := 0) (rm2_21 l Z a0 hw w hW []  h0 n0 O0 ) hZ (wk12 hw) (wk6 hw) (by decide) (by decide)) q223a q223c (g := (mkF m 82 Lb222 [(.ref (w 2))])) rfl (by rw [hml]; rfl) (Steps.refl _) (argsL := []) (rest := []) (lenOf pds_2 rfl) rfl (by show 2 * 0 + _ ≤ _; exact Nat.le_of_eq rfl) (hb hby at_82) (fun _ _ => ⟨rfl, e221, (by decide : 0 + 0 ≤ _), (by decide : 0 + 0 ≤ _)⟩)
      dsimp only [Pt.U, Pt.locs, Pt.cells, Pt.slots] at X223 l223 y223 z223 st223 hQ223
      subst l223 y223 z223
      obtain ⟨rfl, N223q, e223⟩ := hQ223
      have N223 := Fr.app N221 N223q
      let Lb224 : Array Slot := #[.val (.int p0), .val (.int p1), .val (.int p2), .val (.ref (w 3)), .val (.ref (w 2)), .val (.int (1 : Int32)), .val (.int (1 : Int32)), .val (.int (1 : Int32)), .val (.int (1 : Int32))]
      obtain ⟨fs, hr, hrun, hended, hWm, hsame⟩ := X223.leave (v := some (.int (1 : Int32))) (fun h => by rw [Bd.returns] at h; cases h)
      refine ⟨_, _, pre213 _ ?_, hrun, hended, _, _, rfl, ?_, ⟨_, rfl⟩, hWm, hsame.mono (by decide) (by decide)⟩
      · show Steps p.tables e below (T212.setTop (mkF m 21 Lb194 [(.int p1), (.int p2), (.ref (w 2)), (.int (0 : Int32))])) _
        refine st215.trans ?_
        refine sn X215 hx hby at_24 (by decide) ?_
        refine sc X215 hx hby at_27 ?_
        refine sg (pc := 28) (pc' := 32) X215 hx hby at_28 (by decide) (by decide) ?_
        refine XS.istore X215.here hx rfl (hb hby at_32) rfl (l' := Lb216) rfl ?_
        refine sA X215 hx hby at_34 rfl rfl ?_
        show Steps p.tables e below (T215.setTop (mkF m 35 Lb216 [(.ref (w 3))])) _
        refine sI X215 hx hby at_35 rfl ?_
        refine sI X215 hx hby at_36 rfl ?_
        refine st217.trans ?_
        refine sa X217 hx hby at_40 rfl rfl ?_
        refine sI X217 hx hby at_42 rfl ?_
        refine sI X217 hx hby at_43 rfl ?_
        refine st218.trans ?_
        refine sn X218 hx hby at_47 (by decide) ?_
        refine sc X218 hx hby at_50 ?_
        refine sg (pc := 51) (pc' := 55) X218 hx hby at_51 (by decide) (by decide) ?_
        refine XS.istore X218.here hx rfl (hb hby at_55) rfl (l' := Lb219) rfl ?_
        refine sA X218 hx hby at_57 rfl rfl ?_
        show Steps p.tables e below (T218.setTop (mkF m 58 Lb219 [(.ref (w 3))])) _
        refine sI X218 hx hby at_58 rfl ?_
        refine sI X218 hx hby at_59 rfl ?_
        refine st220.trans ?_
        refine sa X220 hx hby at_63 rfl rfl ?_
        refine sI X220 hx hby at_65 rfl ?_
        refine sI X220 hx hby at_66 rfl ?_
        refine st221.trans ?_
        refine sn X221 hx hby at_70 (by decide) ?_
        refine sc X221 hx hby at_73 ?_
        refine sg (pc := 74) (pc' := 78) X221 hx hby at_74 (by decide) (by decide) ?_
        refine XS.istore X221.here hx rfl (hb hby at_78) rfl (l' := Lb222) rfl ?_
        refine sa X221 hx hby at_80 rfl rfl ?_
        show Steps p.tables e below (T221.setTop (mkF m 82 Lb222 [(.ref (w 2))])) _
        refine st223.trans ?_
        refine sA X223 hx hby at_85 rfl rfl ?_
        refine Jvm.RoadKit.acmp (g := (mkF m 86 Lb222 [(.ref (w 3)), (.ref (w 3))])) X223 hx rfl rfl rfl (pc0 := 86) (pc' := 89) (same := true) rfl (hb hby at_86) rfl (decide_eq_true rfl) (by decide) (by decide) ?_
        refine sc X223 hx hby at_89 ?_
        refine sg (pc := 90) (pc' := 94) X223 hx hby at_90 (by decide) (by decide) ?_
        refine XS.istore X223.here hx rfl (hb hby at_94) rfl (l' := Lb224) rfl ?_
        show Steps p.tables e below (T223.setTop (mkF m 96 Lb224 [])) _
        refine si X223 hx hby at_96 rfl ?_
        refine sN X223 hx hby at_98 (by decide) ?_
        refine si X223 hx hby at_101 rfl ?_
        refine sN X223 hx hby at_103 (by decide) ?_
        refine si X223 hx hby at_106 rfl ?_
        show Steps p.tables e below (T223.setTop (mkF m 108 Lb224 [(.int (1 : Int32))])) _
        refine sN X223 hx hby at_108 (by decide) ?_
        refine si X223 hx hby at_111 rfl ?_
        refine sN X223 hx hby at_113 (by decide) ?_
        refine sc X223 hx hby at_116 ?_
        refine sg (pc := 117) (pc' := 121) X223 hx hby at_117 (by decide) (by decide) ?_
        show Steps p.tables e below (T223.setTop (mkF m 121 Lb224 [(.int (1 : Int32))])) _
        exact retN X223 hx (t := .boolean) Bd.returns (by simp) (hb hby at_121) hr
      · show Q0 n0 _ T223.heap _
        rw [e223]
        exact ⟨rfl, N223⟩
    ·
     obtain ⟨cq225, kq225, q225a, q225b, q225c⟩ := isOf hZ e193 ((wd7 hW).ext O0.2)
     obtain ⟨_, _, ⟨T225, L225, kk225, nn225⟩, -, X225, ⟨Lc225, hQ225, l225, y225, z225⟩, st225⟩ := X193.virtualBack hx (y := ym5) (z := ym5) hown (mvT hZ (wk22 hw)) (mvT hZ (wk23 hw)) (notFace_of_selects (args := #[]) (mvT hZ (wk25 hw))) (mvT hZ (wk25 hw)) (mvT hZ (wk24 hw)) (by decide) (backOf (W := 0) (rm4_24 l Z a0 hw w hW [] p1 p2 h0 n0 O0 hc196 hc211) hZ (wk26 hw) (wk6 hw) (by decide) (by decide)) q225a q225c (g := (mkF m 14 Lb194 [(.int p2), (.int p1), (.ref (w 3))])) rfl (by rw [hml]; rfl) (Steps.refl _) (argsL := [(.int p1), (.int p2)]) (rest := []) (lenOf pds_4 rfl) rfl (by show 2 * 0 + _ ≤ _; exact Nat.le_of_eq rfl) (hb hby at_14) (fun _ _ => ⟨rfl, e193, (by decide : 0 + 0 ≤ _), (by decide : 0 + 0 ≤ _)⟩)
     dsimp only [Pt.U, Pt.locs, Pt.cells, Pt.slots] at X225 l225 y225 z225 st225 hQ225
     subst l225 y225 z225
     obtain ⟨rfl, N225q, e225⟩ := hQ225
     have N225 := Fr.app N193 N225q
     have pre226 : ∀ t, Steps p.tables e below (T225.setTop (mkF m 21 Lb194 [(.int p1), (.int p2), (.ref (w 2)), (.int (1 : Int32))])) t → Steps p.tables e below (s₁.setTop (entryFrame m #[(.int p0), (.int p1), (.int p2)] maxLocals)) t := fun t k => pre195 t (by
      show Steps p.tables e below (T193.setTop (mkF m 14 Lb194 [(.int p2), (.int p1), (.ref (w 3))])) _
      refine st225.trans ?_
      refine sa X225 hx hby at_17 rfl rfl ?_
      refine sI X225 hx hby at_19 rfl ?_
      refine sI X225 hx hby at_20 rfl ?_
      exact k)
     by_cases hc227 : p2 < p1
     ·
      obtain ⟨cq228, kq228, q228a, q228b, q228c⟩ := isOf hZ e225 ((wd5 hW).ext O0.2)
      obtain ⟨_, _, ⟨T228, L228, kk228, nn228⟩, -, X228, ⟨Lc228, hQ228, l228, y228, z228⟩, st228⟩ := X225.virtualBack hx (y := ym5) (z := ym5) hown (mvT hZ (wk22 hw)) (mvT hZ (wk23 hw)) (notFace_of_selects (args := #[]) (mvT hZ (wk25 hw))) (mvT hZ (wk25 hw)) (mvT hZ (wk24 hw)) (by decide) (backOf (W := 1) (rm4_22 l Z a0 hw w hW [] p2 p1 h0 n0 O0 hc227) hZ (wk26 hw) (wk6 hw) (by decide) (by decide)) q228a q228c (g := (mkF m 21 Lb194 [(.int p1), (.int p2), (.ref (w 2)), (.int (1 : Int32))])) rfl (by rw [hml]; rfl) (Steps.refl _) (argsL := [(.int p2), (.int p1)]) (rest := [(.int (1 : Int32))]) (lenOf pds_4 rfl) rfl (by show 2 * 0 + _ ≤ _; exact Nat.le_of_eq rfl) (hb hby at_21) (fun _ _ => ⟨rfl, e225, (by decide : 0 + 0 ≤ _), (by decide : 0 + 0 ≤ _)⟩)
      dsimp only [Pt.U, Pt.locs, Pt.cells, Pt.slots] at X228 l228 y228 z228 st228 hQ228
      subst l228 y228 z228
      obtain ⟨rfl, N228q, e228⟩ := hQ228
      have N228 := Fr.app N225 N228q
      let Lb229 : Array Slot := #[.val (.int p0), .val (.int p1), .val (.int p2), .val (.ref (w 3)), .val (.ref (w 2)), .val (.int (1 : Int32)), .unset, .unset, .unset]
      obtain ⟨cq230, kq230, q230a, q230b, q230c⟩ := isOf hZ e228 ((wd7 hW).ext O0.2)
      obtain ⟨_, _, ⟨T230, L230, kk230, nn230⟩, -, X230, ⟨Lc230, hQ230, l230, y230, z230⟩, st230⟩ := X228.virtualBack hx (y := ym5) (z := ym5) hown (mvT hZ (wk22 hw)) (mvT hZ (wk23 hw)) (notFace_of_selects (args := #[]) (mvT hZ (wk25 hw))) (mvT hZ (wk25 hw)) (mvT hZ (wk24 hw)) (by decide) (backOf (W := 0) (rm4_26 l Z a0 hw w hW [] p2 p1 h0 n0 O0 hc227) hZ (wk26 hw) (wk6 hw) (by decide) (by decide)) q230a q230c (g := (mkF m 37 Lb229 [(.int p1), (.int p2), (.ref (w 3))])) rfl (by rw [hml]; rfl) (Steps.refl _) (argsL := [(.int p2), (.int p1)]) (rest := []) (lenOf pds_4 rfl) rfl (by show 2 * 0 + _ ≤ _; exact Nat.le_of_eq rfl) (hb hby at_37) (fun _ _ => ⟨rfl, e228, (by decide : 0 + 0 ≤ _), (by decide : 0 + 0 ≤ _)⟩)
      dsimp only [Pt.U, Pt.locs, Pt.cells, Pt.slots] at X230 l230 y230 z230 st230 hQ230
      subst l230 y230 z230
      obtain ⟨rfl, N230q, e230⟩ := hQ230
      have N230 := Fr.app N228 N230q
      obtain ⟨cq231, kq231, q231a, q231b, q231c⟩ := isOf hZ e230 ((wd5 hW).ext O0.2)
      obtain ⟨_, _, ⟨T231, L231, kk231, nn231⟩, -, X231, ⟨Lc231, hQ231, l231, y231, z231⟩, st231⟩ := X230.virtualBack hx (y := ym5) (z := ym5) hown (mvT hZ (wk22 hw)) (mvT hZ (wk23 hw)) (notFace_of_selects (args := #[]) (mvT hZ (wk25 hw))) (mvT hZ (wk25 hw)) (mvT hZ (wk24 hw)) (by decide) (backOf (W := 1) (rm4_25 l Z a0 hw w hW [] p1 p2 h0 n0 O0 hc196 hc211) hZ (wk26 hw) (wk6 hw) (by decide) (by decide)) q231a q231c (g := (mkF m 44 Lb229 [(.int p2), (.int p1), (.ref (w 2)), (.int (0 : Int32))])) rfl (by rw [hml]; rfl) (Steps.refl _) (argsL := [(.int p1), (.int p2)]) (rest := [(.int (0 : Int32))]) (lenOf pds_4 rfl) rfl (by show 2 * 0 + _ ≤ _; exact Nat.le_of_eq rfl) (hb hby at_44) (fun _ _ => ⟨rfl, e230, (by decide : 0 + 0 ≤ _), (by decide : 0 + 0 ≤ _)⟩)
      dsimp only [Pt.U, Pt.locs, Pt.cells, Pt.slots] at X231 l231 y231 z231 st231 hQ231
      subst l231 y231 z231
      obtain ⟨rfl, N231q, e231⟩ := hQ231
      have N231 := Fr.app N230 N231q
      let Lb232 : Array Slot := #[.val (.int p0), .val (.int p1), .val (.int p2), .val (.ref (w 3)), .val (.ref (w 2)), .val (.int (1 : Int32)), .val (.int (1 : Int32)), .unset, .unset]
      obtain ⟨cq233, kq233, q233a, q233b, q233c⟩ := isOf hZ e231 ((wd7 hW).ext O0.2)
      obtain ⟨_, _, ⟨T233, L233, kk233, nn233⟩, -, X233, ⟨Lc233, hQ233, l233, y233, z233⟩, st233⟩ := X231.virtualBack hx (y := ym5) (z := ym5) hown (mvT hZ (wk22 hw)) (mvT hZ (wk23 hw)) (notFace_of_selects (args := #[]) (mvT hZ (wk25 hw))) (mvT hZ (wk25 hw)) (mvT hZ (wk24 hw)) (by decide) (backOf (W := 0) (rm4_28 l Z a0 hw w hW [] p1 h0 n0 O0 ) hZ (wk26 hw) (wk6 hw) (by decide) (by decide)) q233a q233c (g := (mkF m 60 Lb232 [(.int p1), (.int p1), (.ref (w 3))])) rfl (by rw [hml]; rfl) (Steps.refl _) (argsL := [(.int p1), (.int p1)]) (rest := []) (lenOf pds_4 rfl) rfl (by show 2 * 0 + _ ≤ _; exact Nat.le_of_eq rfl) (hb hby at_60) (fun _ _ => ⟨rfl, e231, (by decide : 0 + 0 ≤ _), (by decide : 0 + 0 ≤ _)⟩)
      dsimp only [Pt.U, Pt.locs, Pt.cells, Pt.slots] at X233 l233 y233 z233 st233 hQ233
      subst l233 y233 z233
      obtain ⟨rfl, N233q, e233⟩ := hQ233
      have N233 := Fr.app N231 N233q
      obtain ⟨cq234, kq234, q234a, q234b, q234c⟩ := isOf hZ e233 ((wd5 hW).ext O0.2)
      obtain ⟨_, _, ⟨T234, L234, kk234, nn234⟩, -, X234, ⟨Lc234, hQ234, l234, y234, z234⟩, st234⟩ := X233.virtualBack hx (y := ym5) (z := ym5) hown (mvT hZ (wk22 hw)) (mvT hZ (wk23 hw)) (notFace_of_selects (args := #[]) (mvT hZ (wk25 hw))) (mvT hZ (wk25 hw)) (mvT hZ (wk24 hw)) (by decide) (backOf (W := 1) (rm4_27 l Z a0 hw w hW [] p1 h0 n0 O0 ) hZ (wk26 hw) (wk6 hw) (by decide) (by decide)) q234a q234c (g := (mkF m 67 Lb232 [(.int p1), (.int p1), (.ref (w 2)), (.int (0 : Int32))])) rfl (by rw [hml]; rfl) (Steps.refl _) (argsL := [(.int p1), (.int p1)]) (rest := [(.int (0 : Int32))]) (lenOf pds_4 rfl) rfl (by show 2 * 0 + _ ≤ _; exact Nat.le_of_eq rfl) (hb hby at_67) (fun _ _ => ⟨rfl, e233, (by decide : 0 + 0 ≤ _), (by decide : 0 + 0 ≤ _)⟩)
      dsimp only [Pt.U, Pt.locs, Pt.cells, Pt.slots] at X234 l234 y234 z234 st234 hQ234
      subst l234 y234 z234
      obtain ⟨rfl, N234q, e234⟩ := hQ234
      have N234 := Fr.app N233 N234q
      let Lb235 : Array Slot := #[.val (.int p0), .val (.int p1), .val (.int p2), .val (.ref (w 3)), .val (.ref (w 2)), .val (.int (1 : Int32)), .val (.int (1 : Int32)), .val (.int (1 : Int32)), .unset]
      obtain ⟨cq236, kq236, q236a, q236b, q236c⟩ := isOf hZ e234 ((wd5 hW).ext O0.2)
      obtain ⟨_, _, ⟨T236, L236, kk236, nn236⟩, -, X236, ⟨Lc236, hQ236, l236, y236, z236⟩, st236⟩ := X234.virtualBack hx (y := ym3) (z := ym3) hown (mvT hZ (wk8 hw)) (mvT hZ (wk9 hw)) (notFace_of_selects (args := #[]) (mvT hZ (wk11 hw))) (mvT hZ (wk11 hw)) (mvT hZ (wk10 hw)) (by decide) (backOf (W := 0) (rm2_21 l Z a0 hw w hW []  h0 n0 O0 ) hZ (wk12 hw) (wk6 hw) (by decide) (by decide)) q236a q236c (g := (mkF m 82 Lb235 [(.ref (w 2))])) rfl (by rw [hml]; rfl) (Steps.refl _) (argsL := []) (rest := []) (lenOf pds_2 rfl) rfl (by show 2 * 0 + _ ≤ _; exact Nat.le_of_eq rfl) (hb hby at_82) (fun _ _ => ⟨rfl, e234, (by decide : 0 + 0 ≤ _), (by decide : 0 + 0 ≤ _)⟩)
      dsimp only [Pt.U, Pt.locs, Pt.cells, Pt.slots] at X236 l236 y236 z236 st236 hQ236
      subst l236 y236 z236
      obtain ⟨rfl, N236q, e236⟩ := hQ236
      have N236 := Fr.app N234 N236q
      let Lb237 : Array Slot := #[.val (.int p0), .val (.int p1), .val (.int p2), .val (.ref (w 3)), .val (.ref (w 2)), .val (.int (1 : Int32)), .val (.int (1 : Int32)), .val (.int (1 : Int32)), .val (.int (1 : Int32))]
      obtain ⟨fs, hr, hrun, hended, hWm, hsame⟩ := X236.leave (v := some (.int (1 : Int32))) (fun h => by rw [Bd.returns] at h; cases h)
      refine ⟨_, _, pre226 _ ?_, hrun, hended, _, _, rfl, ?_, ⟨_, rfl⟩, hWm, hsame.mono (by decide) (by decide)⟩
      · show Steps p.tables e below (T225.setTop (mkF m 21 Lb194 [(.int p1), (.int p2), (.ref (w 2)), (.int (1 : Int32))])) _
        refine st228.trans ?_
        refine sn X228 hx hby at_24 (by decide) ?_
        refine sc X228 hx hby at_27 ?_
        refine sg (pc := 28) (pc' := 32) X228 hx hby at_28 (by decide) (by decide) ?_
        refine XS.istore X228.here hx rfl (hb hby at_32) rfl (l' := Lb229) rfl ?_
        refine sA X228 hx hby at_34 rfl rfl ?_
        show Steps p.tables e below (T228.setTop (mkF m 35 Lb229 [(.ref (w 3))])) _
        refine sI X228 hx hby at_35 rfl ?_
        refine sI X228 hx hby at_36 rfl ?_
        refine st230.trans ?_
        refine sa X230 hx hby at_40 rfl rfl ?_
        refine sI X230 hx hby at_42 rfl ?_
        refine sI X230 hx hby at_43 rfl ?_
        refine st231.trans ?_
        refine sn X231 hx hby at_47 (by decide) ?_
        refine sc X231 hx hby at_50 ?_
        refine sg (pc := 51) (pc' := 55) X231 hx hby at_51 (by decide) (by decide) ?_
        refine XS.istore X231.here hx rfl (hb hby at_55) rfl (l' := Lb232) rfl ?_
        refine sA X231 hx hby at_57 rfl rfl ?_
        show Steps p.tables e below (T231.setTop (mkF m 58 Lb232 [(.ref (w 3))])) _
        refine sI X231 hx hby at_58 rfl ?_
        refine sI X231 hx hby at_59 rfl ?_
        refine st233.trans ?_
        refine sa X233 hx hby at_63 rfl rfl ?_
        refine sI X233 hx hby at_65 rfl ?_
        refine sI X233 hx hby at_66 rfl ?_
        refine st234.trans ?_
        refine sn X234 hx hby at_70 (by decide) ?_
        refine sc X234 hx hby at_73 ?_
        refine sg (pc := 74) (pc' := 78) X234 hx hby at_74 (by decide) (by decide) ?_
        refine XS.istore X234.here hx rfl (hb hby at_78) rfl (l' := Lb235) rfl ?_
        refine sa X234 hx hby at_80 rfl rfl ?_
        show Steps p.tables e below (T234.setTop (mkF m 82 Lb235 [(.ref (w 2))])) _
        refine st236.trans ?_
        refine sA X236 hx hby at_85 rfl rfl ?_
        refine Jvm.RoadKit.acmp (g := (mkF m 86 Lb235 [(.ref (w 3)), (.ref (w 3))])) X236 hx rfl rfl rfl (pc0 := 86) (pc' := 89) (same := true) rfl (hb hby at_86) rfl (decide_eq_true rfl) (by decide) (by decide) ?_
        refine sc X236 hx hby at_89 ?_
        refine sg (pc := 90) (pc' := 94) X236 hx hby at_90 (by decide) (by decide) ?_
        refine XS.istore X236.here hx rfl (hb hby at_94) rfl (l' := Lb237) rfl ?_
        show Steps p.tables e below (T236.setTop (mkF m 96 Lb237 [])) _
        refine si X236 hx hby at_96 rfl ?_
        refine sN X236 hx hby at_98 (by decide) ?_
        refine si X236 hx hby at_101 rfl ?_
        refine sN X236 hx hby at_103 (by decide) ?_
        refine si X236 hx hby at_106 rfl ?_
        show Steps p.tables e below (T236.setTop (mkF m 108 Lb237 [(.int (1 : Int32))])) _
        refine sN X236 hx hby at_108 (by decide) ?_
        refine si X236 hx hby at_111 rfl ?_
        refine sN X236 hx hby at_113 (by decide) ?_
        refine sc X236 hx hby at_116 ?_
        refine sg (pc := 117) (pc' := 121) X236 hx hby at_117 (by decide) (by decide) ?_
        show Steps p.tables e below (T236.setTop (mkF m 121 Lb237 [(.int (1 : Int32))])) _
        exact retN X236 hx (t := .boolean) Bd.returns (by simp) (hb hby at_121) hr
      · show Q0 n0 _ T236.heap _
        rw [e236]
        exact ⟨rfl, N236⟩
     ·
      exfalso
      have z3 := Int32.le_iff_toInt_le.mp (Int32.not_lt.mp hc196)
      have z4 : (p1).toInt ≠ (p2).toInt := fun q => hc211 (Int32.toInt_inj.mp q)
      have z5 := Int32.le_iff_toInt_le.mp (Int32.not_lt.mp hc227)
      have z1 := rng32 p1
      have z2 := rng32 p2
      omega
  ·
   obtain ⟨_, _, ⟨T238, L238, kk238, nn238⟩, -, X238, ⟨Lc238, hQ238, l238, y238, z238⟩, st238⟩ := Jvm.LawKit.callS X0 hx (y := ym0) hown (mvT hZ (wk0 hw)) (mvT hZ (wk1 hw)) (mvT hZ (wk2 hw)) (mvT hZ (wk3 hw)) (by decide) (backOf (W := 0) (rm1_46 l Z a0 hw w hW [] p0 h0 n0 O0 (by rw [hs2] <;> decide) (by rw [hs2] <;> decide) (by rw [hs2] <;> decide) (by rw [hs2] <;> decide) (by rw [hs2] <;> decide)) hZ (wk3 hw) (wk2 hw) (by decide) (by decide)) (g := (mkF m 1 La [(.int p0)])) rfl (by rw [hml]; rfl) (argsL := [(.int p0)]) (rest := []) (lenOf pds_0 rfl) rfl (by show 2 * 0 + _ ≤ _; exact Nat.le_of_eq rfl) (hb hby at_1) (fun _ _ => ⟨rfl, e0, (by decide : 0 + 0 ≤ _), (by decide : 0 + 0 ≤ _)⟩)
   dsimp only [Pt.U, Pt.locs, Pt.cells, Pt.slots] at X238 l238 y238 z238 st238 hQ238
   subst l238 y238 z238
   obtain ⟨rfl, N238q, e238⟩ := hQ238
   have N238 := Fr.app N0 N238q
   let Lb239 : Array Slot := #[.val (.int p0), .val (.int p1), .val (.int p2), .val (.ref (w 4)), .unset, .unset, .unset, .unset, .unset]
   obtain ⟨cq240, kq240, q240a, q240b, q240c⟩ := isOf hZ e238 ((wd9 hW).ext O0.2)
   obtain ⟨_, _, ⟨T240, L240, kk240, nn240⟩, -, X240, ⟨Lc240, hQ240, l240, y240, z240⟩, st240⟩ := X238.virtualBack hx (y := ym3) (z := ym3) hown (mvT hZ (wk8 hw)) (mvT hZ (wk9 hw)) (notFace_of_selects (args := #[]) (mvT hZ (wk11 hw))) (mvT hZ (wk11 hw)) (mvT hZ (wk10 hw)) (by decide) (backOf (W := 0) (rm2_42 l Z a0 hw w hW []  h0 n0 O0 ) hZ (wk12 hw) (wk6 hw) (by decide) (by decide)) q240a q240c (g := (mkF m 6 Lb239 [(.ref (w 4))])) rfl (by rw [hml]; rfl) (Steps.refl _) (argsL := []) (rest := []) (lenOf pds_2 rfl) rfl (by show 2 * 0 + _ ≤ _; exact Nat.le_of_eq rfl) (hb hby at_6) (fun _ _ => ⟨rfl, e238, (by decide : 0 + 0 ≤ _), (by decide : 0 + 0 ≤ _)⟩)
   dsimp only [Pt.U, Pt.locs, Pt.cells, Pt.slots] at X240 l240 y240 z240 st240 hQ240
   subst l240 y240 z240
   obtain ⟨rfl, N240q, e240⟩ := hQ240
   have N240 := Fr.app N238 N240q
   let Lb241 : Array Slot := #[.val (.int p0), .val (.int p1), .val (.int p2), .val (.ref (w 4)), .val (.ref (w 5)), .unset, .unset, .unset, .unset]
   have pre242 : ∀ t, Steps p.tables e below (T240.setTop (mkF m 14 Lb241 [(.int p2), (.int p1), (.ref (w 4))])) t → Steps p.tables e below (s₁.setTop (entryFrame m #[(.int p0), (.int p1), (.int p2)] maxLocals)) t := fun t k => pre1 t (by
    show Steps p.tables e below (s₁.setTop (mkF m 1 La [(.int p0)])) _
    refine st238 _ ?_
    refine XS.astoreN X238.here hx rfl (hb hby at_4) rfl rfl (l' := Lb239) rfl ?_
    refine sA X238 hx hby at_5 rfl rfl ?_
    refine st240.trans ?_
    refine XS.astore X240.here hx rfl (hb hby at_9) rfl rfl (l' := Lb241) rfl ?_
    refine sA X240 hx hby at_11 rfl rfl ?_
    refine sI X240 hx hby at_12 rfl ?_
    refine sI X240 hx hby at_13 rfl ?_
    exact k)
   by_cases hc243 : p1 < p2
   ·
    obtain ⟨cq244, kq244, q244a, q244b, q244c⟩ := isOf hZ e240 ((wd9 hW).ext O0.2)
    obtain ⟨_, _, ⟨T244, L244, kk244, nn244⟩, -, X244, ⟨Lc244, hQ244, l244, y244, z244⟩, st244⟩ := X240.virtualBack hx (y := ym5) (z := ym5) hown (mvT hZ (wk22 hw)) (mvT hZ (wk23 hw)) (notFace_of_selects (args := #[]) (mvT hZ (wk25 hw))) (mvT hZ (wk25 hw)) (mvT hZ (wk24 hw)) (by decide) (backOf (W := 0) (rm4_39 l Z a0 hw w hW [] p1 p2 h0 n0 O0 hc243) hZ (wk26 hw) (wk6 hw) (by decide) (by decide)) q244a q244c (g := (mkF m 14 Lb241 [(.int p2), (.int p1), (.ref (w 4))])) rfl (by rw [hml]; rfl) (Steps.refl _) (argsL := [(.int p1), (.int p2)]) (rest := []) (lenOf pds_4 rfl) rfl (by show 2 * 0 + _ ≤ _; exact Nat.le_of_eq rfl) (hb hby at_14) (fun _ _ => ⟨rfl, e240, (by decide : 0 + 0 ≤ _), (by decide : 0 + 0 ≤ _)⟩)
    dsimp only [Pt.U, Pt.locs, Pt.cells, Pt.slots] at X244 l244 y244 z244 st244 hQ244
    subst l244 y244 z244
    obtain ⟨rfl, N244q, e244⟩ := hQ244
    have N244 := Fr.app N240 N244q
    have pre245 : ∀ t, Steps p.tables e below (T244.setTop (mkF m 21 Lb241 [(.int p1), (.int p2), (.ref (w 5)), (.int (0 : Int32))])) t → Steps p.tables e below (s₁.setTop (entryFrame m #[(.int p0), (.int p1), (.int p2)] maxLocals)) t := fun t k => pre242 t (by
     show Steps p.tables e below (T240.setTop (mkF m 14 Lb241 [(.int p2), (.int p1), (.ref (w 4))])) _
     refine st244.trans ?_
     refine sa X244 hx hby at_17 rfl rfl ?_
     refine sI X244 hx hby at_19 rfl ?_
     refine sI X244 hx hby at_20 rfl ?_
     exact k)
    by_cases hc246 : p2 < p1
    ·
     exfalso
     have z3 := Int32.lt_iff_toInt_lt.mp hc243
     have z4 := Int32.lt_iff_toInt_lt.mp hc246
     have z1 := rng32 p1
     have z2 := rng32 p2
     omega
    ·
     by_cases hc247 : p2 = p1
     ·
      exfalso
      have z3 := Int32.lt_iff_toInt_lt.mp hc243
      have z4 := Int32.le_iff_toInt_le.mp (Int32.not_lt.mp hc246)
      have z5 := congrArg Int32.toInt hc247
      have z1 := rng32 p1
      have z2 := rng32 p2
      omega
     ·
      obtain ⟨cq248, kq248, q248a, q248b, q248c⟩ := isOf hZ e244 ((wd11 hW).ext O0.2)
      obtain ⟨_, _, ⟨T248, L248, kk248, nn248⟩, -, X248, ⟨Lc248, hQ248, l248, y248, z248⟩, st248⟩ := X244.virtualBack hx (y := ym5) (z := ym5) hown (mvT hZ (wk22 hw)) (mvT hZ (wk23 hw)) (notFace_of_selects (args := #[]) (mvT hZ (wk25 hw))) (mvT hZ (wk25 hw)) (mvT hZ (wk24 hw)) (by decide) (backOf (W := 1) (rm4_38 l Z a0 hw w hW [] p2 p1 h0 n0 O0 hc246 hc247) hZ (wk26 hw) (wk6 hw) (by decide) (by decide)) q248a q248c (g := (mkF m 21 Lb241 [(.int p1), (.int p2), (.ref (w 5)), (.int (0 : Int32))])) rfl (by rw [hml]; rfl) (Steps.refl _) (argsL := [(.int p2), (.int p1)]) (rest := [(.int (0 : Int32))]) (lenOf pds_4 rfl) rfl (by show 2 * 0 + _ ≤ _; exact Nat.le_of_eq rfl) (hb hby at_21) (fun _ _ => ⟨rfl, e244, (by decide : 0 + 0 ≤ _), (by decide : 0 + 0 ≤ _)⟩)
      dsimp only [Pt.U, Pt.locs, Pt.cells, Pt.slots] at X248 l248 y248 z248 st248 hQ248
      subst l248 y248 z248
      obtain ⟨rfl, N248q, e248⟩ := hQ248
      have N248 := Fr.app N244 N248q
      let Lb249 : Array Slot := #[.val (.int p0), .val (.int p1), .val (.int p2), .val (.ref (w 4)), .val (.ref (w 5)), .val (.int (1 : Int32)), .unset, .unset, .unset]
      obtain ⟨cq250, kq250, q250a, q250b, q250c⟩ := isOf hZ e248 ((wd9 hW).ext O0.2)
      obtain ⟨_, _, ⟨T250, L250, kk250, nn250⟩, -, X250, ⟨Lc250, hQ250, l250, y250, z250⟩, st250⟩ := X248.virtualBack hx (y := ym5) (z := ym5) hown (mvT hZ (wk22 hw)) (mvT hZ (wk23 hw)) (notFace_of_selects (args := #[]) (mvT hZ (wk25 hw))) (mvT hZ (wk25 hw)) (mvT hZ (wk24 hw)) (by decide) (backOf (W := 0) (rm4_37 l Z a0 hw w hW [] p2 p1 h0 n0 O0 hc246 hc247) hZ (wk26 hw) (wk6 hw) (by decide) (by decide)) q250a q250c (g := (mkF m 37 Lb249 [(.int p1), (.int p2), (.ref (w 4))])) rfl (by rw [hml]; rfl) (Steps.refl _) (argsL := [(.int p2), (.int p1)]) (rest := []) (lenOf pds_4 rfl) rfl (by show 2 * 0 + _ ≤ _; exact Nat.le_of_eq rfl) (hb hby at_37) (fun _ _ => ⟨rfl, e248, (by decide : 0 + 0 ≤ _), (by decide : 0 + 0 ≤ _)⟩)
      dsimp only [Pt.U, Pt.locs, Pt.cells, Pt.slots] at X250 l250 y250 z250 st250 hQ250
      subst l250 y250 z250
      obtain ⟨rfl, N250q, e250⟩ := hQ250
      have N250 := Fr.app N248 N250q
      obtain ⟨cq251, kq251, q251a, q251b, q251c⟩ := isOf hZ e250 ((wd11 hW).ext O0.2)
      obtain ⟨_, _, ⟨T251, L251, kk251, nn251⟩, -, X251, ⟨Lc251, hQ251, l251, y251, z251⟩, st251⟩ := X250.virtualBack hx (y := ym5) (z := ym5) hown (mvT hZ (wk22 hw)) (mvT hZ (wk23 hw)) (notFace_of_selects (args := #[]) (mvT hZ (wk25 hw))) (mvT hZ (wk25 hw)) (mvT hZ (wk24 hw)) (by decide) (backOf (W := 1) (rm4_35 l Z a0 hw w hW [] p1 p2 h0 n0 O0 hc243) hZ (wk26 hw) (wk6 hw) (by decide) (by decide)) q251a q251c (g := (mkF m 44 Lb249 [(.int p2), (.int p1), (.ref (w 5)), (.int (1 : Int32))])) rfl (by rw [hml]; rfl) (Steps.refl _) (argsL := [(.int p1), (.int p2)]) (rest := [(.int (1 : Int32))]) (lenOf pds_4 rfl) rfl (by show 2 * 0 + _ ≤ _; exact Nat.le_of_eq rfl) (hb hby at_44) (fun _ _ => ⟨rfl, e250, (by decide : 0 + 0 ≤ _), (by decide : 0 + 0 ≤ _)⟩)
      dsimp only [Pt.U, Pt.locs, Pt.cells, Pt.slots] at X251 l251 y251 z251 st251 hQ251
      subst l251 y251 z251
      obtain ⟨rfl, N251q, e251⟩ := hQ251
      have N251 := Fr.app N250 N251q
      let Lb252 : Array Slot := #[.val (.int p0), .val (.int p1), .val (.int p2), .val (.ref (w 4)), .val (.ref (w 5)), .val (.int (1 : Int32)), .val (.int (1 : Int32)), .unset, .unset]
      obtain ⟨cq253, kq253, q253a, q253b, q253c⟩ := isOf hZ e251 ((wd9 hW).ext O0.2)
      obtain ⟨_, _, ⟨T253, L253, kk253, nn253⟩, -, X253, ⟨Lc253, hQ253, l253, y253, z253⟩, st253⟩ := X251.virtualBack hx (y := ym5) (z := ym5) hown (mvT hZ (wk22 hw)) (mvT hZ (wk23 hw)) (notFace_of_selects (args := #[]) (mvT hZ (wk25 hw))) (mvT hZ (wk25 hw)) (mvT hZ (wk24 hw)) (by decide) (backOf (W := 0) (rm4_41 l Z a0 hw w hW [] p1 h0 n0 O0 ) hZ (wk26 hw) (wk6 hw) (by decide) (by decide)) q253a q253c (g := (mkF m 60 Lb252 [(.int p1), (.int p1), (.ref (w 4))])) rfl (by rw [hml]; rfl) (Steps.refl _) (argsL := [(.int p1), (.int p1)]) (rest := []) (lenOf pds_4 rfl) rfl (by show 2 * 0 + _ ≤ _; exact Nat.le_of_eq rfl) (hb hby at_60) (fun _ _ => ⟨rfl, e251, (by decide : 0 + 0 ≤ _), (by decide : 0 + 0 ≤ _)⟩)
      dsimp only [Pt.U, Pt.locs, Pt.cells, Pt.slots] at X253 l253 y253 z253 st253 hQ253
      subst l253 y253 z253
      obtain ⟨rfl, N253q, e253⟩ := hQ253
      have N253 := Fr.app N251 N253q
      obtain ⟨cq254, kq254, q254a, q254b, q254c⟩ := isOf hZ e253 ((wd11 hW).ext O0.2)
      obtain ⟨_, _, ⟨T254, L254, kk254, nn254⟩, -, X254, ⟨Lc254, hQ254, l254, y254, z254⟩, st254⟩ := X253.virtualBack hx (y := ym5) (z := ym5) hown (mvT hZ (wk22 hw)) (mvT hZ (wk23 hw)) (notFace_of_selects (args := #[]) (mvT hZ (wk25 hw))) (mvT hZ (wk25 hw)) (mvT hZ (wk24 hw)) (by decide) (backOf (W := 1) (rm4_40 l Z a0 hw w hW [] p1 h0 n0 O0 ) hZ (wk26 hw) (wk6 hw) (by decide) (by decide)) q254a q254c (g := (mkF m 67 Lb252 [(.int p1), (.int p1), (.ref (w 5)), (.int (1 : Int32))])) rfl (by rw [hml]; rfl) (Steps.refl _) (argsL := [(.int p1), (.int p1)]) (rest := [(.int (1 : Int32))]) (lenOf pds_4 rfl) rfl (by show 2 * 0 + _ ≤ _; exact Nat.le_of_eq rfl) (hb hby at_67) (fun _ _ => ⟨rfl, e253, (by decide : 0 + 0 ≤ _), (by decide : 0 + 0 ≤ _)⟩)
      dsimp only [Pt.U, Pt.locs, Pt.cells, Pt.slots] at X254 l254 y254 z254 st254 hQ254
      subst l254 y254 z254
      obtain ⟨rfl, N254q, e254⟩ := hQ254
      have N254 := Fr.app N253 N254q
      let Lb255 : Array Slot := #[.val (.int p0), .val (.int p1), .val (.int p2), .val (.ref (w 4)), .val (.ref (w 5)), .val (.int (1 : Int32)), .val (.int (1 : Int32)), .val (.int (1 : Int32)), .unset]
      obtain ⟨cq256, kq256, q256a, q256b, q256c⟩ := isOf hZ e254 ((wd11 hW).ext O0.2)
      obtain ⟨_, _, ⟨T256, L256, kk256, nn256⟩, -, X256, ⟨Lc256, hQ256, l256, y256, z256⟩, st256⟩ := X254.virtualBack hx (y := ym3) (z := ym3) hown (mvT hZ (wk8 hw)) (mvT hZ (wk9 hw)) (notFace_of_selects (args := #[]) (mvT hZ (wk11 hw))) (mvT hZ (wk11 hw)) (mvT hZ (wk10 hw)) (by decide) (backOf (W := 0) (rm2_34 l Z a0 hw w hW []  h0 n0 O0 ) hZ (wk12 hw) (wk6 hw) (by decide) (by decide)) q256a q256c (g := (mkF m 82 Lb255 [(.ref (w 5))])) rfl (by rw [hml]; rfl) (Steps.refl _) (argsL := []) (rest := []) (lenOf pds_2 rfl) rfl (by show 2 * 0 + _ ≤ _; exact Nat.le_of_eq rfl) (hb hby at_82) (fun _ _ => ⟨rfl, e254, (by decide : 0 + 0 ≤ _), (by decide : 0 + 0 ≤ _)⟩)
      dsimp only [Pt.U, Pt.locs, Pt.cells, Pt.slots] at X256 l256 y256 z256 st256 hQ256
      subst l256 y256 z256
      obtain ⟨rfl, N256q, e256⟩ := hQ256
      have N256 := Fr.app N254 N256q
      let Lb257 : Array Slot := #[.val (.int p0), .val (.int p1), .val (.int p2), .val (.ref (w 4)), .val (.ref (w 5)), .val (.int (1 : Int32)), .val (.int (1 : Int32)), .val (.int (1 : Int32)), .val (.int (1 : Int32))]
      obtain ⟨fs, hr, hrun, hended, hWm, hsame⟩ := X256.leave (v := some (.int (1 : Int32))) (fun h => by rw [Bd.returns] at h; cases h)
      refine ⟨_, _, pre245 _ ?_, hrun, hended, _, _, rfl, ?_, ⟨_, rfl⟩, hWm, hsame.mono (by decide) (by decide)⟩
      · show Steps p.tables e below (T244.setTop (mkF m 21 Lb241 [(.int p1), (.int p2), (.ref (w 5)), (.int (0 : Int32))])) _
        refine st248.trans ?_
        refine sn X248 hx hby at_24 (by decide) ?_
        refine sc X248 hx hby at_27 ?_
        refine sg (pc := 28) (pc' := 32) X248 hx hby at_28 (by decide) (by decide) ?_
        refine XS.istore X248.here hx rfl (hb hby at_32) rfl (l' := Lb249) rfl ?_
        refine sA X248 hx hby at_34 rfl rfl ?_
        show Steps p.tables e below (T248.setTop (mkF m 35 Lb249 [(.ref (w 4))])) _
        refine sI X248 hx hby at_35 rfl ?_
        refine sI X248 hx hby at_36 rfl ?_
        refine st250.trans ?_
        refine sa X250 hx hby at_40 rfl rfl ?_
        refine sI X250 hx hby at_42 rfl ?_
        refine sI X250 hx hby at_43 rfl ?_
        refine st251.trans ?_
        refine sn X251 hx hby at_47 (by decide) ?_
        refine sc X251 hx hby at_50 ?_
        refine sg (pc := 51) (pc' := 55) X251 hx hby at_51 (by decide) (by decide) ?_
        refine XS.istore X251.here hx rfl (hb hby at_55) rfl (l' := Lb252) rfl ?_
        refine sA X251 hx hby at_57 rfl rfl ?_
        show Steps p.tables e below (T251.setTop (mkF m 58 Lb252 [(.ref (w 4))])) _
        refine sI X251 hx hby at_58 rfl ?_
        refine sI X251 hx hby at_59 rfl ?_
        refine st253.trans ?_
        refine sa X253 hx hby at_63 rfl rfl ?_
        refine sI X253 hx hby at_65 rfl ?_
        refine sI X253 hx hby at_66 rfl ?_
        refine st254.trans ?_
        refine sn X254 hx hby at_70 (by decide) ?_
        refine sc X254 hx hby at_73 ?_
        refine sg (pc := 74) (pc' := 78) X254 hx hby at_74 (by decide) (by decide) ?_
        refine XS.istore X254.here hx rfl (hb hby at_78) rfl (l' := Lb255) rfl ?_
        refine sa X254 hx hby at_80 rfl rfl ?_
        show Steps p.tables e below (T254.setTop (mkF m 82 Lb255 [(.ref (w 5))])) _
        refine st256.trans ?_
        refine sA X256 hx hby at_85 rfl rfl ?_
        refine Jvm.RoadKit.acmp (g := (mkF m 86 Lb255 [(.ref (w 4)), (.ref (w 4))])) X256 hx rfl rfl rfl (pc0 := 86) (pc' := 89) (same := true) rfl (hb hby at_86) rfl (decide_eq_true rfl) (by decide) (by decide) ?_
        refine sc X256 hx hby at_89 ?_
        refine sg (pc := 90) (pc' := 94) X256 hx hby at_90 (by decide) (by decide) ?_
        refine XS.istore X256.here hx rfl (hb hby at_94) rfl (l' := Lb257) rfl ?_
        show Steps p.tables e below (T256.setTop (mkF m 96 Lb257 [])) _
        refine si X256 hx hby at_96 rfl ?_
        refine sN X256 hx hby at_98 (by decide) ?_
        refine si X256 hx hby at_101 rfl ?_
        refine sN X256 hx hby at_103 (by decide) ?_
        refine si X256 hx hby at_106 rfl ?_
        show Steps p.tables e below (T256.setTop (mkF m 108 Lb257 [(.int (1 : Int32))])) _
        refine sN X256 hx hby at_108 (by decide) ?_
        refine si X256 hx hby at_111 rfl ?_
        refine sN X256 hx hby at_113 (by decide) ?_
        refine sc X256 hx hby at_116 ?_
        refine sg (pc := 117) (pc' := 121) X256 hx hby at_117 (by decide) (by decide) ?_
        show Steps p.tables e below (T256.setTop (mkF m 121 Lb257 [(.int (1 : Int32))])) _
        exact retN X256 hx (t := .boolean) Bd.returns (by simp) (hb hby at_121) hr
      · show Q0 n0 _ T256.heap _
        rw [e256]
        exact ⟨rfl, N256⟩
   ·
    by_cases hc258 : p1 = p2
    ·
     obtain ⟨cq259, kq259, q259a, q259b, q259c⟩ := isOf hZ e240 ((wd9 hW).ext O0.2)
     obtain ⟨_, _, ⟨T259, L259, kk259, nn259⟩, -, X259, ⟨Lc259, hQ259, l259, y259, z259⟩, st259⟩ := X240.virtualBack hx (y := ym5) (z := ym5) hown (mvT hZ (wk22 hw)) (mvT hZ (wk23 hw)) (notFace_of_selects (args := #[]) (mvT hZ (wk25 hw))) (mvT hZ (wk25 hw)) (mvT hZ (wk24 hw)) (by decide) (backOf (W := 0) (rm4_44 l Z a0 hw w hW [] p1 p2 h0 n0 O0 hc243 hc258) hZ (wk26 hw) (wk6 hw) (by decide) (by decide)) q259a q259c (g := (mkF m 14 Lb241 [(.int p2), (.int p1), (.ref (w 4))])) rfl (by rw [hml]; rfl) (Steps.refl _) (argsL := [(.int p1), (.int p2)]) (rest := []) (lenOf pds_4 rfl) rfl (by show 2 * 0 + _ ≤ _; exact Nat.le_of_eq rfl) (hb hby at_14) (fun _ _ => ⟨rfl, e240, (by decide : 0 + 0 ≤ _), (by decide : 0 + 0 ≤ _)⟩)
     dsimp only [Pt.U, Pt.locs, Pt.cells, Pt.slots] at X259 l259 y259 z259 st259 hQ259
     subst l259 y259 z259
     obtain ⟨rfl, N259q, e259⟩ := hQ259
     have N259 := Fr.app N240 N259q
     have pre260 : ∀ t, Steps p.tables e below (T259.setTop (mkF m 21 Lb241 [(.int p1), (.int p2), (.ref (w 5)), (.int (1 : Int32))])) t → Steps p.tables e below (s₁.setTop (entryFrame m #[(.int p0), (.int p1), (.int p2)] maxLocals)) t := fun t k => pre242 t (by
      show Steps p.tables e below (T240.setTop (mkF m 14 Lb241 [(.int p2), (.int p1), (.ref (w 4))])) _
      refine st259.trans ?_
      refine sa X259 hx hby at_17 rfl rfl ?_
      refine sI X259 hx hby at_19 rfl ?_
      refine sI X259 hx hby at_20 rfl ?_
      exact k)
     by_cases hc261 : p2 < p1
     ·
      exfalso
      have z3 := Int32.le_iff_toInt_le.mp (Int32.not_lt.mp hc243)
      have z4 := congrArg Int32.toInt hc258
      have z5 := Int32.lt_iff_toInt_lt.mp hc261
      have z1 := rng32 p1
      have z2 := rng32 p2
      omega
     ·
      obtain ⟨cq262, kq262, q262a, q262b, q262c⟩ := isOf hZ e259 ((wd11 hW).ext O0.2)
      obtain ⟨_, _, ⟨T262, L262, kk262, nn262⟩, -, X262, ⟨Lc262, hQ262, l262, y262, z262⟩, st262⟩ := X259.virtualBack hx (y := ym5) (z := ym5) hown (mvT hZ (wk22 hw)) (mvT hZ (wk23 hw)) (notFace_of_selects (args := #[]) (mvT hZ (wk25 hw))) (mvT hZ (wk25 hw)) (mvT hZ (wk24 hw)) (by decide) (backOf (W := 1) (rm4_43 l Z a0 hw w hW [] p2 p1 h0 n0 O0 hc261 (Eq.symm hc258)) hZ (wk26 hw) (wk6 hw) (by decide) (by decide)) q262a q262c (g := (mkF m 21 Lb241 [(.int p1), (.int p2), (.ref (w 5)), (.int (1 : Int32))])) rfl (by rw [hml]; rfl) (Steps.refl _) (argsL := [(.int p2), (.int p1)]) (rest := [(.int (1 : Int32))]) (lenOf pds_4 rfl) rfl (by show 2 * 0 + _ ≤ _; exact Nat.le_of_eq rfl) (hb hby at_21) (fun _ _ => ⟨rfl, e259, (by decide : 0 + 0 ≤ _), (by decide : 0 + 0 ≤ _)⟩)
      dsimp only [Pt.U, Pt.locs, Pt.cells, Pt.slots] at X262 l262 y262 z262 st262 hQ262
      subst l262 y262 z262
      obtain ⟨rfl, N262q, e262⟩ := hQ262
      have N262 := Fr.app N259 N262q
      let Lb263 : Array Slot := #[.val (.int p0), .val (.int p1), .val (.int p2), .val (.ref (w 4)), .val (.ref (w 5)), .val (.int (1 : Int32)), .unset, .unset, .unset]
      obtain ⟨cq264, kq264, q264a, q264b, q264c⟩ := isOf hZ e262 ((wd9 hW).ext O0.2)
      obtain ⟨_, _, ⟨T264, L264, kk264, nn264⟩, -, X264, ⟨Lc264, hQ264, l264, y264, z264⟩, st264⟩ := X262.virtualBack hx (y := ym5) (z := ym5) hown (mvT hZ (wk22 hw)) (mvT hZ (wk23 hw)) (notFace_of_selects (args := #[]) (mvT hZ (wk25 hw))) (mvT hZ (wk25 hw)) (mvT hZ (wk24 hw)) (by decide) (backOf (W := 0) (rm4_44 l Z a0 hw w hW [] p2 p1 h0 n0 O0 hc261 (Eq.symm hc258)) hZ (wk26 hw) (wk6 hw) (by decide) (by decide)) q264a q264c (g := (mkF m 37 Lb263 [(.int p1), (.int p2), (.ref (w 4))])) rfl (by rw [hml]; rfl) (Steps.refl _) (argsL := [(.int p2), (.int p1)]) (rest := []) (lenOf pds_4 rfl) rfl (by show 2 * 0 + _ ≤ _; exact Nat.le_of_eq rfl) (hb hby at_37) (fun _ _ => ⟨rfl, e262, (by decide : 0 + 0 ≤ _), (by decide : 0 + 0 ≤ _)⟩)
      dsimp only [Pt.U, Pt.locs, Pt.cells, Pt.slots] at X264 l264 y264 z264 st264 hQ264
      subst l264 y264 z264
      obtain ⟨rfl, N264q, e264⟩ := hQ264
      have N264 := Fr.app N262 N264q
      obtain ⟨cq265, kq265, q265a, q265b, q265c⟩ := isOf hZ e264 ((wd11 hW).ext O0.2)
      obtain ⟨_, _, ⟨T265, L265, kk265, nn265⟩, -, X265, ⟨Lc265, hQ265, l265, y265, z265⟩, st265⟩ := X264.virtualBack hx (y := ym5) (z := ym5) hown (mvT hZ (wk22 hw)) (mvT hZ (wk23 hw)) (notFace_of_selects (args := #[]) (mvT hZ (wk25 hw))) (mvT hZ (wk25 hw)) (mvT hZ (wk24 hw)) (by decide) (backOf (W := 1) (rm4_43 l Z a0 hw w hW [] p1 p2 h0 n0 O0 hc243 hc258) hZ (wk26 hw) (wk6 hw) (by decide) (by decide)) q265a q265c (g := (mkF m 44 Lb263 [(.int p2), (.int p1), (.ref (w 5)), (.int (1 : Int32))])) rfl (by rw [hml]; rfl) (Steps.refl _) (argsL := [(.int p1), (.int p2)]) (rest := [(.int (1 : Int32))]) (lenOf pds_4 rfl) rfl (by show 2 * 0 + _ ≤ _; exact Nat.le_of_eq rfl) (hb hby at_44) (fun _ _ => ⟨rfl, e264, (by decide : 0 + 0 ≤ _), (by decide : 0 + 0 ≤ _)⟩)
      dsimp only [Pt.U, Pt.locs, Pt.cells, Pt.slots] at X265 l265 y265 z265 st265 hQ265
      subst l265 y265 z265
      obtain ⟨rfl, N265q, e265⟩ := hQ265
      have N265 := Fr.app N264 N265q
      let Lb266 : Array Slot := #[.val (.int p0), .val (.int p1), .val (.int p2), .val (.ref (w 4)), .val (.ref (w 5)), .val (.int (1 : Int32)), .val (.int (1 : Int32)), .unset, .unset]
      obtain ⟨cq267, kq267, q267a, q267b, q267c⟩ := isOf hZ e265 ((wd9 hW).ext O0.2)
      obtain ⟨_, _, ⟨T267, L267, kk267, nn267⟩, -, X267, ⟨Lc267, hQ267, l267, y267, z267⟩, st267⟩ := X265.virtualBack hx (y := ym5) (z := ym5) hown (mvT hZ (wk22 hw)) (mvT hZ (wk23 hw)) (notFace_of_selects (args := #[]) (mvT hZ (wk25 hw))) (mvT hZ (wk25 hw)) (mvT hZ (wk24 hw)) (by decide) (backOf (W := 0) (rm4_41 l Z a0 hw w hW [] p1 h0 n0 O0 ) hZ (wk26 hw) (wk6 hw) (by decide) (by decide)) q267a q267c (g := (mkF m 60 Lb266 [(.int p1), (.int p1), (.ref (w 4))])) rfl (by rw [hml]; rfl) (Steps.refl _) (argsL := [(.int p1), (.int p1)]) (rest := []) (lenOf pds_4 rfl) rfl (by show 2 * 0 + _ ≤ _; exact Nat.le_of_eq rfl) (hb hby at_60) (fun _ _ => ⟨rfl, e265, (by decide : 0 + 0 ≤ _), (by decide : 0 + 0 ≤ _)⟩)
      dsimp only [Pt.U, Pt.locs, Pt.cells, Pt.slots] at X267 l267 y267 z267 st267 hQ267
      subst l267 y267 z267
      obtain ⟨rfl, N267q, e267⟩ := hQ267
      have N267 := Fr.app N265 N267q
      obtain ⟨cq268, kq268, q268a, q268b, q268c⟩ := isOf hZ e267 ((wd11 hW).ext O0.2)
      obtain ⟨_, _, ⟨T268, L268, kk268, nn268⟩, -, X268, ⟨Lc268, hQ268, l268, y268, z268⟩, st268⟩ := X267.virtualBack hx (y := ym5) (z := ym5) hown (mvT hZ (wk22 hw)) (mvT hZ (wk23 hw)) (notFace_of_selects (args := #[]) (mvT hZ (wk25 hw))) (mvT hZ (wk25 hw)) (mvT hZ (wk24 hw)) (by decide) (backOf (W := 1) (rm4_40 l Z a0 hw w hW [] p1 h0 n0 O0 ) hZ (wk26 hw) (wk6 hw) (by decide) (by decide)) q268a q268c (g := (mkF m 67 Lb266 [(.int p1), (.int p1), (.ref (w 5)), (.int (1 : Int32))])) rfl (by rw [hml]; rfl) (Steps.refl _) (argsL := [(.int p1), (.int p1)]) (rest := [(.int (1 : Int32))]) (lenOf pds_4 rfl) rfl (by show 2 * 0 + _ ≤ _; exact Nat.le_of_eq rfl) (hb hby at_67) (fun _ _ => ⟨rfl, e267, (by decide : 0 + 0 ≤ _), (by decide : 0 + 0 ≤ _)⟩)
      dsimp only [Pt.U, Pt.locs, Pt.cells, Pt.slots] at X268 l268 y268 z268 st268 hQ268
      subst l268 y268 z268
      obtain ⟨rfl, N268q, e268⟩ := hQ268
      have N268 := Fr.app N267 N268q
      let Lb269 : Array Slot := #[.val (.int p0), .val (.int p1), .val (.int p2), .val (.ref (w 4)), .val (.ref (w 5)), .val (.int (1 : Int32)), .val (.int (1 : Int32)), .val (.int (1 : Int32)), .unset]
      obtain ⟨cq270, kq270, q270a, q270b, q270c⟩ := isOf hZ e268 ((wd11 hW).ext O0.2)
      obtain ⟨_, _, ⟨T270, L270, kk270, nn270⟩, -, X270, ⟨Lc270, hQ270, l270, y270, z270⟩, st270⟩ := X268.virtualBack hx (y := ym3) (z := ym3) hown (mvT hZ (wk8 hw)) (mvT hZ (wk9 hw)) (notFace_of_selects (args := #[]) (mvT hZ (wk11 hw))) (mvT hZ (wk11 hw)) (mvT hZ (wk10 hw)) (by decide) (backOf (W := 0) (rm2_34 l Z a0 hw w hW []  h0 n0 O0 ) hZ (wk12 hw) (wk6 hw) (by decide) (by decide)) q270a q270c (g := (mkF m 82 Lb269 [(.ref (w 5))])) rfl (by rw [hml]; rfl) (Steps.refl _) (argsL := []) (rest := []) (lenOf pds_2 rfl) rfl (by show 2 * 0 + _ ≤ _; exact Nat.le_of_eq rfl) (hb hby at_82) (fun _ _ => ⟨rfl, e268, (by decide : 0 + 0 ≤ _), (by decide : 0 + 0 ≤ _)⟩)
      dsimp only [Pt.U, Pt.locs, Pt.cells, Pt.slots] at X270 l270 y270 z270 st270 hQ270
      subst l270 y270 z270
      obtain ⟨rfl, N270q, e270⟩ := hQ270
      have N270 := Fr.app N268 N270q
      let Lb271 : Array Slot := #[.val (.int p0), .val (.int p1), .val (.int p2), .val (.ref (w 4)), .val (.ref (w 5)), .val (.int (1 : Int32)), .val (.int (1 : Int32)), .val (.int (1 : Int32)), .val (.int (1 : Int32))]
      obtain ⟨fs, hr, hrun, hended, hWm, hsame⟩ := X270.leave (v := some (.int (1 : Int32))) (fun h => by rw [Bd.returns] at h; cases h)
      refine ⟨_, _, pre260 _ ?_, hrun, hended, _, _, rfl, ?_, ⟨_, rfl⟩, hWm, hsame.mono (by decide) (by decide)⟩
      · show Steps p.tables e below (T259.setTop (mkF m 21 Lb241 [(.int p1), (.int p2), (.ref (w 5)), (.int (1 : Int32))])) _
        refine st262.trans ?_
        refine sn X262 hx hby at_24 (by decide) ?_
        refine sc X262 hx hby at_27 ?_
        refine sg (pc := 28) (pc' := 32) X262 hx hby at_28 (by decide) (by decide) ?_
        refine XS.istore X262.here hx rfl (hb hby at_32) rfl (l' := Lb263) rfl ?_
        refine sA X262 hx hby at_34 rfl rfl ?_
        show Steps p.tables e below (T262.setTop (mkF m 35 Lb263 [(.ref (w 4))])) _
        refine sI X262 hx hby at_35 rfl ?_
        refine sI X262 hx hby at_36 rfl ?_
        refine st264.trans ?_
        refine sa X264 hx hby at_40 rfl rfl ?_
        refine sI X264 hx hby at_42 rfl ?_
        refine sI X264 hx hby at_43 rfl ?_
        refine st265.trans ?_
        refine sn X265 hx hby at_47 (by decide) ?_
        refine sc X265 hx hby at_50 ?_
        refine sg (pc := 51) (pc' := 55) X265 hx hby at_51 (by decide) (by decide) ?_
        refine XS.istore X265.here hx rfl (hb hby at_55) rfl (l' := Lb266) rfl ?_
        refine sA X265 hx hby at_57 rfl rfl ?_
        show Steps p.tables e below (T265.setTop (mkF m 58 Lb266 [(.ref (w 4))])) _
        refine sI X265 hx hby at_58 rfl ?_
        refine sI X265 hx hby at_59 rfl ?_
        refine st267.trans ?_
        refine sa X267 hx hby at_63 rfl rfl ?_
        refine sI X267 hx hby at_65 rfl ?_
        refine sI X267 hx hby at_66 rfl ?_
        refine st268.trans ?_
        refine sn X268 hx hby at_70 (by decide) ?_
        refine sc X268 hx hby at_73 ?_
        refine sg (pc := 74) (pc' := 78) X268 hx hby at_74 (by decide) (by decide) ?_
        refine XS.istore X268.here hx rfl (hb hby at_78) rfl (l' := Lb269) rfl ?_
        refine sa X268 hx hby at_80 rfl rfl ?_
        show Steps p.tables e below (T268.setTop (mkF m 82 Lb269 [(.ref (w 5))])) _
        refine st270.trans ?_
        refine sA X270 hx hby at_85 rfl rfl ?_
        refine Jvm.RoadKit.acmp (g := (mkF m 86 Lb269 [(.ref (w 4)), (.ref (w 4))])) X270 hx rfl rfl rfl (pc0 := 86) (pc' := 89) (same := true) rfl (hb hby at_86) rfl (decide_eq_true rfl) (by decide) (by decide) ?_
        refine sc X270 hx hby at_89 ?_
        refine sg (pc := 90) (pc' := 94) X270 hx hby at_90 (by decide) (by decide) ?_
        refine XS.istore X270.here hx rfl (hb hby at_94) rfl (l' := Lb271) rfl ?_
        show Steps p.tables e below (T270.setTop (mkF m 96 Lb271 [])) _
        refine si X270 hx hby at_96 rfl ?_
        refine sN X270 hx hby at_98 (by decide) ?_
        refine si X270 hx hby at_101 rfl ?_
        refine sN X270 hx hby at_103 (by decide) ?_
        refine si X270 hx hby at_106 rfl ?_
        show Steps p.tables e below (T270.setTop (mkF m 108 Lb271 [(.int (1 : Int32))])) _
        refine sN X270 hx hby at_108 (by decide) ?_
        refine si X270 hx hby at_111 rfl ?_
        refine sN X270 hx hby at_113 (by decide) ?_
        refine sc X270 hx hby at_116 ?_
        refine sg (pc := 117) (pc' := 121) X270 hx hby at_117 (by decide) (by decide) ?_
        show Steps p.tables e below (T270.setTop (mkF m 121 Lb271 [(.int (1 : Int32))])) _
        exact retN X270 hx (t := .boolean) Bd.returns (by simp) (hb hby at_121) hr
      · show Q0 n0 _ T270.heap _
        rw [e270]
        exact ⟨rfl, N270⟩
    ·
     obtain ⟨cq272, kq272, q272a, q272b, q272c⟩ := isOf hZ e240 ((wd9 hW).ext O0.2)
     obtain ⟨_, _, ⟨T272, L272, kk272, nn272⟩, -, X272, ⟨Lc272, hQ272, l272, y272, z272⟩, st272⟩ := X240.virtualBack hx (y := ym5) (z := ym5) hown (mvT hZ (wk22 hw)) (mvT hZ (wk23 hw)) (notFace_of_selects (args := #[]) (mvT hZ (wk25 hw))) (mvT hZ (wk25 hw)) (mvT hZ (wk24 hw)) (by decide) (backOf (W := 0) (rm4_37 l Z a0 hw w hW [] p1 p2 h0 n0 O0 hc243 hc258) hZ (wk26 hw) (wk6 hw) (by decide) (by decide)) q272a q272c (g := (mkF m 14 Lb241 [(.int p2), (.int p1), (.ref (w 4))])) rfl (by rw [hml]; rfl) (Steps.refl _) (argsL := [(.int p1), (.int p2)]) (rest := []) (lenOf pds_4 rfl) rfl (by show 2 * 0 + _ ≤ _; exact Nat.le_of_eq rfl) (hb hby at_14) (fun _ _ => ⟨rfl, e240, (by decide : 0 + 0 ≤ _), (by decide : 0 + 0 ≤ _)⟩)
     dsimp only [Pt.U, Pt.locs, Pt.cells, Pt.slots] at X272 l272 y272 z272 st272 hQ272
     subst l272 y272 z272
     obtain ⟨rfl, N272q, e272⟩ := hQ272
     have N272 := Fr.app N240 N272q
     have pre273 : ∀ t, Steps p.tables e below (T272.setTop (mkF m 21 Lb241 [(.int p1), (.int p2), (.ref (w 5)), (.int (1 : Int32))])) t → Steps p.tables e below (s₁.setTop (entryFrame m #[(.int p0), (.int p1), (.int p2)] maxLocals)) t := fun t k => pre242 t (by
      show Steps p.tables e below (T240.setTop (mkF m 14 Lb241 [(.int p2), (.int p1), (.ref (w 4))])) _
      refine st272.trans ?_
      refine sa X272 hx hby at_17 rfl rfl ?_
      refine sI X272 hx hby at_19 rfl ?_
      refine sI X272 hx hby at_20 rfl ?_
      exact k)
     by_cases hc274 : p2 < p1
     ·
      obtain ⟨cq275, kq275, q275a, q275b, q275c⟩ := isOf hZ e272 ((wd11 hW).ext O0.2)
      obtain ⟨_, _, ⟨T275, L275, kk275, nn275⟩, -, X275, ⟨Lc275, hQ275, l275, y275, z275⟩, st275⟩ := X272.virtualBack hx (y := ym5) (z := ym5) hown (mvT hZ (wk22 hw)) (mvT hZ (wk23 hw)) (notFace_of_selects (args := #[]) (mvT hZ (wk25 hw))) (mvT hZ (wk25 hw)) (mvT hZ (wk24 hw)) (by decide) (backOf (W := 1) (rm4_35 l Z a0 hw w hW [] p2 p1 h0 n0 O0 hc274) hZ (wk26 hw) (wk6 hw) (by decide) (by decide)) q275a q275c (g := (mkF m 21 Lb241 [(.int p1), (.int p2), (.ref (w 5)), (.int (1 : Int32))])) rfl (by rw [hml]; rfl) (Steps.refl _) (argsL := [(.int p2), (.int p1)]) (rest := [(.int (1 : Int32))]) (lenOf pds_4 rfl) rfl (by show 2 * 0 + _ ≤ _; exact Nat.le_of_eq rfl) (hb hby at_21) (fun _ _ => ⟨rfl, e272, (by decide : 0 + 0 ≤ _), (by decide : 0 + 0 ≤ _)⟩)
      dsimp only [Pt.U, Pt.locs, Pt.cells, Pt.slots] at X275 l275 y275 z275 st275 hQ275
      subst l275 y275 z275
      obtain ⟨rfl, N275q, e275⟩ := hQ275
      have N275 := Fr.app N272 N275q
      let Lb276 : Array Slot := #[.val (.int p0), .val (.int p1), .val (.int p2), .val (.ref (w 4)), .val (.ref (w 5)), .val (.int (1 : Int32)), .unset, .unset, .unset]
      obtain ⟨cq277, kq277, q277a, q277b, q277c⟩ := isOf hZ e275 ((wd9 hW).ext O0.2)
      obtain ⟨_, _, ⟨T277, L277, kk277, nn277⟩, -, X277, ⟨Lc277, hQ277, l277, y277, z277⟩, st277⟩ := X275.virtualBack hx (y := ym5) (z := ym5) hown (mvT hZ (wk22 hw)) (mvT hZ (wk23 hw)) (notFace_of_selects (args := #[]) (mvT hZ (wk25 hw))) (mvT hZ (wk25 hw)) (mvT hZ (wk24 hw)) (by decide) (backOf (W := 0) (rm4_39 l Z a0 hw w hW [] p2 p1 h0 n0 O0 hc274) hZ (wk26 hw) (wk6 hw) (by decide) (by decide)) q277a q277c (g := (mkF m 37 Lb276 [(.int p1), (.int p2), (.ref (w 4))])) rfl (by rw [hml]; rfl) (Steps.refl _) (argsL := [(.int p2), (.int p1)]) (rest := []) (lenOf pds_4 rfl) rfl (by show 2 * 0 + _ ≤ _; exact Nat.le_of_eq rfl) (hb hby at_37) (fun _ _ => ⟨rfl, e275, (by decide : 0 + 0 ≤ _), (by decide : 0 + 0 ≤ _)⟩)
      dsimp only [Pt.U, Pt.locs, Pt.cells, Pt.slots] at X277 l277 y277 z277 st277 hQ277
      subst l277 y277 z277
      obtain ⟨rfl, N277q, e277⟩ := hQ277
      have N277 := Fr.app N275 N277q
      obtain ⟨cq278, kq278, q278a, q278b, q278c⟩ := isOf hZ e277 ((wd11 hW).ext O0.2)
      obtain ⟨_, _, ⟨T278, L278, kk278, nn278⟩, -, X278, ⟨Lc278, hQ278, l278, y278, z278⟩, st278⟩ := X277.virtualBack hx (y := ym5) (z := ym5) hown (mvT hZ (wk22 hw)) (mvT hZ (wk23 hw)) (notFace_of_selects (args := #[]) (mvT hZ (wk25 hw))) (mvT hZ (wk25 hw)) (mvT hZ (wk24 hw)) (by decide) (backOf (W := 1) (rm4_38 l Z a0 hw w hW [] p1 p2 h0 n0 O0 hc243 hc258) hZ (wk26 hw) (wk6 hw) (by decide) (by decide)) q278a q278c (g := (mkF m 44 Lb276 [(.int p2), (.int p1), (.ref (w 5)), (.int (0 : Int32))])) rfl (by rw [hml]; rfl) (Steps.refl _) (argsL := [(.int p1), (.int p2)]) (rest := [(.int (0 : Int32))]) (lenOf pds_4 rfl) rfl (by show 2 * 0 + _ ≤ _; exact Nat.le_of_eq rfl) (hb hby at_44) (fun _ _ => ⟨rfl, e277, (by decide : 0 + 0 ≤ _), (by decide : 0 + 0 ≤ _)⟩)
      dsimp only [Pt.U, Pt.locs, Pt.cells, Pt.slots] at X278 l278 y278 z278 st278 hQ278
      subst l278 y278 z278
      obtain ⟨rfl, N278q, e278⟩ := hQ278
      have N278 := Fr.app N277 N278q
      let Lb279 : Array Slot := #[.val (.int p0), .val (.int p1), .val (.int p2), .val (.ref (w 4)), .val (.ref (w 5)), .val (.int (1 : Int32)), .val (.int (1 : Int32)), .unset, .unset]
      obtain ⟨cq280, kq280, q280a, q280b, q280c⟩ := isOf hZ e278 ((wd9 hW).ext O0.2)
      obtain ⟨_, _, ⟨T280, L280, kk280, nn280⟩, -, X280, ⟨Lc280, hQ280, l280, y280, z280⟩, st280⟩ := X278.virtualBack hx (y := ym5) (z := ym5) hown (mvT hZ (wk22 hw)) (mvT hZ (wk23 hw)) (notFace_of_selects (args := #[]) (mvT hZ (wk25 hw))) (mvT hZ (wk25 hw)) (mvT hZ (wk24 hw)) (by decide) (backOf (W := 0) (rm4_41 l Z a0 hw w hW [] p1 h0 n0 O0 ) hZ (wk26 hw) (wk6 hw) (by decide) (by decide)) q280a q280c (g := (mkF m 60 Lb279 [(.int p1), (.int p1), (.ref (w 4))])) rfl (by rw [hml]; rfl) (Steps.refl _) (argsL := [(.int p1), (.int p1)]) (rest := []) (lenOf pds_4 rfl) rfl (by show 2 * 0 + _ ≤ _; exact Nat.le_of_eq rfl) (hb hby at_60) (fun _ _ => ⟨rfl, e278, (by decide : 0 + 0 ≤ _), (by decide : 0 + 0 ≤ _)⟩)
      dsimp only [Pt.U, Pt.locs, Pt.cells, Pt.slots] at X280 l280 y280 z280 st280 hQ280
      subst l280 y280 z280
      obtain ⟨rfl, N280q, e280⟩ := hQ280
      have N280 := Fr.app N278 N280q
      obtain ⟨cq281, kq281, q281a, q281b, q281c⟩ := isOf hZ e280 ((wd11 hW).ext O0.2)
      obtain ⟨_, _, ⟨T281, L281, kk281, nn281⟩, -, X281, ⟨Lc281, hQ281, l281, y281, z281⟩, st281⟩ := X280.virtualBack hx (y := ym5) (z := ym5) hown (mvT hZ (wk22 hw)) (mvT hZ (wk23 hw)) (notFace_of_selects (args := #[]) (mvT hZ (wk25 hw))) (mvT hZ (wk25 hw)) (mvT hZ (wk24 hw)) (by decide) (backOf (W := 1) (rm4_40 l Z a0 hw w hW [] p1 h0 n0 O0 ) hZ (wk26 hw) (wk6 hw) (by decide) (by decide)) q281a q281c (g := (mkF m 67 Lb279 [(.int p1), (.int p1), (.ref (w 5)), (.int (1 : Int32))])) rfl (by rw [hml]; rfl) (Steps.refl _) (argsL := [(.int p1), (.int p1)]) (rest := [(.int (1 : Int32))]) (lenOf pds_4 rfl) rfl (by show 2 * 0 + _ ≤ _; exact Nat.le_of_eq rfl) (hb hby at_67) (fun _ _ => ⟨rfl, e280, (by decide : 0 + 0 ≤ _), (by decide : 0 + 0 ≤ _)⟩)
      dsimp only [Pt.U, Pt.locs, Pt.cells, Pt.slots] at X281 l281 y281 z281 st281 hQ281
      subst l281 y281 z281
      obtain ⟨rfl, N281q, e281⟩ := hQ281
      have N281 := Fr.app N280 N281q
      let Lb282 : Array Slot := #[.val (.int p0), .val (.int p1), .val (.int p2), .val (.ref (w 4)), .val (.ref (w 5)), .val (.int (1 : Int32)), .val (.int (1 : Int32)), .val (.int (1 : Int32)), .unset]
      obtain ⟨cq283, kq283, q283a, q283b, q283c⟩ := isOf hZ e281 ((wd11 hW).ext O0.2)
      obtain ⟨_, _, ⟨T283, L283, kk283, nn283⟩, -, X283, ⟨Lc283, hQ283, l283, y283, z283⟩, st283⟩ := X281.virtualBack hx (y := ym3) (z := ym3) hown (mvT hZ (wk8 hw)) (mvT hZ (wk9 hw)) (notFace_of_selects (args := #[]) (mvT hZ (wk11 hw))) (mvT hZ (wk11 hw)) (mvT hZ (wk10 hw)) (by decide) (backOf (W := 0) (rm2_34 l Z a0 hw w hW []  h0 n0 O0 ) hZ (wk12 hw) (wk6 hw) (by decide) (by decide)) q283a q283c (g := (mkF m 82 Lb282 [(.ref (w 5))])) rfl (by rw [hml]; rfl) (Steps.refl _) (argsL := []) (rest := []) (lenOf pds_2 rfl) rfl (by show 2 * 0 + _ ≤ _; exact Nat.le_of_eq rfl) (hb hby at_82) (fun _ _ => ⟨rfl, e281, (by decide : 0 + 0 ≤ _), (by decide : 0 + 0 ≤ _)⟩)
      dsimp only [Pt.U, Pt.locs, Pt.cells, Pt.slots] at X283 l283 y283 z283 st283 hQ283
      subst l283 y283 z283
      obtain ⟨rfl, N283q, e283⟩ := hQ283
      have N283 := Fr.app N281 N283q
      let Lb284 : Array Slot := #[.val (.int p0), .val (.int p1), .val (.int p2), .val (.ref (w 4)), .val (.ref (w 5)), .val (.int (1 : Int32)), .val (.int (1 : Int32)), .val (.int (1 : Int32)), .val (.int (1 : Int32))]
      obtain ⟨fs, hr, hrun, hended, hWm, hsame⟩ := X283.leave (v := some (.int (1 : Int32))) (fun h => by rw [Bd.returns] at h; cases h)
      refine ⟨_, _, pre273 _ ?_, hrun, hended, _, _, rfl, ?_, ⟨_, rfl⟩, hWm, hsame.mono (by decide) (by decide)⟩
      · show Steps p.tables e below (T272.setTop (mkF m 21 Lb241 [(.int p1), (.int p2), (.ref (w 5)), (.int (1 : Int32))])) _
        refine st275.trans ?_
        refine sn X275 hx hby at_24 (by decide) ?_
        refine sc X275 hx hby at_27 ?_
        refine sg (pc := 28) (pc' := 32) X275 hx hby at_28 (by decide) (by decide) ?_
        refine XS.istore X275.here hx rfl (hb hby at_32) rfl (l' := Lb276) rfl ?_
        refine sA X275 hx hby at_34 rfl rfl ?_
        show Steps p.tables e below (T275.setTop (mkF m 35 Lb276 [(.ref (w 4))])) _
        refine sI X275 hx hby at_35 rfl ?_
        refine sI X275 hx hby at_36 rfl ?_
        refine st277.trans ?_
        refine sa X277 hx hby at_40 rfl rfl ?_
        refine sI X277 hx hby at_42 rfl ?_
        refine sI X277 hx hby at_43 rfl ?_
        refine st278.trans ?_
        refine sn X278 hx hby at_47 (by decide) ?_
        refine sc X278 hx hby at_50 ?_
        refine sg (pc := 51) (pc' := 55) X278 hx hby at_51 (by decide) (by decide) ?_
        refine XS.istore X278.here hx rfl (hb hby at_55) rfl (l' := Lb279) rfl ?_
        refine sA X278 hx hby at_57 rfl rfl ?_
        show Steps p.tables e below (T278.setTop (mkF m 58 Lb279 [(.ref (w 4))])) _
        refine sI X278 hx hby at_58 rfl ?_
        refine sI X278 hx hby at_59 rfl ?_
        refine st280.trans ?_
        refine sa X280 hx hby at_63 rfl rfl ?_
        refine sI X280 hx hby at_65 rfl ?_
        refine sI X280 hx hby at_66 rfl ?_
        refine st281.trans ?_
        refine sn X281 hx hby at_70 (by decide) ?_
        refine sc X281 hx hby at_73 ?_
        refine sg (pc := 74) (pc' := 78) X281 hx hby at_74 (by decide) (by decide) ?_
        refine XS.istore X281.here hx rfl (hb hby at_78) rfl (l' := Lb282) rfl ?_
        refine sa X281 hx hby at_80 rfl rfl ?_
        show Steps p.tables e below (T281.setTop (mkF m 82 Lb282 [(.ref (w 5))])) _
        refine st283.trans ?_
        refine sA X283 hx hby at_85 rfl rfl ?_
        refine Jvm.RoadKit.acmp (g := (mkF m 86 Lb282 [(.ref (w 4)), (.ref (w 4))])) X283 hx rfl rfl rfl (pc0 := 86) (pc' := 89) (same := true) rfl (hb hby at_86) rfl (decide_eq_true rfl) (by decide) (by decide) ?_
        refine sc X283 hx hby at_89 ?_
        refine sg (pc := 90) (pc' := 94) X283 hx hby at_90 (by decide) (by decide) ?_
        refine XS.istore X283.here hx rfl (hb hby at_94) rfl (l' := Lb284) rfl ?_
        show Steps p.tables e below (T283.setTop (mkF m 96 Lb284 [])) _
        refine si X283 hx hby at_96 rfl ?_
        refine sN X283 hx hby at_98 (by decide) ?_
        refine si X283 hx hby at_101 rfl ?_
        refine sN X283 hx hby at_103 (by decide) ?_
        refine si X283 hx hby at_106 rfl ?_
        show Steps p.tables e below (T283.setTop (mkF m 108 Lb284 [(.int (1 : Int32))])) _
        refine sN X283 hx hby at_108 (by decide) ?_
        refine si X283 hx hby at_111 rfl ?_
        refine sN X283 hx hby at_113 (by decide) ?_
        refine sc X283 hx hby at_116 ?_
        refine sg (pc := 117) (pc' := 121) X283 hx hby at_117 (by decide) (by decide) ?_
        show Steps p.tables e below (T283.setTop (mkF m 121 Lb284 [(.int (1 : Int32))])) _
        exact retN X283 hx (t := .boolean) Bd.returns (by simp) (hb hby at_121) hr
      · show Q0 n0 _ T283.heap _
        rw [e283]
        exact ⟨rfl, N283⟩
     ·
      exfalso
      have z3 := Int32.le_iff_toInt_le.mp (Int32.not_lt.mp hc243)
      have z4 : (p1).toInt ≠ (p2).toInt := fun q => hc258 (Int32.toInt_inj.mp q)
      have z5 := Int32.le_iff_toInt_le.mp (Int32.not_lt.mp hc274)
      have z1 := rng32 p1
      have z2 := rng32 p2
      omega
set_option maxRecDepth 65536 in
set_option maxHeartbeats 400000000 in
theorem comes_1 {Post : Tables → Env → Array Value → State → Outcome → State → Prop} (hpost : ∀ tb e args s v u, (limb_1_1.after args s (.returned v) u = true ∧ limb_1_2.after args s (.returned v) u = true ∧ True) → FrameEnd s (.returned v) u (Jvm.fieldLocs frame_1_writes args s ++ Jvm.arrayLocs frame_1_arrays args s ++ Jvm.staticLocs frame_1_statics s) 0 0 → Post tb e args s (.returned v) u) :
    ArmFor flags0 classFile x code maxLocals ret World_1 tables_1 room_1 Calls_1 rest_1 Pre_1 Post := by
  intro l hfl _ _ p e ha hc hk s m args below hf hA hF happ hP
  obtain ⟨hcalls, hrest, hpre⟩ := hP
  obtain ⟨-, -, -, hnamed, -, -, -, hat⟩ := (Spec.applies_iff hf).mp happ
  obtain ⟨hg, hn⟩ := and_e (Cond.before_iff.mp (show (Jvm.Cond.and given_1 narrow_1).before args s = true from hpre))
  obtain ⟨ga4, gb4⟩ := and_e hg
  obtain ⟨ga5, gb5⟩ := and_e gb4
  obtain ⟨ga6, gb6⟩ := and_e gb5
  obtain ⟨v0, v1, v2, rfl⟩ : ∃ v0 v1 v2 : Value, args = #[v0, v1, v2] := by
    have hs : args.size = 3 := by simpa [Cond.value, given_1] using ga4
    obtain ⟨L⟩ := args
    match L, hs with
    | [v0, v1, v2], _ => exact ⟨v0, v1, v2, rfl⟩
  have hw := fun d (hd : d ∈ tables_1) => atoms_spec (ws := Jvm.Cond.code x code maxLocals ret :: tables_1) hat d (List.mem_cons_of_mem _ hd)
  have hfit : Fit s := fun {y c} hc i hi => by
    obtain ⟨ha, rfl⟩ := Array.getElem?_eq_some_iff.mp hc
    have q := List.all_eq_true.mp ((Array.all_eq_true_iff_forall_mem.mp hF) _ (Array.getElem_mem ha)) i (List.mem_range.mpr hi)
    simpa [Array.getElem?_eq_getElem hi] using q
  obtain ⟨i0, ei0⟩ := is_v ga5
  obtain rfl : v0 = (.int i0) := Option.some.inj ei0
  obtain ⟨i1, ei1⟩ := is_v ga6
  obtain rfl : v1 = (.int i1) := Option.some.inj ei1
  obtain ⟨i2, ei2⟩ := is_v gb6
  obtain rfl : v2 = (.int i2) := Option.some.inj ei2
  obtain ⟨na0, nb0⟩ := and_e hn
  obtain ⟨na1, nb1⟩ := and_e nb0
  obtain ⟨na2, nb2⟩ := and_e nb1
  obtain ⟨na3, nb3⟩ := and_e nb2
  obtain ⟨na4, nb4⟩ := and_e nb3
  obtain ⟨na5, nb5⟩ := and_e nb4
  obtain ⟨na6, nb6⟩ := and_e nb5
  obtain ⟨na7, nb7⟩ := and_e nb6
  obtain ⟨na8, nb8⟩ := and_e nb7
  obtain ⟨na9, nb9⟩ := and_e nb8
  obtain ⟨na10, nb10⟩ := and_e nb9
  obtain ⟨x0, ev0⟩ := exa_v na0
  obtain ⟨x1, ev1⟩ := exa_v na2
  obtain ⟨x2, ev2⟩ := exa_v na4
  obtain ⟨x3, ev3⟩ := exa_v na6
  obtain ⟨x4, ev4⟩ := exa_v na8
  obtain ⟨x5, ev5⟩ := exa_v na10
  have hW : Wd s (fun i => ([x0, x1, x2, x3, x4, x5] : List Addr).getD i 0) := ⟨(Sta.start ev0 (Or.inr ⟨(wk6 hw), (wk7 hw)⟩)), (Exa.start ev0 na0), (Sta.start ev1 (Or.inr ⟨(wk6 hw), (wk32 hw)⟩)), (Exa.start ev1 na2), (Sta.start ev2 (Or.inr ⟨(wk6 hw), (wk34 hw)⟩)), (Exa.start ev2 na4), (Sta.start ev3 (Or.inr ⟨(wk6 hw), (wk36 hw)⟩)), (Exa.start ev3 na6), (Sta.start ev4 (Or.inr ⟨(wk6 hw), (wk39 hw)⟩)), (Exa.start ev4 na8), (Sta.start ev5 (Or.inr ⟨(wk6 hw), (wk41 hw)⟩)), (Exa.start ev5 na10), (own_fldI ev0 na1), (own_fldI ev1 na3), (own_fldI ev2 na5), (own_fldI ev3 na7), (own_fldI ev4 na9), (own_fldI ev5 nb10), trivial⟩
  obtain ⟨n, o, h1, h2, h3, _, L, rfl, ⟨rfl, N⟩, hq⟩ := rm0 l s _ hw _ hW tables_1 i0 i1 i2 s.heap s.heap.size (Old.start s) p e ha hc hk s m _ below hf ((Spec.applies_iff_loose hf).mp happ).1 ⟨rfl, State.Warmed39.refl s, rfl⟩ trivial
  refine ⟨n, _, h1, h2, h3, hpost _ _ _ _ _ _ ⟨Cond.after_iff.mpr rfl, Cond.after_iff.mpr (eq_i res_at (Term.int_eval (1)) rfl), trivial⟩ ⟨hq.1, hq.2.1, (hq.2.2.sift fun y hy => Or.inr (N y hy)).mono (by decide) (by decide)⟩⟩
theorem main_1_1 : Claimed_1_1 := comes_1 fun _ _ _ _ _ _ h hF => ⟨h.1, hF⟩
theorem main_1_2 : Claimed_1_2 := comes_1 fun _ _ _ _ _ _ h hF => ⟨h.2.1, hF⟩
end Jvm.Pilot.@@N@@
namespace Jvm.Pilot.@@N@@
open Jvm Jvm.ClassFile Sem Op Lib Jvm.Free Jvm.Stand Jvm.Pilot.@@N@@.Jvm.D
/-! MADE BY PROGRAM (witnessworld.py) out of the Statement's table words and the real class files: 15 classes; the members and pool entries that the words name. The judged class is class 1, her method 2. -/
namespace start1
open Jvm.ClassFile
def u (s : String) : CpInfo := .utf8 (stringToUtf16 s)
/-- a pool by its gaps: so many unusable entries, then the entry; so many at the end -/
def gap : Nat → List CpInfo → List CpInfo
  | 0, r => r
  | n + 1, r => .unusable :: gap n r
def poolList (es : List (Nat × CpInfo)) (last : Nat) : List CpInfo := es.foldr (fun e r => gap e.1 (e.2 :: r)) (gap last [])
def pool (es : List (Nat × CpInfo)) (last : Nat) : Array CpInfo := ⟨poolList es last⟩
def fileOf (pool : Array CpInfo) (this : Nat) (attrs : Array Attribute := #[]) (ms : Array MethodInfo := #[]) (fl : Nat := 33) (sup : Nat := 0) (ifs : Array Nat := #[]) (fds : Array FieldInfo := #[]) : ClassFile where
  minorVersion := 0
  majorVersion := 65
  constantPool := pool
  accessFlags := fl
  thisClass := this
  superClass := sup
  interfaces := ifs
  fields := fds
  methods := ms
  attributes := attrs
def plain (name : String) (sup : Option ClassId) : Class where
  name := name
  kind := .ordinary
  loader := none
  accessFlags := 33
  super := sup
  interfaces := #[]
  cf := none
  fields := #[]
  methods := #[]
  instanceTypes := #[]
  staticTypes := #[]
  resolved := #[]
  callSites := []
  init := .initialized
  statics := none
  mirror := none

def pool0 : Array CpInfo := pool [(5, u "<init>"), (0, u "()V"), (1, .class_ 10), (1, u "java/lang/Object")] 113

def k0m0 : Method := { name := "<init>", desc := "()V", sig := { parameters := [], returnType := none }, accessFlags := 1, code := none }
/-- java/lang/Object -/
def k0 : Class := { plain "java/lang/Object" none with
  accessFlags := 33
  interfaces := #[]
  cf := some (fileOf pool0 8 #[] #[{ accessFlags := 1, nameIndex := 5, descriptorIndex := 6, attributes := #[] }] 33 0 #[] #[])
  fields := #[]
  methods := #[k0m0]
  instanceTypes := #[]
  staticTypes := #[]
  resolved := Array.replicate 124 none
  statics := none }

def pool1 : Array CpInfo := pool [(2, .class_ 4), (1, u "java/lang/Object"), (0, u "<init>"), (0, u "()V"), (0, .integer 2147483647), (0, .fieldref 9 10), (0, .class_ 11), (0, .nameAndType 12 13), (0, u "com/example/gofyn/gofyn/typed/Term$Operator"), (0, u "EQUAL"), (0, u "Lcom/example/gofyn/gofyn/typed/Term$Operator;"), (0, .fieldref 9 15), (0, .nameAndType 16 13), (0, u "NOT_EQUAL"), (0, .fieldref 9 18), (0, .nameAndType 19 13), (0, u "LESS"), (0, .fieldref 9 21), (0, .nameAndType 22 13), (0, u "LESS_EQUAL"), (0, .fieldref 9 24), (0, .nameAndType 25 13), (0, u "GREATER"), (0, .fieldref 9 27), (0, .nameAndType 28 13), (0, u "GREATER_EQUAL"), (0, .methodref 30 31), (0, .class_ 32), (0, .nameAndType 33 34), (0, u "com/example/gofyn/gofyn/typed/OperatorMirroredPinLaw"), (0, u "pick"), (0, u "(I)Lcom/example/gofyn/gofyn/typed/Term$Operator;"), (0, .methodref 9 36), (0, .nameAndType 37 38), (0, u "mirrored"), (0, u "()Lcom/example/gofyn/gofyn/typed/Term$Operator;"), (0, .methodref 9 40), (0, .nameAndType 41 42), (0, u "holds"), (0, u "(II)Z"), (3, u "law"), (0, u "(III)Z")] 6

def k1m0 : Method := { name := "<init>", desc := "()V", sig := { parameters := [], returnType := none }, accessFlags := 2, code := none }
def k1c1 : Code := { maxStack := 2, maxLocals := 2, code := method_2_code, exceptionTable := #[], attributes := #[] }
def k1m1 : Method := { name := "pick", desc := "(I)Lcom/example/gofyn/gofyn/typed/Term$Operator;", sig := { parameters := [.int], returnType := some (.object "com/example/gofyn/gofyn/typed/Term$Operator") }, accessFlags := 10, code := some k1c1 }
def k1c2 : Code := { maxStack := 4, maxLocals := 9, code := code, exceptionTable := #[], attributes := #[] }
def k1m2 : Method := { name := "law", desc := "(III)Z", sig := { parameters := [.int, .int, .int], returnType := some .boolean }, accessFlags := 9, code := some k1c2 }
/-- com/example/gofyn/gofyn/typed/OperatorMirroredPinLaw -/
def k1 : Class := { plain "com/example/gofyn/gofyn/typed/OperatorMirroredPinLaw" (some 0) with
  accessFlags := 49
  interfaces := #[]
  cf := some (fileOf pool1 30 #[] #[{ accessFlags := 2, nameIndex := 5, descriptorIndex := 6, attributes := #[] }, { accessFlags := 10, nameIndex := 33, descriptorIndex := 34, attributes := #[] }, { accessFlags := 9, nameIndex := 46, descriptorIndex := 47, attributes := #[] }] 49 2 #[] #[])
  fields := #[]
  methods := #[k1m0, k1m1, k1m2]
  instanceTypes := #[]
  staticTypes := #[]
  resolved := Array.replicate 54 none
  statics := none }

def pool2 : Array CpInfo := pool [(1, .class_ 2), (0, u "java/lang/constant/Constable"), (0, .class_ 4), (0, u "java/lang/Object")] 6

/-- java/lang/constant/Constable -/
def k2 : Class := { plain "java/lang/constant/Constable" (some 0) with
  accessFlags := 1537
  interfaces := #[]
  cf := some (fileOf pool2 1 #[] #[] 1537 3 #[] #[])
  fields := #[]
  methods := #[]
  instanceTypes := #[]
  staticTypes := #[]
  resolved := Array.replicate 11 none
  statics := none }

def pool3 : Array CpInfo := pool [(1, .class_ 2), (0, u "java/lang/Comparable"), (0, .class_ 4), (0, u "java/lang/Object")] 7

/-- java/lang/Comparable -/
def k3 : Class := { plain "java/lang/Comparable" (some 0) with
  accessFlags := 1537
  interfaces := #[]
  cf := some (fileOf pool3 1 #[] #[] 1537 3 #[] #[])
  fields := #[]
  methods := #[]
  instanceTypes := #[]
  staticTypes := #[]
  resolved := Array.replicate 12 none
  statics := none }

def pool4 : Array CpInfo := pool [(1, .class_ 2), (0, u "java/io/Serializable"), (0, .class_ 4), (0, u "java/lang/Object")] 2

/-- java/io/Serializable -/
def k4 : Class := { plain "java/io/Serializable" (some 0) with
  accessFlags := 1537
  interfaces := #[]
  cf := some (fileOf pool4 1 #[] #[] 1537 3 #[] #[])
  fields := #[]
  methods := #[]
  instanceTypes := #[]
  staticTypes := #[]
  resolved := Array.replicate 7 none
  statics := none }

def pool5 : Array CpInfo := pool [(2, .class_ 4), (1, u "java/lang/Enum"), (0, u "name"), (0, u "Ljava/lang/String;"), (0, .fieldref 2 8), (0, .nameAndType 9 10), (0, u "ordinal"), (0, u "I"), (1, .class_ 14), (1, u "java/lang/Object"), (4, u "hash"), (86, .class_ 108), (1, u "java/lang/Enum$EnumDesc"), (2, .class_ 112), (0, u "java/lang/constant/Constable"), (0, .class_ 114), (0, u "java/lang/Comparable"), (0, .class_ 116), (0, u "java/io/Serializable"), (9, u "()I")] 77

def k5c0 : Code := { maxStack := 1, maxLocals := 1, code := jdk_37_method_2_code, exceptionTable := #[], attributes := #[] }
def k5m0 : Method := { name := "ordinal", desc := "()I", sig := { parameters := [], returnType := some .int }, accessFlags := 17, code := some k5c0 }
/-- java/lang/Enum -/
def k5 : Class := { plain "java/lang/Enum" (some 0) with
  accessFlags := 1057
  interfaces := #[2, 3, 4]
  cf := some (fileOf pool5 2 #[.nestMembers #[106]] #[{ accessFlags := 17, nameIndex := 9, descriptorIndex := 126, attributes := #[] }] 1057 12 #[111, 113, 115] #[{ accessFlags := 18, nameIndex := 5, descriptorIndex := 6, attributes := #[] }, { accessFlags := 18, nameIndex := 9, descriptorIndex := 10, attributes := #[] }, { accessFlags := 2, nameIndex := 19, descriptorIndex := 10, attributes := #[] }])
  fields := #[{ name := "name", type := (.object "java/lang/String"), accessFlags := 18, slot := 0, constantValue := 0 }, { name := "ordinal", type := .int, accessFlags := 18, slot := 1, constantValue := 0 }, { name := "hash", type := .int, accessFlags := 2, slot := 2, constantValue := 0 }]
  methods := #[k5m0]
  instanceTypes := #[(.object "java/lang/String"), .int, .int]
  staticTypes := #[]
  resolved := Array.replicate 204 none
  statics := none }

def pool6 : Array CpInfo := pool [(1, .class_ 2), (0, u "com/example/gofyn/gofyn/typed/Term$Operator"), (2, u "EQUAL"), (0, u "Lcom/example/gofyn/gofyn/typed/Term$Operator;"), (2, u "NOT_EQUAL"), (0, .fieldref 1 11), (0, .nameAndType 12 6), (0, u "LESS"), (0, .fieldref 1 14), (0, .nameAndType 15 6), (0, u "LESS_EQUAL"), (0, .fieldref 1 17), (0, .nameAndType 18 6), (0, u "GREATER"), (0, .fieldref 1 20), (0, .nameAndType 21 6), (0, u "GREATER_EQUAL"), (2, u "$VALUES"), (0, u "[Lcom/example/gofyn/gofyn/typed/Term$Operator;"), (6, .class_ 34), (1, u "java/lang/Enum"), (8, u "symbol"), (0, u "Ljava/lang/String;"), (0, .methodref 1 46), (0, .nameAndType 47 48), (0, u "ordinal"), (0, u "()I"), (5, .methodref 55 56), (0, .class_ 57), (0, .nameAndType 58 59), (0, u "java/lang/Integer"), (0, u "compare"), (0, u "(II)I"), (36, u "()Lcom/example/gofyn/gofyn/typed/Term$Operator;"), (0, u "mirrored"), (0, u "holds"), (0, u "(II)Z"), (6, .class_ 107), (0, u "com/example/gofyn/gofyn/typed/Term")] 2

def k6c0 : Code := { maxStack := 4, maxLocals := 1, code := prog_75_method_6_code, exceptionTable := #[], attributes := #[] }
def k6m0 : Method := { name := "mirrored", desc := "()Lcom/example/gofyn/gofyn/typed/Term$Operator;", sig := { parameters := [], returnType := some (.object "com/example/gofyn/gofyn/typed/Term$Operator") }, accessFlags := 0, code := some k6c0 }
def k6c1 : Code := { maxStack := 4, maxLocals := 4, code := prog_75_method_7_code, exceptionTable := #[], attributes := #[] }
def k6m1 : Method := { name := "holds", desc := "(II)Z", sig := { parameters := [.int, .int], returnType := some .boolean }, accessFlags := 0, code := some k6c1 }
/-- com/example/gofyn/gofyn/typed/Term$Operator -/
def k6 : Class := { plain "com/example/gofyn/gofyn/typed/Term$Operator" (some 5) with
  accessFlags := 16432
  interfaces := #[]
  cf := some (fileOf pool6 1 #[.nestHost 106] #[{ accessFlags := 0, nameIndex := 97, descriptorIndex := 96, attributes := #[] }, { accessFlags := 0, nameIndex := 98, descriptorIndex := 99, attributes := #[] }] 16432 32 #[] #[{ accessFlags := 16409, nameIndex := 5, descriptorIndex := 6, attributes := #[] }, { accessFlags := 16409, nameIndex := 9, descriptorIndex := 6, attributes := #[] }, { accessFlags := 16409, nameIndex := 12, descriptorIndex := 6, attributes := #[] }, { accessFlags := 16409, nameIndex := 15, descriptorIndex := 6, attributes := #[] }, { accessFlags := 16409, nameIndex := 18, descriptorIndex := 6, attributes := #[] }, { accessFlags := 16409, nameIndex := 21, descriptorIndex := 6, attributes := #[] }, { accessFlags := 18, nameIndex := 43, descriptorIndex := 44, attributes := #[] }, { accessFlags := 4122, nameIndex := 24, descriptorIndex := 25, attributes := #[] }])
  fields := #[{ name := "EQUAL", type := (.object "com/example/gofyn/gofyn/typed/Term$Operator"), accessFlags := 16409, slot := 0, constantValue := 0 }, { name := "NOT_EQUAL", type := (.object "com/example/gofyn/gofyn/typed/Term$Operator"), accessFlags := 16409, slot := 1, constantValue := 0 }, { name := "LESS", type := (.object "com/example/gofyn/gofyn/typed/Term$Operator"), accessFlags := 16409, slot := 2, constantValue := 0 }, { name := "LESS_EQUAL", type := (.object "com/example/gofyn/gofyn/typed/Term$Operator"), accessFlags := 16409, slot := 3, constantValue := 0 }, { name := "GREATER", type := (.object "com/example/gofyn/gofyn/typed/Term$Operator"), accessFlags := 16409, slot := 4, constantValue := 0 }, { name := "GREATER_EQUAL", type := (.object "com/example/gofyn/gofyn/typed/Term$Operator"), accessFlags := 16409, slot := 5, constantValue := 0 }, { name := "symbol", type := (.object "java/lang/String"), accessFlags := 18, slot := 3, constantValue := 0 }, { name := "$VALUES", type := (.array (.object "com/example/gofyn/gofyn/typed/Term$Operator")), accessFlags := 4122, slot := 6, constantValue := 0 }]
  methods := #[k6m0, k6m1]
  instanceTypes := #[(.object "java/lang/String"), .int, .int, (.object "java/lang/String")]
  staticTypes := #[(.object "com/example/gofyn/gofyn/typed/Term$Operator"), (.object "com/example/gofyn/gofyn/typed/Term$Operator"), (.object "com/example/gofyn/gofyn/typed/Term$Operator"), (.object "com/example/gofyn/gofyn/typed/Term$Operator"), (.object "com/example/gofyn/gofyn/typed/Term$Operator"), (.object "com/example/gofyn/gofyn/typed/Term$Operator"), (.array (.object "com/example/gofyn/gofyn/typed/Term$Operator"))]
  resolved := Array.replicate 110 none
  statics := some 0 }

def pool7 : Array CpInfo := pool [(2, .class_ 4), (1, u "java/lang/Object"), (0, u "<init>"), (0, u "()V"), (1, .class_ 10), (1, u "java/lang/Number"), (2, .class_ 14), (0, u "java/io/Serializable"), (0, u "serialVersionUID"), (0, u "J")] 20

def k7m0 : Method := { name := "<init>", desc := "()V", sig := { parameters := [], returnType := none }, accessFlags := 1, code := none }
/-- java/lang/Number -/
def k7 : Class := { plain "java/lang/Number" (some 0) with
  accessFlags := 1057
  interfaces := #[4]
  cf := some (fileOf pool7 8 #[] #[{ accessFlags := 1, nameIndex := 5, descriptorIndex := 6, attributes := #[] }] 1057 2 #[13] #[{ accessFlags := 26, nameIndex := 15, descriptorIndex := 16, attributes := #[] }])
  fields := #[{ name := "serialVersionUID", type := .long, accessFlags := 26, slot := 0, constantValue := 0 }]
  methods := #[k7m0]
  instanceTypes := #[]
  staticTypes := #[.long]
  resolved := Array.replicate 37 none
  statics := none }

def pool8 : Array CpInfo := pool [(1, .class_ 2), (0, u "java/lang/constant/ConstantDesc"), (0, .class_ 4), (0, u "java/lang/Object")] 32

/-- java/lang/constant/ConstantDesc -/
def k8 : Class := { plain "java/lang/constant/ConstantDesc" (some 0) with
  accessFlags := 1537
  interfaces := #[]
  cf := some (fileOf pool8 1 #[] #[] 1537 3 #[] #[])
  fields := #[]
  methods := #[]
  instanceTypes := #[]
  staticTypes := #[]
  resolved := Array.replicate 37 none
  statics := none }

def pool9 : Array CpInfo := pool [(1, .class_ 2), (0, u "java/lang/Integer"), (16, u "digits"), (0, u "[C"), (39, u "(II)I"), (24, u "DigitOnes"), (0, u "[B"), (2, u "DigitTens"), (99, .class_ 190), (0, u "java/lang/Integer$IntegerCache"), (3, u "I"), (8, .class_ 204), (0, u "java/lang/Number"), (2, u "value"), (53, u "compare"), (40, u "TYPE"), (0, u "Ljava/lang/Class;"), (0, .class_ 305), (0, u "java/lang/Comparable"), (0, .class_ 307), (0, u "java/lang/constant/Constable"), (0, .class_ 309), (0, u "java/lang/constant/ConstantDesc"), (0, u "MIN_VALUE"), (1, u "MAX_VALUE"), (3, u "SIZE"), (1, u "BYTES"), (1, u "serialVersionUID"), (0, u "J")] 131

def k9c0 : Code := { maxStack := 2, maxLocals := 2, code := jdk_33_method_40_code, exceptionTable := #[], attributes := #[] }
def k9m0 : Method := { name := "compare", desc := "(II)I", sig := { parameters := [.int, .int], returnType := some .int }, accessFlags := 9, code := some k9c0 }
/-- java/lang/Integer -/
def k9 : Class := { plain "java/lang/Integer" (some 7) with
  accessFlags := 49
  interfaces := #[3, 2, 8]
  cf := some (fileOf pool9 1 #[.nestMembers #[189]] #[{ accessFlags := 9, nameIndex := 261, descriptorIndex := 60, attributes := #[] }] 49 203 #[304, 306, 308] #[{ accessFlags := 25, nameIndex := 310, descriptorIndex := 194, attributes := #[] }, { accessFlags := 25, nameIndex := 312, descriptorIndex := 194, attributes := #[] }, { accessFlags := 25, nameIndex := 302, descriptorIndex := 303, attributes := #[] }, { accessFlags := 24, nameIndex := 19, descriptorIndex := 20, attributes := #[] }, { accessFlags := 24, nameIndex := 89, descriptorIndex := 86, attributes := #[] }, { accessFlags := 24, nameIndex := 85, descriptorIndex := 86, attributes := #[] }, { accessFlags := 18, nameIndex := 207, descriptorIndex := 194, attributes := #[] }, { accessFlags := 25, nameIndex := 316, descriptorIndex := 194, attributes := #[] }, { accessFlags := 25, nameIndex := 318, descriptorIndex := 194, attributes := #[] }, { accessFlags := 26, nameIndex := 320, descriptorIndex := 321, attributes := #[] }])
  fields := #[{ name := "MIN_VALUE", type := .int, accessFlags := 25, slot := 0, constantValue := 0 }, { name := "MAX_VALUE", type := .int, accessFlags := 25, slot := 1, constantValue := 0 }, { name := "TYPE", type := (.object "java/lang/Class"), accessFlags := 25, slot := 2, constantValue := 0 }, { name := "digits", type := (.array .char), accessFlags := 24, slot := 3, constantValue := 0 }, { name := "DigitTens", type := (.array .byte), accessFlags := 24, slot := 4, constantValue := 0 }, { name := "DigitOnes", type := (.array .byte), accessFlags := 24, slot := 5, constantValue := 0 }, { name := "value", type := .int, accessFlags := 18, slot := 0, constantValue := 0 }, { name := "SIZE", type := .int, accessFlags := 25, slot := 6, constantValue := 0 }, { name := "BYTES", type := .int, accessFlags := 25, slot := 7, constantValue := 0 }, { name := "serialVersionUID", type := .long, accessFlags := 26, slot := 8, constantValue := 0 }]
  methods := #[k9m0]
  instanceTypes := #[.int]
  staticTypes := #[.int, .int, (.object "java/lang/Class"), (.array .char), (.array .byte), (.array .byte), .int, .int, .long]
  resolved := Array.replicate 453 none
  statics := none }

def pool10 : Array CpInfo := pool [(1, u "java/lang/Cloneable"), (0, .class_ 1), (0, u "java/lang/Object"), (0, .class_ 3)] 3

/-- java/lang/Cloneable -/
def k10 : Class := { plain "java/lang/Cloneable" (some 0) with
  accessFlags := 1537
  interfaces := #[]
  cf := some (fileOf pool10 2 #[] #[] 1537 4 #[] #[])
  fields := #[]
  methods := #[]
  instanceTypes := #[]
  staticTypes := #[]
  resolved := Array.replicate 8 none
  statics := none }

/-- the primitive byte -/
def k11 : Class := { plain "byte" none with kind := .primitive 'B', accessFlags := 0x411 }
/-- [B -/
def k12 : Class := { plain "[B" (some 0) with kind := .array 11 .byte, interfaces := #[10, 4], accessFlags := 1041 }

/-- the primitive int -/
def k13 : Class := { plain "int" none with kind := .primitive 'I', accessFlags := 0x411 }
/-- [I -/
def k14 : Class := { plain "[I" (some 0) with kind := .array 13 .int, interfaces := #[10, 4], accessFlags := 1041 }

def heap : Heap := #[{ cls := 6, slots := #[.ref 1, .ref 2, .ref 3, .ref 6, .ref 4, .ref 5, .null], vm := .statics 6 },
  { cls := 6, slots := #[.null, .int 0, .int 0, .null], vm := .none },
  { cls := 6, slots := #[.null, .int 1, .int 0, .null], vm := .none },
  { cls := 6, slots := #[.null, .int 2, .int 0, .null], vm := .none },
  { cls := 6, slots := #[.null, .int 4, .int 0, .null], vm := .none },
  { cls := 6, slots := #[.null, .int 5, .int 0, .null], vm := .none },
  { cls := 6, slots := #[.null, .int 3, .int 0, .null], vm := .none }]
def classes : Array Class := #[k0, k1, k2, k3, k4, k5, k6, k7, k8, k9, k10, k11, k12, k13, k14]
def interned : List (Array UInt16 × Addr) := []
def slotsUsed : Nat := 31
def theMethod : MethodId := ⟨1, 2⟩
def args0 : Array Value := #[.int 5, .int 6, .int 7]
def aboutOver (below : List Frame) : State where
  vm := { classes := classes, interned := interned.toArray }
  heap := heap
  slotsUsed := slotsUsed
  threads := #[{ frames := .invoking theMethod args0 :: below }]
def below0 : List Frame := [.native { method := ⟨0, 0⟩, args := #[] }]
def about1 : State := aboutOver below0
def p0 : Program := .bare "" "" ""
def e0 : Env := launch0.env 0 0 0
theorem w_frames : about1.frames = Frame.invoking theMethod args0 :: below0 := rfl
set_option maxRecDepth 65536 in
theorem w_args : argsFit about1.vm theMethod args0 = true := by decide +kernel
set_option maxRecDepth 65536 in
theorem w_heap : heapFits about1 = true := by decide +kernel
set_option maxRecDepth 65536 in
theorem w_runnable : about1.curStatus? = some .runnable := by decide +kernel
set_option maxRecDepth 65536 in
theorem w_alone : about1.alone = true := by decide +kernel
set_option maxRecDepth 65536 in
theorem w_named : about1.methodNamed? x = some theMethod := by decide +kernel
set_option maxRecDepth 65536 in
theorem w_hears : about1.hears theMethod below0 = true := by decide +kernel
set_option maxRecDepth 65536 in
theorem w_ripe : about1.ripe theMethod args0 below0 = true := by decide +kernel
theorem w_running : about1.status = .running := rfl
set_option maxRecDepth 65536 in
theorem w_room : about1.hasRoom e0.platform room_1 = true :=
  launch0.hasRoom_least _ room_1 (by decide +kernel) (by decide +kernel) (by decide +kernel) (by decide +kernel) (by decide +kernel) (by decide +kernel)
theorem allAtoms_all (ts : List Jvm.Cond) (a : Array Jvm.Value) (st : Jvm.State) : (allAtoms ts).before a st = ts.all (fun c => c.before a st) := by
  induction ts with
  | nil => rfl
  | cons c t ih =>
    show (Jvm.Cond.and c (allAtoms t)).before a st = _
    rw [Jvm.Cond.before_and, ih, List.all_cons]
def words1 : List Jvm.Cond := Jvm.Cond.code x code maxLocals ret :: tables_1
/-- a 'code' word, met by the world's own term for the bytes: nothing is compared byte by byte -/
theorem code_word {y : MethodName} {bytes : ByteArray} {mx : Nat} {rt : Option FieldType} {a : Array Value} {s : State} {m : MethodId} {meth : Method} {c : Code} (h1 : s.methodNamed? y = some m) (h2 : s.vm.method? m = some meth) (h3 : meth.code = some c) (h4 : c.code = bytes)
    (h5 : (c.maxLocals == mx && c.exceptionTable.isEmpty && decide (c.maxStack ≤ mostOperands) && decide (meth.sig.returnType = rt) && !meth.locks && decide (parseMethodDescriptor y.desc = some meth.sig)) = true) : (Jvm.Cond.code y bytes mx rt).before a s = true := by
  simp only [Bool.and_eq_true, beq_iff_eq, Bool.not_eq_true', decide_eq_true_eq] at h5
  obtain ⟨⟨⟨⟨⟨g1, g2⟩, g3⟩, g4⟩, g5⟩, g6⟩ := h5
  simp [Cond.before, Cond.holds, Cond.value, h1, h2, h3, h4, g1, g2, g3, g4, g5, g6]
def isCode : Jvm.Cond → Bool
  | .code _ _ _ _ => true
  | _ => false
theorem all_split {L : List Jvm.Cond} {P : Jvm.Cond → Bool} (h1 : L.all (fun c => isCode c || P c) = true) (h2 : ∀ c ∈ L.filter isCode, P c = true) : L.all P = true := by
  refine List.all_eq_true.mpr fun c hc => ?_
  have h := List.all_eq_true.mp h1 c hc
  rcases Bool.eq_false_or_eq_true (isCode c) with hi | hi
  · exact h2 c (List.mem_filter.mpr ⟨hc, hi⟩)
  · simpa [hi] using h
set_option maxRecDepth 65536 in
theorem w_c0 : (Jvm.Cond.code x code maxLocals ret).before args0 about1 = true := code_word (m := ⟨1, 2⟩) (meth := k1m2) (c := k1c2) (by decide +kernel) rfl rfl rfl (by decide +kernel)
set_option maxRecDepth 65536 in
theorem w_c1 : (Jvm.Cond.code ({ cls := "com/example/gofyn/gofyn/typed/OperatorMirroredPinLaw", name := "pick", desc := "(I)Lcom/example/gofyn/gofyn/typed/Term$Operator;" } : Jvm.MethodName) method_2_code (2 : Nat) (Option.some (Jvm.ClassFile.FieldType.object "com/example/gofyn/gofyn/typed/Term$Operator"))).before args0 about1 = true := code_word (m := ⟨1, 1⟩) (meth := k1m1) (c := k1c1) (by decide +kernel) rfl rfl rfl (by decide +kernel)
set_option maxRecDepth 65536 in
theorem w_c2 : (Jvm.Cond.code ({ cls := "com/example/gofyn/gofyn/typed/Term$Operator", name := "mirrored", desc := "()Lcom/example/gofyn/gofyn/typed/Term$Operator;" } : Jvm.MethodName) prog_75_method_6_code (1 : Nat) (Option.some (Jvm.ClassFile.FieldType.object "com/example/gofyn/gofyn/typed/Term$Operator"))).before args0 about1 = true := code_word (m := ⟨6, 0⟩) (meth := k6m0) (c := k6c0) (by decide +kernel) rfl rfl rfl (by decide +kernel)
set_option maxRecDepth 65536 in
theorem w_c3 : (Jvm.Cond.code ({ cls := "java/lang/Enum", name := "ordinal", desc := "()I" } : Jvm.MethodName) jdk_37_method_2_code (1 : Nat) (Option.some Jvm.ClassFile.FieldType.int)).before args0 about1 = true := code_word (m := ⟨5, 0⟩) (meth := k5m0) (c := k5c0) (by decide +kernel) rfl rfl rfl (by decide +kernel)
set_option maxRecDepth 65536 in
theorem w_c4 : (Jvm.Cond.code ({ cls := "com/example/gofyn/gofyn/typed/Term$Operator", name := "holds", desc := "(II)Z" } : Jvm.MethodName) prog_75_method_7_code (4 : Nat) (Option.some Jvm.ClassFile.FieldType.boolean)).before args0 about1 = true := code_word (m := ⟨6, 1⟩) (meth := k6m1) (c := k6c1) (by decide +kernel) rfl rfl rfl (by decide +kernel)
set_option maxRecDepth 65536 in
theorem w_c5 : (Jvm.Cond.code ({ cls := "java/lang/Integer", name := "compare", desc := "(II)I" } : Jvm.MethodName) jdk_33_method_40_code (2 : Nat) (Option.some Jvm.ClassFile.FieldType.int)).before args0 about1 = true := code_word (m := ⟨9, 0⟩) (meth := k9m0) (c := k9c0) (by decide +kernel) rfl rfl rfl (by decide +kernel)
def codes1 : List Jvm.Cond := [Jvm.Cond.code x code maxLocals ret, Jvm.Cond.code ({ cls := "com/example/gofyn/gofyn/typed/OperatorMirroredPinLaw", name := "pick", desc := "(I)Lcom/example/gofyn/gofyn/typed/Term$Operator;" } : Jvm.MethodName) method_2_code (2 : Nat) (Option.some (Jvm.ClassFile.FieldType.object "com/example/gofyn/gofyn/typed/Term$Operator")), Jvm.Cond.code ({ cls := "com/example/gofyn/gofyn/typed/Term$Operator", name := "mirrored", desc := "()Lcom/example/gofyn/gofyn/typed/Term$Operator;" } : Jvm.MethodName) prog_75_method_6_code (1 : Nat) (Option.some (Jvm.ClassFile.FieldType.object "com/example/gofyn/gofyn/typed/Term$Operator")), Jvm.Cond.code ({ cls := "java/lang/Enum", name := "ordinal", desc := "()I" } : Jvm.MethodName) jdk_37_method_2_code (1 : Nat) (Option.some Jvm.ClassFile.FieldType.int), Jvm.Cond.code ({ cls := "com/example/gofyn/gofyn/typed/Term$Operator", name := "holds", desc := "(II)Z" } : Jvm.MethodName) prog_75_method_7_code (4 : Nat) (Option.some Jvm.ClassFile.FieldType.boolean), Jvm.Cond.code ({ cls := "java/lang/Integer", name := "compare", desc := "(II)I" } : Jvm.MethodName) jdk_33_method_40_code (2 : Nat) (Option.some Jvm.ClassFile.FieldType.int)]
set_option maxRecDepth 65536 in
theorem codes_eq : words1.filter isCode = codes1 := rfl
theorem w_codes : ∀ c ∈ words1.filter isCode, c.before args0 about1 = true := by
  rw [codes_eq]
  intro c hc
  simp only [codes1, List.mem_cons, List.not_mem_nil, or_false] at hc
  rcases hc with rfl | rfl | rfl | rfl | rfl | rfl
  · exact w_c0
  · exact w_c1
  · exact w_c2
  · exact w_c3
  · exact w_c4
  · exact w_c5
set_option maxRecDepth 65536 in
theorem w_t1 : (words1.take 24).all (fun c => isCode c || c.before args0 about1) = true := by decide +kernel
set_option maxRecDepth 65536 in
theorem w_t2 : (words1.drop 24).all (fun c => isCode c || c.before args0 about1) = true := by decide +kernel
theorem w_tables : (allAtoms (Jvm.Cond.code x code maxLocals ret :: tables_1)).before args0 about1 = true := by
  rw [allAtoms_all]
  show words1.all (fun c => c.before args0 about1) = true
  refine all_split ?_ w_codes
  rw [← List.take_append_drop 24 words1, List.all_append, w_t1, w_t2]
  rfl
set_option maxRecDepth 65536 in
theorem w_case : (Jvm.Cond.and given_1 narrow_1).before args0 about1 = true := by decide +kernel
theorem w_applies : (headSpec (Jvm.Cond.code x code maxLocals ret :: tables_1) room_1).applies x e0.platform about1 = true :=
  (Spec.applies_iff w_frames).mpr ⟨w_running, w_runnable, w_alone, w_named, w_hears, w_ripe, w_room, w_tables⟩
theorem atStart : AtStart classFile x code maxLocals ret World_1 tables_1 room_1 Calls_1 rest_1 Pre_1 launch0 p0 e0 about1 theMethod args0 below0 :=
  ⟨lists_1, trivial, launch0.admits_env _ _ _, launch0.least_env, fairChoices_fair.cas, fairChoices_fair.clock, w_frames, w_args, w_heap, w_applies, trivial, trivial, w_case⟩
end start1
theorem witness_1 : WitnessClaimed_1 := ⟨start1.p0, start1.e0, start1.about1, start1.theMethod, start1.args0, start1.below0, start1.atStart⟩
end Jvm.Pilot.@@N@@
