import JvmDerived
import JvmDerived.Pilot.@@N@@Statement
import JvmDerived.Pilot.@@N@@Code
set_option linter.unusedVariables false
set_option linter.unusedSimpArgs false
namespace Jvm.RoadKit
open Sem ClassFile Op Lib Jvm.Stand Jvm.Free Jvm.LawKit
section New
variable {p : Program} {l : Launch} {e : Env} {R : Room} {s : State} {m : MethodId} {args : Array Value} {below : List Frame} {meth : Method} {c : Code} {T : State} {locs : List Loc} {cells slots : Nat}
theorem retI (X : Stand p l e R s m args below meth c T locs cells slots) (hx : p.tables.exec = Jvm.exec) {pc : Nat} {Ls : Array Slot} {z : Int32} {rest : List Value} (hret : meth.sig.returnType = some .int) (hd : decode c.code pc = .ok (.ireturn, 1)) {fs : List Frame}
    (hl : ∀ (f : JFrame) (acts : List Action), f.method = m → f.locked = none → f.entered = [] → (doReturn e (T.setTop f) acts (some (.int z))).1 = T.setFrames fs) : Steps p.tables e below (T.setTop (mkF m pc Ls (.int z :: rest))) (T.setFrames fs) := by
  have hm' : T.vm.method? m = some meth := X.method'
  have hn : narrow .int (.int z) = .int z := rfl
  show Steps p.tables e below (T.setTop { method := m, pc := pc, locals := Ls, stack := _ :: rest, locked := none }) _
  jvm_step X.here [X.here.top, hx, hd, hm', hret, hn]
  first | (intro acts; rw [hl _ acts rfl rfl rfl]) | rw [hl _ _ rfl rfl rfl]
  exact Steps.refl _
end New
end Jvm.RoadKit
namespace Jvm.Pilot.@@N@@
open Jvm Jvm.ClassFile Sem Op Lib Jvm.Free Jvm.Stand Jvm.LawKit Jvm.RoadKit Bundle Jvm.Pilot.@@N@@.Jvm.D
theorem own_pad {Z : State} {h : Heap} {a : Addr} {k : ClassId} {ty : FieldType} {z : Int32} {dv : Value} (F : Arv Z h a k ty z [] dv) (n : Nat) (vs : List Value) (e : vs = List.replicate n dv) : Arv Z h a k ty z vs dv := e ▸ F.pad (pad_rep [] dv n)
theorem own_irr32 (x : Int32) : ¬ x < x := Int32.lt_irrefl
theorem own_irr64 (x : Int64) : ¬ x < x := Int64.lt_irrefl
theorem own_fldI {args : Array Value} {s : State} {t : Term} {C n d : String} {x : Addr} {k : Int32} (ht : t.eval args s none [] s = some (.ref x)) (h : (Cond.eq (Term.field t C n d) (Term.int k)).value args s none s [] = some true) : Fld s s.heap x C n d (.int k) := Fld.start ((fld_at ht).symm.trans (eqv_i (Term.int_eval k) h))
theorem own_fldJ {args : Array Value} {s : State} {t : Term} {C n d : String} {x : Addr} {k : Int64} (ht : t.eval args s none [] s = some (.ref x)) (h : (Cond.eq (Term.field t C n d) (Term.long k)).value args s none s [] = some true) : Fld s s.heap x C n d (.long k) := Fld.start ((fld_at ht).symm.trans (eqv_l (long_at k) h))
theorem own_len {args : Array Value} {s : State} {t : Term} {x : Addr} {cl : Cell} {ty : FieldType} {k : Int32} (ht : t.eval args s none [] s = some (.ref x)) (A : Arr s s.heap x cl ty) (h : (Cond.eq (Term.length t) (Term.int k)).value args s none s [] = some true) : cl.slots.size.toInt32 = k ∧ cl.slots.size < 2 ^ 31 := by
  have e := eqv_i (Term.int_eval k) h
  have ha := A.fin (Vm.Alike.refl _)
  by_cases q : cl.slots.size < 2 ^ 31
  · have e2 := (len_f ht ha q).symm.trans e
    exact ⟨Value.int.inj (Option.some.inj e2), q⟩
  · simp [Term.eval, ht, ha, q] at e
theorem own_elem {args : Array Value} {s : State} {t u : Term} {x : Addr} {cl : Cell} {ty : FieldType} {k : Int32} {v : Value} (ht : t.eval args s none [] s = some (.ref x)) (A : Arr s s.heap x cl ty) (hu : u.eval args s none [] s = some v) (hv : v.isRef = true) (h : (Cond.eq (Term.elem t (Term.int k)) u).value args s none s [] = some true) : cl.slots[k.toNatClampNeg]? = some v := by
  obtain ⟨a, b, h1, h2, h3, h4⟩ := cmp_v (Or.inl h)
  have hb := Option.some.inj (h2.symm.trans hu)
  subst hb
  obtain ⟨c', e1, e2, e3⟩ := elem_at h1 ht (Term.int_eval k)
  have ec := Option.some.inj (e1.symm.trans A.1)
  subst ec
  have ha : a.isRef = true := by
    rcases ref_cases hv with rfl | ⟨y, rfl⟩
    · exact h4.2
    · exact h4.2
  rw [e3, gotT (eq_R h1 h2 ha hv) h]
def own_KL (h h' : Heap) (ls : List Loc) : Prop := h.size ≤ h'.size ∧ ∀ (x : Addr) (c : Cell), h[x]? = some c → ∃ c' : Cell, h'[x]? = some c' ∧ c'.cls = c.cls ∧ c'.vm = c.vm ∧ c'.slots.size = c.slots.size ∧ ((∀ y ∈ ls, y.base ≠ x) → c' = c) ∧ ∀ i, (⟨x, i⟩ : Loc) ∉ ls → c'.slots[i]? = c.slots[i]?
section OwnKL
variable {Z : State} {h0 h h' : Heap} {ls ls' : List Loc} {a b x : Addr} {i j sl n0 : Nat} {v : Value} {C n d : String}
theorem own_kl0 (h : Heap) (ls : List Loc) : own_KL h h ls := ⟨Nat.le_refl _, fun x c q => ⟨c, q, rfl, rfl, rfl, fun _ => rfl, fun _ _ => rfl⟩⟩
theorem own_klE (K : own_KL h0 h ls) (E : Ext h h') : own_KL h0 h' ls := ⟨Nat.le_trans K.1 E.1, fun x c q => by obtain ⟨c', q', r⟩ := K.2 x c q; exact ⟨c', E.2 x c' q', r⟩⟩
theorem own_klT (K : own_KL h0 h ls) (K' : own_KL h h' ls') (q : ∀ y ∈ ls', y ∈ ls ∨ h0.size ≤ y.base) : own_KL h0 h' ls := by
  refine ⟨Nat.le_trans K.1 K'.1, fun x c hc => ?_⟩
  obtain ⟨c1, a1, a2, a3, a4, a5, a6⟩ := K.2 x c hc
  obtain ⟨c2, b1, b2, b3, b4, b5, b6⟩ := K'.2 x c1 a1
  have hx : x < h0.size := (Array.getElem?_eq_some_iff.mp hc).1
  refine ⟨c2, b1, b2.trans a2, b3.trans a3, b4.trans a4, fun hn => ?_, fun i hi => ?_⟩
  · rw [← a5 hn]; exact b5 fun y hy e => (q y hy).elim (fun z => hn y z e) (fun z => absurd hx (Nat.not_lt.mpr (e ▸ z)))
  · rw [← a6 i hi]; exact b6 i fun z => (q _ z).elim hi (fun u => absurd hx (Nat.not_lt.mpr u))
theorem own_klofW (W : Wr h h' a sl v) : own_KL h h' [⟨a, sl⟩] := by
  refine ⟨Nat.le_of_eq W.size.symm, fun x c hc => ?_⟩
  obtain ⟨c', e1, e2, e3, e4, e5, e6, -⟩ := wr_at W hc
  refine ⟨c', e1, e2, e3, e4, fun hn => e5 fun q => hn _ (List.mem_singleton.mpr rfl) q.symm, fun i hi => ?_⟩
  by_cases q : x = a
  · exact e6 i fun r => hi (by rw [q, r]; exact List.mem_singleton.mpr rfl)
  · rw [e5 q]
theorem own_klW (K : own_KL h0 h ls) (W : Wr h h' a sl v) (q : (⟨a, sl⟩ : Loc) ∈ ls ∨ h0.size ≤ a) : own_KL h0 h' ls := own_klT K (own_klofW W) fun y hy => by cases List.mem_singleton.mp hy; exact q
theorem own_ka0 : ∀ y ∈ ([] : List Loc), y ∈ ls ∨ n0 ≤ y.base := fun _ q => nomatch q
theorem own_kac (q : (⟨a, sl⟩ : Loc) ∈ ls ∨ n0 ≤ a) (r : ∀ y ∈ ls', y ∈ ls ∨ n0 ≤ y.base) : ∀ y ∈ (⟨a, sl⟩ : Loc) :: ls', y ∈ ls ∨ n0 ≤ y.base := fun y z => (List.mem_cons.mp z).elim (fun u => u ▸ q) (r y)
theorem own_ng0 : ∀ y ∈ ([] : List Loc), n0 ≤ y.base := fun _ q => nomatch q
theorem own_ngc (q : n0 ≤ a) (r : ∀ y ∈ ls', n0 ≤ y.base) : ∀ y ∈ (⟨a, sl⟩ : Loc) :: ls', n0 ≤ y.base := fun y z => (List.mem_cons.mp z).elim (fun u => u ▸ q) (r y)
theorem own_nb0 : ∀ y ∈ ([] : List Loc), y.base ≠ a := fun _ q => nomatch q
theorem own_nbc (q : b ≠ a) (r : ∀ y ∈ ls', y.base ≠ a) : ∀ y ∈ (⟨b, sl⟩ : Loc) :: ls', y.base ≠ a := fun y z => (List.mem_cons.mp z).elim (fun u => u ▸ q) (r y)
theorem own_nl0 : (⟨a, i⟩ : Loc) ∉ ([] : List Loc) := fun q => nomatch q
theorem own_nlb (q : a ≠ b) (r : (⟨a, i⟩ : Loc) ∉ ls) : (⟨a, i⟩ : Loc) ∉ (⟨b, j⟩ : Loc) :: ls := fun z => (List.mem_cons.mp z).elim (fun u => q (congrArg Loc.base u)) r
theorem own_nls (q : i ≠ j) (r : (⟨a, i⟩ : Loc) ∉ ls) : (⟨a, i⟩ : Loc) ∉ (⟨b, j⟩ : Loc) :: ls := fun z => (List.mem_cons.mp z).elim (fun u => q (congrArg Loc.slot u)) r
theorem own_exa (F : Exa Z h a C) (K : own_KL h h' ls) : Exa Z h' a C := by
  obtain ⟨cell, k, h1, h2, h3, h4, h5⟩ := F
  obtain ⟨c', e1, e2, e3, e4, -⟩ := K.2 _ _ h1
  exact ⟨c', k, e1, by rw [e2]; exact h2, by rw [e2]; exact h3, by rw [e3]; exact h4, by rw [e4]; exact h5⟩
theorem own_fld (F : Fld Z h a C n d v) (K : own_KL h h' ls) (q : (⟨a, Jvm.RoadKit.slotOf Z C n d⟩ : Loc) ∉ ls) : Fld Z h' a C n d v := by
  obtain ⟨cell, cf, k, i, f, h1, h2, h3, h4, h5, h6, h7⟩ := F
  obtain ⟨c', e1, e2, e3, e4, -, e6⟩ := K.2 _ _ h1
  refine ⟨c', cf, k, i, f, e1, h2, h3, by rw [e3]; exact h4, by rw [e3]; exact h5, by rw [e2]; exact h6, ?_⟩
  rw [e6 _ (by simpa [Jvm.RoadKit.slotOf, h2] using q)]; exact h7
theorem own_arv {k : ClassId} {ty : FieldType} {z : Int32} {vs : List Value} {dv : Value} (F : Arv Z h a k ty z vs dv) (K : own_KL h h' ls) (q : ∀ y ∈ ls, y.base ≠ a) : Arv Z h' a k ty z vs dv := by
  obtain ⟨c, A, r⟩ := F
  obtain ⟨c', e1, -, -, -, e5, -⟩ := K.2 _ _ A.1
  cases e5 q
  exact ⟨c, ⟨e1, A.2⟩, r⟩
theorem own_old (O : Old Z n0 h) (K : own_KL h h' ls) (q : ∀ y ∈ ls, n0 ≤ y.base) : Old Z n0 h' := ⟨O.1, Nat.le_trans O.2.1 K.1, fun x c r => by
  obtain ⟨c', e1, -, -, -, e5, -⟩ := K.2 x c (O.2.2 x c r)
  have hx : x < n0 := O.1 ▸ (Array.getElem?_eq_some_iff.mp r).1
  rw [e1, e5 fun y hy e => absurd hx (Nat.not_lt.mpr (e ▸ q y hy))]⟩
end OwnKL
theorem own_NSroot {Z : State} {a0 : Array Value} {O K : String} {n : Nat} (w : (Cond.noSuperclass O).before a0 Z = true) (wk : (Cond.instantiable K n).before a0 Z = true) (hn : O ≠ K) : NS Z O K := by
  obtain ⟨c, k, h1, h2, h3, -, -⟩ := Cond.noSuperclass_spec w
  obtain ⟨t, -, g1, -⟩ := Cond.instantiable_spec wk
  have ne := ids_ne h1 g1 hn
  refine ⟨c, t, h1, g1, fun fuel => ?_⟩
  cases fuel with
  | zero => rfl
  | succ f => simp [Vm.isSubclassAux, ne, h2, h3]
theorem own_NSno {Z : State} {a0 : Array Value} {C S K : String} {n : Nat} (w : (Cond.superclass C S).before a0 Z = true) (wk : (Cond.instantiable K n).before a0 Z = true) (u : NS Z C K) (hn : C ≠ K) : ∃ c t, Z.vm.findClass C = some c ∧ Z.vm.findClass K = some t ∧ Z.vm.assignable c t = false := by
  obtain ⟨c, t, h0, g0, n3⟩ := u
  obtain ⟨p, k, kp, h1, h2, h3, h4, h5, -, h7⟩ := Cond.superclass_spec h0 w
  obtain ⟨t', k', g1, g2, g5, g7, -⟩ := Cond.instantiable_spec wk
  cases g0.symm.trans g1
  have ne := ids_ne h0 g0 hn
  have g8 : k'.isInterface = false := by cases hI : k'.isInterface <;> simp [hI] at g7 ⊢
  refine ⟨c, t, h0, g0, ?_⟩
  show Z.vm.assignableAux (255 + 1) c t = false
  simp [Vm.assignableAux, ne, h2, g2, h5, g5, g8, Vm.isSubclass, n3]
theorem own_boxI {Z : State} {args : Array Value} {t : Term} {a : Addr} {c : Cell} {K : String} {z : Int32} (et : ∀ idx, t.eval args Z none idx Z = some (.ref a)) (A : Arr Z Z.heap a c (.object K)) (q : c.slots.size.toInt32 = z ∧ c.slots.size < 2 ^ 31) (hz : ¬ z < 0)
    (h : (Cond.all t (.and (.exactly (.elem t (.index 0)) K) (.eq (.field (.elem t (.index 0)) K "value" "I") (.sub (.index 0) (.int 128))))).value args Z none Z [] = some true) : Bxs Z a c K "I" z (fun j => .int (j - 128)) :=
  Bxs.start et A q.2 q.1 hz h fun X j nn hh => eqv_i (by simp [Term.eval, idx_at nn, (back32 nn).1]) hh
theorem own_boxJ {Z : State} {args : Array Value} {t : Term} {a : Addr} {c : Cell} {K : String} {z : Int32} (et : ∀ idx, t.eval args Z none idx Z = some (.ref a)) (A : Arr Z Z.heap a c (.object K)) (q : c.slots.size.toInt32 = z ∧ c.slots.size < 2 ^ 31) (hz : ¬ z < 0)
    (h : (Cond.all t (.and (.exactly (.elem t (.index 0)) K) (.eq (.field (.elem t (.index 0)) K "value" "J") (.op1 .i2l (.sub (.index 0) (.int 128)))))).value args Z none Z [] = some true) : Bxs Z a c K "J" z (fun j => .long (j - 128).toInt64) :=
  Bxs.start et A q.2 q.1 hz h fun X j nn hh => eqv_l (i2l_at (by simp [Term.eval, idx_at nn, (back32 nn).1])) hh
theorem own_staI {s : State} {args : Array Value} {C n d : String} {k : Int32} (h : (Cond.eq (Term.static C n d) (Term.int k)).value args s none s [] = some true) : (Term.static C n d).eval args s none [] s = some (.int k) := eqv_i (Term.int_eval k) h
theorem own_selp {Z : State} {a0 : Array Value} {y : MethodName} {n : Nat} (wi : (Cond.instantiable y.cls n).before a0 Z = true) (wp : (Cond.privateMethod y).before a0 Z = true) (wm : (Cond.instanceMethod y).before a0 Z = true) (hy : y.cls ≠ "java/lang/invoke/MethodHandle" ∧ y.cls ≠ "java/lang/invoke/VarHandle") : (Cond.selects y.cls y y).before a0 Z = true := by
  obtain ⟨c, k, h1, h2, -, h4, -⟩ := Cond.instantiable_spec wi
  exact selects_self_of_private h1 h2 (by cases hI : k.isInterface <;> simp [hI] at h4 ⊢) (Cond.privateMethod_at wp) wm hy
def own_Gk (Z : State) (h : Heap) (a : Addr) (k : ClassId) (ty : FieldType) (n j : Int32) (v : Value) : Prop := ∃ c : Cell, Arr Z h a c ty ∧ c.cls = k ∧ c.slots.size = n.toNatClampNeg ∧ ¬ n < 0 ∧ c.slots[j.toNatClampNeg]? = some v
section OwnGk
variable {Z : State} {h h' : Heap} {ls : List Loc} {a b : Addr} {k : ClassId} {ty : FieldType} {n j : Int32} {v u : Value} {sl : Nat}
theorem own_Gk.lt (F : own_Gk Z h a k ty n j v) : a < h.size := by obtain ⟨c, A, -⟩ := F; exact A.lt
theorem own_gk_ext (F : own_Gk Z h a k ty n j v) (E : Ext h h') : own_Gk Z h' a k ty n j v := by obtain ⟨c, A, r⟩ := F; exact ⟨c, A.ext E, r⟩
theorem own_gk_oth (F : own_Gk Z h a k ty n j v) (W : Wr h h' b sl u) (q : a ≠ b) : own_Gk Z h' a k ty n j v := by obtain ⟨c, A, r⟩ := F; exact ⟨c, A.other W q, r⟩
theorem own_gk_kl (F : own_Gk Z h a k ty n j v) (K : own_KL h h' ls) (q : ∀ y ∈ ls, y.base ≠ a) : own_Gk Z h' a k ty n j v := by
  obtain ⟨c, A, r⟩ := F
  obtain ⟨c', e1, -, -, -, e5, -⟩ := K.2 _ _ A.1
  cases e5 q
  exact ⟨c, ⟨e1, A.2⟩, r⟩
theorem own_gk_set {c : Cell} (A : Arr Z h a c ty) (q1 : c.cls = k) (S : c.slots.size = n.toNatClampNeg) (N : ¬ n < 0) (W : Wr h h' a j.toNatClampNeg v) : own_Gk Z h' a k ty n j v := by
  obtain ⟨c', e1, e2, e3, e4, -, -, e7⟩ := wr_at W A.1
  have e8 := (e7 rfl).1
  exact ⟨_, A.same W, q1, by rw [sz_set]; exact S, N, by rw [← e8]; exact (e7 rfl).2.1⟩
end OwnGk
section OwnSteps
variable {p : Program} {l : Launch} {e : Env} {R : Room} {s : State} {m : MethodId} {args : Array Value} {below : List Frame} {meth : Method} {c : Code} {T target : State} {locs : List Loc} {cells slots : Nat} {code : ByteArray} {pc : Nat} {Ls : Array Slot} {K : List Value}
theorem sc (X : Stand p l e R s m args below meth c T locs cells slots) (hx : p.tables.exec = Jvm.exec) (hby : c.code = code) {i : Int} (hd : decode code pc = .ok (.iconst i, 1)) (hr : Steps p.tables e below (T.setTop (mkF m (pc + 1) Ls (.int (Int32.ofInt i) :: K))) target) : Steps p.tables e below (T.setTop (mkF m pc Ls K)) target := XS.iconst X.here hx rfl (hb hby hd) hr
theorem sa (X : Stand p l e R s m args below meth c T locs cells slots) (hx : p.tables.exec = Jvm.exec) (hby : c.code = code) {k : Nat} {v : Value} (hd : decode code pc = .ok (.aload k, 2)) (hl : Ls[k]? = some (.val v)) (hv : v.isRef = true) (hr : Steps p.tables e below (T.setTop (mkF m (pc + 2) Ls (v :: K))) target) : Steps p.tables e below (T.setTop (mkF m pc Ls K)) target := XS.aload X.here hx rfl (hb hby hd) hl hv hr
theorem sA (X : Stand p l e R s m args below meth c T locs cells slots) (hx : p.tables.exec = Jvm.exec) (hby : c.code = code) {k : Fin 4} {v : Value} (hd : decode code pc = .ok (.aload_n k, 1)) (hl : Ls[k.val]? = some (.val v)) (hv : v.isRef = true) (hr : Steps p.tables e below (T.setTop (mkF m (pc + 1) Ls (v :: K))) target) : Steps p.tables e below (T.setTop (mkF m pc Ls K)) target := XS.aloadN X.here hx rfl (hb hby hd) hl hv hr
theorem si (X : Stand p l e R s m args below meth c T locs cells slots) (hx : p.tables.exec = Jvm.exec) (hby : c.code = code) {k : Nat} {v : Int32} (hd : decode code pc = .ok (.iload k, 2)) (hl : Ls[k]? = some (.val (.int v))) (hr : Steps p.tables e below (T.setTop (mkF m (pc + 2) Ls (.int v :: K))) target) : Steps p.tables e below (T.setTop (mkF m pc Ls K)) target := XS.iload X.here hx rfl (hb hby hd) hl hr
theorem sI (X : Stand p l e R s m args below meth c T locs cells slots) (hx : p.tables.exec = Jvm.exec) (hby : c.code = code) {k : Fin 4} {v : Int32} (hd : decode code pc = .ok (.iload_n k, 1)) (hl : Ls[k.val]? = some (.val (.int v))) (hr : Steps p.tables e below (T.setTop (mkF m (pc + 1) Ls (.int v :: K))) target) : Steps p.tables e below (T.setTop (mkF m pc Ls K)) target := XS.iloadN X.here hx rfl (hb hby hd) hl hr
theorem sL (X : Stand p l e R s m args below meth c T locs cells slots) (hx : p.tables.exec = Jvm.exec) (hby : c.code = code) {k : Fin 4} {v : Int64} (hd : decode code pc = .ok (.lload_n k, 1)) (hl : Ls[k.val]? = some (.val (.long v))) (hr : Steps p.tables e below (T.setTop (mkF m (pc + 1) Ls (.long v :: K))) target) : Steps p.tables e below (T.setTop (mkF m pc Ls K)) target := XS.lloadN X.here hx rfl (hb hby hd) hl hr
theorem sg (X : Stand p l e R s m args below meth c T locs cells slots) (hx : p.tables.exec = Jvm.exec) (hby : c.code = code) {o : Int} {pc' : Nat} (hd : decode code pc = .ok (.goto o, 3)) (ho : 0 ≤ (pc : Int) + o) (hp : ((pc : Int) + o).toNat = pc') (hr : Steps p.tables e below (T.setTop (mkF m pc' Ls K)) target) : Steps p.tables e below (T.setTop (mkF m pc Ls K)) target := XS.goto X.here hx rfl rfl (hb hby hd) ho hp hr
theorem sn (X : Stand p l e R s m args below meth c T locs cells slots) (hx : p.tables.exec = Jvm.exec) (hby : c.code = code) {cd : ClassFile.Cond} {o : Int} {x y : Int32} (hd : decode code pc = .ok (.if_icmp cd o, 3)) (hc : if_icmp.holds cd x y = false) (hr : Steps p.tables e below (T.setTop (mkF m (pc + 3) Ls K)) target) : Steps p.tables e below (T.setTop (mkF m pc Ls (.int y :: .int x :: K))) target := XS.icmpNo X.here hx rfl (hb hby hd) rfl hc hr
theorem sN (X : Stand p l e R s m args below meth c T locs cells slots) (hx : p.tables.exec = Jvm.exec) (hby : c.code = code) {cd : ClassFile.Cond} {o : Int} {x : Int32} (hd : decode code pc = .ok (.ifCond cd o, 3)) (hc : ifCond.holds cd x = false) (hr : Steps p.tables e below (T.setTop (mkF m (pc + 3) Ls K)) target) : Steps p.tables e below (T.setTop (mkF m pc Ls (.int x :: K))) target := XS.ifNo X.here hx rfl (hb hby hd) rfl hc hr
end OwnSteps

theorem own_rem6 (x : Int32) : (x &&& 2147483647) % 6 = 0 ∨ (x &&& 2147483647) % 6 = 1 ∨ (x &&& 2147483647) % 6 = 2 ∨ (x &&& 2147483647) % 6 = 3 ∨ (x &&& 2147483647) % 6 = 4 ∨ (x &&& 2147483647) % 6 = 5 := by
  have h : (x &&& 2147483647).toInt = x.toInt % 2147483648 := c_mask x 2147483647 31 (by decide) (by decide)
  have h2 : ((x &&& 2147483647) % 6).toInt = (x &&& 2147483647).toInt % 6 := by
    rw [Int32.toInt_mod, Int.tmod_eq_emod_of_nonneg (by rw [h]; omega)]; rfl
  have hr : ((x &&& 2147483647) % 6).toInt = 0 ∨ ((x &&& 2147483647) % 6).toInt = 1 ∨ ((x &&& 2147483647) % 6).toInt = 2 ∨ ((x &&& 2147483647) % 6).toInt = 3 ∨ ((x &&& 2147483647) % 6).toInt = 4 ∨ ((x &&& 2147483647) % 6).toInt = 5 := by omega
  rcases hr with q | q | q | q | q | q
  · exact Or.inl (Int32.toInt_inj.mp q)
  · exact Or.inr (Or.inl (Int32.toInt_inj.mp q))
  · exact Or.inr (Or.inr (Or.inl (Int32.toInt_inj.mp q)))
  · exact Or.inr (Or.inr (Or.inr (Or.inl (Int32.toInt_inj.mp q))))
  · exact Or.inr (Or.inr (Or.inr (Or.inr (Or.inl (Int32.toInt_inj.mp q)))))
  · exact Or.inr (Or.inr (Or.inr (Or.inr (Or.inr (Int32.toInt_inj.mp q)))))
abbrev ym0 : MethodName := ⟨"com/example/gofyn/gofyn/typed/OperatorIsEqualityPinLaw", "pick", "(I)Lcom/example/gofyn/gofyn/typed/Term$Operator;"⟩
abbrev ym1 : MethodName := ⟨"com/example/gofyn/gofyn/typed/Term$Operator", "isEquality", "()Z"⟩
abbrev ym2 : MethodName := ⟨"java/lang/Enum", "ordinal", "()I"⟩
abbrev ym3 : MethodName := ⟨"com/example/gofyn/gofyn/typed/Term$Operator", "ordinal", "()I"⟩
abbrev ym4 : MethodName := ⟨"com/example/gofyn/gofyn/typed/Term$Operator", "mirrored", "()Lcom/example/gofyn/gofyn/typed/Term$Operator;"⟩
abbrev ym5 : MethodName := ⟨"com/example/gofyn/gofyn/typed/Term$Operator", "complement", "()Lcom/example/gofyn/gofyn/typed/Term$Operator;"⟩
abbrev ym6 : MethodName := ⟨"java/lang/Integer", "compare", "(II)I"⟩
abbrev ym7 : MethodName := ⟨"com/example/gofyn/gofyn/typed/Term$Operator", "holds", "(II)Z"⟩
theorem wk0 {Z : State} {a0 : Array Value} (hw : ∀ d ∈ tables_1, d.before a0 Z = true) : (Jvm.Cond.constant "com/example/gofyn/gofyn/typed/OperatorIsEqualityPinLaw" (28 : Nat) (2147483647 : Int32)).before a0 Z = true := hw _ (List.mem_of_getElem? (i := 0) rfl)
theorem wk1 {Z : State} {a0 : Array Value} (hw : ∀ d ∈ tables_1, d.before a0 Z = true) : (Jvm.Cond.methodLink "com/example/gofyn/gofyn/typed/OperatorIsEqualityPinLaw" (29 : Nat) ({ cls := "com/example/gofyn/gofyn/typed/OperatorIsEqualityPinLaw", name := "pick", desc := "(I)Lcom/example/gofyn/gofyn/typed/Term$Operator;" } : Jvm.MethodName)).before a0 Z = true := hw _ (List.mem_of_getElem? (i := 1) rfl)
theorem wk2 {Z : State} {a0 : Array Value} (hw : ∀ d ∈ tables_1, d.before a0 Z = true) : (Jvm.Cond.static ({ cls := "com/example/gofyn/gofyn/typed/OperatorIsEqualityPinLaw", name := "pick", desc := "(I)Lcom/example/gofyn/gofyn/typed/Term$Operator;" } : Jvm.MethodName)).before a0 Z = true := hw _ (List.mem_of_getElem? (i := 2) rfl)
theorem wk3 {Z : State} {a0 : Array Value} (hw : ∀ d ∈ tables_1, d.before a0 Z = true) : (Jvm.Cond.initialized "com/example/gofyn/gofyn/typed/OperatorIsEqualityPinLaw").before a0 Z = true := hw _ (List.mem_of_getElem? (i := 3) rfl)
theorem wk4 {Z : State} {a0 : Array Value} (hw : ∀ d ∈ tables_1, d.before a0 Z = true) : (Jvm.Cond.code ({ cls := "com/example/gofyn/gofyn/typed/OperatorIsEqualityPinLaw", name := "pick", desc := "(I)Lcom/example/gofyn/gofyn/typed/Term$Operator;" } : Jvm.MethodName) method_2_code (1 : Nat) (Option.some (Jvm.ClassFile.FieldType.object "com/example/gofyn/gofyn/typed/Term$Operator"))).before a0 Z = true := hw _ (List.mem_of_getElem? (i := 4) rfl)
theorem wk5 {Z : State} {a0 : Array Value} (hw : ∀ d ∈ tables_1, d.before a0 Z = true) : (Jvm.Cond.fieldLink "com/example/gofyn/gofyn/typed/OperatorIsEqualityPinLaw" (7 : Nat) "com/example/gofyn/gofyn/typed/Term$Operator" "EQUAL" "Lcom/example/gofyn/gofyn/typed/Term$Operator;").before a0 Z = true := hw _ (List.mem_of_getElem? (i := 5) rfl)
theorem wk6 {Z : State} {a0 : Array Value} (hw : ∀ d ∈ tables_1, d.before a0 Z = true) : (Jvm.Cond.initialized "com/example/gofyn/gofyn/typed/Term$Operator").before a0 Z = true := hw _ (List.mem_of_getElem? (i := 6) rfl)
theorem wk7 {Z : State} {a0 : Array Value} (hw : ∀ d ∈ tables_1, d.before a0 Z = true) : (Jvm.Cond.laysStatic "com/example/gofyn/gofyn/typed/Term$Operator" "EQUAL" "Lcom/example/gofyn/gofyn/typed/Term$Operator;").before a0 Z = true := hw _ (List.mem_of_getElem? (i := 7) rfl)
theorem wk8 {Z : State} {a0 : Array Value} (hw : ∀ d ∈ tables_1, d.before a0 Z = true) : (Jvm.Cond.methodLink "com/example/gofyn/gofyn/typed/OperatorIsEqualityPinLaw" (35 : Nat) ({ cls := "com/example/gofyn/gofyn/typed/Term$Operator", name := "isEquality", desc := "()Z" } : Jvm.MethodName)).before a0 Z = true := hw _ (List.mem_of_getElem? (i := 8) rfl)
theorem wk9 {Z : State} {a0 : Array Value} (hw : ∀ d ∈ tables_1, d.before a0 Z = true) : (Jvm.Cond.declares ({ cls := "com/example/gofyn/gofyn/typed/Term$Operator", name := "isEquality", desc := "()Z" } : Jvm.MethodName)).before a0 Z = true := hw _ (List.mem_of_getElem? (i := 9) rfl)
theorem wk10 {Z : State} {a0 : Array Value} (hw : ∀ d ∈ tables_1, d.before a0 Z = true) : (Jvm.Cond.instanceMethod ({ cls := "com/example/gofyn/gofyn/typed/Term$Operator", name := "isEquality", desc := "()Z" } : Jvm.MethodName)).before a0 Z = true := hw _ (List.mem_of_getElem? (i := 10) rfl)
theorem wk11 {Z : State} {a0 : Array Value} (hw : ∀ d ∈ tables_1, d.before a0 Z = true) : (Jvm.Cond.selects "com/example/gofyn/gofyn/typed/Term$Operator" ({ cls := "com/example/gofyn/gofyn/typed/Term$Operator", name := "isEquality", desc := "()Z" } : Jvm.MethodName) ({ cls := "com/example/gofyn/gofyn/typed/Term$Operator", name := "isEquality", desc := "()Z" } : Jvm.MethodName)).before a0 Z = true := hw _ (List.mem_of_getElem? (i := 11) rfl)
theorem wk12 {Z : State} {a0 : Array Value} (hw : ∀ d ∈ tables_1, d.before a0 Z = true) : (Jvm.Cond.code ({ cls := "com/example/gofyn/gofyn/typed/Term$Operator", name := "isEquality", desc := "()Z" } : Jvm.MethodName) prog_75_method_4_code (1 : Nat) (Option.some Jvm.ClassFile.FieldType.boolean)).before a0 Z = true := hw _ (List.mem_of_getElem? (i := 12) rfl)
theorem wk13 {Z : State} {a0 : Array Value} (hw : ∀ d ∈ tables_1, d.before a0 Z = true) : (Jvm.Cond.fieldLink "com/example/gofyn/gofyn/typed/Term$Operator" (3 : Nat) "com/example/gofyn/gofyn/typed/Term$Operator" "EQUAL" "Lcom/example/gofyn/gofyn/typed/Term$Operator;").before a0 Z = true := hw _ (List.mem_of_getElem? (i := 13) rfl)
theorem wk14 {Z : State} {a0 : Array Value} (hw : ∀ d ∈ tables_1, d.before a0 Z = true) : (Jvm.Cond.methodLink "com/example/gofyn/gofyn/typed/OperatorIsEqualityPinLaw" (39 : Nat) ({ cls := "com/example/gofyn/gofyn/typed/Term$Operator", name := "mirrored", desc := "()Lcom/example/gofyn/gofyn/typed/Term$Operator;" } : Jvm.MethodName)).before a0 Z = true := hw _ (List.mem_of_getElem? (i := 14) rfl)
theorem wk15 {Z : State} {a0 : Array Value} (hw : ∀ d ∈ tables_1, d.before a0 Z = true) : (Jvm.Cond.declares ({ cls := "com/example/gofyn/gofyn/typed/Term$Operator", name := "mirrored", desc := "()Lcom/example/gofyn/gofyn/typed/Term$Operator;" } : Jvm.MethodName)).before a0 Z = true := hw _ (List.mem_of_getElem? (i := 15) rfl)
theorem wk16 {Z : State} {a0 : Array Value} (hw : ∀ d ∈ tables_1, d.before a0 Z = true) : (Jvm.Cond.instanceMethod ({ cls := "com/example/gofyn/gofyn/typed/Term$Operator", name := "mirrored", desc := "()Lcom/example/gofyn/gofyn/typed/Term$Operator;" } : Jvm.MethodName)).before a0 Z = true := hw _ (List.mem_of_getElem? (i := 16) rfl)
theorem wk17 {Z : State} {a0 : Array Value} (hw : ∀ d ∈ tables_1, d.before a0 Z = true) : (Jvm.Cond.selects "com/example/gofyn/gofyn/typed/Term$Operator" ({ cls := "com/example/gofyn/gofyn/typed/Term$Operator", name := "mirrored", desc := "()Lcom/example/gofyn/gofyn/typed/Term$Operator;" } : Jvm.MethodName) ({ cls := "com/example/gofyn/gofyn/typed/Term$Operator", name := "mirrored", desc := "()Lcom/example/gofyn/gofyn/typed/Term$Operator;" } : Jvm.MethodName)).before a0 Z = true := hw _ (List.mem_of_getElem? (i := 17) rfl)
theorem wk18 {Z : State} {a0 : Array Value} (hw : ∀ d ∈ tables_1, d.before a0 Z = true) : (Jvm.Cond.code ({ cls := "com/example/gofyn/gofyn/typed/Term$Operator", name := "mirrored", desc := "()Lcom/example/gofyn/gofyn/typed/Term$Operator;" } : Jvm.MethodName) prog_75_method_6_code (1 : Nat) (Option.some (Jvm.ClassFile.FieldType.object "com/example/gofyn/gofyn/typed/Term$Operator"))).before a0 Z = true := hw _ (List.mem_of_getElem? (i := 18) rfl)
theorem wk19 {Z : State} {a0 : Array Value} (hw : ∀ d ∈ tables_1, d.before a0 Z = true) : (Jvm.Cond.methodLink "com/example/gofyn/gofyn/typed/Term$Operator" (45 : Nat) ({ cls := "com/example/gofyn/gofyn/typed/Term$Operator", name := "ordinal", desc := "()I" } : Jvm.MethodName)).before a0 Z = true := hw _ (List.mem_of_getElem? (i := 19) rfl)
theorem wk20 {Z : State} {a0 : Array Value} (hw : ∀ d ∈ tables_1, d.before a0 Z = true) : (Jvm.Cond.sameMethod "com/example/gofyn/gofyn/typed/Term$Operator" "java/lang/Enum" "ordinal" "()I").before a0 Z = true := hw _ (List.mem_of_getElem? (i := 20) rfl)
theorem wk21 {Z : State} {a0 : Array Value} (hw : ∀ d ∈ tables_1, d.before a0 Z = true) : (Jvm.Cond.declares ({ cls := "java/lang/Enum", name := "ordinal", desc := "()I" } : Jvm.MethodName)).before a0 Z = true := hw _ (List.mem_of_getElem? (i := 21) rfl)
theorem wk22 {Z : State} {a0 : Array Value} (hw : ∀ d ∈ tables_1, d.before a0 Z = true) : (Jvm.Cond.instanceMethod ({ cls := "java/lang/Enum", name := "ordinal", desc := "()I" } : Jvm.MethodName)).before a0 Z = true := hw _ (List.mem_of_getElem? (i := 22) rfl)
theorem wk23 {Z : State} {a0 : Array Value} (hw : ∀ d ∈ tables_1, d.before a0 Z = true) : (Jvm.Cond.selects "com/example/gofyn/gofyn/typed/Term$Operator" ({ cls := "com/example/gofyn/gofyn/typed/Term$Operator", name := "ordinal", desc := "()I" } : Jvm.MethodName) ({ cls := "java/lang/Enum", name := "ordinal", desc := "()I" } : Jvm.MethodName)).before a0 Z = true := hw _ (List.mem_of_getElem? (i := 23) rfl)
theorem wk24 {Z : State} {a0 : Array Value} (hw : ∀ d ∈ tables_1, d.before a0 Z = true) : (Jvm.Cond.initialized "java/lang/Enum").before a0 Z = true := hw _ (List.mem_of_getElem? (i := 24) rfl)
theorem wk25 {Z : State} {a0 : Array Value} (hw : ∀ d ∈ tables_1, d.before a0 Z = true) : (Jvm.Cond.code ({ cls := "java/lang/Enum", name := "ordinal", desc := "()I" } : Jvm.MethodName) jdk_37_method_2_code (1 : Nat) (Option.some Jvm.ClassFile.FieldType.int)).before a0 Z = true := hw _ (List.mem_of_getElem? (i := 25) rfl)
theorem wk26 {Z : State} {a0 : Array Value} (hw : ∀ d ∈ tables_1, d.before a0 Z = true) : (Jvm.Cond.fieldLink "java/lang/Enum" (7 : Nat) "java/lang/Enum" "ordinal" "I").before a0 Z = true := hw _ (List.mem_of_getElem? (i := 26) rfl)
theorem wk28 {Z : State} {a0 : Array Value} (hw : ∀ d ∈ tables_1, d.before a0 Z = true) : (Jvm.Cond.methodLink "com/example/gofyn/gofyn/typed/OperatorIsEqualityPinLaw" (43 : Nat) ({ cls := "com/example/gofyn/gofyn/typed/Term$Operator", name := "complement", desc := "()Lcom/example/gofyn/gofyn/typed/Term$Operator;" } : Jvm.MethodName)).before a0 Z = true := hw _ (List.mem_of_getElem? (i := 28) rfl)
theorem wk29 {Z : State} {a0 : Array Value} (hw : ∀ d ∈ tables_1, d.before a0 Z = true) : (Jvm.Cond.declares ({ cls := "com/example/gofyn/gofyn/typed/Term$Operator", name := "complement", desc := "()Lcom/example/gofyn/gofyn/typed/Term$Operator;" } : Jvm.MethodName)).before a0 Z = true := hw _ (List.mem_of_getElem? (i := 29) rfl)
theorem wk30 {Z : State} {a0 : Array Value} (hw : ∀ d ∈ tables_1, d.before a0 Z = true) : (Jvm.Cond.instanceMethod ({ cls := "com/example/gofyn/gofyn/typed/Term$Operator", name := "complement", desc := "()Lcom/example/gofyn/gofyn/typed/Term$Operator;" } : Jvm.MethodName)).before a0 Z = true := hw _ (List.mem_of_getElem? (i := 30) rfl)
theorem wk31 {Z : State} {a0 : Array Value} (hw : ∀ d ∈ tables_1, d.before a0 Z = true) : (Jvm.Cond.selects "com/example/gofyn/gofyn/typed/Term$Operator" ({ cls := "com/example/gofyn/gofyn/typed/Term$Operator", name := "complement", desc := "()Lcom/example/gofyn/gofyn/typed/Term$Operator;" } : Jvm.MethodName) ({ cls := "com/example/gofyn/gofyn/typed/Term$Operator", name := "complement", desc := "()Lcom/example/gofyn/gofyn/typed/Term$Operator;" } : Jvm.MethodName)).before a0 Z = true := hw _ (List.mem_of_getElem? (i := 31) rfl)
theorem wk32 {Z : State} {a0 : Array Value} (hw : ∀ d ∈ tables_1, d.before a0 Z = true) : (Jvm.Cond.code ({ cls := "com/example/gofyn/gofyn/typed/Term$Operator", name := "complement", desc := "()Lcom/example/gofyn/gofyn/typed/Term$Operator;" } : Jvm.MethodName) prog_75_method_5_code (1 : Nat) (Option.some (Jvm.ClassFile.FieldType.object "com/example/gofyn/gofyn/typed/Term$Operator"))).before a0 Z = true := hw _ (List.mem_of_getElem? (i := 32) rfl)
theorem wk33 {Z : State} {a0 : Array Value} (hw : ∀ d ∈ tables_1, d.before a0 Z = true) : (Jvm.Cond.fieldLink "com/example/gofyn/gofyn/typed/Term$Operator" (7 : Nat) "com/example/gofyn/gofyn/typed/Term$Operator" "NOT_EQUAL" "Lcom/example/gofyn/gofyn/typed/Term$Operator;").before a0 Z = true := hw _ (List.mem_of_getElem? (i := 33) rfl)
theorem wk34 {Z : State} {a0 : Array Value} (hw : ∀ d ∈ tables_1, d.before a0 Z = true) : (Jvm.Cond.laysStatic "com/example/gofyn/gofyn/typed/Term$Operator" "NOT_EQUAL" "Lcom/example/gofyn/gofyn/typed/Term$Operator;").before a0 Z = true := hw _ (List.mem_of_getElem? (i := 34) rfl)
theorem wk35 {Z : State} {a0 : Array Value} (hw : ∀ d ∈ tables_1, d.before a0 Z = true) : (Jvm.Cond.methodLink "com/example/gofyn/gofyn/typed/OperatorIsEqualityPinLaw" (46 : Nat) ({ cls := "com/example/gofyn/gofyn/typed/Term$Operator", name := "holds", desc := "(II)Z" } : Jvm.MethodName)).before a0 Z = true := hw _ (List.mem_of_getElem? (i := 35) rfl)
theorem wk36 {Z : State} {a0 : Array Value} (hw : ∀ d ∈ tables_1, d.before a0 Z = true) : (Jvm.Cond.declares ({ cls := "com/example/gofyn/gofyn/typed/Term$Operator", name := "holds", desc := "(II)Z" } : Jvm.MethodName)).before a0 Z = true := hw _ (List.mem_of_getElem? (i := 36) rfl)
theorem wk37 {Z : State} {a0 : Array Value} (hw : ∀ d ∈ tables_1, d.before a0 Z = true) : (Jvm.Cond.instanceMethod ({ cls := "com/example/gofyn/gofyn/typed/Term$Operator", name := "holds", desc := "(II)Z" } : Jvm.MethodName)).before a0 Z = true := hw _ (List.mem_of_getElem? (i := 37) rfl)
theorem wk38 {Z : State} {a0 : Array Value} (hw : ∀ d ∈ tables_1, d.before a0 Z = true) : (Jvm.Cond.selects "com/example/gofyn/gofyn/typed/Term$Operator" ({ cls := "com/example/gofyn/gofyn/typed/Term$Operator", name := "holds", desc := "(II)Z" } : Jvm.MethodName) ({ cls := "com/example/gofyn/gofyn/typed/Term$Operator", name := "holds", desc := "(II)Z" } : Jvm.MethodName)).before a0 Z = true := hw _ (List.mem_of_getElem? (i := 38) rfl)
theorem wk39 {Z : State} {a0 : Array Value} (hw : ∀ d ∈ tables_1, d.before a0 Z = true) : (Jvm.Cond.code ({ cls := "com/example/gofyn/gofyn/typed/Term$Operator", name := "holds", desc := "(II)Z" } : Jvm.MethodName) prog_75_method_7_code (4 : Nat) (Option.some Jvm.ClassFile.FieldType.boolean)).before a0 Z = true := hw _ (List.mem_of_getElem? (i := 39) rfl)
theorem wk40 {Z : State} {a0 : Array Value} (hw : ∀ d ∈ tables_1, d.before a0 Z = true) : (Jvm.Cond.methodLink "com/example/gofyn/gofyn/typed/Term$Operator" (54 : Nat) ({ cls := "java/lang/Integer", name := "compare", desc := "(II)I" } : Jvm.MethodName)).before a0 Z = true := hw _ (List.mem_of_getElem? (i := 40) rfl)
theorem wk41 {Z : State} {a0 : Array Value} (hw : ∀ d ∈ tables_1, d.before a0 Z = true) : (Jvm.Cond.static ({ cls := "java/lang/Integer", name := "compare", desc := "(II)I" } : Jvm.MethodName)).before a0 Z = true := hw _ (List.mem_of_getElem? (i := 41) rfl)
theorem wk42 {Z : State} {a0 : Array Value} (hw : ∀ d ∈ tables_1, d.before a0 Z = true) : (Jvm.Cond.initialized "java/lang/Integer").before a0 Z = true := hw _ (List.mem_of_getElem? (i := 42) rfl)
theorem wk43 {Z : State} {a0 : Array Value} (hw : ∀ d ∈ tables_1, d.before a0 Z = true) : (Jvm.Cond.code ({ cls := "java/lang/Integer", name := "compare", desc := "(II)I" } : Jvm.MethodName) jdk_33_method_40_code (2 : Nat) (Option.some Jvm.ClassFile.FieldType.int)).before a0 Z = true := hw _ (List.mem_of_getElem? (i := 43) rfl)
theorem wk44 {Z : State} {a0 : Array Value} (hw : ∀ d ∈ tables_1, d.before a0 Z = true) : (Jvm.Cond.fieldLink "com/example/gofyn/gofyn/typed/OperatorIsEqualityPinLaw" (13 : Nat) "com/example/gofyn/gofyn/typed/Term$Operator" "NOT_EQUAL" "Lcom/example/gofyn/gofyn/typed/Term$Operator;").before a0 Z = true := hw _ (List.mem_of_getElem? (i := 44) rfl)
theorem wk45 {Z : State} {a0 : Array Value} (hw : ∀ d ∈ tables_1, d.before a0 Z = true) : (Jvm.Cond.fieldLink "com/example/gofyn/gofyn/typed/OperatorIsEqualityPinLaw" (16 : Nat) "com/example/gofyn/gofyn/typed/Term$Operator" "LESS" "Lcom/example/gofyn/gofyn/typed/Term$Operator;").before a0 Z = true := hw _ (List.mem_of_getElem? (i := 45) rfl)
theorem wk46 {Z : State} {a0 : Array Value} (hw : ∀ d ∈ tables_1, d.before a0 Z = true) : (Jvm.Cond.laysStatic "com/example/gofyn/gofyn/typed/Term$Operator" "LESS" "Lcom/example/gofyn/gofyn/typed/Term$Operator;").before a0 Z = true := hw _ (List.mem_of_getElem? (i := 46) rfl)
theorem wk47 {Z : State} {a0 : Array Value} (hw : ∀ d ∈ tables_1, d.before a0 Z = true) : (Jvm.Cond.fieldLink "com/example/gofyn/gofyn/typed/Term$Operator" (16 : Nat) "com/example/gofyn/gofyn/typed/Term$Operator" "GREATER" "Lcom/example/gofyn/gofyn/typed/Term$Operator;").before a0 Z = true := hw _ (List.mem_of_getElem? (i := 47) rfl)
theorem wk48 {Z : State} {a0 : Array Value} (hw : ∀ d ∈ tables_1, d.before a0 Z = true) : (Jvm.Cond.laysStatic "com/example/gofyn/gofyn/typed/Term$Operator" "GREATER" "Lcom/example/gofyn/gofyn/typed/Term$Operator;").before a0 Z = true := hw _ (List.mem_of_getElem? (i := 48) rfl)
theorem wk49 {Z : State} {a0 : Array Value} (hw : ∀ d ∈ tables_1, d.before a0 Z = true) : (Jvm.Cond.fieldLink "com/example/gofyn/gofyn/typed/Term$Operator" (19 : Nat) "com/example/gofyn/gofyn/typed/Term$Operator" "GREATER_EQUAL" "Lcom/example/gofyn/gofyn/typed/Term$Operator;").before a0 Z = true := hw _ (List.mem_of_getElem? (i := 49) rfl)
theorem wk50 {Z : State} {a0 : Array Value} (hw : ∀ d ∈ tables_1, d.before a0 Z = true) : (Jvm.Cond.laysStatic "com/example/gofyn/gofyn/typed/Term$Operator" "GREATER_EQUAL" "Lcom/example/gofyn/gofyn/typed/Term$Operator;").before a0 Z = true := hw _ (List.mem_of_getElem? (i := 50) rfl)
theorem wk51 {Z : State} {a0 : Array Value} (hw : ∀ d ∈ tables_1, d.before a0 Z = true) : (Jvm.Cond.fieldLink "com/example/gofyn/gofyn/typed/OperatorIsEqualityPinLaw" (25 : Nat) "com/example/gofyn/gofyn/typed/Term$Operator" "GREATER_EQUAL" "Lcom/example/gofyn/gofyn/typed/Term$Operator;").before a0 Z = true := hw _ (List.mem_of_getElem? (i := 51) rfl)
theorem wk52 {Z : State} {a0 : Array Value} (hw : ∀ d ∈ tables_1, d.before a0 Z = true) : (Jvm.Cond.fieldLink "com/example/gofyn/gofyn/typed/Term$Operator" (13 : Nat) "com/example/gofyn/gofyn/typed/Term$Operator" "LESS_EQUAL" "Lcom/example/gofyn/gofyn/typed/Term$Operator;").before a0 Z = true := hw _ (List.mem_of_getElem? (i := 52) rfl)
theorem wk53 {Z : State} {a0 : Array Value} (hw : ∀ d ∈ tables_1, d.before a0 Z = true) : (Jvm.Cond.laysStatic "com/example/gofyn/gofyn/typed/Term$Operator" "LESS_EQUAL" "Lcom/example/gofyn/gofyn/typed/Term$Operator;").before a0 Z = true := hw _ (List.mem_of_getElem? (i := 53) rfl)
theorem wk54 {Z : State} {a0 : Array Value} (hw : ∀ d ∈ tables_1, d.before a0 Z = true) : (Jvm.Cond.fieldLink "com/example/gofyn/gofyn/typed/Term$Operator" (10 : Nat) "com/example/gofyn/gofyn/typed/Term$Operator" "LESS" "Lcom/example/gofyn/gofyn/typed/Term$Operator;").before a0 Z = true := hw _ (List.mem_of_getElem? (i := 54) rfl)
theorem wk55 {Z : State} {a0 : Array Value} (hw : ∀ d ∈ tables_1, d.before a0 Z = true) : (Jvm.Cond.fieldLink "com/example/gofyn/gofyn/typed/OperatorIsEqualityPinLaw" (19 : Nat) "com/example/gofyn/gofyn/typed/Term$Operator" "LESS_EQUAL" "Lcom/example/gofyn/gofyn/typed/Term$Operator;").before a0 Z = true := hw _ (List.mem_of_getElem? (i := 55) rfl)
theorem wk56 {Z : State} {a0 : Array Value} (hw : ∀ d ∈ tables_1, d.before a0 Z = true) : (Jvm.Cond.fieldLink "com/example/gofyn/gofyn/typed/OperatorIsEqualityPinLaw" (22 : Nat) "com/example/gofyn/gofyn/typed/Term$Operator" "GREATER" "Lcom/example/gofyn/gofyn/typed/Term$Operator;").before a0 Z = true := hw _ (List.mem_of_getElem? (i := 56) rfl)
def Wd (Z : State) (w : Nat → Addr) : Prop := Sta Z Z.heap "com/example/gofyn/gofyn/typed/Term$Operator" "EQUAL" "Lcom/example/gofyn/gofyn/typed/Term$Operator;" (.ref (w 0)) ∧ Exa Z Z.heap (w 0) "com/example/gofyn/gofyn/typed/Term$Operator" ∧ Sta Z Z.heap "com/example/gofyn/gofyn/typed/Term$Operator" "NOT_EQUAL" "Lcom/example/gofyn/gofyn/typed/Term$Operator;" (.ref (w 1)) ∧ Exa Z Z.heap (w 1) "com/example/gofyn/gofyn/typed/Term$Operator" ∧ Sta Z Z.heap "com/example/gofyn/gofyn/typed/Term$Operator" "LESS" "Lcom/example/gofyn/gofyn/typed/Term$Operator;" (.ref (w 2)) ∧ Exa Z Z.heap (w 2) "com/example/gofyn/gofyn/typed/Term$Operator" ∧ Sta Z Z.heap "com/example/gofyn/gofyn/typed/Term$Operator" "GREATER" "Lcom/example/gofyn/gofyn/typed/Term$Operator;" (.ref (w 3)) ∧ Exa Z Z.heap (w 3) "com/example/gofyn/gofyn/typed/Term$Operator" ∧ Sta Z Z.heap "com/example/gofyn/gofyn/typed/Term$Operator" "GREATER_EQUAL" "Lcom/example/gofyn/gofyn/typed/Term$Operator;" (.ref (w 4)) ∧ Exa Z Z.heap (w 4) "com/example/gofyn/gofyn/typed/Term$Operator" ∧ Sta Z Z.heap "com/example/gofyn/gofyn/typed/Term$Operator" "LESS_EQUAL" "Lcom/example/gofyn/gofyn/typed/Term$Operator;" (.ref (w 5)) ∧ Exa Z Z.heap (w 5) "com/example/gofyn/gofyn/typed/Term$Operator" ∧ Fld Z Z.heap (w 0) "java/lang/Enum" "ordinal" "I" (.int (0 : Int32)) ∧ Fld Z Z.heap (w 1) "java/lang/Enum" "ordinal" "I" (.int (1 : Int32)) ∧ Fld Z Z.heap (w 2) "java/lang/Enum" "ordinal" "I" (.int (2 : Int32)) ∧ Fld Z Z.heap (w 3) "java/lang/Enum" "ordinal" "I" (.int (4 : Int32)) ∧ Fld Z Z.heap (w 4) "java/lang/Enum" "ordinal" "I" (.int (5 : Int32)) ∧ Fld Z Z.heap (w 5) "java/lang/Enum" "ordinal" "I" (.int (3 : Int32)) ∧ True
theorem wd0 {Z : State} {w : Nat → Addr} (hW : Wd Z w) : Sta Z Z.heap "com/example/gofyn/gofyn/typed/Term$Operator" "EQUAL" "Lcom/example/gofyn/gofyn/typed/Term$Operator;" (.ref (w 0)) := hW.1
theorem wd1 {Z : State} {w : Nat → Addr} (hW : Wd Z w) : Exa Z Z.heap (w 0) "com/example/gofyn/gofyn/typed/Term$Operator" := hW.2.1
theorem wd2 {Z : State} {w : Nat → Addr} (hW : Wd Z w) : Sta Z Z.heap "com/example/gofyn/gofyn/typed/Term$Operator" "NOT_EQUAL" "Lcom/example/gofyn/gofyn/typed/Term$Operator;" (.ref (w 1)) := hW.2.2.1
theorem wd3 {Z : State} {w : Nat → Addr} (hW : Wd Z w) : Exa Z Z.heap (w 1) "com/example/gofyn/gofyn/typed/Term$Operator" := hW.2.2.2.1
theorem wd4 {Z : State} {w : Nat → Addr} (hW : Wd Z w) : Sta Z Z.heap "com/example/gofyn/gofyn/typed/Term$Operator" "LESS" "Lcom/example/gofyn/gofyn/typed/Term$Operator;" (.ref (w 2)) := hW.2.2.2.2.1
theorem wd5 {Z : State} {w : Nat → Addr} (hW : Wd Z w) : Exa Z Z.heap (w 2) "com/example/gofyn/gofyn/typed/Term$Operator" := hW.2.2.2.2.2.1
theorem wd6 {Z : State} {w : Nat → Addr} (hW : Wd Z w) : Sta Z Z.heap "com/example/gofyn/gofyn/typed/Term$Operator" "GREATER" "Lcom/example/gofyn/gofyn/typed/Term$Operator;" (.ref (w 3)) := hW.2.2.2.2.2.2.1
theorem wd7 {Z : State} {w : Nat → Addr} (hW : Wd Z w) : Exa Z Z.heap (w 3) "com/example/gofyn/gofyn/typed/Term$Operator" := hW.2.2.2.2.2.2.2.1
theorem wd8 {Z : State} {w : Nat → Addr} (hW : Wd Z w) : Sta Z Z.heap "com/example/gofyn/gofyn/typed/Term$Operator" "GREATER_EQUAL" "Lcom/example/gofyn/gofyn/typed/Term$Operator;" (.ref (w 4)) := hW.2.2.2.2.2.2.2.2.1
theorem wd9 {Z : State} {w : Nat → Addr} (hW : Wd Z w) : Exa Z Z.heap (w 4) "com/example/gofyn/gofyn/typed/Term$Operator" := hW.2.2.2.2.2.2.2.2.2.1
theorem wd10 {Z : State} {w : Nat → Addr} (hW : Wd Z w) : Sta Z Z.heap "com/example/gofyn/gofyn/typed/Term$Operator" "LESS_EQUAL" "Lcom/example/gofyn/gofyn/typed/Term$Operator;" (.ref (w 5)) := hW.2.2.2.2.2.2.2.2.2.2.1
theorem wd11 {Z : State} {w : Nat → Addr} (hW : Wd Z w) : Exa Z Z.heap (w 5) "com/example/gofyn/gofyn/typed/Term$Operator" := hW.2.2.2.2.2.2.2.2.2.2.2.1
theorem wd12 {Z : State} {w : Nat → Addr} (hW : Wd Z w) : Fld Z Z.heap (w 0) "java/lang/Enum" "ordinal" "I" (.int (0 : Int32)) := hW.2.2.2.2.2.2.2.2.2.2.2.2.1
theorem wd13 {Z : State} {w : Nat → Addr} (hW : Wd Z w) : Fld Z Z.heap (w 1) "java/lang/Enum" "ordinal" "I" (.int (1 : Int32)) := hW.2.2.2.2.2.2.2.2.2.2.2.2.2.1
theorem wd14 {Z : State} {w : Nat → Addr} (hW : Wd Z w) : Fld Z Z.heap (w 2) "java/lang/Enum" "ordinal" "I" (.int (2 : Int32)) := hW.2.2.2.2.2.2.2.2.2.2.2.2.2.2.1
theorem wd15 {Z : State} {w : Nat → Addr} (hW : Wd Z w) : Fld Z Z.heap (w 3) "java/lang/Enum" "ordinal" "I" (.int (4 : Int32)) := hW.2.2.2.2.2.2.2.2.2.2.2.2.2.2.2.1
theorem wd16 {Z : State} {w : Nat → Addr} (hW : Wd Z w) : Fld Z Z.heap (w 4) "java/lang/Enum" "ordinal" "I" (.int (5 : Int32)) := hW.2.2.2.2.2.2.2.2.2.2.2.2.2.2.2.2.1
theorem wd17 {Z : State} {w : Nat → Addr} (hW : Wd Z w) : Fld Z Z.heap (w 5) "java/lang/Enum" "ordinal" "I" (.int (3 : Int32)) := hW.2.2.2.2.2.2.2.2.2.2.2.2.2.2.2.2.2.1
theorem d1_0 : decode method_2_code 0 = .ok (.iload_n 0, 1) := by decide +kernel
theorem d1_1 : decode method_2_code 1 = .ok (.ifCond .ne 7, 3) := by decide +kernel
theorem d1_4 : decode method_2_code 4 = .ok (.getstatic 7, 3) := by decide +kernel
theorem d1_7 : decode method_2_code 7 = .ok (.areturn, 1) := by decide +kernel
theorem ef_1_1 (m : MethodId) : entryFrame m #[(.int (0 : Int32))] 1 = mkF m 0 #[.val (.int (0 : Int32))] [] := by first | (simp [entryFrame, mkF, argsToLocals, Value.category]; done) | rfl
theorem pnc_0 : plainName "com/example/gofyn/gofyn/typed/OperatorIsEqualityPinLaw" = true := by first | (simp [plainName, overriddenIn]; done) | decide +kernel
def Q1_1 (Z : State) (w : Nat → Addr) (h0 : Heap) (n0 : Nat) (v : Option Value) (h : Heap) (L : List Loc) : Prop := v = some (.ref (w 0)) ∧ Fr n0 L ∧ h = h0
set_option maxRecDepth 65536 in
set_option maxHeartbeats 40000000 in
theorem rm1_1 (l : Launch) (Z : State) (a0 : Array Value) (hw : ∀ d ∈ tables_1, d.before a0 Z = true) (w : Nat → Addr) (hW : Wd Z w) (ws : List Jvm.Cond) (h0 : Heap) (n0 : Nat) (O0 : Old Z n0 h0) :
    MetFree l ym0 (head1 (Jvm.Cond.code ym0 method_2_code 1 (some (.object "com/example/gofyn/gofyn/typed/Term$Operator")) :: ws) ({ frames := 0, cells := 0, slots := 0, locals := 0 } : Room)) (fun a U => a = #[(.int (0 : Int32))] ∧ Z.Warmed39 U.vm ∧ U.heap = h0) (fun _ _ _ _ _ => True) (fun _ U o U' => ∃ v L, o = .returned v ∧ Q1_1 Z w h0 n0 v U'.heap L ∧ FrameEnd U o U' L ({ frames := 0, cells := 0, slots := 0, locals := 0 } : Room).cells ({ frames := 0, cells := 0, slots := 0, locals := 0 } : Room).slots) := by
  refine MetFree.of_bodySF (plainFor_of_name pnc_0) hisR ?_
  intro p e s m args below meth c s₁ Bd hml0 hP hK
  obtain ⟨rfl, hZ, hh⟩ := hP
  have hx := Bd.exec
  have hby := Bd.bytes
  have hml : c.maxLocals = 1 := hml0
  have hown : s.vm.findClass "com/example/gofyn/gofyn/typed/OperatorIsEqualityPinLaw" = some m.cls := findClass_of_methodNamed Bd.named
  have hnm := (name_of_methodNamed Bd.named Bd.method).1
  have X0 : Stand p l e ({ frames := 0, cells := 0, slots := 0, locals := 0 } : Room) s m #[(.int (0 : Int32))] below meth c s₁ [] 0 0 := Stand.of_body Bd
  have e0 : s₁.heap = h0 := by rw [← hh, Bd.state]; rfl
  have N0 := Fr.nil n0
  skip
  have pre0 : ∀ t, Steps p.tables e below (s₁.setTop (mkF m 0 #[.val (.int (0 : Int32))] [])) t → Steps p.tables e below (s₁.setTop (entryFrame m #[(.int (0 : Int32))] 1)) t := fun t k => castTop (ef_1_1 m) k
  obtain ⟨T1, X1, e1, st1⟩ := getS2 X0 hx hZ hown (host := "") (Or.inl (wk5 hw)) Via.refl e0 ((wd0 hW).ext O0.2) (g := (mkF m 4 #[.val (.int (0 : Int32))] [])) rfl (hb hby d1_4)
  obtain ⟨fs, hr, hrun, hended, hWm, hsame⟩ := X1.leave (v := some (.ref (w 0))) (fun h => by rw [Bd.returns] at h; cases h)
  refine ⟨_, _, pre0 _ ?_, hrun, hended, _, _, rfl, ?_, ⟨_, rfl⟩, hWm, hsame.mono (by decide) (by decide)⟩
  · show Steps p.tables e below (s₁.setTop (mkF m 0 #[.val (.int (0 : Int32))] [])) _
    refine sI X0 hx hby d1_0 rfl ?_
    refine sN X0 hx hby d1_1 (by decide) ?_
    refine st1 _ ?_
    jvm_step X1.here [X1.here.top, hx, (hb hby d1_7), X1.method', Bd.returns, Value.isRef, FieldType.isReference]
    first | (intro acts; rw [hr _ acts rfl rfl rfl]) | rw [hr _ _ rfl rfl rfl]
    exact Steps.refl _
  · show Q1_1 Z w h0 n0 _ T1.heap _
    rw [e1]
    exact ⟨rfl, N0, rfl⟩
theorem pds_0 : parseMethodDescriptor "(I)Lcom/example/gofyn/gofyn/typed/Term$Operator;" = some ⟨[.int], some (.object "com/example/gofyn/gofyn/typed/Term$Operator")⟩ := by decide +kernel
theorem d2_0 : decode prog_75_method_4_code 0 = .ok (.aload_n 0, 1) := by decide +kernel
theorem d2_1 : decode prog_75_method_4_code 1 = .ok (.getstatic 3, 3) := by decide +kernel
theorem d2_4 : decode prog_75_method_4_code 4 = .ok (.if_acmp .eq 10, 3) := by decide +kernel
theorem d2_14 : decode prog_75_method_4_code 14 = .ok (.iconst 1, 1) := by decide +kernel
theorem d2_15 : decode prog_75_method_4_code 15 = .ok (.goto 4, 3) := by decide +kernel
theorem d2_19 : decode prog_75_method_4_code 19 = .ok (.ireturn, 1) := by decide +kernel
theorem ef_2_2 (m : MethodId) (w : Nat → Addr) : entryFrame m #[(.ref (w 0))] 1 = mkF m 0 #[.val (.ref (w 0))] [] := by first | (simp [entryFrame, mkF, argsToLocals, Value.category]; done) | rfl
theorem pnc_1 : plainName "com/example/gofyn/gofyn/typed/Term$Operator" = true := by first | (simp [plainName, overriddenIn]; done) | decide +kernel
def Q2_2 (Z : State) (w : Nat → Addr) (h0 : Heap) (n0 : Nat) (v : Option Value) (h : Heap) (L : List Loc) : Prop := v = some (.int (1 : Int32)) ∧ Fr n0 L ∧ h = h0
set_option maxRecDepth 65536 in
set_option maxHeartbeats 40000000 in
theorem rm2_2 (l : Launch) (Z : State) (a0 : Array Value) (hw : ∀ d ∈ tables_1, d.before a0 Z = true) (w : Nat → Addr) (hW : Wd Z w) (ws : List Jvm.Cond) (h0 : Heap) (n0 : Nat) (O0 : Old Z n0 h0) :
    MetFree l ym1 (head1 (Jvm.Cond.code ym1 prog_75_method_4_code 1 (some .boolean) :: ws) ({ frames := 0, cells := 0, slots := 0, locals := 0 } : Room)) (fun a U => a = #[(.ref (w 0))] ∧ Z.Warmed39 U.vm ∧ U.heap = h0) (fun _ _ _ _ _ => True) (fun _ U o U' => ∃ v L, o = .returned v ∧ Q2_2 Z w h0 n0 v U'.heap L ∧ FrameEnd U o U' L ({ frames := 0, cells := 0, slots := 0, locals := 0 } : Room).cells ({ frames := 0, cells := 0, slots := 0, locals := 0 } : Room).slots) := by
  refine MetFree.of_bodySF (plainFor_of_name pnc_1) hisR ?_
  intro p e s m args below meth c s₁ Bd hml0 hP hK
  obtain ⟨rfl, hZ, hh⟩ := hP
  have hx := Bd.exec
  have hby := Bd.bytes
  have hml : c.maxLocals = 1 := hml0
  have hown : s.vm.findClass "com/example/gofyn/gofyn/typed/Term$Operator" = some m.cls := findClass_of_methodNamed Bd.named
  have hnm := (name_of_methodNamed Bd.named Bd.method).1
  have X0 : Stand p l e ({ frames := 0, cells := 0, slots := 0, locals := 0 } : Room) s m #[(.ref (w 0))] below meth c s₁ [] 0 0 := Stand.of_body Bd
  have e0 : s₁.heap = h0 := by rw [← hh, Bd.state]; rfl
  have N0 := Fr.nil n0
  skip
  have pre0 : ∀ t, Steps p.tables e below (s₁.setTop (mkF m 0 #[.val (.ref (w 0))] [])) t → Steps p.tables e below (s₁.setTop (entryFrame m #[(.ref (w 0))] 1)) t := fun t k => castTop (ef_2_2 m w) k
  obtain ⟨T1, X1, e1, st1⟩ := getS2 X0 hx hZ hown (host := "") (Or.inl (wk13 hw)) Via.refl e0 ((wd0 hW).ext O0.2) (g := (mkF m 1 #[.val (.ref (w 0))] [(.ref (w 0))])) rfl (hb hby d2_1)
  obtain ⟨fs, hr, hrun, hended, hWm, hsame⟩ := X1.leave (v := some (.int (1 : Int32))) (fun h => by rw [Bd.returns] at h; cases h)
  refine ⟨_, _, pre0 _ ?_, hrun, hended, _, _, rfl, ?_, ⟨_, rfl⟩, hWm, hsame.mono (by decide) (by decide)⟩
  · show Steps p.tables e below (s₁.setTop (mkF m 0 #[.val (.ref (w 0))] [])) _
    refine sA X0 hx hby d2_0 rfl rfl ?_
    refine st1 _ ?_
    refine Jvm.RoadKit.acmp (g := (mkF m 4 #[.val (.ref (w 0))] [(.ref (w 0)), (.ref (w 0))])) X1 hx rfl rfl rfl (pc0 := 4) (pc' := 14) (same := true) rfl (hb hby d2_4) rfl (decide_eq_true rfl) (by decide) (by decide) ?_
    refine sc X1 hx hby d2_14 ?_
    refine sg (pc := 15) (pc' := 19) X1 hx hby d2_15 (by decide) (by decide) ?_
    exact retN X1 hx (t := .boolean) Bd.returns (by simp) (hb hby d2_19) hr
  · show Q2_2 Z w h0 n0 _ T1.heap _
    rw [e1]
    exact ⟨rfl, N0, rfl⟩
theorem pds_1 : parseMethodDescriptor "()Z" = some ⟨[], some .boolean⟩ := by decide +kernel
theorem d3_0 : decode prog_75_method_6_code 0 = .ok (.aload_n 0, 1) := by decide +kernel
theorem d3_1 : decode prog_75_method_6_code 1 = .ok (.invokevirtual 45, 3) := by decide +kernel
theorem d4_0 : decode jdk_37_method_2_code 0 = .ok (.aload_n 0, 1) := by decide +kernel
theorem d4_1 : decode jdk_37_method_2_code 1 = .ok (.getfield 7, 3) := by decide +kernel
theorem d4_4 : decode jdk_37_method_2_code 4 = .ok (.ireturn, 1) := by decide +kernel
theorem ef_4_3 (m : MethodId) (w : Nat → Addr) : entryFrame m #[(.ref (w 0))] 1 = mkF m 0 #[.val (.ref (w 0))] [] := by first | (simp [entryFrame, mkF, argsToLocals, Value.category]; done) | rfl
theorem pnc_2 : plainName "java/lang/Enum" = true := by first | (simp [plainName, overriddenIn]; done) | decide +kernel
def Q4_3 (Z : State) (w : Nat → Addr) (h0 : Heap) (n0 : Nat) (v : Option Value) (h : Heap) (L : List Loc) : Prop := v = some (.int (0 : Int32)) ∧ Fr n0 L ∧ h = h0
set_option maxRecDepth 65536 in
set_option maxHeartbeats 40000000 in
theorem rm4_3 (l : Launch) (Z : State) (a0 : Array Value) (hw : ∀ d ∈ tables_1, d.before a0 Z = true) (w : Nat → Addr) (hW : Wd Z w) (ws : List Jvm.Cond) (h0 : Heap) (n0 : Nat) (O0 : Old Z n0 h0) :
    MetFree l ym2 (head1 (Jvm.Cond.code ym2 jdk_37_method_2_code 1 (some .int) :: ws) ({ frames := 0, cells := 0, slots := 0, locals := 0 } : Room)) (fun a U => a = #[(.ref (w 0))] ∧ Z.Warmed39 U.vm ∧ U.heap = h0) (fun _ _ _ _ _ => True) (fun _ U o U' => ∃ v L, o = .returned v ∧ Q4_3 Z w h0 n0 v U'.heap L ∧ FrameEnd U o U' L ({ frames := 0, cells := 0, slots := 0, locals := 0 } : Room).cells ({ frames := 0, cells := 0, slots := 0, locals := 0 } : Room).slots) := by
  refine MetFree.of_bodySF (plainFor_of_name pnc_2) hisR ?_
  intro p e s m args below meth c s₁ Bd hml0 hP hK
  obtain ⟨rfl, hZ, hh⟩ := hP
  have hx := Bd.exec
  have hby := Bd.bytes
  have hml : c.maxLocals = 1 := hml0
  have hown : s.vm.findClass "java/lang/Enum" = some m.cls := findClass_of_methodNamed Bd.named
  have hnm := (name_of_methodNamed Bd.named Bd.method).1
  have X0 : Stand p l e ({ frames := 0, cells := 0, slots := 0, locals := 0 } : Room) s m #[(.ref (w 0))] below meth c s₁ [] 0 0 := Stand.of_body Bd
  have e0 : s₁.heap = h0 := by rw [← hh, Bd.state]; rfl
  have N0 := Fr.nil n0
  skip
  have pre0 : ∀ t, Steps p.tables e below (s₁.setTop (mkF m 0 #[.val (.ref (w 0))] [])) t → Steps p.tables e below (s₁.setTop (entryFrame m #[(.ref (w 0))] 1)) t := fun t k => castTop (ef_4_3 m w) k
  obtain ⟨T1, X1, e1, st1⟩ := getF X0 hx hZ hown (host := "") (Or.inl (wk26 hw)) Via.refl e0 ((wd12 hW).ext O0.2) (g := (mkF m 1 #[.val (.ref (w 0))] [(.ref (w 0))])) rfl rfl (hb hby d4_1)
  obtain ⟨fs, hr, hrun, hended, hWm, hsame⟩ := X1.leave (v := some (.int (0 : Int32))) (fun h => by rw [Bd.returns] at h; cases h)
  refine ⟨_, _, pre0 _ ?_, hrun, hended, _, _, rfl, ?_, ⟨_, rfl⟩, hWm, hsame.mono (by decide) (by decide)⟩
  · show Steps p.tables e below (s₁.setTop (mkF m 0 #[.val (.ref (w 0))] [])) _
    refine sA X0 hx hby d4_0 rfl rfl ?_
    refine st1 _ ?_
    exact retI X1 hx Bd.returns (hb hby d4_4) hr
  · show Q4_3 Z w h0 n0 _ T1.heap _
    rw [e1]
    exact ⟨rfl, N0, rfl⟩
theorem pds_2 : parseMethodDescriptor "()I" = some ⟨[], some .int⟩ := by decide +kernel
theorem d3_4 : decode prog_75_method_6_code 4 = .ok (.tableswitch 40 0 5 #[50, 50, 54, 60, 66, 72], 40) := by decide +kernel
theorem d3_54 : decode prog_75_method_6_code 54 = .ok (.aload_n 0, 1) := by decide +kernel
theorem d3_55 : decode prog_75_method_6_code 55 = .ok (.goto 24, 3) := by decide +kernel
theorem d3_79 : decode prog_75_method_6_code 79 = .ok (.areturn, 1) := by decide +kernel
theorem ef_3_4 (m : MethodId) (w : Nat → Addr) : entryFrame m #[(.ref (w 0))] 1 = mkF m 0 #[.val (.ref (w 0))] [] := by first | (simp [entryFrame, mkF, argsToLocals, Value.category]; done) | rfl
def Q3_4 (Z : State) (w : Nat → Addr) (h0 : Heap) (n0 : Nat) (v : Option Value) (h : Heap) (L : List Loc) : Prop := v = some (.ref (w 0)) ∧ Fr n0 L ∧ h = h0
set_option maxRecDepth 65536 in
set_option maxHeartbeats 40000000 in
theorem rm3_4 (l : Launch) (Z : State) (a0 : Array Value) (hw : ∀ d ∈ tables_1, d.before a0 Z = true) (w : Nat → Addr) (hW : Wd Z w) (ws : List Jvm.Cond) (h0 : Heap) (n0 : Nat) (O0 : Old Z n0 h0) :
    MetFree l ym4 (head1 (Jvm.Cond.code ym4 prog_75_method_6_code 1 (some (.object "com/example/gofyn/gofyn/typed/Term$Operator")) :: ws) ({ frames := 1, cells := 0, slots := 0, locals := 12 } : Room)) (fun a U => a = #[(.ref (w 0))] ∧ Z.Warmed39 U.vm ∧ U.heap = h0) (fun _ _ _ _ _ => True) (fun _ U o U' => ∃ v L, o = .returned v ∧ Q3_4 Z w h0 n0 v U'.heap L ∧ FrameEnd U o U' L ({ frames := 1, cells := 0, slots := 0, locals := 12 } : Room).cells ({ frames := 1, cells := 0, slots := 0, locals := 12 } : Room).slots) := by
  refine MetFree.of_bodySF (plainFor_of_name pnc_1) hisR ?_
  intro p e s m args below meth c s₁ Bd hml0 hP hK
  obtain ⟨rfl, hZ, hh⟩ := hP
  have hx := Bd.exec
  have hby := Bd.bytes
  have hml : c.maxLocals = 1 := hml0
  have hown : s.vm.findClass "com/example/gofyn/gofyn/typed/Term$Operator" = some m.cls := findClass_of_methodNamed Bd.named
  have hnm := (name_of_methodNamed Bd.named Bd.method).1
  have X0 : Stand p l e ({ frames := 1, cells := 0, slots := 0, locals := 12 } : Room) s m #[(.ref (w 0))] below meth c s₁ [] 0 0 := Stand.of_body Bd
  have e0 : s₁.heap = h0 := by rw [← hh, Bd.state]; rfl
  have N0 := Fr.nil n0
  skip
  have pre0 : ∀ t, Steps p.tables e below (s₁.setTop (mkF m 0 #[.val (.ref (w 0))] [])) t → Steps p.tables e below (s₁.setTop (entryFrame m #[(.ref (w 0))] 1)) t := fun t k => castTop (ef_3_4 m w) k
  obtain ⟨cq1, kq1, q1a, q1b, q1c⟩ := isOf hZ e0 ((wd1 hW).ext O0.2)
  obtain ⟨_, _, ⟨T1, L1, kk1, nn1⟩, -, X1, ⟨Lc1, hQ1, l1, y1, z1⟩, st1⟩ := X0.virtualBackUp hx (x := ym3) (y := ym2) hown (mvT hZ (wk19 hw)) (mvT hZ (wk20 hw)) (mvT hZ (wk21 hw)) (by decide) (mvT hZ (wk23 hw)) (mvT hZ (wk22 hw)) (backOf (W := 0) (rm4_3 l Z a0 hw w hW []  h0 n0 O0 ) hZ (wk25 hw) (wk24 hw) (by decide) (by decide)) q1a q1c (g := (mkF m 1 #[.val (.ref (w 0))] [(.ref (w 0))])) rfl (by rw [hml]; rfl) (Steps.refl _) (argsL := []) (rest := []) (lenOf pds_2 rfl) rfl (by show 2 * 0 + _ ≤ _; exact Nat.le_of_eq rfl) (hb hby d3_1) (fun _ _ => ⟨rfl, e0, (by decide : 0 + 0 ≤ _), (by decide : 0 + 0 ≤ _)⟩)
  dsimp only [Pt.U, Pt.locs, Pt.cells, Pt.slots] at X1 l1 y1 z1 st1 hQ1
  subst l1 y1 z1
  obtain ⟨rfl, N1q, e1⟩ := hQ1
  have N1 := Fr.app N0 N1q
  obtain ⟨fs, hr, hrun, hended, hWm, hsame⟩ := X1.leave (v := some (.ref (w 0))) (fun h => by rw [Bd.returns] at h; cases h)
  refine ⟨_, _, pre0 _ ?_, hrun, hended, _, _, rfl, ?_, ⟨_, rfl⟩, hWm, hsame.mono (by decide) (by decide)⟩
  · show Steps p.tables e below (s₁.setTop (mkF m 0 #[.val (.ref (w 0))] [])) _
    refine sA X0 hx hby d3_0 rfl rfl ?_
    refine st1.trans ?_
    refine XS.tswIn X1.here hx rfl (pc0 := 4) (pc' := 54) (o := 50) rfl (hb hby d3_4) rfl (by decide) (by decide) (by decide) (by decide) ?_
    refine sA X1 hx hby d3_54 rfl rfl ?_
    refine sg (pc := 55) (pc' := 79) X1 hx hby d3_55 (by decide) (by decide) ?_
    jvm_step X1.here [X1.here.top, hx, (hb hby d3_79), X1.method', Bd.returns, Value.isRef, FieldType.isReference]
    first | (intro acts; rw [hr _ acts rfl rfl rfl]) | rw [hr _ _ rfl rfl rfl]
    exact Steps.refl _
  · show Q3_4 Z w h0 n0 _ T1.heap _
    rw [e1]
    exact ⟨rfl, N1, rfl⟩
theorem pds_3 : parseMethodDescriptor "()Lcom/example/gofyn/gofyn/typed/Term$Operator;" = some ⟨[], some (.object "com/example/gofyn/gofyn/typed/Term$Operator")⟩ := by decide +kernel
theorem d5_0 : decode prog_75_method_5_code 0 = .ok (.aload_n 0, 1) := by decide +kernel
theorem d5_1 : decode prog_75_method_5_code 1 = .ok (.invokevirtual 45, 3) := by decide +kernel
theorem d5_4 : decode prog_75_method_5_code 4 = .ok (.tableswitch 40 0 5 #[50, 56, 62, 68, 74, 80], 40) := by decide +kernel
theorem d5_54 : decode prog_75_method_5_code 54 = .ok (.getstatic 7, 3) := by decide +kernel
theorem d5_57 : decode prog_75_method_5_code 57 = .ok (.goto 30, 3) := by decide +kernel
theorem d5_87 : decode prog_75_method_5_code 87 = .ok (.areturn, 1) := by decide +kernel
theorem ef_5_5 (m : MethodId) (w : Nat → Addr) : entryFrame m #[(.ref (w 0))] 1 = mkF m 0 #[.val (.ref (w 0))] [] := by first | (simp [entryFrame, mkF, argsToLocals, Value.category]; done) | rfl
def Q5_5 (Z : State) (w : Nat → Addr) (h0 : Heap) (n0 : Nat) (v : Option Value) (h : Heap) (L : List Loc) : Prop := v = some (.ref (w 1)) ∧ Fr n0 L ∧ h = h0
set_option maxRecDepth 65536 in
set_option maxHeartbeats 40000000 in
theorem rm5_5 (l : Launch) (Z : State) (a0 : Array Value) (hw : ∀ d ∈ tables_1, d.before a0 Z = true) (w : Nat → Addr) (hW : Wd Z w) (ws : List Jvm.Cond) (h0 : Heap) (n0 : Nat) (O0 : Old Z n0 h0) :
    MetFree l ym5 (head1 (Jvm.Cond.code ym5 prog_75_method_5_code 1 (some (.object "com/example/gofyn/gofyn/typed/Term$Operator")) :: ws) ({ frames := 1, cells := 0, slots := 0, locals := 12 } : Room)) (fun a U => a = #[(.ref (w 0))] ∧ Z.Warmed39 U.vm ∧ U.heap = h0) (fun _ _ _ _ _ => True) (fun _ U o U' => ∃ v L, o = .returned v ∧ Q5_5 Z w h0 n0 v U'.heap L ∧ FrameEnd U o U' L ({ frames := 1, cells := 0, slots := 0, locals := 12 } : Room).cells ({ frames := 1, cells := 0, slots := 0, locals := 12 } : Room).slots) := by
  refine MetFree.of_bodySF (plainFor_of_name pnc_1) hisR ?_
  intro p e s m args below meth c s₁ Bd hml0 hP hK
  obtain ⟨rfl, hZ, hh⟩ := hP
  have hx := Bd.exec
  have hby := Bd.bytes
  have hml : c.maxLocals = 1 := hml0
  have hown : s.vm.findClass "com/example/gofyn/gofyn/typed/Term$Operator" = some m.cls := findClass_of_methodNamed Bd.named
  have hnm := (name_of_methodNamed Bd.named Bd.method).1
  have X0 : Stand p l e ({ frames := 1, cells := 0, slots := 0, locals := 12 } : Room) s m #[(.ref (w 0))] below meth c s₁ [] 0 0 := Stand.of_body Bd
  have e0 : s₁.heap = h0 := by rw [← hh, Bd.state]; rfl
  have N0 := Fr.nil n0
  skip
  have pre0 : ∀ t, Steps p.tables e below (s₁.setTop (mkF m 0 #[.val (.ref (w 0))] [])) t → Steps p.tables e below (s₁.setTop (entryFrame m #[(.ref (w 0))] 1)) t := fun t k => castTop (ef_5_5 m w) k
  obtain ⟨cq1, kq1, q1a, q1b, q1c⟩ := isOf hZ e0 ((wd1 hW).ext O0.2)
  obtain ⟨_, _, ⟨T1, L1, kk1, nn1⟩, -, X1, ⟨Lc1, hQ1, l1, y1, z1⟩, st1⟩ := X0.virtualBackUp hx (x := ym3) (y := ym2) hown (mvT hZ (wk19 hw)) (mvT hZ (wk20 hw)) (mvT hZ (wk21 hw)) (by decide) (mvT hZ (wk23 hw)) (mvT hZ (wk22 hw)) (backOf (W := 0) (rm4_3 l Z a0 hw w hW []  h0 n0 O0 ) hZ (wk25 hw) (wk24 hw) (by decide) (by decide)) q1a q1c (g := (mkF m 1 #[.val (.ref (w 0))] [(.ref (w 0))])) rfl (by rw [hml]; rfl) (Steps.refl _) (argsL := []) (rest := []) (lenOf pds_2 rfl) rfl (by show 2 * 0 + _ ≤ _; exact Nat.le_of_eq rfl) (hb hby d5_1) (fun _ _ => ⟨rfl, e0, (by decide : 0 + 0 ≤ _), (by decide : 0 + 0 ≤ _)⟩)
  dsimp only [Pt.U, Pt.locs, Pt.cells, Pt.slots] at X1 l1 y1 z1 st1 hQ1
  subst l1 y1 z1
  obtain ⟨rfl, N1q, e1⟩ := hQ1
  have N1 := Fr.app N0 N1q
  obtain ⟨T2, X2, e2, st2⟩ := getS2 X1 hx hZ hown (host := "") (Or.inl (wk33 hw)) Via.refl e1 ((wd2 hW).ext O0.2) (g := (mkF m 54 #[.val (.ref (w 0))] [])) rfl (hb hby d5_54)
  obtain ⟨fs, hr, hrun, hended, hWm, hsame⟩ := X2.leave (v := some (.ref (w 1))) (fun h => by rw [Bd.returns] at h; cases h)
  refine ⟨_, _, pre0 _ ?_, hrun, hended, _, _, rfl, ?_, ⟨_, rfl⟩, hWm, hsame.mono (by decide) (by decide)⟩
  · show Steps p.tables e below (s₁.setTop (mkF m 0 #[.val (.ref (w 0))] [])) _
    refine sA X0 hx hby d5_0 rfl rfl ?_
    refine st1.trans ?_
    refine XS.tswIn X1.here hx rfl (pc0 := 4) (pc' := 54) (o := 50) rfl (hb hby d5_4) rfl (by decide) (by decide) (by decide) (by decide) ?_
    refine st2 _ ?_
    refine sg (pc := 57) (pc' := 87) X2 hx hby d5_57 (by decide) (by decide) ?_
    jvm_step X2.here [X2.here.top, hx, (hb hby d5_87), X2.method', Bd.returns, Value.isRef, FieldType.isReference]
    first | (intro acts; rw [hr _ acts rfl rfl rfl]) | rw [hr _ _ rfl rfl rfl]
    exact Steps.refl _
  · show Q5_5 Z w h0 n0 _ T2.heap _
    rw [e2]
    exact ⟨rfl, N1, rfl⟩
theorem d2_7 : decode prog_75_method_4_code 7 = .ok (.aload_n 0, 1) := by decide +kernel
theorem d2_8 : decode prog_75_method_4_code 8 = .ok (.getstatic 7, 3) := by decide +kernel
theorem d2_11 : decode prog_75_method_4_code 11 = .ok (.if_acmp .ne 7, 3) := by decide +kernel
theorem ef_2_6 (m : MethodId) (w : Nat → Addr) : entryFrame m #[(.ref (w 1))] 1 = mkF m 0 #[.val (.ref (w 1))] [] := by first | (simp [entryFrame, mkF, argsToLocals, Value.category]; done) | rfl
def Q2_6 (Z : State) (w : Nat → Addr) (h0 : Heap) (n0 : Nat) (v : Option Value) (h : Heap) (L : List Loc) : Prop := v = some (.int (1 : Int32)) ∧ Fr n0 L ∧ h = h0
set_option maxRecDepth 65536 in
set_option maxHeartbeats 40000000 in
theorem rm2_6 (l : Launch) (Z : State) (a0 : Array Value) (hw : ∀ d ∈ tables_1, d.before a0 Z = true) (w : Nat → Addr) (hW : Wd Z w) (ws : List Jvm.Cond) (h0 : Heap) (n0 : Nat) (O0 : Old Z n0 h0) :
    MetFree l ym1 (head1 (Jvm.Cond.code ym1 prog_75_method_4_code 1 (some .boolean) :: ws) ({ frames := 0, cells := 0, slots := 0, locals := 0 } : Room)) (fun a U => a = #[(.ref (w 1))] ∧ Z.Warmed39 U.vm ∧ U.heap = h0) (fun _ _ _ _ _ => True) (fun _ U o U' => ∃ v L, o = .returned v ∧ Q2_6 Z w h0 n0 v U'.heap L ∧ FrameEnd U o U' L ({ frames := 0, cells := 0, slots := 0, locals := 0 } : Room).cells ({ frames := 0, cells := 0, slots := 0, locals := 0 } : Room).slots) := by
  refine MetFree.of_bodySF (plainFor_of_name pnc_1) hisR ?_
  intro p e s m args below meth c s₁ Bd hml0 hP hK
  obtain ⟨rfl, hZ, hh⟩ := hP
  have hx := Bd.exec
  have hby := Bd.bytes
  have hml : c.maxLocals = 1 := hml0
  have hown : s.vm.findClass "com/example/gofyn/gofyn/typed/Term$Operator" = some m.cls := findClass_of_methodNamed Bd.named
  have hnm := (name_of_methodNamed Bd.named Bd.method).1
  have X0 : Stand p l e ({ frames := 0, cells := 0, slots := 0, locals := 0 } : Room) s m #[(.ref (w 1))] below meth c s₁ [] 0 0 := Stand.of_body Bd
  have e0 : s₁.heap = h0 := by rw [← hh, Bd.state]; rfl
  have N0 := Fr.nil n0
  skip
  have pre0 : ∀ t, Steps p.tables e below (s₁.setTop (mkF m 0 #[.val (.ref (w 1))] [])) t → Steps p.tables e below (s₁.setTop (entryFrame m #[(.ref (w 1))] 1)) t := fun t k => castTop (ef_2_6 m w) k
  obtain ⟨T1, X1, e1, st1⟩ := getS2 X0 hx hZ hown (host := "") (Or.inl (wk13 hw)) Via.refl e0 ((wd0 hW).ext O0.2) (g := (mkF m 1 #[.val (.ref (w 1))] [(.ref (w 1))])) rfl (hb hby d2_1)
  obtain ⟨T2, X2, e2, st2⟩ := getS2 X1 hx hZ hown (host := "") (Or.inl (wk33 hw)) Via.refl e1 ((wd2 hW).ext O0.2) (g := (mkF m 8 #[.val (.ref (w 1))] [(.ref (w 1))])) rfl (hb hby d2_8)
  obtain ⟨fs, hr, hrun, hended, hWm, hsame⟩ := X2.leave (v := some (.int (1 : Int32))) (fun h => by rw [Bd.returns] at h; cases h)
  refine ⟨_, _, pre0 _ ?_, hrun, hended, _, _, rfl, ?_, ⟨_, rfl⟩, hWm, hsame.mono (by decide) (by decide)⟩
  · show Steps p.tables e below (s₁.setTop (mkF m 0 #[.val (.ref (w 1))] [])) _
    refine sA X0 hx hby d2_0 rfl rfl ?_
    refine st1 _ ?_
    refine Jvm.RoadKit.acmp (g := (mkF m 4 #[.val (.ref (w 1))] [(.ref (w 0)), (.ref (w 1))])) X1 hx rfl rfl rfl (pc0 := 4) (pc' := 7) (same := false) rfl (hb hby d2_4) rfl (decide_eq_false fun q => (Fld.ne (wd13 hW) (wd12 hW) (by decide)) (Value.ref.inj q)) (by decide) (by decide) ?_
    refine sA X1 hx hby d2_7 rfl rfl ?_
    refine st2 _ ?_
    refine Jvm.RoadKit.acmp (g := (mkF m 11 #[.val (.ref (w 1))] [(.ref (w 1)), (.ref (w 1))])) X2 hx rfl rfl rfl (pc0 := 11) (pc' := 14) (same := true) rfl (hb hby d2_11) rfl (decide_eq_true rfl) (by decide) (by decide) ?_
    refine sc X2 hx hby d2_14 ?_
    refine sg (pc := 15) (pc' := 19) X2 hx hby d2_15 (by decide) (by decide) ?_
    exact retN X2 hx (t := .boolean) Bd.returns (by simp) (hb hby d2_19) hr
  · show Q2_6 Z w h0 n0 _ T2.heap _
    rw [e2]
    exact ⟨rfl, N0, rfl⟩
theorem d6_0 : decode prog_75_method_7_code 0 = .ok (.iload_n 1, 1) := by decide +kernel
theorem d6_1 : decode prog_75_method_7_code 1 = .ok (.iload_n 2, 1) := by decide +kernel
theorem d6_2 : decode prog_75_method_7_code 2 = .ok (.invokestatic 54, 3) := by decide +kernel
theorem d7_0 : decode jdk_33_method_40_code 0 = .ok (.iload_n 0, 1) := by decide +kernel
theorem d7_1 : decode jdk_33_method_40_code 1 = .ok (.iload_n 1, 1) := by decide +kernel
theorem d7_2 : decode jdk_33_method_40_code 2 = .ok (.if_icmp .ge 7, 3) := by decide +kernel
theorem d7_5 : decode jdk_33_method_40_code 5 = .ok (.iconst (-1), 1) := by decide +kernel
theorem d7_6 : decode jdk_33_method_40_code 6 = .ok (.goto 13, 3) := by decide +kernel
theorem d7_19 : decode jdk_33_method_40_code 19 = .ok (.ireturn, 1) := by decide +kernel
theorem ef_7_7 (m : MethodId) (q1 : Int32) (q2 : Int32) : entryFrame m #[(.int q1), (.int q2)] 2 = mkF m 0 #[.val (.int q1), .val (.int q2)] [] := by first | (simp [entryFrame, mkF, argsToLocals, Value.category]; done) | rfl
theorem pnc_3 : plainName "java/lang/Integer" = true := by first | (simp [plainName, overriddenIn]; done) | decide +kernel
def Q7_7 (Z : State) (w : Nat → Addr) (q1 : Int32) (q2 : Int32) (h0 : Heap) (n0 : Nat) (v : Option Value) (h : Heap) (L : List Loc) : Prop := v = some (.int (-1 : Int32)) ∧ Fr n0 L ∧ h = h0
set_option maxRecDepth 65536 in
set_option maxHeartbeats 40000000 in
theorem rm7_7 (l : Launch) (Z : State) (a0 : Array Value) (hw : ∀ d ∈ tables_1, d.before a0 Z = true) (w : Nat → Addr) (hW : Wd Z w) (ws : List Jvm.Cond) (q1 : Int32) (q2 : Int32) (h0 : Heap) (n0 : Nat) (O0 : Old Z n0 h0) (c1 : q1 < q2) :
    MetFree l ym6 (head1 (Jvm.Cond.code ym6 jdk_33_method_40_code 2 (some .int) :: ws) ({ frames := 0, cells := 0, slots := 0, locals := 0 } : Room)) (fun a U => a = #[(.int q1), (.int q2)] ∧ Z.Warmed39 U.vm ∧ U.heap = h0) (fun _ _ _ _ _ => True) (fun _ U o U' => ∃ v L, o = .returned v ∧ Q7_7 Z w q1 q2 h0 n0 v U'.heap L ∧ FrameEnd U o U' L ({ frames := 0, cells := 0, slots := 0, locals := 0 } : Room).cells ({ frames := 0, cells := 0, slots := 0, locals := 0 } : Room).slots) := by
  refine MetFree.of_bodySF (plainFor_of_name pnc_3) hisR ?_
  intro p e s m args below meth c s₁ Bd hml0 hP hK
  obtain ⟨rfl, hZ, hh⟩ := hP
  have hx := Bd.exec
  have hby := Bd.bytes
  have hml : c.maxLocals = 2 := hml0
  have hown : s.vm.findClass "java/lang/Integer" = some m.cls := findClass_of_methodNamed Bd.named
  have hnm := (name_of_methodNamed Bd.named Bd.method).1
  have X0 : Stand p l e ({ frames := 0, cells := 0, slots := 0, locals := 0 } : Room) s m #[(.int q1), (.int q2)] below meth c s₁ [] 0 0 := Stand.of_body Bd
  have e0 : s₁.heap = h0 := by rw [← hh, Bd.state]; rfl
  have N0 := Fr.nil n0
  skip
  have pre0 : ∀ t, Steps p.tables e below (s₁.setTop (mkF m 0 #[.val (.int q1), .val (.int q2)] [])) t → Steps p.tables e below (s₁.setTop (entryFrame m #[(.int q1), (.int q2)] 2)) t := fun t k => castTop (ef_7_7 m q1 q2) k
  obtain ⟨fs, hr, hrun, hended, hWm, hsame⟩ := X0.leave (v := some (.int (-1 : Int32))) (fun h => by rw [Bd.returns] at h; cases h)
  refine ⟨_, _, pre0 _ ?_, hrun, hended, _, _, rfl, ?_, ⟨_, rfl⟩, hWm, hsame.mono (by decide) (by decide)⟩
  · show Steps p.tables e below (s₁.setTop (mkF m 0 #[.val (.int q1), .val (.int q2)] [])) _
    refine sI X0 hx hby d7_0 rfl ?_
    refine sI X0 hx hby d7_1 rfl ?_
    refine sn X0 hx hby d7_2 (tlt (c1 : q1 < q2)).2.1 ?_
    refine sc X0 hx hby d7_5 ?_
    refine sg (pc := 6) (pc' := 19) X0 hx hby d7_6 (by decide) (by decide) ?_
    show Steps p.tables e below (s₁.setTop (mkF m 19 #[.val (.int q1), .val (.int q2)] [(.int (-1 : Int32))])) _
    exact retI X0 hx Bd.returns (hb hby d7_19) hr
  · show Q7_7 Z w q1 q2 h0 n0 _ s₁.heap _
    rw [e0]
    exact ⟨rfl, N0, rfl⟩
theorem pds_4 : parseMethodDescriptor "(II)I" = some ⟨[.int, .int], some .int⟩ := by decide +kernel
theorem d6_5 : decode prog_75_method_7_code 5 = .ok (.istore_n 3, 1) := by decide +kernel
theorem d6_6 : decode prog_75_method_7_code 6 = .ok (.aload_n 0, 1) := by decide +kernel
theorem d6_7 : decode prog_75_method_7_code 7 = .ok (.invokevirtual 45, 3) := by decide +kernel
theorem d6_10 : decode prog_75_method_7_code 10 = .ok (.tableswitch 38 0 5 #[48, 60, 72, 84, 96, 108], 38) := by decide +kernel
theorem d6_58 : decode prog_75_method_7_code 58 = .ok (.iload_n 3, 1) := by decide +kernel
theorem d6_59 : decode prog_75_method_7_code 59 = .ok (.ifCond .ne 7, 3) := by decide +kernel
theorem d6_66 : decode prog_75_method_7_code 66 = .ok (.iconst 0, 1) := by decide +kernel
theorem d6_67 : decode prog_75_method_7_code 67 = .ok (.goto 60, 3) := by decide +kernel
theorem d6_127 : decode prog_75_method_7_code 127 = .ok (.ireturn, 1) := by decide +kernel
theorem ef_6_8 (m : MethodId) (w : Nat → Addr) (q1 : Int32) (q2 : Int32) : entryFrame m #[(.ref (w 0)), (.int q1), (.int q2)] 4 = mkF m 0 #[.val (.ref (w 0)), .val (.int q1), .val (.int q2), .unset] [] := by first | (simp [entryFrame, mkF, argsToLocals, Value.category]; done) | rfl
def Q6_8 (Z : State) (w : Nat → Addr) (q1 : Int32) (q2 : Int32) (h0 : Heap) (n0 : Nat) (v : Option Value) (h : Heap) (L : List Loc) : Prop := v = some (.int (0 : Int32)) ∧ Fr n0 L ∧ h = h0
set_option maxRecDepth 65536 in
set_option maxHeartbeats 40000000 in
theorem rm6_8 (l : Launch) (Z : State) (a0 : Array Value) (hw : ∀ d ∈ tables_1, d.before a0 Z = true) (w : Nat → Addr) (hW : Wd Z w) (ws : List Jvm.Cond) (q1 : Int32) (q2 : Int32) (h0 : Heap) (n0 : Nat) (O0 : Old Z n0 h0) (c1 : q1 < q2) :
    MetFree l ym7 (head1 (Jvm.Cond.code ym7 prog_75_method_7_code 4 (some .boolean) :: ws) ({ frames := 1, cells := 0, slots := 0, locals := 13 } : Room)) (fun a U => a = #[(.ref (w 0)), (.int q1), (.int q2)] ∧ Z.Warmed39 U.vm ∧ U.heap = h0) (fun _ _ _ _ _ => True) (fun _ U o U' => ∃ v L, o = .returned v ∧ Q6_8 Z w q1 q2 h0 n0 v U'.heap L ∧ FrameEnd U o U' L ({ frames := 1, cells := 0, slots := 0, locals := 13 } : Room).cells ({ frames := 1, cells := 0, slots := 0, locals := 13 } : Room).slots) := by
  refine MetFree.of_bodySF (plainFor_of_name pnc_1) hisR ?_
  intro p e s m args below meth c s₁ Bd hml0 hP hK
  obtain ⟨rfl, hZ, hh⟩ := hP
  have hx := Bd.exec
  have hby := Bd.bytes
  have hml : c.maxLocals = 4 := hml0
  have hown : s.vm.findClass "com/example/gofyn/gofyn/typed/Term$Operator" = some m.cls := findClass_of_methodNamed Bd.named
  have hnm := (name_of_methodNamed Bd.named Bd.method).1
  have X0 : Stand p l e ({ frames := 1, cells := 0, slots := 0, locals := 13 } : Room) s m #[(.ref (w 0)), (.int q1), (.int q2)] below meth c s₁ [] 0 0 := Stand.of_body Bd
  have e0 : s₁.heap = h0 := by rw [← hh, Bd.state]; rfl
  have N0 := Fr.nil n0
  let La : Array Slot := #[.val (.ref (w 0)), .val (.int q1), .val (.int q2), .unset]
  have pre0 : ∀ t, Steps p.tables e below (s₁.setTop (mkF m 0 #[.val (.ref (w 0)), .val (.int q1), .val (.int q2), .unset] [])) t → Steps p.tables e below (s₁.setTop (entryFrame m #[(.ref (w 0)), (.int q1), (.int q2)] 4)) t := fun t k => castTop (ef_6_8 m w q1 q2) k
  obtain ⟨_, _, ⟨T1, L1, kk1, nn1⟩, -, X1, ⟨Lc1, hQ1, l1, y1, z1⟩, st1⟩ := Jvm.LawKit.callS X0 hx (y := ym6) hown (mvT hZ (wk40 hw)) (mvT hZ (wk41 hw)) (mvT hZ (wk42 hw)) (mvT hZ (wk43 hw)) (by decide) (backOf (W := 0) (rm7_7 l Z a0 hw w hW [] q1 q2 h0 n0 O0 c1) hZ (wk43 hw) (wk42 hw) (by decide) (by decide)) (g := (mkF m 2 La [(.int q2), (.int q1)])) rfl (by rw [hml]; rfl) (argsL := [(.int q1), (.int q2)]) (rest := []) (lenOf pds_4 rfl) rfl (by show 2 * 0 + _ ≤ _; exact Nat.le_of_eq rfl) (hb hby d6_2) (fun _ _ => ⟨rfl, e0, (by decide : 0 + 0 ≤ _), (by decide : 0 + 0 ≤ _)⟩)
  dsimp only [Pt.U, Pt.locs, Pt.cells, Pt.slots] at X1 l1 y1 z1 st1 hQ1
  subst l1 y1 z1
  obtain ⟨rfl, N1q, e1⟩ := hQ1
  have N1 := Fr.app N0 N1q
  let Lb2 : Array Slot := #[.val (.ref (w 0)), .val (.int q1), .val (.int q2), .val (.int (-1 : Int32))]
  obtain ⟨cq3, kq3, q3a, q3b, q3c⟩ := isOf hZ e1 ((wd1 hW).ext O0.2)
  obtain ⟨_, _, ⟨T3, L3, kk3, nn3⟩, -, X3, ⟨Lc3, hQ3, l3, y3, z3⟩, st3⟩ := X1.virtualBackUp hx (x := ym3) (y := ym2) hown (mvT hZ (wk19 hw)) (mvT hZ (wk20 hw)) (mvT hZ (wk21 hw)) (by decide) (mvT hZ (wk23 hw)) (mvT hZ (wk22 hw)) (backOf (W := 0) (rm4_3 l Z a0 hw w hW []  h0 n0 O0 ) hZ (wk25 hw) (wk24 hw) (by decide) (by decide)) q3a q3c (g := (mkF m 7 Lb2 [(.ref (w 0))])) rfl (by rw [hml]; rfl) (Steps.refl _) (argsL := []) (rest := []) (lenOf pds_2 rfl) rfl (by show 2 * 0 + _ ≤ _; exact Nat.le_of_eq rfl) (hb hby d6_7) (fun _ _ => ⟨rfl, e1, (by decide : 0 + 0 ≤ _), (by decide : 0 + 0 ≤ _)⟩)
  dsimp only [Pt.U, Pt.locs, Pt.cells, Pt.slots] at X3 l3 y3 z3 st3 hQ3
  subst l3 y3 z3
  obtain ⟨rfl, N3q, e3⟩ := hQ3
  have N3 := Fr.app N1 N3q
  obtain ⟨fs, hr, hrun, hended, hWm, hsame⟩ := X3.leave (v := some (.int (0 : Int32))) (fun h => by rw [Bd.returns] at h; cases h)
  refine ⟨_, _, pre0 _ ?_, hrun, hended, _, _, rfl, ?_, ⟨_, rfl⟩, hWm, hsame.mono (by decide) (by decide)⟩
  · show Steps p.tables e below (s₁.setTop (mkF m 0 La [])) _
    refine sI X0 hx hby d6_0 rfl ?_
    refine sI X0 hx hby d6_1 rfl ?_
    refine st1 _ ?_
    refine XS.istoreN X1.here hx rfl (hb hby d6_5) rfl (l' := Lb2) rfl ?_
    refine sA X1 hx hby d6_6 rfl rfl ?_
    refine st3.trans ?_
    refine XS.tswIn X3.here hx rfl (pc0 := 10) (pc' := 58) (o := 48) rfl (hb hby d6_10) rfl (by decide) (by decide) (by decide) (by decide) ?_
    refine sI X3 hx hby d6_58 rfl ?_
    refine XS.ifYes X3.here hx rfl (pc0 := 59) (pc' := 66) rfl (hb hby d6_59) rfl (by decide) (by decide) (by decide) ?_
    refine sc X3 hx hby d6_66 ?_
    refine sg (pc := 67) (pc' := 127) X3 hx hby d6_67 (by decide) (by decide) ?_
    show Steps p.tables e below (T3.setTop (mkF m 127 Lb2 [(.int (0 : Int32))])) _
    exact retN X3 hx (t := .boolean) Bd.returns (by simp) (hb hby d6_127) hr
  · show Q6_8 Z w q1 q2 h0 n0 _ T3.heap _
    rw [e3]
    exact ⟨rfl, N3, rfl⟩
theorem pds_5 : parseMethodDescriptor "(II)Z" = some ⟨[.int, .int], some .boolean⟩ := by decide +kernel
theorem d7_9 : decode jdk_33_method_40_code 9 = .ok (.iload_n 0, 1) := by decide +kernel
theorem d7_10 : decode jdk_33_method_40_code 10 = .ok (.iload_n 1, 1) := by decide +kernel
theorem d7_11 : decode jdk_33_method_40_code 11 = .ok (.if_icmp .ne 7, 3) := by decide +kernel
theorem d7_18 : decode jdk_33_method_40_code 18 = .ok (.iconst 1, 1) := by decide +kernel
theorem ef_7_9 (m : MethodId) (q1 : Int32) (q2 : Int32) : entryFrame m #[(.int q1), (.int q2)] 2 = mkF m 0 #[.val (.int q1), .val (.int q2)] [] := by first | (simp [entryFrame, mkF, argsToLocals, Value.category]; done) | rfl
def Q7_9 (Z : State) (w : Nat → Addr) (q1 : Int32) (q2 : Int32) (h0 : Heap) (n0 : Nat) (v : Option Value) (h : Heap) (L : List Loc) : Prop := v = some (.int (1 : Int32)) ∧ Fr n0 L ∧ h = h0
set_option maxRecDepth 65536 in
set_option maxHeartbeats 40000000 in
theorem rm7_9 (l : Launch) (Z : State) (a0 : Array Value) (hw : ∀ d ∈ tables_1, d.before a0 Z = true) (w : Nat → Addr) (hW : Wd Z w) (ws : List Jvm.Cond) (q1 : Int32) (q2 : Int32) (h0 : Heap) (n0 : Nat) (O0 : Old Z n0 h0) (c1 : ¬ (q1 < q2)) (c2 : ¬ (q1 = q2)) :
    MetFree l ym6 (head1 (Jvm.Cond.code ym6 jdk_33_method_40_code 2 (some .int) :: ws) ({ frames := 0, cells := 0, slots := 0, locals := 0 } : Room)) (fun a U => a = #[(.int q1), (.int q2)] ∧ Z.Warmed39 U.vm ∧ U.heap = h0) (fun _ _ _ _ _ => True) (fun _ U o U' => ∃ v L, o = .returned v ∧ Q7_9 Z w q1 q2 h0 n0 v U'.heap L ∧ FrameEnd U o U' L ({ frames := 0, cells := 0, slots := 0, locals := 0 } : Room).cells ({ frames := 0, cells := 0, slots := 0, locals := 0 } : Room).slots) := by
  refine MetFree.of_bodySF (plainFor_of_name pnc_3) hisR ?_
  intro p e s m args below meth c s₁ Bd hml0 hP hK
  obtain ⟨rfl, hZ, hh⟩ := hP
  have hx := Bd.exec
  have hby := Bd.bytes
  have hml : c.maxLocals = 2 := hml0
  have hown : s.vm.findClass "java/lang/Integer" = some m.cls := findClass_of_methodNamed Bd.named
  have hnm := (name_of_methodNamed Bd.named Bd.method).1
  have X0 : Stand p l e ({ frames := 0, cells := 0, slots := 0, locals := 0 } : Room) s m #[(.int q1), (.int q2)] below meth c s₁ [] 0 0 := Stand.of_body Bd
  have e0 : s₁.heap = h0 := by rw [← hh, Bd.state]; rfl
  have N0 := Fr.nil n0
  skip
  have pre0 : ∀ t, Steps p.tables e below (s₁.setTop (mkF m 0 #[.val (.int q1), .val (.int q2)] [])) t → Steps p.tables e below (s₁.setTop (entryFrame m #[(.int q1), (.int q2)] 2)) t := fun t k => castTop (ef_7_9 m q1 q2) k
  obtain ⟨fs, hr, hrun, hended, hWm, hsame⟩ := X0.leave (v := some (.int (1 : Int32))) (fun h => by rw [Bd.returns] at h; cases h)
  refine ⟨_, _, pre0 _ ?_, hrun, hended, _, _, rfl, ?_, ⟨_, rfl⟩, hWm, hsame.mono (by decide) (by decide)⟩
  · show Steps p.tables e below (s₁.setTop (mkF m 0 #[.val (.int q1), .val (.int q2)] [])) _
    refine sI X0 hx hby d7_0 rfl ?_
    refine sI X0 hx hby d7_1 rfl ?_
    refine XS.icmpYes X0.here hx rfl (pc0 := 2) (pc' := 9) rfl (hb hby d7_2) rfl (flt (c1 : ¬ (q1 < q2))).2.1 (by decide) (by decide) ?_
    refine sI X0 hx hby d7_9 rfl ?_
    refine sI X0 hx hby d7_10 rfl ?_
    show Steps p.tables e below (s₁.setTop (mkF m 11 #[.val (.int q1), .val (.int q2)] [(.int q2), (.int q1)])) _
    refine XS.icmpYes X0.here hx rfl (pc0 := 11) (pc' := 18) rfl (hb hby d7_11) rfl (feq (c2 : ¬ (q1 = q2))).2 (by decide) (by decide) ?_
    refine sc X0 hx hby d7_18 ?_
    exact retI X0 hx Bd.returns (hb hby d7_19) hr
  · show Q7_9 Z w q1 q2 h0 n0 _ s₁.heap _
    rw [e0]
    exact ⟨rfl, N0, rfl⟩
theorem ef_6_10 (m : MethodId) (w : Nat → Addr) (q1 : Int32) (q2 : Int32) : entryFrame m #[(.ref (w 0)), (.int q1), (.int q2)] 4 = mkF m 0 #[.val (.ref (w 0)), .val (.int q1), .val (.int q2), .unset] [] := by first | (simp [entryFrame, mkF, argsToLocals, Value.category]; done) | rfl
def Q6_10 (Z : State) (w : Nat → Addr) (q1 : Int32) (q2 : Int32) (h0 : Heap) (n0 : Nat) (v : Option Value) (h : Heap) (L : List Loc) : Prop := v = some (.int (0 : Int32)) ∧ Fr n0 L ∧ h = h0
set_option maxRecDepth 65536 in
set_option maxHeartbeats 40000000 in
theorem rm6_10 (l : Launch) (Z : State) (a0 : Array Value) (hw : ∀ d ∈ tables_1, d.before a0 Z = true) (w : Nat → Addr) (hW : Wd Z w) (ws : List Jvm.Cond) (q1 : Int32) (q2 : Int32) (h0 : Heap) (n0 : Nat) (O0 : Old Z n0 h0) (c1 : ¬ (q1 < q2)) (c2 : ¬ (q1 = q2)) :
    MetFree l ym7 (head1 (Jvm.Cond.code ym7 prog_75_method_7_code 4 (some .boolean) :: ws) ({ frames := 1, cells := 0, slots := 0, locals := 13 } : Room)) (fun a U => a = #[(.ref (w 0)), (.int q1), (.int q2)] ∧ Z.Warmed39 U.vm ∧ U.heap = h0) (fun _ _ _ _ _ => True) (fun _ U o U' => ∃ v L, o = .returned v ∧ Q6_10 Z w q1 q2 h0 n0 v U'.heap L ∧ FrameEnd U o U' L ({ frames := 1, cells := 0, slots := 0, locals := 13 } : Room).cells ({ frames := 1, cells := 0, slots := 0, locals := 13 } : Room).slots) := by
  refine MetFree.of_bodySF (plainFor_of_name pnc_1) hisR ?_
  intro p e s m args below meth c s₁ Bd hml0 hP hK
  obtain ⟨rfl, hZ, hh⟩ := hP
  have hx := Bd.exec
  have hby := Bd.bytes
  have hml : c.maxLocals = 4 := hml0
  have hown : s.vm.findClass "com/example/gofyn/gofyn/typed/Term$Operator" = some m.cls := findClass_of_methodNamed Bd.named
  have hnm := (name_of_methodNamed Bd.named Bd.method).1
  have X0 : Stand p l e ({ frames := 1, cells := 0, slots := 0, locals := 13 } : Room) s m #[(.ref (w 0)), (.int q1), (.int q2)] below meth c s₁ [] 0 0 := Stand.of_body Bd
  have e0 : s₁.heap = h0 := by rw [← hh, Bd.state]; rfl
  have N0 := Fr.nil n0
  let La : Array Slot := #[.val (.ref (w 0)), .val (.int q1), .val (.int q2), .unset]
  have pre0 : ∀ t, Steps p.tables e below (s₁.setTop (mkF m 0 #[.val (.ref (w 0)), .val (.int q1), .val (.int q2), .unset] [])) t → Steps p.tables e below (s₁.setTop (entryFrame m #[(.ref (w 0)), (.int q1), (.int q2)] 4)) t := fun t k => castTop (ef_6_10 m w q1 q2) k
  obtain ⟨_, _, ⟨T1, L1, kk1, nn1⟩, -, X1, ⟨Lc1, hQ1, l1, y1, z1⟩, st1⟩ := Jvm.LawKit.callS X0 hx (y := ym6) hown (mvT hZ (wk40 hw)) (mvT hZ (wk41 hw)) (mvT hZ (wk42 hw)) (mvT hZ (wk43 hw)) (by decide) (backOf (W := 0) (rm7_9 l Z a0 hw w hW [] q1 q2 h0 n0 O0 c1 c2) hZ (wk43 hw) (wk42 hw) (by decide) (by decide)) (g := (mkF m 2 La [(.int q2), (.int q1)])) rfl (by rw [hml]; rfl) (argsL := [(.int q1), (.int q2)]) (rest := []) (lenOf pds_4 rfl) rfl (by show 2 * 0 + _ ≤ _; exact Nat.le_of_eq rfl) (hb hby d6_2) (fun _ _ => ⟨rfl, e0, (by decide : 0 + 0 ≤ _), (by decide : 0 + 0 ≤ _)⟩)
  dsimp only [Pt.U, Pt.locs, Pt.cells, Pt.slots] at X1 l1 y1 z1 st1 hQ1
  subst l1 y1 z1
  obtain ⟨rfl, N1q, e1⟩ := hQ1
  have N1 := Fr.app N0 N1q
  let Lb2 : Array Slot := #[.val (.ref (w 0)), .val (.int q1), .val (.int q2), .val (.int (1 : Int32))]
  obtain ⟨cq3, kq3, q3a, q3b, q3c⟩ := isOf hZ e1 ((wd1 hW).ext O0.2)
  obtain ⟨_, _, ⟨T3, L3, kk3, nn3⟩, -, X3, ⟨Lc3, hQ3, l3, y3, z3⟩, st3⟩ := X1.virtualBackUp hx (x := ym3) (y := ym2) hown (mvT hZ (wk19 hw)) (mvT hZ (wk20 hw)) (mvT hZ (wk21 hw)) (by decide) (mvT hZ (wk23 hw)) (mvT hZ (wk22 hw)) (backOf (W := 0) (rm4_3 l Z a0 hw w hW []  h0 n0 O0 ) hZ (wk25 hw) (wk24 hw) (by decide) (by decide)) q3a q3c (g := (mkF m 7 Lb2 [(.ref (w 0))])) rfl (by rw [hml]; rfl) (Steps.refl _) (argsL := []) (rest := []) (lenOf pds_2 rfl) rfl (by show 2 * 0 + _ ≤ _; exact Nat.le_of_eq rfl) (hb hby d6_7) (fun _ _ => ⟨rfl, e1, (by decide : 0 + 0 ≤ _), (by decide : 0 + 0 ≤ _)⟩)
  dsimp only [Pt.U, Pt.locs, Pt.cells, Pt.slots] at X3 l3 y3 z3 st3 hQ3
  subst l3 y3 z3
  obtain ⟨rfl, N3q, e3⟩ := hQ3
  have N3 := Fr.app N1 N3q
  obtain ⟨fs, hr, hrun, hended, hWm, hsame⟩ := X3.leave (v := some (.int (0 : Int32))) (fun h => by rw [Bd.returns] at h; cases h)
  refine ⟨_, _, pre0 _ ?_, hrun, hended, _, _, rfl, ?_, ⟨_, rfl⟩, hWm, hsame.mono (by decide) (by decide)⟩
  · show Steps p.tables e below (s₁.setTop (mkF m 0 La [])) _
    refine sI X0 hx hby d6_0 rfl ?_
    refine sI X0 hx hby d6_1 rfl ?_
    refine st1 _ ?_
    refine XS.istoreN X1.here hx rfl (hb hby d6_5) rfl (l' := Lb2) rfl ?_
    refine sA X1 hx hby d6_6 rfl rfl ?_
    refine st3.trans ?_
    refine XS.tswIn X3.here hx rfl (pc0 := 10) (pc' := 58) (o := 48) rfl (hb hby d6_10) rfl (by decide) (by decide) (by decide) (by decide) ?_
    refine sI X3 hx hby d6_58 rfl ?_
    refine XS.ifYes X3.here hx rfl (pc0 := 59) (pc' := 66) rfl (hb hby d6_59) rfl (by decide) (by decide) (by decide) ?_
    refine sc X3 hx hby d6_66 ?_
    refine sg (pc := 67) (pc' := 127) X3 hx hby d6_67 (by decide) (by decide) ?_
    show Steps p.tables e below (T3.setTop (mkF m 127 Lb2 [(.int (0 : Int32))])) _
    exact retN X3 hx (t := .boolean) Bd.returns (by simp) (hb hby d6_127) hr
  · show Q6_10 Z w q1 q2 h0 n0 _ T3.heap _
    rw [e3]
    exact ⟨rfl, N3, rfl⟩
theorem d1_8 : decode method_2_code 8 = .ok (.iload_n 0, 1) := by decide +kernel
theorem d1_9 : decode method_2_code 9 = .ok (.iconst 1, 1) := by decide +kernel
theorem d1_10 : decode method_2_code 10 = .ok (.if_icmp .ne 7, 3) := by decide +kernel
theorem d1_13 : decode method_2_code 13 = .ok (.getstatic 13, 3) := by decide +kernel
theorem d1_16 : decode method_2_code 16 = .ok (.areturn, 1) := by decide +kernel
theorem ef_1_11 (m : MethodId) : entryFrame m #[(.int (1 : Int32))] 1 = mkF m 0 #[.val (.int (1 : Int32))] [] := by first | (simp [entryFrame, mkF, argsToLocals, Value.category]; done) | rfl
def Q1_11 (Z : State) (w : Nat → Addr) (h0 : Heap) (n0 : Nat) (v : Option Value) (h : Heap) (L : List Loc) : Prop := v = some (.ref (w 1)) ∧ Fr n0 L ∧ h = h0
set_option maxRecDepth 65536 in
set_option maxHeartbeats 40000000 in
theorem rm1_11 (l : Launch) (Z : State) (a0 : Array Value) (hw : ∀ d ∈ tables_1, d.before a0 Z = true) (w : Nat → Addr) (hW : Wd Z w) (ws : List Jvm.Cond) (h0 : Heap) (n0 : Nat) (O0 : Old Z n0 h0) :
    MetFree l ym0 (head1 (Jvm.Cond.code ym0 method_2_code 1 (some (.object "com/example/gofyn/gofyn/typed/Term$Operator")) :: ws) ({ frames := 0, cells := 0, slots := 0, locals := 0 } : Room)) (fun a U => a = #[(.int (1 : Int32))] ∧ Z.Warmed39 U.vm ∧ U.heap = h0) (fun _ _ _ _ _ => True) (fun _ U o U' => ∃ v L, o = .returned v ∧ Q1_11 Z w h0 n0 v U'.heap L ∧ FrameEnd U o U' L ({ frames := 0, cells := 0, slots := 0, locals := 0 } : Room).cells ({ frames := 0, cells := 0, slots := 0, locals := 0 } : Room).slots) := by
  refine MetFree.of_bodySF (plainFor_of_name pnc_0) hisR ?_
  intro p e s m args below meth c s₁ Bd hml0 hP hK
  obtain ⟨rfl, hZ, hh⟩ := hP
  have hx := Bd.exec
  have hby := Bd.bytes
  have hml : c.maxLocals = 1 := hml0
  have hown : s.vm.findClass "com/example/gofyn/gofyn/typed/OperatorIsEqualityPinLaw" = some m.cls := findClass_of_methodNamed Bd.named
  have hnm := (name_of_methodNamed Bd.named Bd.method).1
  have X0 : Stand p l e ({ frames := 0, cells := 0, slots := 0, locals := 0 } : Room) s m #[(.int (1 : Int32))] below meth c s₁ [] 0 0 := Stand.of_body Bd
  have e0 : s₁.heap = h0 := by rw [← hh, Bd.state]; rfl
  have N0 := Fr.nil n0
  skip
  have pre0 : ∀ t, Steps p.tables e below (s₁.setTop (mkF m 0 #[.val (.int (1 : Int32))] [])) t → Steps p.tables e below (s₁.setTop (entryFrame m #[(.int (1 : Int32))] 1)) t := fun t k => castTop (ef_1_11 m) k
  obtain ⟨T1, X1, e1, st1⟩ := getS2 X0 hx hZ hown (host := "") (Or.inl (wk44 hw)) Via.refl e0 ((wd2 hW).ext O0.2) (g := (mkF m 13 #[.val (.int (1 : Int32))] [])) rfl (hb hby d1_13)
  obtain ⟨fs, hr, hrun, hended, hWm, hsame⟩ := X1.leave (v := some (.ref (w 1))) (fun h => by rw [Bd.returns] at h; cases h)
  refine ⟨_, _, pre0 _ ?_, hrun, hended, _, _, rfl, ?_, ⟨_, rfl⟩, hWm, hsame.mono (by decide) (by decide)⟩
  · show Steps p.tables e below (s₁.setTop (mkF m 0 #[.val (.int (1 : Int32))] [])) _
    refine sI X0 hx hby d1_0 rfl ?_
    refine XS.ifYes X0.here hx rfl (pc0 := 1) (pc' := 8) rfl (hb hby d1_1) rfl (by decide) (by decide) (by decide) ?_
    refine sI X0 hx hby d1_8 rfl ?_
    refine sc X0 hx hby d1_9 ?_
    refine sn X0 hx hby d1_10 (by decide) ?_
    show Steps p.tables e below (s₁.setTop (mkF m 13 #[.val (.int (1 : Int32))] [])) _
    refine st1 _ ?_
    jvm_step X1.here [X1.here.top, hx, (hb hby d1_16), X1.method', Bd.returns, Value.isRef, FieldType.isReference]
    first | (intro acts; rw [hr _ acts rfl rfl rfl]) | rw [hr _ _ rfl rfl rfl]
    exact Steps.refl _
  · show Q1_11 Z w h0 n0 _ T1.heap _
    rw [e1]
    exact ⟨rfl, N0, rfl⟩
theorem ef_4_12 (m : MethodId) (w : Nat → Addr) : entryFrame m #[(.ref (w 1))] 1 = mkF m 0 #[.val (.ref (w 1))] [] := by first | (simp [entryFrame, mkF, argsToLocals, Value.category]; done) | rfl
def Q4_12 (Z : State) (w : Nat → Addr) (h0 : Heap) (n0 : Nat) (v : Option Value) (h : Heap) (L : List Loc) : Prop := v = some (.int (1 : Int32)) ∧ Fr n0 L ∧ h = h0
set_option maxRecDepth 65536 in
set_option maxHeartbeats 40000000 in
theorem rm4_12 (l : Launch) (Z : State) (a0 : Array Value) (hw : ∀ d ∈ tables_1, d.before a0 Z = true) (w : Nat → Addr) (hW : Wd Z w) (ws : List Jvm.Cond) (h0 : Heap) (n0 : Nat) (O0 : Old Z n0 h0) :
    MetFree l ym2 (head1 (Jvm.Cond.code ym2 jdk_37_method_2_code 1 (some .int) :: ws) ({ frames := 0, cells := 0, slots := 0, locals := 0 } : Room)) (fun a U => a = #[(.ref (w 1))] ∧ Z.Warmed39 U.vm ∧ U.heap = h0) (fun _ _ _ _ _ => True) (fun _ U o U' => ∃ v L, o = .returned v ∧ Q4_12 Z w h0 n0 v U'.heap L ∧ FrameEnd U o U' L ({ frames := 0, cells := 0, slots := 0, locals := 0 } : Room).cells ({ frames := 0, cells := 0, slots := 0, locals := 0 } : Room).slots) := by
  refine MetFree.of_bodySF (plainFor_of_name pnc_2) hisR ?_
  intro p e s m args below meth c s₁ Bd hml0 hP hK
  obtain ⟨rfl, hZ, hh⟩ := hP
  have hx := Bd.exec
  have hby := Bd.bytes
  have hml : c.maxLocals = 1 := hml0
  have hown : s.vm.findClass "java/lang/Enum" = some m.cls := findClass_of_methodNamed Bd.named
  have hnm := (name_of_methodNamed Bd.named Bd.method).1
  have X0 : Stand p l e ({ frames := 0, cells := 0, slots := 0, locals := 0 } : Room) s m #[(.ref (w 1))] below meth c s₁ [] 0 0 := Stand.of_body Bd
  have e0 : s₁.heap = h0 := by rw [← hh, Bd.state]; rfl
  have N0 := Fr.nil n0
  skip
  have pre0 : ∀ t, Steps p.tables e below (s₁.setTop (mkF m 0 #[.val (.ref (w 1))] [])) t → Steps p.tables e below (s₁.setTop (entryFrame m #[(.ref (w 1))] 1)) t := fun t k => castTop (ef_4_12 m w) k
  obtain ⟨T1, X1, e1, st1⟩ := getF X0 hx hZ hown (host := "") (Or.inl (wk26 hw)) Via.refl e0 ((wd13 hW).ext O0.2) (g := (mkF m 1 #[.val (.ref (w 1))] [(.ref (w 1))])) rfl rfl (hb hby d4_1)
  obtain ⟨fs, hr, hrun, hended, hWm, hsame⟩ := X1.leave (v := some (.int (1 : Int32))) (fun h => by rw [Bd.returns] at h; cases h)
  refine ⟨_, _, pre0 _ ?_, hrun, hended, _, _, rfl, ?_, ⟨_, rfl⟩, hWm, hsame.mono (by decide) (by decide)⟩
  · show Steps p.tables e below (s₁.setTop (mkF m 0 #[.val (.ref (w 1))] [])) _
    refine sA X0 hx hby d4_0 rfl rfl ?_
    refine st1 _ ?_
    exact retI X1 hx Bd.returns (hb hby d4_4) hr
  · show Q4_12 Z w h0 n0 _ T1.heap _
    rw [e1]
    exact ⟨rfl, N0, rfl⟩
theorem ef_3_13 (m : MethodId) (w : Nat → Addr) : entryFrame m #[(.ref (w 1))] 1 = mkF m 0 #[.val (.ref (w 1))] [] := by first | (simp [entryFrame, mkF, argsToLocals, Value.category]; done) | rfl
def Q3_13 (Z : State) (w : Nat → Addr) (h0 : Heap) (n0 : Nat) (v : Option Value) (h : Heap) (L : List Loc) : Prop := v = some (.ref (w 1)) ∧ Fr n0 L ∧ h = h0
set_option maxRecDepth 65536 in
set_option maxHeartbeats 40000000 in
theorem rm3_13 (l : Launch) (Z : State) (a0 : Array Value) (hw : ∀ d ∈ tables_1, d.before a0 Z = true) (w : Nat → Addr) (hW : Wd Z w) (ws : List Jvm.Cond) (h0 : Heap) (n0 : Nat) (O0 : Old Z n0 h0) :
    MetFree l ym4 (head1 (Jvm.Cond.code ym4 prog_75_method_6_code 1 (some (.object "com/example/gofyn/gofyn/typed/Term$Operator")) :: ws) ({ frames := 1, cells := 0, slots := 0, locals := 12 } : Room)) (fun a U => a = #[(.ref (w 1))] ∧ Z.Warmed39 U.vm ∧ U.heap = h0) (fun _ _ _ _ _ => True) (fun _ U o U' => ∃ v L, o = .returned v ∧ Q3_13 Z w h0 n0 v U'.heap L ∧ FrameEnd U o U' L ({ frames := 1, cells := 0, slots := 0, locals := 12 } : Room).cells ({ frames := 1, cells := 0, slots := 0, locals := 12 } : Room).slots) := by
  refine MetFree.of_bodySF (plainFor_of_name pnc_1) hisR ?_
  intro p e s m args below meth c s₁ Bd hml0 hP hK
  obtain ⟨rfl, hZ, hh⟩ := hP
  have hx := Bd.exec
  have hby := Bd.bytes
  have hml : c.maxLocals = 1 := hml0
  have hown : s.vm.findClass "com/example/gofyn/gofyn/typed/Term$Operator" = some m.cls := findClass_of_methodNamed Bd.named
  have hnm := (name_of_methodNamed Bd.named Bd.method).1
  have X0 : Stand p l e ({ frames := 1, cells := 0, slots := 0, locals := 12 } : Room) s m #[(.ref (w 1))] below meth c s₁ [] 0 0 := Stand.of_body Bd
  have e0 : s₁.heap = h0 := by rw [← hh, Bd.state]; rfl
  have N0 := Fr.nil n0
  skip
  have pre0 : ∀ t, Steps p.tables e below (s₁.setTop (mkF m 0 #[.val (.ref (w 1))] [])) t → Steps p.tables e below (s₁.setTop (entryFrame m #[(.ref (w 1))] 1)) t := fun t k => castTop (ef_3_13 m w) k
  obtain ⟨cq1, kq1, q1a, q1b, q1c⟩ := isOf hZ e0 ((wd3 hW).ext O0.2)
  obtain ⟨_, _, ⟨T1, L1, kk1, nn1⟩, -, X1, ⟨Lc1, hQ1, l1, y1, z1⟩, st1⟩ := X0.virtualBackUp hx (x := ym3) (y := ym2) hown (mvT hZ (wk19 hw)) (mvT hZ (wk20 hw)) (mvT hZ (wk21 hw)) (by decide) (mvT hZ (wk23 hw)) (mvT hZ (wk22 hw)) (backOf (W := 0) (rm4_12 l Z a0 hw w hW []  h0 n0 O0 ) hZ (wk25 hw) (wk24 hw) (by decide) (by decide)) q1a q1c (g := (mkF m 1 #[.val (.ref (w 1))] [(.ref (w 1))])) rfl (by rw [hml]; rfl) (Steps.refl _) (argsL := []) (rest := []) (lenOf pds_2 rfl) rfl (by show 2 * 0 + _ ≤ _; exact Nat.le_of_eq rfl) (hb hby d3_1) (fun _ _ => ⟨rfl, e0, (by decide : 0 + 0 ≤ _), (by decide : 0 + 0 ≤ _)⟩)
  dsimp only [Pt.U, Pt.locs, Pt.cells, Pt.slots] at X1 l1 y1 z1 st1 hQ1
  subst l1 y1 z1
  obtain ⟨rfl, N1q, e1⟩ := hQ1
  have N1 := Fr.app N0 N1q
  obtain ⟨fs, hr, hrun, hended, hWm, hsame⟩ := X1.leave (v := some (.ref (w 1))) (fun h => by rw [Bd.returns] at h; cases h)
  refine ⟨_, _, pre0 _ ?_, hrun, hended, _, _, rfl, ?_, ⟨_, rfl⟩, hWm, hsame.mono (by decide) (by decide)⟩
  · show Steps p.tables e below (s₁.setTop (mkF m 0 #[.val (.ref (w 1))] [])) _
    refine sA X0 hx hby d3_0 rfl rfl ?_
    refine st1.trans ?_
    refine XS.tswIn X1.here hx rfl (pc0 := 4) (pc' := 54) (o := 50) rfl (hb hby d3_4) rfl (by decide) (by decide) (by decide) (by decide) ?_
    refine sA X1 hx hby d3_54 rfl rfl ?_
    refine sg (pc := 55) (pc' := 79) X1 hx hby d3_55 (by decide) (by decide) ?_
    jvm_step X1.here [X1.here.top, hx, (hb hby d3_79), X1.method', Bd.returns, Value.isRef, FieldType.isReference]
    first | (intro acts; rw [hr _ acts rfl rfl rfl]) | rw [hr _ _ rfl rfl rfl]
    exact Steps.refl _
  · show Q3_13 Z w h0 n0 _ T1.heap _
    rw [e1]
    exact ⟨rfl, N1, rfl⟩
theorem d5_60 : decode prog_75_method_5_code 60 = .ok (.getstatic 3, 3) := by decide +kernel
theorem d5_63 : decode prog_75_method_5_code 63 = .ok (.goto 24, 3) := by decide +kernel
theorem ef_5_14 (m : MethodId) (w : Nat → Addr) : entryFrame m #[(.ref (w 1))] 1 = mkF m 0 #[.val (.ref (w 1))] [] := by first | (simp [entryFrame, mkF, argsToLocals, Value.category]; done) | rfl
def Q5_14 (Z : State) (w : Nat → Addr) (h0 : Heap) (n0 : Nat) (v : Option Value) (h : Heap) (L : List Loc) : Prop := v = some (.ref (w 0)) ∧ Fr n0 L ∧ h = h0
set_option maxRecDepth 65536 in
set_option maxHeartbeats 40000000 in
theorem rm5_14 (l : Launch) (Z : State) (a0 : Array Value) (hw : ∀ d ∈ tables_1, d.before a0 Z = true) (w : Nat → Addr) (hW : Wd Z w) (ws : List Jvm.Cond) (h0 : Heap) (n0 : Nat) (O0 : Old Z n0 h0) :
    MetFree l ym5 (head1 (Jvm.Cond.code ym5 prog_75_method_5_code 1 (some (.object "com/example/gofyn/gofyn/typed/Term$Operator")) :: ws) ({ frames := 1, cells := 0, slots := 0, locals := 12 } : Room)) (fun a U => a = #[(.ref (w 1))] ∧ Z.Warmed39 U.vm ∧ U.heap = h0) (fun _ _ _ _ _ => True) (fun _ U o U' => ∃ v L, o = .returned v ∧ Q5_14 Z w h0 n0 v U'.heap L ∧ FrameEnd U o U' L ({ frames := 1, cells := 0, slots := 0, locals := 12 } : Room).cells ({ frames := 1, cells := 0, slots := 0, locals := 12 } : Room).slots) := by
  refine MetFree.of_bodySF (plainFor_of_name pnc_1) hisR ?_
  intro p e s m args below meth c s₁ Bd hml0 hP hK
  obtain ⟨rfl, hZ, hh⟩ := hP
  have hx := Bd.exec
  have hby := Bd.bytes
  have hml : c.maxLocals = 1 := hml0
  have hown : s.vm.findClass "com/example/gofyn/gofyn/typed/Term$Operator" = some m.cls := findClass_of_methodNamed Bd.named
  have hnm := (name_of_methodNamed Bd.named Bd.method).1
  have X0 : Stand p l e ({ frames := 1, cells := 0, slots := 0, locals := 12 } : Room) s m #[(.ref (w 1))] below meth c s₁ [] 0 0 := Stand.of_body Bd
  have e0 : s₁.heap = h0 := by rw [← hh, Bd.state]; rfl
  have N0 := Fr.nil n0
  skip
  have pre0 : ∀ t, Steps p.tables e below (s₁.setTop (mkF m 0 #[.val (.ref (w 1))] [])) t → Steps p.tables e below (s₁.setTop (entryFrame m #[(.ref (w 1))] 1)) t := fun t k => castTop (ef_5_14 m w) k
  obtain ⟨cq1, kq1, q1a, q1b, q1c⟩ := isOf hZ e0 ((wd3 hW).ext O0.2)
  obtain ⟨_, _, ⟨T1, L1, kk1, nn1⟩, -, X1, ⟨Lc1, hQ1, l1, y1, z1⟩, st1⟩ := X0.virtualBackUp hx (x := ym3) (y := ym2) hown (mvT hZ (wk19 hw)) (mvT hZ (wk20 hw)) (mvT hZ (wk21 hw)) (by decide) (mvT hZ (wk23 hw)) (mvT hZ (wk22 hw)) (backOf (W := 0) (rm4_12 l Z a0 hw w hW []  h0 n0 O0 ) hZ (wk25 hw) (wk24 hw) (by decide) (by decide)) q1a q1c (g := (mkF m 1 #[.val (.ref (w 1))] [(.ref (w 1))])) rfl (by rw [hml]; rfl) (Steps.refl _) (argsL := []) (rest := []) (lenOf pds_2 rfl) rfl (by show 2 * 0 + _ ≤ _; exact Nat.le_of_eq rfl) (hb hby d5_1) (fun _ _ => ⟨rfl, e0, (by decide : 0 + 0 ≤ _), (by decide : 0 + 0 ≤ _)⟩)
  dsimp only [Pt.U, Pt.locs, Pt.cells, Pt.slots] at X1 l1 y1 z1 st1 hQ1
  subst l1 y1 z1
  obtain ⟨rfl, N1q, e1⟩ := hQ1
  have N1 := Fr.app N0 N1q
  obtain ⟨T2, X2, e2, st2⟩ := getS2 X1 hx hZ hown (host := "") (Or.inl (wk13 hw)) Via.refl e1 ((wd0 hW).ext O0.2) (g := (mkF m 60 #[.val (.ref (w 1))] [])) rfl (hb hby d5_60)
  obtain ⟨fs, hr, hrun, hended, hWm, hsame⟩ := X2.leave (v := some (.ref (w 0))) (fun h => by rw [Bd.returns] at h; cases h)
  refine ⟨_, _, pre0 _ ?_, hrun, hended, _, _, rfl, ?_, ⟨_, rfl⟩, hWm, hsame.mono (by decide) (by decide)⟩
  · show Steps p.tables e below (s₁.setTop (mkF m 0 #[.val (.ref (w 1))] [])) _
    refine sA X0 hx hby d5_0 rfl rfl ?_
    refine st1.trans ?_
    refine XS.tswIn X1.here hx rfl (pc0 := 4) (pc' := 60) (o := 56) rfl (hb hby d5_4) rfl (by decide) (by decide) (by decide) (by decide) ?_
    refine st2 _ ?_
    refine sg (pc := 63) (pc' := 87) X2 hx hby d5_63 (by decide) (by decide) ?_
    jvm_step X2.here [X2.here.top, hx, (hb hby d5_87), X2.method', Bd.returns, Value.isRef, FieldType.isReference]
    first | (intro acts; rw [hr _ acts rfl rfl rfl]) | rw [hr _ _ rfl rfl rfl]
    exact Steps.refl _
  · show Q5_14 Z w h0 n0 _ T2.heap _
    rw [e2]
    exact ⟨rfl, N1, rfl⟩
theorem d6_70 : decode prog_75_method_7_code 70 = .ok (.iload_n 3, 1) := by decide +kernel
theorem d6_71 : decode prog_75_method_7_code 71 = .ok (.ifCond .eq 7, 3) := by decide +kernel
theorem d6_74 : decode prog_75_method_7_code 74 = .ok (.iconst 1, 1) := by decide +kernel
theorem d6_75 : decode prog_75_method_7_code 75 = .ok (.goto 52, 3) := by decide +kernel
theorem ef_6_15 (m : MethodId) (w : Nat → Addr) (q1 : Int32) (q2 : Int32) : entryFrame m #[(.ref (w 1)), (.int q1), (.int q2)] 4 = mkF m 0 #[.val (.ref (w 1)), .val (.int q1), .val (.int q2), .unset] [] := by first | (simp [entryFrame, mkF, argsToLocals, Value.category]; done) | rfl
def Q6_15 (Z : State) (w : Nat → Addr) (q1 : Int32) (q2 : Int32) (h0 : Heap) (n0 : Nat) (v : Option Value) (h : Heap) (L : List Loc) : Prop := v = some (.int (1 : Int32)) ∧ Fr n0 L ∧ h = h0
set_option maxRecDepth 65536 in
set_option maxHeartbeats 40000000 in
theorem rm6_15 (l : Launch) (Z : State) (a0 : Array Value) (hw : ∀ d ∈ tables_1, d.before a0 Z = true) (w : Nat → Addr) (hW : Wd Z w) (ws : List Jvm.Cond) (q1 : Int32) (q2 : Int32) (h0 : Heap) (n0 : Nat) (O0 : Old Z n0 h0) (c1 : q1 < q2) :
    MetFree l ym7 (head1 (Jvm.Cond.code ym7 prog_75_method_7_code 4 (some .boolean) :: ws) ({ frames := 1, cells := 0, slots := 0, locals := 13 } : Room)) (fun a U => a = #[(.ref (w 1)), (.int q1), (.int q2)] ∧ Z.Warmed39 U.vm ∧ U.heap = h0) (fun _ _ _ _ _ => True) (fun _ U o U' => ∃ v L, o = .returned v ∧ Q6_15 Z w q1 q2 h0 n0 v U'.heap L ∧ FrameEnd U o U' L ({ frames := 1, cells := 0, slots := 0, locals := 13 } : Room).cells ({ frames := 1, cells := 0, slots := 0, locals := 13 } : Room).slots) := by
  refine MetFree.of_bodySF (plainFor_of_name pnc_1) hisR ?_
  intro p e s m args below meth c s₁ Bd hml0 hP hK
  obtain ⟨rfl, hZ, hh⟩ := hP
  have hx := Bd.exec
  have hby := Bd.bytes
  have hml : c.maxLocals = 4 := hml0
  have hown : s.vm.findClass "com/example/gofyn/gofyn/typed/Term$Operator" = some m.cls := findClass_of_methodNamed Bd.named
  have hnm := (name_of_methodNamed Bd.named Bd.method).1
  have X0 : Stand p l e ({ frames := 1, cells := 0, slots := 0, locals := 13 } : Room) s m #[(.ref (w 1)), (.int q1), (.int q2)] below meth c s₁ [] 0 0 := Stand.of_body Bd
  have e0 : s₁.heap = h0 := by rw [← hh, Bd.state]; rfl
  have N0 := Fr.nil n0
  let La : Array Slot := #[.val (.ref (w 1)), .val (.int q1), .val (.int q2), .unset]
  have pre0 : ∀ t, Steps p.tables e below (s₁.setTop (mkF m 0 #[.val (.ref (w 1)), .val (.int q1), .val (.int q2), .unset] [])) t → Steps p.tables e below (s₁.setTop (entryFrame m #[(.ref (w 1)), (.int q1), (.int q2)] 4)) t := fun t k => castTop (ef_6_15 m w q1 q2) k
  obtain ⟨_, _, ⟨T1, L1, kk1, nn1⟩, -, X1, ⟨Lc1, hQ1, l1, y1, z1⟩, st1⟩ := Jvm.LawKit.callS X0 hx (y := ym6) hown (mvT hZ (wk40 hw)) (mvT hZ (wk41 hw)) (mvT hZ (wk42 hw)) (mvT hZ (wk43 hw)) (by decide) (backOf (W := 0) (rm7_7 l Z a0 hw w hW [] q1 q2 h0 n0 O0 c1) hZ (wk43 hw) (wk42 hw) (by decide) (by decide)) (g := (mkF m 2 La [(.int q2), (.int q1)])) rfl (by rw [hml]; rfl) (argsL := [(.int q1), (.int q2)]) (rest := []) (lenOf pds_4 rfl) rfl (by show 2 * 0 + _ ≤ _; exact Nat.le_of_eq rfl) (hb hby d6_2) (fun _ _ => ⟨rfl, e0, (by decide : 0 + 0 ≤ _), (by decide : 0 + 0 ≤ _)⟩)
  dsimp only [Pt.U, Pt.locs, Pt.cells, Pt.slots] at X1 l1 y1 z1 st1 hQ1
  subst l1 y1 z1
  obtain ⟨rfl, N1q, e1⟩ := hQ1
  have N1 := Fr.app N0 N1q
  let Lb2 : Array Slot := #[.val (.ref (w 1)), .val (.int q1), .val (.int q2), .val (.int (-1 : Int32))]
  obtain ⟨cq3, kq3, q3a, q3b, q3c⟩ := isOf hZ e1 ((wd3 hW).ext O0.2)
  obtain ⟨_, _, ⟨T3, L3, kk3, nn3⟩, -, X3, ⟨Lc3, hQ3, l3, y3, z3⟩, st3⟩ := X1.virtualBackUp hx (x := ym3) (y := ym2) hown (mvT hZ (wk19 hw)) (mvT hZ (wk20 hw)) (mvT hZ (wk21 hw)) (by decide) (mvT hZ (wk23 hw)) (mvT hZ (wk22 hw)) (backOf (W := 0) (rm4_12 l Z a0 hw w hW []  h0 n0 O0 ) hZ (wk25 hw) (wk24 hw) (by decide) (by decide)) q3a q3c (g := (mkF m 7 Lb2 [(.ref (w 1))])) rfl (by rw [hml]; rfl) (Steps.refl _) (argsL := []) (rest := []) (lenOf pds_2 rfl) rfl (by show 2 * 0 + _ ≤ _; exact Nat.le_of_eq rfl) (hb hby d6_7) (fun _ _ => ⟨rfl, e1, (by decide : 0 + 0 ≤ _), (by decide : 0 + 0 ≤ _)⟩)
  dsimp only [Pt.U, Pt.locs, Pt.cells, Pt.slots] at X3 l3 y3 z3 st3 hQ3
  subst l3 y3 z3
  obtain ⟨rfl, N3q, e3⟩ := hQ3
  have N3 := Fr.app N1 N3q
  obtain ⟨fs, hr, hrun, hended, hWm, hsame⟩ := X3.leave (v := some (.int (1 : Int32))) (fun h => by rw [Bd.returns] at h; cases h)
  refine ⟨_, _, pre0 _ ?_, hrun, hended, _, _, rfl, ?_, ⟨_, rfl⟩, hWm, hsame.mono (by decide) (by decide)⟩
  · show Steps p.tables e below (s₁.setTop (mkF m 0 La [])) _
    refine sI X0 hx hby d6_0 rfl ?_
    refine sI X0 hx hby d6_1 rfl ?_
    refine st1 _ ?_
    refine XS.istoreN X1.here hx rfl (hb hby d6_5) rfl (l' := Lb2) rfl ?_
    refine sA X1 hx hby d6_6 rfl rfl ?_
    refine st3.trans ?_
    refine XS.tswIn X3.here hx rfl (pc0 := 10) (pc' := 70) (o := 60) rfl (hb hby d6_10) rfl (by decide) (by decide) (by decide) (by decide) ?_
    refine sI X3 hx hby d6_70 rfl ?_
    refine sN X3 hx hby d6_71 (by decide) ?_
    refine sc X3 hx hby d6_74 ?_
    refine sg (pc := 75) (pc' := 127) X3 hx hby d6_75 (by decide) (by decide) ?_
    show Steps p.tables e below (T3.setTop (mkF m 127 Lb2 [(.int (1 : Int32))])) _
    exact retN X3 hx (t := .boolean) Bd.returns (by simp) (hb hby d6_127) hr
  · show Q6_15 Z w q1 q2 h0 n0 _ T3.heap _
    rw [e3]
    exact ⟨rfl, N3, rfl⟩
theorem ef_6_16 (m : MethodId) (w : Nat → Addr) (q1 : Int32) (q2 : Int32) : entryFrame m #[(.ref (w 1)), (.int q1), (.int q2)] 4 = mkF m 0 #[.val (.ref (w 1)), .val (.int q1), .val (.int q2), .unset] [] := by first | (simp [entryFrame, mkF, argsToLocals, Value.category]; done) | rfl
def Q6_16 (Z : State) (w : Nat → Addr) (q1 : Int32) (q2 : Int32) (h0 : Heap) (n0 : Nat) (v : Option Value) (h : Heap) (L : List Loc) : Prop := v = some (.int (1 : Int32)) ∧ Fr n0 L ∧ h = h0
set_option maxRecDepth 65536 in
set_option maxHeartbeats 40000000 in
theorem rm6_16 (l : Launch) (Z : State) (a0 : Array Value) (hw : ∀ d ∈ tables_1, d.before a0 Z = true) (w : Nat → Addr) (hW : Wd Z w) (ws : List Jvm.Cond) (q1 : Int32) (q2 : Int32) (h0 : Heap) (n0 : Nat) (O0 : Old Z n0 h0) (c1 : ¬ (q1 < q2)) (c2 : ¬ (q1 = q2)) :
    MetFree l ym7 (head1 (Jvm.Cond.code ym7 prog_75_method_7_code 4 (some .boolean) :: ws) ({ frames := 1, cells := 0, slots := 0, locals := 13 } : Room)) (fun a U => a = #[(.ref (w 1)), (.int q1), (.int q2)] ∧ Z.Warmed39 U.vm ∧ U.heap = h0) (fun _ _ _ _ _ => True) (fun _ U o U' => ∃ v L, o = .returned v ∧ Q6_16 Z w q1 q2 h0 n0 v U'.heap L ∧ FrameEnd U o U' L ({ frames := 1, cells := 0, slots := 0, locals := 13 } : Room).cells ({ frames := 1, cells := 0, slots := 0, locals := 13 } : Room).slots) := by
  refine MetFree.of_bodySF (plainFor_of_name pnc_1) hisR ?_
  intro p e s m args below meth c s₁ Bd hml0 hP hK
  obtain ⟨rfl, hZ, hh⟩ := hP
  have hx := Bd.exec
  have hby := Bd.bytes
  have hml : c.maxLocals = 4 := hml0
  have hown : s.vm.findClass "com/example/gofyn/gofyn/typed/Term$Operator" = some m.cls := findClass_of_methodNamed Bd.named
  have hnm := (name_of_methodNamed Bd.named Bd.method).1
  have X0 : Stand p l e ({ frames := 1, cells := 0, slots := 0, locals := 13 } : Room) s m #[(.ref (w 1)), (.int q1), (.int q2)] below meth c s₁ [] 0 0 := Stand.of_body Bd
  have e0 : s₁.heap = h0 := by rw [← hh, Bd.state]; rfl
  have N0 := Fr.nil n0
  let La : Array Slot := #[.val (.ref (w 1)), .val (.int q1), .val (.int q2), .unset]
  have pre0 : ∀ t, Steps p.tables e below (s₁.setTop (mkF m 0 #[.val (.ref (w 1)), .val (.int q1), .val (.int q2), .unset] [])) t → Steps p.tables e below (s₁.setTop (entryFrame m #[(.ref (w 1)), (.int q1), (.int q2)] 4)) t := fun t k => castTop (ef_6_16 m w q1 q2) k
  obtain ⟨_, _, ⟨T1, L1, kk1, nn1⟩, -, X1, ⟨Lc1, hQ1, l1, y1, z1⟩, st1⟩ := Jvm.LawKit.callS X0 hx (y := ym6) hown (mvT hZ (wk40 hw)) (mvT hZ (wk41 hw)) (mvT hZ (wk42 hw)) (mvT hZ (wk43 hw)) (by decide) (backOf (W := 0) (rm7_9 l Z a0 hw w hW [] q1 q2 h0 n0 O0 c1 c2) hZ (wk43 hw) (wk42 hw) (by decide) (by decide)) (g := (mkF m 2 La [(.int q2), (.int q1)])) rfl (by rw [hml]; rfl) (argsL := [(.int q1), (.int q2)]) (rest := []) (lenOf pds_4 rfl) rfl (by show 2 * 0 + _ ≤ _; exact Nat.le_of_eq rfl) (hb hby d6_2) (fun _ _ => ⟨rfl, e0, (by decide : 0 + 0 ≤ _), (by decide : 0 + 0 ≤ _)⟩)
  dsimp only [Pt.U, Pt.locs, Pt.cells, Pt.slots] at X1 l1 y1 z1 st1 hQ1
  subst l1 y1 z1
  obtain ⟨rfl, N1q, e1⟩ := hQ1
  have N1 := Fr.app N0 N1q
  let Lb2 : Array Slot := #[.val (.ref (w 1)), .val (.int q1), .val (.int q2), .val (.int (1 : Int32))]
  obtain ⟨cq3, kq3, q3a, q3b, q3c⟩ := isOf hZ e1 ((wd3 hW).ext O0.2)
  obtain ⟨_, _, ⟨T3, L3, kk3, nn3⟩, -, X3, ⟨Lc3, hQ3, l3, y3, z3⟩, st3⟩ := X1.virtualBackUp hx (x := ym3) (y := ym2) hown (mvT hZ (wk19 hw)) (mvT hZ (wk20 hw)) (mvT hZ (wk21 hw)) (by decide) (mvT hZ (wk23 hw)) (mvT hZ (wk22 hw)) (backOf (W := 0) (rm4_12 l Z a0 hw w hW []  h0 n0 O0 ) hZ (wk25 hw) (wk24 hw) (by decide) (by decide)) q3a q3c (g := (mkF m 7 Lb2 [(.ref (w 1))])) rfl (by rw [hml]; rfl) (Steps.refl _) (argsL := []) (rest := []) (lenOf pds_2 rfl) rfl (by show 2 * 0 + _ ≤ _; exact Nat.le_of_eq rfl) (hb hby d6_7) (fun _ _ => ⟨rfl, e1, (by decide : 0 + 0 ≤ _), (by decide : 0 + 0 ≤ _)⟩)
  dsimp only [Pt.U, Pt.locs, Pt.cells, Pt.slots] at X3 l3 y3 z3 st3 hQ3
  subst l3 y3 z3
  obtain ⟨rfl, N3q, e3⟩ := hQ3
  have N3 := Fr.app N1 N3q
  obtain ⟨fs, hr, hrun, hended, hWm, hsame⟩ := X3.leave (v := some (.int (1 : Int32))) (fun h => by rw [Bd.returns] at h; cases h)
  refine ⟨_, _, pre0 _ ?_, hrun, hended, _, _, rfl, ?_, ⟨_, rfl⟩, hWm, hsame.mono (by decide) (by decide)⟩
  · show Steps p.tables e below (s₁.setTop (mkF m 0 La [])) _
    refine sI X0 hx hby d6_0 rfl ?_
    refine sI X0 hx hby d6_1 rfl ?_
    refine st1 _ ?_
    refine XS.istoreN X1.here hx rfl (hb hby d6_5) rfl (l' := Lb2) rfl ?_
    refine sA X1 hx hby d6_6 rfl rfl ?_
    refine st3.trans ?_
    refine XS.tswIn X3.here hx rfl (pc0 := 10) (pc' := 70) (o := 60) rfl (hb hby d6_10) rfl (by decide) (by decide) (by decide) (by decide) ?_
    refine sI X3 hx hby d6_70 rfl ?_
    refine sN X3 hx hby d6_71 (by decide) ?_
    refine sc X3 hx hby d6_74 ?_
    refine sg (pc := 75) (pc' := 127) X3 hx hby d6_75 (by decide) (by decide) ?_
    show Steps p.tables e below (T3.setTop (mkF m 127 Lb2 [(.int (1 : Int32))])) _
    exact retN X3 hx (t := .boolean) Bd.returns (by simp) (hb hby d6_127) hr
  · show Q6_16 Z w q1 q2 h0 n0 _ T3.heap _
    rw [e3]
    exact ⟨rfl, N3, rfl⟩
theorem d1_17 : decode method_2_code 17 = .ok (.iload_n 0, 1) := by decide +kernel
theorem d1_18 : decode method_2_code 18 = .ok (.iconst 2, 1) := by decide +kernel
theorem d1_19 : decode method_2_code 19 = .ok (.if_icmp .ne 7, 3) := by decide +kernel
theorem d1_22 : decode method_2_code 22 = .ok (.getstatic 16, 3) := by decide +kernel
theorem d1_25 : decode method_2_code 25 = .ok (.areturn, 1) := by decide +kernel
theorem ef_1_17 (m : MethodId) : entryFrame m #[(.int (2 : Int32))] 1 = mkF m 0 #[.val (.int (2 : Int32))] [] := by first | (simp [entryFrame, mkF, argsToLocals, Value.category]; done) | rfl
def Q1_17 (Z : State) (w : Nat → Addr) (h0 : Heap) (n0 : Nat) (v : Option Value) (h : Heap) (L : List Loc) : Prop := v = some (.ref (w 2)) ∧ Fr n0 L ∧ h = h0
set_option maxRecDepth 65536 in
set_option maxHeartbeats 40000000 in
theorem rm1_17 (l : Launch) (Z : State) (a0 : Array Value) (hw : ∀ d ∈ tables_1, d.before a0 Z = true) (w : Nat → Addr) (hW : Wd Z w) (ws : List Jvm.Cond) (h0 : Heap) (n0 : Nat) (O0 : Old Z n0 h0) :
    MetFree l ym0 (head1 (Jvm.Cond.code ym0 method_2_code 1 (some (.object "com/example/gofyn/gofyn/typed/Term$Operator")) :: ws) ({ frames := 0, cells := 0, slots := 0, locals := 0 } : Room)) (fun a U => a = #[(.int (2 : Int32))] ∧ Z.Warmed39 U.vm ∧ U.heap = h0) (fun _ _ _ _ _ => True) (fun _ U o U' => ∃ v L, o = .returned v ∧ Q1_17 Z w h0 n0 v U'.heap L ∧ FrameEnd U o U' L ({ frames := 0, cells := 0, slots := 0, locals := 0 } : Room).cells ({ frames := 0, cells := 0, slots := 0, locals := 0 } : Room).slots) := by
  refine MetFree.of_bodySF (plainFor_of_name pnc_0) hisR ?_
  intro p e s m args below meth c s₁ Bd hml0 hP hK
  obtain ⟨rfl, hZ, hh⟩ := hP
  have hx := Bd.exec
  have hby := Bd.bytes
  have hml : c.maxLocals = 1 := hml0
  have hown : s.vm.findClass "com/example/gofyn/gofyn/typed/OperatorIsEqualityPinLaw" = some m.cls := findClass_of_methodNamed Bd.named
  have hnm := (name_of_methodNamed Bd.named Bd.method).1
  have X0 : Stand p l e ({ frames := 0, cells := 0, slots := 0, locals := 0 } : Room) s m #[(.int (2 : Int32))] below meth c s₁ [] 0 0 := Stand.of_body Bd
  have e0 : s₁.heap = h0 := by rw [← hh, Bd.state]; rfl
  have N0 := Fr.nil n0
  skip
  have pre0 : ∀ t, Steps p.tables e below (s₁.setTop (mkF m 0 #[.val (.int (2 : Int32))] [])) t → Steps p.tables e below (s₁.setTop (entryFrame m #[(.int (2 : Int32))] 1)) t := fun t k => castTop (ef_1_17 m) k
  obtain ⟨T1, X1, e1, st1⟩ := getS2 X0 hx hZ hown (host := "") (Or.inl (wk45 hw)) Via.refl e0 ((wd4 hW).ext O0.2) (g := (mkF m 22 #[.val (.int (2 : Int32))] [])) rfl (hb hby d1_22)
  obtain ⟨fs, hr, hrun, hended, hWm, hsame⟩ := X1.leave (v := some (.ref (w 2))) (fun h => by rw [Bd.returns] at h; cases h)
  refine ⟨_, _, pre0 _ ?_, hrun, hended, _, _, rfl, ?_, ⟨_, rfl⟩, hWm, hsame.mono (by decide) (by decide)⟩
  · show Steps p.tables e below (s₁.setTop (mkF m 0 #[.val (.int (2 : Int32))] [])) _
    refine sI X0 hx hby d1_0 rfl ?_
    refine XS.ifYes X0.here hx rfl (pc0 := 1) (pc' := 8) rfl (hb hby d1_1) rfl (by decide) (by decide) (by decide) ?_
    refine sI X0 hx hby d1_8 rfl ?_
    refine sc X0 hx hby d1_9 ?_
    refine XS.icmpYes X0.here hx rfl (pc0 := 10) (pc' := 17) rfl (hb hby d1_10) rfl (by decide) (by decide) (by decide) ?_
    show Steps p.tables e below (s₁.setTop (mkF m 17 #[.val (.int (2 : Int32))] [])) _
    refine sI X0 hx hby d1_17 rfl ?_
    refine sc X0 hx hby d1_18 ?_
    refine sn X0 hx hby d1_19 (by decide) ?_
    refine st1 _ ?_
    jvm_step X1.here [X1.here.top, hx, (hb hby d1_25), X1.method', Bd.returns, Value.isRef, FieldType.isReference]
    first | (intro acts; rw [hr _ acts rfl rfl rfl]) | rw [hr _ _ rfl rfl rfl]
    exact Steps.refl _
  · show Q1_17 Z w h0 n0 _ T1.heap _
    rw [e1]
    exact ⟨rfl, N0, rfl⟩
theorem d2_18 : decode prog_75_method_4_code 18 = .ok (.iconst 0, 1) := by decide +kernel
theorem ef_2_18 (m : MethodId) (w : Nat → Addr) : entryFrame m #[(.ref (w 2))] 1 = mkF m 0 #[.val (.ref (w 2))] [] := by first | (simp [entryFrame, mkF, argsToLocals, Value.category]; done) | rfl
def Q2_18 (Z : State) (w : Nat → Addr) (h0 : Heap) (n0 : Nat) (v : Option Value) (h : Heap) (L : List Loc) : Prop := v = some (.int (0 : Int32)) ∧ Fr n0 L ∧ h = h0
set_option maxRecDepth 65536 in
set_option maxHeartbeats 40000000 in
theorem rm2_18 (l : Launch) (Z : State) (a0 : Array Value) (hw : ∀ d ∈ tables_1, d.before a0 Z = true) (w : Nat → Addr) (hW : Wd Z w) (ws : List Jvm.Cond) (h0 : Heap) (n0 : Nat) (O0 : Old Z n0 h0) :
    MetFree l ym1 (head1 (Jvm.Cond.code ym1 prog_75_method_4_code 1 (some .boolean) :: ws) ({ frames := 0, cells := 0, slots := 0, locals := 0 } : Room)) (fun a U => a = #[(.ref (w 2))] ∧ Z.Warmed39 U.vm ∧ U.heap = h0) (fun _ _ _ _ _ => True) (fun _ U o U' => ∃ v L, o = .returned v ∧ Q2_18 Z w h0 n0 v U'.heap L ∧ FrameEnd U o U' L ({ frames := 0, cells := 0, slots := 0, locals := 0 } : Room).cells ({ frames := 0, cells := 0, slots := 0, locals := 0 } : Room).slots) := by
  refine MetFree.of_bodySF (plainFor_of_name pnc_1) hisR ?_
  intro p e s m args below meth c s₁ Bd hml0 hP hK
  obtain ⟨rfl, hZ, hh⟩ := hP
  have hx := Bd.exec
  have hby := Bd.bytes
  have hml : c.maxLocals = 1 := hml0
  have hown : s.vm.findClass "com/example/gofyn/gofyn/typed/Term$Operator" = some m.cls := findClass_of_methodNamed Bd.named
  have hnm := (name_of_methodNamed Bd.named Bd.method).1
  have X0 : Stand p l e ({ frames := 0, cells := 0, slots := 0, locals := 0 } : Room) s m #[(.ref (w 2))] below meth c s₁ [] 0 0 := Stand.of_body Bd
  have e0 : s₁.heap = h0 := by rw [← hh, Bd.state]; rfl
  have N0 := Fr.nil n0
  skip
  have pre0 : ∀ t, Steps p.tables e below (s₁.setTop (mkF m 0 #[.val (.ref (w 2))] [])) t → Steps p.tables e below (s₁.setTop (entryFrame m #[(.ref (w 2))] 1)) t := fun t k => castTop (ef_2_18 m w) k
  obtain ⟨T1, X1, e1, st1⟩ := getS2 X0 hx hZ hown (host := "") (Or.inl (wk13 hw)) Via.refl e0 ((wd0 hW).ext O0.2) (g := (mkF m 1 #[.val (.ref (w 2))] [(.ref (w 2))])) rfl (hb hby d2_1)
  obtain ⟨T2, X2, e2, st2⟩ := getS2 X1 hx hZ hown (host := "") (Or.inl (wk33 hw)) Via.refl e1 ((wd2 hW).ext O0.2) (g := (mkF m 8 #[.val (.ref (w 2))] [(.ref (w 2))])) rfl (hb hby d2_8)
  obtain ⟨fs, hr, hrun, hended, hWm, hsame⟩ := X2.leave (v := some (.int (0 : Int32))) (fun h => by rw [Bd.returns] at h; cases h)
  refine ⟨_, _, pre0 _ ?_, hrun, hended, _, _, rfl, ?_, ⟨_, rfl⟩, hWm, hsame.mono (by decide) (by decide)⟩
  · show Steps p.tables e below (s₁.setTop (mkF m 0 #[.val (.ref (w 2))] [])) _
    refine sA X0 hx hby d2_0 rfl rfl ?_
    refine st1 _ ?_
    refine Jvm.RoadKit.acmp (g := (mkF m 4 #[.val (.ref (w 2))] [(.ref (w 0)), (.ref (w 2))])) X1 hx rfl rfl rfl (pc0 := 4) (pc' := 7) (same := false) rfl (hb hby d2_4) rfl (decide_eq_false fun q => (Fld.ne (wd14 hW) (wd12 hW) (by decide)) (Value.ref.inj q)) (by decide) (by decide) ?_
    refine sA X1 hx hby d2_7 rfl rfl ?_
    refine st2 _ ?_
    refine Jvm.RoadKit.acmp (g := (mkF m 11 #[.val (.ref (w 2))] [(.ref (w 1)), (.ref (w 2))])) X2 hx rfl rfl rfl (pc0 := 11) (pc' := 18) (same := false) rfl (hb hby d2_11) rfl (decide_eq_false fun q => (Fld.ne (wd14 hW) (wd13 hW) (by decide)) (Value.ref.inj q)) (by decide) (by decide) ?_
    refine sc X2 hx hby d2_18 ?_
    exact retN X2 hx (t := .boolean) Bd.returns (by simp) (hb hby d2_19) hr
  · show Q2_18 Z w h0 n0 _ T2.heap _
    rw [e2]
    exact ⟨rfl, N0, rfl⟩
theorem ef_4_19 (m : MethodId) (w : Nat → Addr) : entryFrame m #[(.ref (w 2))] 1 = mkF m 0 #[.val (.ref (w 2))] [] := by first | (simp [entryFrame, mkF, argsToLocals, Value.category]; done) | rfl
def Q4_19 (Z : State) (w : Nat → Addr) (h0 : Heap) (n0 : Nat) (v : Option Value) (h : Heap) (L : List Loc) : Prop := v = some (.int (2 : Int32)) ∧ Fr n0 L ∧ h = h0
set_option maxRecDepth 65536 in
set_option maxHeartbeats 40000000 in
theorem rm4_19 (l : Launch) (Z : State) (a0 : Array Value) (hw : ∀ d ∈ tables_1, d.before a0 Z = true) (w : Nat → Addr) (hW : Wd Z w) (ws : List Jvm.Cond) (h0 : Heap) (n0 : Nat) (O0 : Old Z n0 h0) :
    MetFree l ym2 (head1 (Jvm.Cond.code ym2 jdk_37_method_2_code 1 (some .int) :: ws) ({ frames := 0, cells := 0, slots := 0, locals := 0 } : Room)) (fun a U => a = #[(.ref (w 2))] ∧ Z.Warmed39 U.vm ∧ U.heap = h0) (fun _ _ _ _ _ => True) (fun _ U o U' => ∃ v L, o = .returned v ∧ Q4_19 Z w h0 n0 v U'.heap L ∧ FrameEnd U o U' L ({ frames := 0, cells := 0, slots := 0, locals := 0 } : Room).cells ({ frames := 0, cells := 0, slots := 0, locals := 0 } : Room).slots) := by
  refine MetFree.of_bodySF (plainFor_of_name pnc_2) hisR ?_
  intro p e s m args below meth c s₁ Bd hml0 hP hK
  obtain ⟨rfl, hZ, hh⟩ := hP
  have hx := Bd.exec
  have hby := Bd.bytes
  have hml : c.maxLocals = 1 := hml0
  have hown : s.vm.findClass "java/lang/Enum" = some m.cls := findClass_of_methodNamed Bd.named
  have hnm := (name_of_methodNamed Bd.named Bd.method).1
  have X0 : Stand p l e ({ frames := 0, cells := 0, slots := 0, locals := 0 } : Room) s m #[(.ref (w 2))] below meth c s₁ [] 0 0 := Stand.of_body Bd
  have e0 : s₁.heap = h0 := by rw [← hh, Bd.state]; rfl
  have N0 := Fr.nil n0
  skip
  have pre0 : ∀ t, Steps p.tables e below (s₁.setTop (mkF m 0 #[.val (.ref (w 2))] [])) t → Steps p.tables e below (s₁.setTop (entryFrame m #[(.ref (w 2))] 1)) t := fun t k => castTop (ef_4_19 m w) k
  obtain ⟨T1, X1, e1, st1⟩ := getF X0 hx hZ hown (host := "") (Or.inl (wk26 hw)) Via.refl e0 ((wd14 hW).ext O0.2) (g := (mkF m 1 #[.val (.ref (w 2))] [(.ref (w 2))])) rfl rfl (hb hby d4_1)
  obtain ⟨fs, hr, hrun, hended, hWm, hsame⟩ := X1.leave (v := some (.int (2 : Int32))) (fun h => by rw [Bd.returns] at h; cases h)
  refine ⟨_, _, pre0 _ ?_, hrun, hended, _, _, rfl, ?_, ⟨_, rfl⟩, hWm, hsame.mono (by decide) (by decide)⟩
  · show Steps p.tables e below (s₁.setTop (mkF m 0 #[.val (.ref (w 2))] [])) _
    refine sA X0 hx hby d4_0 rfl rfl ?_
    refine st1 _ ?_
    exact retI X1 hx Bd.returns (hb hby d4_4) hr
  · show Q4_19 Z w h0 n0 _ T1.heap _
    rw [e1]
    exact ⟨rfl, N0, rfl⟩
theorem d3_58 : decode prog_75_method_6_code 58 = .ok (.getstatic 16, 3) := by decide +kernel
theorem d3_61 : decode prog_75_method_6_code 61 = .ok (.goto 18, 3) := by decide +kernel
theorem ef_3_20 (m : MethodId) (w : Nat → Addr) : entryFrame m #[(.ref (w 2))] 1 = mkF m 0 #[.val (.ref (w 2))] [] := by first | (simp [entryFrame, mkF, argsToLocals, Value.category]; done) | rfl
def Q3_20 (Z : State) (w : Nat → Addr) (h0 : Heap) (n0 : Nat) (v : Option Value) (h : Heap) (L : List Loc) : Prop := v = some (.ref (w 3)) ∧ Fr n0 L ∧ h = h0
set_option maxRecDepth 65536 in
set_option maxHeartbeats 40000000 in
theorem rm3_20 (l : Launch) (Z : State) (a0 : Array Value) (hw : ∀ d ∈ tables_1, d.before a0 Z = true) (w : Nat → Addr) (hW : Wd Z w) (ws : List Jvm.Cond) (h0 : Heap) (n0 : Nat) (O0 : Old Z n0 h0) :
    MetFree l ym4 (head1 (Jvm.Cond.code ym4 prog_75_method_6_code 1 (some (.object "com/example/gofyn/gofyn/typed/Term$Operator")) :: ws) ({ frames := 1, cells := 0, slots := 0, locals := 12 } : Room)) (fun a U => a = #[(.ref (w 2))] ∧ Z.Warmed39 U.vm ∧ U.heap = h0) (fun _ _ _ _ _ => True) (fun _ U o U' => ∃ v L, o = .returned v ∧ Q3_20 Z w h0 n0 v U'.heap L ∧ FrameEnd U o U' L ({ frames := 1, cells := 0, slots := 0, locals := 12 } : Room).cells ({ frames := 1, cells := 0, slots := 0, locals := 12 } : Room).slots) := by
  refine MetFree.of_bodySF (plainFor_of_name pnc_1) hisR ?_
  intro p e s m args below meth c s₁ Bd hml0 hP hK
  obtain ⟨rfl, hZ, hh⟩ := hP
  have hx := Bd.exec
  have hby := Bd.bytes
  have hml : c.maxLocals = 1 := hml0
  have hown : s.vm.findClass "com/example/gofyn/gofyn/typed/Term$Operator" = some m.cls := findClass_of_methodNamed Bd.named
  have hnm := (name_of_methodNamed Bd.named Bd.method).1
  have X0 : Stand p l e ({ frames := 1, cells := 0, slots := 0, locals := 12 } : Room) s m #[(.ref (w 2))] below meth c s₁ [] 0 0 := Stand.of_body Bd
  have e0 : s₁.heap = h0 := by rw [← hh, Bd.state]; rfl
  have N0 := Fr.nil n0
  skip
  have pre0 : ∀ t, Steps p.tables e below (s₁.setTop (mkF m 0 #[.val (.ref (w 2))] [])) t → Steps p.tables e below (s₁.setTop (entryFrame m #[(.ref (w 2))] 1)) t := fun t k => castTop (ef_3_20 m w) k
  obtain ⟨cq1, kq1, q1a, q1b, q1c⟩ := isOf hZ e0 ((wd5 hW).ext O0.2)
  obtain ⟨_, _, ⟨T1, L1, kk1, nn1⟩, -, X1, ⟨Lc1, hQ1, l1, y1, z1⟩, st1⟩ := X0.virtualBackUp hx (x := ym3) (y := ym2) hown (mvT hZ (wk19 hw)) (mvT hZ (wk20 hw)) (mvT hZ (wk21 hw)) (by decide) (mvT hZ (wk23 hw)) (mvT hZ (wk22 hw)) (backOf (W := 0) (rm4_19 l Z a0 hw w hW []  h0 n0 O0 ) hZ (wk25 hw) (wk24 hw) (by decide) (by decide)) q1a q1c (g := (mkF m 1 #[.val (.ref (w 2))] [(.ref (w 2))])) rfl (by rw [hml]; rfl) (Steps.refl _) (argsL := []) (rest := []) (lenOf pds_2 rfl) rfl (by show 2 * 0 + _ ≤ _; exact Nat.le_of_eq rfl) (hb hby d3_1) (fun _ _ => ⟨rfl, e0, (by decide : 0 + 0 ≤ _), (by decide : 0 + 0 ≤ _)⟩)
  dsimp only [Pt.U, Pt.locs, Pt.cells, Pt.slots] at X1 l1 y1 z1 st1 hQ1
  subst l1 y1 z1
  obtain ⟨rfl, N1q, e1⟩ := hQ1
  have N1 := Fr.app N0 N1q
  obtain ⟨T2, X2, e2, st2⟩ := getS2 X1 hx hZ hown (host := "") (Or.inl (wk47 hw)) Via.refl e1 ((wd6 hW).ext O0.2) (g := (mkF m 58 #[.val (.ref (w 2))] [])) rfl (hb hby d3_58)
  obtain ⟨fs, hr, hrun, hended, hWm, hsame⟩ := X2.leave (v := some (.ref (w 3))) (fun h => by rw [Bd.returns] at h; cases h)
  refine ⟨_, _, pre0 _ ?_, hrun, hended, _, _, rfl, ?_, ⟨_, rfl⟩, hWm, hsame.mono (by decide) (by decide)⟩
  · show Steps p.tables e below (s₁.setTop (mkF m 0 #[.val (.ref (w 2))] [])) _
    refine sA X0 hx hby d3_0 rfl rfl ?_
    refine st1.trans ?_
    refine XS.tswIn X1.here hx rfl (pc0 := 4) (pc' := 58) (o := 54) rfl (hb hby d3_4) rfl (by decide) (by decide) (by decide) (by decide) ?_
    refine st2 _ ?_
    refine sg (pc := 61) (pc' := 79) X2 hx hby d3_61 (by decide) (by decide) ?_
    jvm_step X2.here [X2.here.top, hx, (hb hby d3_79), X2.method', Bd.returns, Value.isRef, FieldType.isReference]
    first | (intro acts; rw [hr _ acts rfl rfl rfl]) | rw [hr _ _ rfl rfl rfl]
    exact Steps.refl _
  · show Q3_20 Z w h0 n0 _ T2.heap _
    rw [e2]
    exact ⟨rfl, N1, rfl⟩
theorem d5_66 : decode prog_75_method_5_code 66 = .ok (.getstatic 19, 3) := by decide +kernel
theorem d5_69 : decode prog_75_method_5_code 69 = .ok (.goto 18, 3) := by decide +kernel
theorem ef_5_21 (m : MethodId) (w : Nat → Addr) : entryFrame m #[(.ref (w 2))] 1 = mkF m 0 #[.val (.ref (w 2))] [] := by first | (simp [entryFrame, mkF, argsToLocals, Value.category]; done) | rfl
def Q5_21 (Z : State) (w : Nat → Addr) (h0 : Heap) (n0 : Nat) (v : Option Value) (h : Heap) (L : List Loc) : Prop := v = some (.ref (w 4)) ∧ Fr n0 L ∧ h = h0
set_option maxRecDepth 65536 in
set_option maxHeartbeats 40000000 in
theorem rm5_21 (l : Launch) (Z : State) (a0 : Array Value) (hw : ∀ d ∈ tables_1, d.before a0 Z = true) (w : Nat → Addr) (hW : Wd Z w) (ws : List Jvm.Cond) (h0 : Heap) (n0 : Nat) (O0 : Old Z n0 h0) :
    MetFree l ym5 (head1 (Jvm.Cond.code ym5 prog_75_method_5_code 1 (some (.object "com/example/gofyn/gofyn/typed/Term$Operator")) :: ws) ({ frames := 1, cells := 0, slots := 0, locals := 12 } : Room)) (fun a U => a = #[(.ref (w 2))] ∧ Z.Warmed39 U.vm ∧ U.heap = h0) (fun _ _ _ _ _ => True) (fun _ U o U' => ∃ v L, o = .returned v ∧ Q5_21 Z w h0 n0 v U'.heap L ∧ FrameEnd U o U' L ({ frames := 1, cells := 0, slots := 0, locals := 12 } : Room).cells ({ frames := 1, cells := 0, slots := 0, locals := 12 } : Room).slots) := by
  refine MetFree.of_bodySF (plainFor_of_name pnc_1) hisR ?_
  intro p e s m args below meth c s₁ Bd hml0 hP hK
  obtain ⟨rfl, hZ, hh⟩ := hP
  have hx := Bd.exec
  have hby := Bd.bytes
  have hml : c.maxLocals = 1 := hml0
  have hown : s.vm.findClass "com/example/gofyn/gofyn/typed/Term$Operator" = some m.cls := findClass_of_methodNamed Bd.named
  have hnm := (name_of_methodNamed Bd.named Bd.method).1
  have X0 : Stand p l e ({ frames := 1, cells := 0, slots := 0, locals := 12 } : Room) s m #[(.ref (w 2))] below meth c s₁ [] 0 0 := Stand.of_body Bd
  have e0 : s₁.heap = h0 := by rw [← hh, Bd.state]; rfl
  have N0 := Fr.nil n0
  skip
  have pre0 : ∀ t, Steps p.tables e below (s₁.setTop (mkF m 0 #[.val (.ref (w 2))] [])) t → Steps p.tables e below (s₁.setTop (entryFrame m #[(.ref (w 2))] 1)) t := fun t k => castTop (ef_5_21 m w) k
  obtain ⟨cq1, kq1, q1a, q1b, q1c⟩ := isOf hZ e0 ((wd5 hW).ext O0.2)
  obtain ⟨_, _, ⟨T1, L1, kk1, nn1⟩, -, X1, ⟨Lc1, hQ1, l1, y1, z1⟩, st1⟩ := X0.virtualBackUp hx (x := ym3) (y := ym2) hown (mvT hZ (wk19 hw)) (mvT hZ (wk20 hw)) (mvT hZ (wk21 hw)) (by decide) (mvT hZ (wk23 hw)) (mvT hZ (wk22 hw)) (backOf (W := 0) (rm4_19 l Z a0 hw w hW []  h0 n0 O0 ) hZ (wk25 hw) (wk24 hw) (by decide) (by decide)) q1a q1c (g := (mkF m 1 #[.val (.ref (w 2))] [(.ref (w 2))])) rfl (by rw [hml]; rfl) (Steps.refl _) (argsL := []) (rest := []) (lenOf pds_2 rfl) rfl (by show 2 * 0 + _ ≤ _; exact Nat.le_of_eq rfl) (hb hby d5_1) (fun _ _ => ⟨rfl, e0, (by decide : 0 + 0 ≤ _), (by decide : 0 + 0 ≤ _)⟩)
  dsimp only [Pt.U, Pt.locs, Pt.cells, Pt.slots] at X1 l1 y1 z1 st1 hQ1
  subst l1 y1 z1
  obtain ⟨rfl, N1q, e1⟩ := hQ1
  have N1 := Fr.app N0 N1q
  obtain ⟨T2, X2, e2, st2⟩ := getS2 X1 hx hZ hown (host := "") (Or.inl (wk49 hw)) Via.refl e1 ((wd8 hW).ext O0.2) (g := (mkF m 66 #[.val (.ref (w 2))] [])) rfl (hb hby d5_66)
  obtain ⟨fs, hr, hrun, hended, hWm, hsame⟩ := X2.leave (v := some (.ref (w 4))) (fun h => by rw [Bd.returns] at h; cases h)
  refine ⟨_, _, pre0 _ ?_, hrun, hended, _, _, rfl, ?_, ⟨_, rfl⟩, hWm, hsame.mono (by decide) (by decide)⟩
  · show Steps p.tables e below (s₁.setTop (mkF m 0 #[.val (.ref (w 2))] [])) _
    refine sA X0 hx hby d5_0 rfl rfl ?_
    refine st1.trans ?_
    refine XS.tswIn X1.here hx rfl (pc0 := 4) (pc' := 66) (o := 62) rfl (hb hby d5_4) rfl (by decide) (by decide) (by decide) (by decide) ?_
    refine st2 _ ?_
    refine sg (pc := 69) (pc' := 87) X2 hx hby d5_69 (by decide) (by decide) ?_
    jvm_step X2.here [X2.here.top, hx, (hb hby d5_87), X2.method', Bd.returns, Value.isRef, FieldType.isReference]
    first | (intro acts; rw [hr _ acts rfl rfl rfl]) | rw [hr _ _ rfl rfl rfl]
    exact Steps.refl _
  · show Q5_21 Z w h0 n0 _ T2.heap _
    rw [e2]
    exact ⟨rfl, N1, rfl⟩
theorem ef_2_22 (m : MethodId) (w : Nat → Addr) : entryFrame m #[(.ref (w 4))] 1 = mkF m 0 #[.val (.ref (w 4))] [] := by first | (simp [entryFrame, mkF, argsToLocals, Value.category]; done) | rfl
def Q2_22 (Z : State) (w : Nat → Addr) (h0 : Heap) (n0 : Nat) (v : Option Value) (h : Heap) (L : List Loc) : Prop := v = some (.int (0 : Int32)) ∧ Fr n0 L ∧ h = h0
set_option maxRecDepth 65536 in
set_option maxHeartbeats 40000000 in
theorem rm2_22 (l : Launch) (Z : State) (a0 : Array Value) (hw : ∀ d ∈ tables_1, d.before a0 Z = true) (w : Nat → Addr) (hW : Wd Z w) (ws : List Jvm.Cond) (h0 : Heap) (n0 : Nat) (O0 : Old Z n0 h0) :
    MetFree l ym1 (head1 (Jvm.Cond.code ym1 prog_75_method_4_code 1 (some .boolean) :: ws) ({ frames := 0, cells := 0, slots := 0, locals := 0 } : Room)) (fun a U => a = #[(.ref (w 4))] ∧ Z.Warmed39 U.vm ∧ U.heap = h0) (fun _ _ _ _ _ => True) (fun _ U o U' => ∃ v L, o = .returned v ∧ Q2_22 Z w h0 n0 v U'.heap L ∧ FrameEnd U o U' L ({ frames := 0, cells := 0, slots := 0, locals := 0 } : Room).cells ({ frames := 0, cells := 0, slots := 0, locals := 0 } : Room).slots) := by
  refine MetFree.of_bodySF (plainFor_of_name pnc_1) hisR ?_
  intro p e s m args below meth c s₁ Bd hml0 hP hK
  obtain ⟨rfl, hZ, hh⟩ := hP
  have hx := Bd.exec
  have hby := Bd.bytes
  have hml : c.maxLocals = 1 := hml0
  have hown : s.vm.findClass "com/example/gofyn/gofyn/typed/Term$Operator" = some m.cls := findClass_of_methodNamed Bd.named
  have hnm := (name_of_methodNamed Bd.named Bd.method).1
  have X0 : Stand p l e ({ frames := 0, cells := 0, slots := 0, locals := 0 } : Room) s m #[(.ref (w 4))] below meth c s₁ [] 0 0 := Stand.of_body Bd
  have e0 : s₁.heap = h0 := by rw [← hh, Bd.state]; rfl
  have N0 := Fr.nil n0
  skip
  have pre0 : ∀ t, Steps p.tables e below (s₁.setTop (mkF m 0 #[.val (.ref (w 4))] [])) t → Steps p.tables e below (s₁.setTop (entryFrame m #[(.ref (w 4))] 1)) t := fun t k => castTop (ef_2_22 m w) k
  obtain ⟨T1, X1, e1, st1⟩ := getS2 X0 hx hZ hown (host := "") (Or.inl (wk13 hw)) Via.refl e0 ((wd0 hW).ext O0.2) (g := (mkF m 1 #[.val (.ref (w 4))] [(.ref (w 4))])) rfl (hb hby d2_1)
  obtain ⟨T2, X2, e2, st2⟩ := getS2 X1 hx hZ hown (host := "") (Or.inl (wk33 hw)) Via.refl e1 ((wd2 hW).ext O0.2) (g := (mkF m 8 #[.val (.ref (w 4))] [(.ref (w 4))])) rfl (hb hby d2_8)
  obtain ⟨fs, hr, hrun, hended, hWm, hsame⟩ := X2.leave (v := some (.int (0 : Int32))) (fun h => by rw [Bd.returns] at h; cases h)
  refine ⟨_, _, pre0 _ ?_, hrun, hended, _, _, rfl, ?_, ⟨_, rfl⟩, hWm, hsame.mono (by decide) (by decide)⟩
  · show Steps p.tables e below (s₁.setTop (mkF m 0 #[.val (.ref (w 4))] [])) _
    refine sA X0 hx hby d2_0 rfl rfl ?_
    refine st1 _ ?_
    refine Jvm.RoadKit.acmp (g := (mkF m 4 #[.val (.ref (w 4))] [(.ref (w 0)), (.ref (w 4))])) X1 hx rfl rfl rfl (pc0 := 4) (pc' := 7) (same := false) rfl (hb hby d2_4) rfl (decide_eq_false fun q => (Fld.ne (wd16 hW) (wd12 hW) (by decide)) (Value.ref.inj q)) (by decide) (by decide) ?_
    refine sA X1 hx hby d2_7 rfl rfl ?_
    refine st2 _ ?_
    refine Jvm.RoadKit.acmp (g := (mkF m 11 #[.val (.ref (w 4))] [(.ref (w 1)), (.ref (w 4))])) X2 hx rfl rfl rfl (pc0 := 11) (pc' := 18) (same := false) rfl (hb hby d2_11) rfl (decide_eq_false fun q => (Fld.ne (wd16 hW) (wd13 hW) (by decide)) (Value.ref.inj q)) (by decide) (by decide) ?_
    refine sc X2 hx hby d2_18 ?_
    exact retN X2 hx (t := .boolean) Bd.returns (by simp) (hb hby d2_19) hr
  · show Q2_22 Z w h0 n0 _ T2.heap _
    rw [e2]
    exact ⟨rfl, N0, rfl⟩
theorem d6_82 : decode prog_75_method_7_code 82 = .ok (.iload_n 3, 1) := by decide +kernel
theorem d6_83 : decode prog_75_method_7_code 83 = .ok (.ifCond .ge 7, 3) := by decide +kernel
theorem d6_86 : decode prog_75_method_7_code 86 = .ok (.iconst 1, 1) := by decide +kernel
theorem d6_87 : decode prog_75_method_7_code 87 = .ok (.goto 40, 3) := by decide +kernel
theorem ef_6_23 (m : MethodId) (w : Nat → Addr) (q1 : Int32) (q2 : Int32) : entryFrame m #[(.ref (w 2)), (.int q1), (.int q2)] 4 = mkF m 0 #[.val (.ref (w 2)), .val (.int q1), .val (.int q2), .unset] [] := by first | (simp [entryFrame, mkF, argsToLocals, Value.category]; done) | rfl
def Q6_23 (Z : State) (w : Nat → Addr) (q1 : Int32) (q2 : Int32) (h0 : Heap) (n0 : Nat) (v : Option Value) (h : Heap) (L : List Loc) : Prop := v = some (.int (1 : Int32)) ∧ Fr n0 L ∧ h = h0
set_option maxRecDepth 65536 in
set_option maxHeartbeats 40000000 in
theorem rm6_23 (l : Launch) (Z : State) (a0 : Array Value) (hw : ∀ d ∈ tables_1, d.before a0 Z = true) (w : Nat → Addr) (hW : Wd Z w) (ws : List Jvm.Cond) (q1 : Int32) (q2 : Int32) (h0 : Heap) (n0 : Nat) (O0 : Old Z n0 h0) (c1 : q1 < q2) :
    MetFree l ym7 (head1 (Jvm.Cond.code ym7 prog_75_method_7_code 4 (some .boolean) :: ws) ({ frames := 1, cells := 0, slots := 0, locals := 13 } : Room)) (fun a U => a = #[(.ref (w 2)), (.int q1), (.int q2)] ∧ Z.Warmed39 U.vm ∧ U.heap = h0) (fun _ _ _ _ _ => True) (fun _ U o U' => ∃ v L, o = .returned v ∧ Q6_23 Z w q1 q2 h0 n0 v U'.heap L ∧ FrameEnd U o U' L ({ frames := 1, cells := 0, slots := 0, locals := 13 } : Room).cells ({ frames := 1, cells := 0, slots := 0, locals := 13 } : Room).slots) := by
  refine MetFree.of_bodySF (plainFor_of_name pnc_1) hisR ?_
  intro p e s m args below meth c s₁ Bd hml0 hP hK
  obtain ⟨rfl, hZ, hh⟩ := hP
  have hx := Bd.exec
  have hby := Bd.bytes
  have hml : c.maxLocals = 4 := hml0
  have hown : s.vm.findClass "com/example/gofyn/gofyn/typed/Term$Operator" = some m.cls := findClass_of_methodNamed Bd.named
  have hnm := (name_of_methodNamed Bd.named Bd.method).1
  have X0 : Stand p l e ({ frames := 1, cells := 0, slots := 0, locals := 13 } : Room) s m #[(.ref (w 2)), (.int q1), (.int q2)] below meth c s₁ [] 0 0 := Stand.of_body Bd
  have e0 : s₁.heap = h0 := by rw [← hh, Bd.state]; rfl
  have N0 := Fr.nil n0
  let La : Array Slot := #[.val (.ref (w 2)), .val (.int q1), .val (.int q2), .unset]
  have pre0 : ∀ t, Steps p.tables e below (s₁.setTop (mkF m 0 #[.val (.ref (w 2)), .val (.int q1), .val (.int q2), .unset] [])) t → Steps p.tables e below (s₁.setTop (entryFrame m #[(.ref (w 2)), (.int q1), (.int q2)] 4)) t := fun t k => castTop (ef_6_23 m w q1 q2) k
  obtain ⟨_, _, ⟨T1, L1, kk1, nn1⟩, -, X1, ⟨Lc1, hQ1, l1, y1, z1⟩, st1⟩ := Jvm.LawKit.callS X0 hx (y := ym6) hown (mvT hZ (wk40 hw)) (mvT hZ (wk41 hw)) (mvT hZ (wk42 hw)) (mvT hZ (wk43 hw)) (by decide) (backOf (W := 0) (rm7_7 l Z a0 hw w hW [] q1 q2 h0 n0 O0 c1) hZ (wk43 hw) (wk42 hw) (by decide) (by decide)) (g := (mkF m 2 La [(.int q2), (.int q1)])) rfl (by rw [hml]; rfl) (argsL := [(.int q1), (.int q2)]) (rest := []) (lenOf pds_4 rfl) rfl (by show 2 * 0 + _ ≤ _; exact Nat.le_of_eq rfl) (hb hby d6_2) (fun _ _ => ⟨rfl, e0, (by decide : 0 + 0 ≤ _), (by decide : 0 + 0 ≤ _)⟩)
  dsimp only [Pt.U, Pt.locs, Pt.cells, Pt.slots] at X1 l1 y1 z1 st1 hQ1
  subst l1 y1 z1
  obtain ⟨rfl, N1q, e1⟩ := hQ1
  have N1 := Fr.app N0 N1q
  let Lb2 : Array Slot := #[.val (.ref (w 2)), .val (.int q1), .val (.int q2), .val (.int (-1 : Int32))]
  obtain ⟨cq3, kq3, q3a, q3b, q3c⟩ := isOf hZ e1 ((wd5 hW).ext O0.2)
  obtain ⟨_, _, ⟨T3, L3, kk3, nn3⟩, -, X3, ⟨Lc3, hQ3, l3, y3, z3⟩, st3⟩ := X1.virtualBackUp hx (x := ym3) (y := ym2) hown (mvT hZ (wk19 hw)) (mvT hZ (wk20 hw)) (mvT hZ (wk21 hw)) (by decide) (mvT hZ (wk23 hw)) (mvT hZ (wk22 hw)) (backOf (W := 0) (rm4_19 l Z a0 hw w hW []  h0 n0 O0 ) hZ (wk25 hw) (wk24 hw) (by decide) (by decide)) q3a q3c (g := (mkF m 7 Lb2 [(.ref (w 2))])) rfl (by rw [hml]; rfl) (Steps.refl _) (argsL := []) (rest := []) (lenOf pds_2 rfl) rfl (by show 2 * 0 + _ ≤ _; exact Nat.le_of_eq rfl) (hb hby d6_7) (fun _ _ => ⟨rfl, e1, (by decide : 0 + 0 ≤ _), (by decide : 0 + 0 ≤ _)⟩)
  dsimp only [Pt.U, Pt.locs, Pt.cells, Pt.slots] at X3 l3 y3 z3 st3 hQ3
  subst l3 y3 z3
  obtain ⟨rfl, N3q, e3⟩ := hQ3
  have N3 := Fr.app N1 N3q
  obtain ⟨fs, hr, hrun, hended, hWm, hsame⟩ := X3.leave (v := some (.int (1 : Int32))) (fun h => by rw [Bd.returns] at h; cases h)
  refine ⟨_, _, pre0 _ ?_, hrun, hended, _, _, rfl, ?_, ⟨_, rfl⟩, hWm, hsame.mono (by decide) (by decide)⟩
  · show Steps p.tables e below (s₁.setTop (mkF m 0 La [])) _
    refine sI X0 hx hby d6_0 rfl ?_
    refine sI X0 hx hby d6_1 rfl ?_
    refine st1 _ ?_
    refine XS.istoreN X1.here hx rfl (hb hby d6_5) rfl (l' := Lb2) rfl ?_
    refine sA X1 hx hby d6_6 rfl rfl ?_
    refine st3.trans ?_
    refine XS.tswIn X3.here hx rfl (pc0 := 10) (pc' := 82) (o := 72) rfl (hb hby d6_10) rfl (by decide) (by decide) (by decide) (by decide) ?_
    refine sI X3 hx hby d6_82 rfl ?_
    refine sN X3 hx hby d6_83 (by decide) ?_
    refine sc X3 hx hby d6_86 ?_
    refine sg (pc := 87) (pc' := 127) X3 hx hby d6_87 (by decide) (by decide) ?_
    show Steps p.tables e below (T3.setTop (mkF m 127 Lb2 [(.int (1 : Int32))])) _
    exact retN X3 hx (t := .boolean) Bd.returns (by simp) (hb hby d6_127) hr
  · show Q6_23 Z w q1 q2 h0 n0 _ T3.heap _
    rw [e3]
    exact ⟨rfl, N3, rfl⟩
theorem d6_90 : decode prog_75_method_7_code 90 = .ok (.iconst 0, 1) := by decide +kernel
theorem d6_91 : decode prog_75_method_7_code 91 = .ok (.goto 36, 3) := by decide +kernel
theorem ef_6_24 (m : MethodId) (w : Nat → Addr) (q1 : Int32) (q2 : Int32) : entryFrame m #[(.ref (w 2)), (.int q1), (.int q2)] 4 = mkF m 0 #[.val (.ref (w 2)), .val (.int q1), .val (.int q2), .unset] [] := by first | (simp [entryFrame, mkF, argsToLocals, Value.category]; done) | rfl
def Q6_24 (Z : State) (w : Nat → Addr) (q1 : Int32) (q2 : Int32) (h0 : Heap) (n0 : Nat) (v : Option Value) (h : Heap) (L : List Loc) : Prop := v = some (.int (0 : Int32)) ∧ Fr n0 L ∧ h = h0
set_option maxRecDepth 65536 in
set_option maxHeartbeats 40000000 in
theorem rm6_24 (l : Launch) (Z : State) (a0 : Array Value) (hw : ∀ d ∈ tables_1, d.before a0 Z = true) (w : Nat → Addr) (hW : Wd Z w) (ws : List Jvm.Cond) (q1 : Int32) (q2 : Int32) (h0 : Heap) (n0 : Nat) (O0 : Old Z n0 h0) (c1 : ¬ (q1 < q2)) (c2 : ¬ (q1 = q2)) :
    MetFree l ym7 (head1 (Jvm.Cond.code ym7 prog_75_method_7_code 4 (some .boolean) :: ws) ({ frames := 1, cells := 0, slots := 0, locals := 13 } : Room)) (fun a U => a = #[(.ref (w 2)), (.int q1), (.int q2)] ∧ Z.Warmed39 U.vm ∧ U.heap = h0) (fun _ _ _ _ _ => True) (fun _ U o U' => ∃ v L, o = .returned v ∧ Q6_24 Z w q1 q2 h0 n0 v U'.heap L ∧ FrameEnd U o U' L ({ frames := 1, cells := 0, slots := 0, locals := 13 } : Room).cells ({ frames := 1, cells := 0, slots := 0, locals := 13 } : Room).slots) := by
  refine MetFree.of_bodySF (plainFor_of_name pnc_1) hisR ?_
  intro p e s m args below meth c s₁ Bd hml0 hP hK
  obtain ⟨rfl, hZ, hh⟩ := hP
  have hx := Bd.exec
  have hby := Bd.bytes
  have hml : c.maxLocals = 4 := hml0
  have hown : s.vm.findClass "com/example/gofyn/gofyn/typed/Term$Operator" = some m.cls := findClass_of_methodNamed Bd.named
  have hnm := (name_of_methodNamed Bd.named Bd.method).1
  have X0 : Stand p l e ({ frames := 1, cells := 0, slots := 0, locals := 13 } : Room) s m #[(.ref (w 2)), (.int q1), (.int q2)] below meth c s₁ [] 0 0 := Stand.of_body Bd
  have e0 : s₁.heap = h0 := by rw [← hh, Bd.state]; rfl
  have N0 := Fr.nil n0
  let La : Array Slot := #[.val (.ref (w 2)), .val (.int q1), .val (.int q2), .unset]
  have pre0 : ∀ t, Steps p.tables e below (s₁.setTop (mkF m 0 #[.val (.ref (w 2)), .val (.int q1), .val (.int q2), .unset] [])) t → Steps p.tables e below (s₁.setTop (entryFrame m #[(.ref (w 2)), (.int q1), (.int q2)] 4)) t := fun t k => castTop (ef_6_24 m w q1 q2) k
  obtain ⟨_, _, ⟨T1, L1, kk1, nn1⟩, -, X1, ⟨Lc1, hQ1, l1, y1, z1⟩, st1⟩ := Jvm.LawKit.callS X0 hx (y := ym6) hown (mvT hZ (wk40 hw)) (mvT hZ (wk41 hw)) (mvT hZ (wk42 hw)) (mvT hZ (wk43 hw)) (by decide) (backOf (W := 0) (rm7_9 l Z a0 hw w hW [] q1 q2 h0 n0 O0 c1 c2) hZ (wk43 hw) (wk42 hw) (by decide) (by decide)) (g := (mkF m 2 La [(.int q2), (.int q1)])) rfl (by rw [hml]; rfl) (argsL := [(.int q1), (.int q2)]) (rest := []) (lenOf pds_4 rfl) rfl (by show 2 * 0 + _ ≤ _; exact Nat.le_of_eq rfl) (hb hby d6_2) (fun _ _ => ⟨rfl, e0, (by decide : 0 + 0 ≤ _), (by decide : 0 + 0 ≤ _)⟩)
  dsimp only [Pt.U, Pt.locs, Pt.cells, Pt.slots] at X1 l1 y1 z1 st1 hQ1
  subst l1 y1 z1
  obtain ⟨rfl, N1q, e1⟩ := hQ1
  have N1 := Fr.app N0 N1q
  let Lb2 : Array Slot := #[.val (.ref (w 2)), .val (.int q1), .val (.int q2), .val (.int (1 : Int32))]
  obtain ⟨cq3, kq3, q3a, q3b, q3c⟩ := isOf hZ e1 ((wd5 hW).ext O0.2)
  obtain ⟨_, _, ⟨T3, L3, kk3, nn3⟩, -, X3, ⟨Lc3, hQ3, l3, y3, z3⟩, st3⟩ := X1.virtualBackUp hx (x := ym3) (y := ym2) hown (mvT hZ (wk19 hw)) (mvT hZ (wk20 hw)) (mvT hZ (wk21 hw)) (by decide) (mvT hZ (wk23 hw)) (mvT hZ (wk22 hw)) (backOf (W := 0) (rm4_19 l Z a0 hw w hW []  h0 n0 O0 ) hZ (wk25 hw) (wk24 hw) (by decide) (by decide)) q3a q3c (g := (mkF m 7 Lb2 [(.ref (w 2))])) rfl (by rw [hml]; rfl) (Steps.refl _) (argsL := []) (rest := []) (lenOf pds_2 rfl) rfl (by show 2 * 0 + _ ≤ _; exact Nat.le_of_eq rfl) (hb hby d6_7) (fun _ _ => ⟨rfl, e1, (by decide : 0 + 0 ≤ _), (by decide : 0 + 0 ≤ _)⟩)
  dsimp only [Pt.U, Pt.locs, Pt.cells, Pt.slots] at X3 l3 y3 z3 st3 hQ3
  subst l3 y3 z3
  obtain ⟨rfl, N3q, e3⟩ := hQ3
  have N3 := Fr.app N1 N3q
  obtain ⟨fs, hr, hrun, hended, hWm, hsame⟩ := X3.leave (v := some (.int (0 : Int32))) (fun h => by rw [Bd.returns] at h; cases h)
  refine ⟨_, _, pre0 _ ?_, hrun, hended, _, _, rfl, ?_, ⟨_, rfl⟩, hWm, hsame.mono (by decide) (by decide)⟩
  · show Steps p.tables e below (s₁.setTop (mkF m 0 La [])) _
    refine sI X0 hx hby d6_0 rfl ?_
    refine sI X0 hx hby d6_1 rfl ?_
    refine st1 _ ?_
    refine XS.istoreN X1.here hx rfl (hb hby d6_5) rfl (l' := Lb2) rfl ?_
    refine sA X1 hx hby d6_6 rfl rfl ?_
    refine st3.trans ?_
    refine XS.tswIn X3.here hx rfl (pc0 := 10) (pc' := 82) (o := 72) rfl (hb hby d6_10) rfl (by decide) (by decide) (by decide) (by decide) ?_
    refine sI X3 hx hby d6_82 rfl ?_
    refine XS.ifYes X3.here hx rfl (pc0 := 83) (pc' := 90) rfl (hb hby d6_83) rfl (by decide) (by decide) (by decide) ?_
    refine sc X3 hx hby d6_90 ?_
    refine sg (pc := 91) (pc' := 127) X3 hx hby d6_91 (by decide) (by decide) ?_
    show Steps p.tables e below (T3.setTop (mkF m 127 Lb2 [(.int (0 : Int32))])) _
    exact retN X3 hx (t := .boolean) Bd.returns (by simp) (hb hby d6_127) hr
  · show Q6_24 Z w q1 q2 h0 n0 _ T3.heap _
    rw [e3]
    exact ⟨rfl, N3, rfl⟩
theorem d1_26 : decode method_2_code 26 = .ok (.iload_n 0, 1) := by decide +kernel
theorem d1_27 : decode method_2_code 27 = .ok (.iconst 3, 1) := by decide +kernel
theorem d1_28 : decode method_2_code 28 = .ok (.if_icmp .ne 7, 3) := by decide +kernel
theorem d1_31 : decode method_2_code 31 = .ok (.getstatic 19, 3) := by decide +kernel
theorem d1_34 : decode method_2_code 34 = .ok (.areturn, 1) := by decide +kernel
theorem ef_1_25 (m : MethodId) : entryFrame m #[(.int (3 : Int32))] 1 = mkF m 0 #[.val (.int (3 : Int32))] [] := by first | (simp [entryFrame, mkF, argsToLocals, Value.category]; done) | rfl
def Q1_25 (Z : State) (w : Nat → Addr) (h0 : Heap) (n0 : Nat) (v : Option Value) (h : Heap) (L : List Loc) : Prop := v = some (.ref (w 5)) ∧ Fr n0 L ∧ h = h0
set_option maxRecDepth 65536 in
set_option maxHeartbeats 40000000 in
theorem rm1_25 (l : Launch) (Z : State) (a0 : Array Value) (hw : ∀ d ∈ tables_1, d.before a0 Z = true) (w : Nat → Addr) (hW : Wd Z w) (ws : List Jvm.Cond) (h0 : Heap) (n0 : Nat) (O0 : Old Z n0 h0) :
    MetFree l ym0 (head1 (Jvm.Cond.code ym0 method_2_code 1 (some (.object "com/example/gofyn/gofyn/typed/Term$Operator")) :: ws) ({ frames := 0, cells := 0, slots := 0, locals := 0 } : Room)) (fun a U => a = #[(.int (3 : Int32))] ∧ Z.Warmed39 U.vm ∧ U.heap = h0) (fun _ _ _ _ _ => True) (fun _ U o U' => ∃ v L, o = .returned v ∧ Q1_25 Z w h0 n0 v U'.heap L ∧ FrameEnd U o U' L ({ frames := 0, cells := 0, slots := 0, locals := 0 } : Room).cells ({ frames := 0, cells := 0, slots := 0, locals := 0 } : Room).slots) := by
  refine MetFree.of_bodySF (plainFor_of_name pnc_0) hisR ?_
  intro p e s m args below meth c s₁ Bd hml0 hP hK
  obtain ⟨rfl, hZ, hh⟩ := hP
  have hx := Bd.exec
  have hby := Bd.bytes
  have hml : c.maxLocals = 1 := hml0
  have hown : s.vm.findClass "com/example/gofyn/gofyn/typed/OperatorIsEqualityPinLaw" = some m.cls := findClass_of_methodNamed Bd.named
  have hnm := (name_of_methodNamed Bd.named Bd.method).1
  have X0 : Stand p l e ({ frames := 0, cells := 0, slots := 0, locals := 0 } : Room) s m #[(.int (3 : Int32))] below meth c s₁ [] 0 0 := Stand.of_body Bd
  have e0 : s₁.heap = h0 := by rw [← hh, Bd.state]; rfl
  have N0 := Fr.nil n0
  skip
  have pre0 : ∀ t, Steps p.tables e below (s₁.setTop (mkF m 0 #[.val (.int (3 : Int32))] [])) t → Steps p.tables e below (s₁.setTop (entryFrame m #[(.int (3 : Int32))] 1)) t := fun t k => castTop (ef_1_25 m) k
  obtain ⟨T1, X1, e1, st1⟩ := getS2 X0 hx hZ hown (host := "") (Or.inl (wk55 hw)) Via.refl e0 ((wd10 hW).ext O0.2) (g := (mkF m 31 #[.val (.int (3 : Int32))] [])) rfl (hb hby d1_31)
  obtain ⟨fs, hr, hrun, hended, hWm, hsame⟩ := X1.leave (v := some (.ref (w 5))) (fun h => by rw [Bd.returns] at h; cases h)
  refine ⟨_, _, pre0 _ ?_, hrun, hended, _, _, rfl, ?_, ⟨_, rfl⟩, hWm, hsame.mono (by decide) (by decide)⟩
  · show Steps p.tables e below (s₁.setTop (mkF m 0 #[.val (.int (3 : Int32))] [])) _
    refine sI X0 hx hby d1_0 rfl ?_
    refine XS.ifYes X0.here hx rfl (pc0 := 1) (pc' := 8) rfl (hb hby d1_1) rfl (by decide) (by decide) (by decide) ?_
    refine sI X0 hx hby d1_8 rfl ?_
    refine sc X0 hx hby d1_9 ?_
    refine XS.icmpYes X0.here hx rfl (pc0 := 10) (pc' := 17) rfl (hb hby d1_10) rfl (by decide) (by decide) (by decide) ?_
    show Steps p.tables e below (s₁.setTop (mkF m 17 #[.val (.int (3 : Int32))] [])) _
    refine sI X0 hx hby d1_17 rfl ?_
    refine sc X0 hx hby d1_18 ?_
    refine XS.icmpYes X0.here hx rfl (pc0 := 19) (pc' := 26) rfl (hb hby d1_19) rfl (by decide) (by decide) (by decide) ?_
    refine sI X0 hx hby d1_26 rfl ?_
    refine sc X0 hx hby d1_27 ?_
    show Steps p.tables e below (s₁.setTop (mkF m 28 #[.val (.int (3 : Int32))] [(.int (3 : Int32)), (.int (3 : Int32))])) _
    refine sn X0 hx hby d1_28 (by decide) ?_
    refine st1 _ ?_
    jvm_step X1.here [X1.here.top, hx, (hb hby d1_34), X1.method', Bd.returns, Value.isRef, FieldType.isReference]
    first | (intro acts; rw [hr _ acts rfl rfl rfl]) | rw [hr _ _ rfl rfl rfl]
    exact Steps.refl _
  · show Q1_25 Z w h0 n0 _ T1.heap _
    rw [e1]
    exact ⟨rfl, N0, rfl⟩
theorem ef_2_26 (m : MethodId) (w : Nat → Addr) : entryFrame m #[(.ref (w 5))] 1 = mkF m 0 #[.val (.ref (w 5))] [] := by first | (simp [entryFrame, mkF, argsToLocals, Value.category]; done) | rfl
def Q2_26 (Z : State) (w : Nat → Addr) (h0 : Heap) (n0 : Nat) (v : Option Value) (h : Heap) (L : List Loc) : Prop := v = some (.int (0 : Int32)) ∧ Fr n0 L ∧ h = h0
set_option maxRecDepth 65536 in
set_option maxHeartbeats 40000000 in
theorem rm2_26 (l : Launch) (Z : State) (a0 : Array Value) (hw : ∀ d ∈ tables_1, d.before a0 Z = true) (w : Nat → Addr) (hW : Wd Z w) (ws : List Jvm.Cond) (h0 : Heap) (n0 : Nat) (O0 : Old Z n0 h0) :
    MetFree l ym1 (head1 (Jvm.Cond.code ym1 prog_75_method_4_code 1 (some .boolean) :: ws) ({ frames := 0, cells := 0, slots := 0, locals := 0 } : Room)) (fun a U => a = #[(.ref (w 5))] ∧ Z.Warmed39 U.vm ∧ U.heap = h0) (fun _ _ _ _ _ => True) (fun _ U o U' => ∃ v L, o = .returned v ∧ Q2_26 Z w h0 n0 v U'.heap L ∧ FrameEnd U o U' L ({ frames := 0, cells := 0, slots := 0, locals := 0 } : Room).cells ({ frames := 0, cells := 0, slots := 0, locals := 0 } : Room).slots) := by
  refine MetFree.of_bodySF (plainFor_of_name pnc_1) hisR ?_
  intro p e s m args below meth c s₁ Bd hml0 hP hK
  obtain ⟨rfl, hZ, hh⟩ := hP
  have hx := Bd.exec
  have hby := Bd.bytes
  have hml : c.maxLocals = 1 := hml0
  have hown : s.vm.findClass "com/example/gofyn/gofyn/typed/Term$Operator" = some m.cls := findClass_of_methodNamed Bd.named
  have hnm := (name_of_methodNamed Bd.named Bd.method).1
  have X0 : Stand p l e ({ frames := 0, cells := 0, slots := 0, locals := 0 } : Room) s m #[(.ref (w 5))] below meth c s₁ [] 0 0 := Stand.of_body Bd
  have e0 : s₁.heap = h0 := by rw [← hh, Bd.state]; rfl
  have N0 := Fr.nil n0
  skip
  have pre0 : ∀ t, Steps p.tables e below (s₁.setTop (mkF m 0 #[.val (.ref (w 5))] [])) t → Steps p.tables e below (s₁.setTop (entryFrame m #[(.ref (w 5))] 1)) t := fun t k => castTop (ef_2_26 m w) k
  obtain ⟨T1, X1, e1, st1⟩ := getS2 X0 hx hZ hown (host := "") (Or.inl (wk13 hw)) Via.refl e0 ((wd0 hW).ext O0.2) (g := (mkF m 1 #[.val (.ref (w 5))] [(.ref (w 5))])) rfl (hb hby d2_1)
  obtain ⟨T2, X2, e2, st2⟩ := getS2 X1 hx hZ hown (host := "") (Or.inl (wk33 hw)) Via.refl e1 ((wd2 hW).ext O0.2) (g := (mkF m 8 #[.val (.ref (w 5))] [(.ref (w 5))])) rfl (hb hby d2_8)
  obtain ⟨fs, hr, hrun, hended, hWm, hsame⟩ := X2.leave (v := some (.int (0 : Int32))) (fun h => by rw [Bd.returns] at h; cases h)
  refine ⟨_, _, pre0 _ ?_, hrun, hended, _, _, rfl, ?_, ⟨_, rfl⟩, hWm, hsame.mono (by decide) (by decide)⟩
  · show Steps p.tables e below (s₁.setTop (mkF m 0 #[.val (.ref (w 5))] [])) _
    refine sA X0 hx hby d2_0 rfl rfl ?_
    refine st1 _ ?_
    refine Jvm.RoadKit.acmp (g := (mkF m 4 #[.val (.ref (w 5))] [(.ref (w 0)), (.ref (w 5))])) X1 hx rfl rfl rfl (pc0 := 4) (pc' := 7) (same := false) rfl (hb hby d2_4) rfl (decide_eq_false fun q => (Fld.ne (wd17 hW) (wd12 hW) (by decide)) (Value.ref.inj q)) (by decide) (by decide) ?_
    refine sA X1 hx hby d2_7 rfl rfl ?_
    refine st2 _ ?_
    refine Jvm.RoadKit.acmp (g := (mkF m 11 #[.val (.ref (w 5))] [(.ref (w 1)), (.ref (w 5))])) X2 hx rfl rfl rfl (pc0 := 11) (pc' := 18) (same := false) rfl (hb hby d2_11) rfl (decide_eq_false fun q => (Fld.ne (wd17 hW) (wd13 hW) (by decide)) (Value.ref.inj q)) (by decide) (by decide) ?_
    refine sc X2 hx hby d2_18 ?_
    exact retN X2 hx (t := .boolean) Bd.returns (by simp) (hb hby d2_19) hr
  · show Q2_26 Z w h0 n0 _ T2.heap _
    rw [e2]
    exact ⟨rfl, N0, rfl⟩
theorem ef_4_27 (m : MethodId) (w : Nat → Addr) : entryFrame m #[(.ref (w 5))] 1 = mkF m 0 #[.val (.ref (w 5))] [] := by first | (simp [entryFrame, mkF, argsToLocals, Value.category]; done) | rfl
def Q4_27 (Z : State) (w : Nat → Addr) (h0 : Heap) (n0 : Nat) (v : Option Value) (h : Heap) (L : List Loc) : Prop := v = some (.int (3 : Int32)) ∧ Fr n0 L ∧ h = h0
set_option maxRecDepth 65536 in
set_option maxHeartbeats 40000000 in
theorem rm4_27 (l : Launch) (Z : State) (a0 : Array Value) (hw : ∀ d ∈ tables_1, d.before a0 Z = true) (w : Nat → Addr) (hW : Wd Z w) (ws : List Jvm.Cond) (h0 : Heap) (n0 : Nat) (O0 : Old Z n0 h0) :
    MetFree l ym2 (head1 (Jvm.Cond.code ym2 jdk_37_method_2_code 1 (some .int) :: ws) ({ frames := 0, cells := 0, slots := 0, locals := 0 } : Room)) (fun a U => a = #[(.ref (w 5))] ∧ Z.Warmed39 U.vm ∧ U.heap = h0) (fun _ _ _ _ _ => True) (fun _ U o U' => ∃ v L, o = .returned v ∧ Q4_27 Z w h0 n0 v U'.heap L ∧ FrameEnd U o U' L ({ frames := 0, cells := 0, slots := 0, locals := 0 } : Room).cells ({ frames := 0, cells := 0, slots := 0, locals := 0 } : Room).slots) := by
  refine MetFree.of_bodySF (plainFor_of_name pnc_2) hisR ?_
  intro p e s m args below meth c s₁ Bd hml0 hP hK
  obtain ⟨rfl, hZ, hh⟩ := hP
  have hx := Bd.exec
  have hby := Bd.bytes
  have hml : c.maxLocals = 1 := hml0
  have hown : s.vm.findClass "java/lang/Enum" = some m.cls := findClass_of_methodNamed Bd.named
  have hnm := (name_of_methodNamed Bd.named Bd.method).1
  have X0 : Stand p l e ({ frames := 0, cells := 0, slots := 0, locals := 0 } : Room) s m #[(.ref (w 5))] below meth c s₁ [] 0 0 := Stand.of_body Bd
  have e0 : s₁.heap = h0 := by rw [← hh, Bd.state]; rfl
  have N0 := Fr.nil n0
  skip
  have pre0 : ∀ t, Steps p.tables e below (s₁.setTop (mkF m 0 #[.val (.ref (w 5))] [])) t → Steps p.tables e below (s₁.setTop (entryFrame m #[(.ref (w 5))] 1)) t := fun t k => castTop (ef_4_27 m w) k
  obtain ⟨T1, X1, e1, st1⟩ := getF X0 hx hZ hown (host := "") (Or.inl (wk26 hw)) Via.refl e0 ((wd17 hW).ext O0.2) (g := (mkF m 1 #[.val (.ref (w 5))] [(.ref (w 5))])) rfl rfl (hb hby d4_1)
  obtain ⟨fs, hr, hrun, hended, hWm, hsame⟩ := X1.leave (v := some (.int (3 : Int32))) (fun h => by rw [Bd.returns] at h; cases h)
  refine ⟨_, _, pre0 _ ?_, hrun, hended, _, _, rfl, ?_, ⟨_, rfl⟩, hWm, hsame.mono (by decide) (by decide)⟩
  · show Steps p.tables e below (s₁.setTop (mkF m 0 #[.val (.ref (w 5))] [])) _
    refine sA X0 hx hby d4_0 rfl rfl ?_
    refine st1 _ ?_
    exact retI X1 hx Bd.returns (hb hby d4_4) hr
  · show Q4_27 Z w h0 n0 _ T1.heap _
    rw [e1]
    exact ⟨rfl, N0, rfl⟩
theorem d3_64 : decode prog_75_method_6_code 64 = .ok (.getstatic 19, 3) := by decide +kernel
theorem d3_67 : decode prog_75_method_6_code 67 = .ok (.goto 12, 3) := by decide +kernel
theorem ef_3_28 (m : MethodId) (w : Nat → Addr) : entryFrame m #[(.ref (w 5))] 1 = mkF m 0 #[.val (.ref (w 5))] [] := by first | (simp [entryFrame, mkF, argsToLocals, Value.category]; done) | rfl
def Q3_28 (Z : State) (w : Nat → Addr) (h0 : Heap) (n0 : Nat) (v : Option Value) (h : Heap) (L : List Loc) : Prop := v = some (.ref (w 4)) ∧ Fr n0 L ∧ h = h0
set_option maxRecDepth 65536 in
set_option maxHeartbeats 40000000 in
theorem rm3_28 (l : Launch) (Z : State) (a0 : Array Value) (hw : ∀ d ∈ tables_1, d.before a0 Z = true) (w : Nat → Addr) (hW : Wd Z w) (ws : List Jvm.Cond) (h0 : Heap) (n0 : Nat) (O0 : Old Z n0 h0) :
    MetFree l ym4 (head1 (Jvm.Cond.code ym4 prog_75_method_6_code 1 (some (.object "com/example/gofyn/gofyn/typed/Term$Operator")) :: ws) ({ frames := 1, cells := 0, slots := 0, locals := 12 } : Room)) (fun a U => a = #[(.ref (w 5))] ∧ Z.Warmed39 U.vm ∧ U.heap = h0) (fun _ _ _ _ _ => True) (fun _ U o U' => ∃ v L, o = .returned v ∧ Q3_28 Z w h0 n0 v U'.heap L ∧ FrameEnd U o U' L ({ frames := 1, cells := 0, slots := 0, locals := 12 } : Room).cells ({ frames := 1, cells := 0, slots := 0, locals := 12 } : Room).slots) := by
  refine MetFree.of_bodySF (plainFor_of_name pnc_1) hisR ?_
  intro p e s m args below meth c s₁ Bd hml0 hP hK
  obtain ⟨rfl, hZ, hh⟩ := hP
  have hx := Bd.exec
  have hby := Bd.bytes
  have hml : c.maxLocals = 1 := hml0
  have hown : s.vm.findClass "com/example/gofyn/gofyn/typed/Term$Operator" = some m.cls := findClass_of_methodNamed Bd.named
  have hnm := (name_of_methodNamed Bd.named Bd.method).1
  have X0 : Stand p l e ({ frames := 1, cells := 0, slots := 0, locals := 12 } : Room) s m #[(.ref (w 5))] below meth c s₁ [] 0 0 := Stand.of_body Bd
  have e0 : s₁.heap = h0 := by rw [← hh, Bd.state]; rfl
  have N0 := Fr.nil n0
  skip
  have pre0 : ∀ t, Steps p.tables e below (s₁.setTop (mkF m 0 #[.val (.ref (w 5))] [])) t → Steps p.tables e below (s₁.setTop (entryFrame m #[(.ref (w 5))] 1)) t := fun t k => castTop (ef_3_28 m w) k
  obtain ⟨cq1, kq1, q1a, q1b, q1c⟩ := isOf hZ e0 ((wd11 hW).ext O0.2)
  obtain ⟨_, _, ⟨T1, L1, kk1, nn1⟩, -, X1, ⟨Lc1, hQ1, l1, y1, z1⟩, st1⟩ := X0.virtualBackUp hx (x := ym3) (y := ym2) hown (mvT hZ (wk19 hw)) (mvT hZ (wk20 hw)) (mvT hZ (wk21 hw)) (by decide) (mvT hZ (wk23 hw)) (mvT hZ (wk22 hw)) (backOf (W := 0) (rm4_27 l Z a0 hw w hW []  h0 n0 O0 ) hZ (wk25 hw) (wk24 hw) (by decide) (by decide)) q1a q1c (g := (mkF m 1 #[.val (.ref (w 5))] [(.ref (w 5))])) rfl (by rw [hml]; rfl) (Steps.refl _) (argsL := []) (rest := []) (lenOf pds_2 rfl) rfl (by show 2 * 0 + _ ≤ _; exact Nat.le_of_eq rfl) (hb hby d3_1) (fun _ _ => ⟨rfl, e0, (by decide : 0 + 0 ≤ _), (by decide : 0 + 0 ≤ _)⟩)
  dsimp only [Pt.U, Pt.locs, Pt.cells, Pt.slots] at X1 l1 y1 z1 st1 hQ1
  subst l1 y1 z1
  obtain ⟨rfl, N1q, e1⟩ := hQ1
  have N1 := Fr.app N0 N1q
  obtain ⟨T2, X2, e2, st2⟩ := getS2 X1 hx hZ hown (host := "") (Or.inl (wk49 hw)) Via.refl e1 ((wd8 hW).ext O0.2) (g := (mkF m 64 #[.val (.ref (w 5))] [])) rfl (hb hby d3_64)
  obtain ⟨fs, hr, hrun, hended, hWm, hsame⟩ := X2.leave (v := some (.ref (w 4))) (fun h => by rw [Bd.returns] at h; cases h)
  refine ⟨_, _, pre0 _ ?_, hrun, hended, _, _, rfl, ?_, ⟨_, rfl⟩, hWm, hsame.mono (by decide) (by decide)⟩
  · show Steps p.tables e below (s₁.setTop (mkF m 0 #[.val (.ref (w 5))] [])) _
    refine sA X0 hx hby d3_0 rfl rfl ?_
    refine st1.trans ?_
    refine XS.tswIn X1.here hx rfl (pc0 := 4) (pc' := 64) (o := 60) rfl (hb hby d3_4) rfl (by decide) (by decide) (by decide) (by decide) ?_
    refine st2 _ ?_
    refine sg (pc := 67) (pc' := 79) X2 hx hby d3_67 (by decide) (by decide) ?_
    jvm_step X2.here [X2.here.top, hx, (hb hby d3_79), X2.method', Bd.returns, Value.isRef, FieldType.isReference]
    first | (intro acts; rw [hr _ acts rfl rfl rfl]) | rw [hr _ _ rfl rfl rfl]
    exact Steps.refl _
  · show Q3_28 Z w h0 n0 _ T2.heap _
    rw [e2]
    exact ⟨rfl, N1, rfl⟩
theorem d5_72 : decode prog_75_method_5_code 72 = .ok (.getstatic 16, 3) := by decide +kernel
theorem d5_75 : decode prog_75_method_5_code 75 = .ok (.goto 12, 3) := by decide +kernel
theorem ef_5_29 (m : MethodId) (w : Nat → Addr) : entryFrame m #[(.ref (w 5))] 1 = mkF m 0 #[.val (.ref (w 5))] [] := by first | (simp [entryFrame, mkF, argsToLocals, Value.category]; done) | rfl
def Q5_29 (Z : State) (w : Nat → Addr) (h0 : Heap) (n0 : Nat) (v : Option Value) (h : Heap) (L : List Loc) : Prop := v = some (.ref (w 3)) ∧ Fr n0 L ∧ h = h0
set_option maxRecDepth 65536 in
set_option maxHeartbeats 40000000 in
theorem rm5_29 (l : Launch) (Z : State) (a0 : Array Value) (hw : ∀ d ∈ tables_1, d.before a0 Z = true) (w : Nat → Addr) (hW : Wd Z w) (ws : List Jvm.Cond) (h0 : Heap) (n0 : Nat) (O0 : Old Z n0 h0) :
    MetFree l ym5 (head1 (Jvm.Cond.code ym5 prog_75_method_5_code 1 (some (.object "com/example/gofyn/gofyn/typed/Term$Operator")) :: ws) ({ frames := 1, cells := 0, slots := 0, locals := 12 } : Room)) (fun a U => a = #[(.ref (w 5))] ∧ Z.Warmed39 U.vm ∧ U.heap = h0) (fun _ _ _ _ _ => True) (fun _ U o U' => ∃ v L, o = .returned v ∧ Q5_29 Z w h0 n0 v U'.heap L ∧ FrameEnd U o U' L ({ frames := 1, cells := 0, slots := 0, locals := 12 } : Room).cells ({ frames := 1, cells := 0, slots := 0, locals := 12 } : Room).slots) := by
  refine MetFree.of_bodySF (plainFor_of_name pnc_1) hisR ?_
  intro p e s m args below meth c s₁ Bd hml0 hP hK
  obtain ⟨rfl, hZ, hh⟩ := hP
  have hx := Bd.exec
  have hby := Bd.bytes
  have hml : c.maxLocals = 1 := hml0
  have hown : s.vm.findClass "com/example/gofyn/gofyn/typed/Term$Operator" = some m.cls := findClass_of_methodNamed Bd.named
  have hnm := (name_of_methodNamed Bd.named Bd.method).1
  have X0 : Stand p l e ({ frames := 1, cells := 0, slots := 0, locals := 12 } : Room) s m #[(.ref (w 5))] below meth c s₁ [] 0 0 := Stand.of_body Bd
  have e0 : s₁.heap = h0 := by rw [← hh, Bd.state]; rfl
  have N0 := Fr.nil n0
  skip
  have pre0 : ∀ t, Steps p.tables e below (s₁.setTop (mkF m 0 #[.val (.ref (w 5))] [])) t → Steps p.tables e below (s₁.setTop (entryFrame m #[(.ref (w 5))] 1)) t := fun t k => castTop (ef_5_29 m w) k
  obtain ⟨cq1, kq1, q1a, q1b, q1c⟩ := isOf hZ e0 ((wd11 hW).ext O0.2)
  obtain ⟨_, _, ⟨T1, L1, kk1, nn1⟩, -, X1, ⟨Lc1, hQ1, l1, y1, z1⟩, st1⟩ := X0.virtualBackUp hx (x := ym3) (y := ym2) hown (mvT hZ (wk19 hw)) (mvT hZ (wk20 hw)) (mvT hZ (wk21 hw)) (by decide) (mvT hZ (wk23 hw)) (mvT hZ (wk22 hw)) (backOf (W := 0) (rm4_27 l Z a0 hw w hW []  h0 n0 O0 ) hZ (wk25 hw) (wk24 hw) (by decide) (by decide)) q1a q1c (g := (mkF m 1 #[.val (.ref (w 5))] [(.ref (w 5))])) rfl (by rw [hml]; rfl) (Steps.refl _) (argsL := []) (rest := []) (lenOf pds_2 rfl) rfl (by show 2 * 0 + _ ≤ _; exact Nat.le_of_eq rfl) (hb hby d5_1) (fun _ _ => ⟨rfl, e0, (by decide : 0 + 0 ≤ _), (by decide : 0 + 0 ≤ _)⟩)
  dsimp only [Pt.U, Pt.locs, Pt.cells, Pt.slots] at X1 l1 y1 z1 st1 hQ1
  subst l1 y1 z1
  obtain ⟨rfl, N1q, e1⟩ := hQ1
  have N1 := Fr.app N0 N1q
  obtain ⟨T2, X2, e2, st2⟩ := getS2 X1 hx hZ hown (host := "") (Or.inl (wk47 hw)) Via.refl e1 ((wd6 hW).ext O0.2) (g := (mkF m 72 #[.val (.ref (w 5))] [])) rfl (hb hby d5_72)
  obtain ⟨fs, hr, hrun, hended, hWm, hsame⟩ := X2.leave (v := some (.ref (w 3))) (fun h => by rw [Bd.returns] at h; cases h)
  refine ⟨_, _, pre0 _ ?_, hrun, hended, _, _, rfl, ?_, ⟨_, rfl⟩, hWm, hsame.mono (by decide) (by decide)⟩
  · show Steps p.tables e below (s₁.setTop (mkF m 0 #[.val (.ref (w 5))] [])) _
    refine sA X0 hx hby d5_0 rfl rfl ?_
    refine st1.trans ?_
    refine XS.tswIn X1.here hx rfl (pc0 := 4) (pc' := 72) (o := 68) rfl (hb hby d5_4) rfl (by decide) (by decide) (by decide) (by decide) ?_
    refine st2 _ ?_
    refine sg (pc := 75) (pc' := 87) X2 hx hby d5_75 (by decide) (by decide) ?_
    jvm_step X2.here [X2.here.top, hx, (hb hby d5_87), X2.method', Bd.returns, Value.isRef, FieldType.isReference]
    first | (intro acts; rw [hr _ acts rfl rfl rfl]) | rw [hr _ _ rfl rfl rfl]
    exact Steps.refl _
  · show Q5_29 Z w h0 n0 _ T2.heap _
    rw [e2]
    exact ⟨rfl, N1, rfl⟩
theorem ef_2_30 (m : MethodId) (w : Nat → Addr) : entryFrame m #[(.ref (w 3))] 1 = mkF m 0 #[.val (.ref (w 3))] [] := by first | (simp [entryFrame, mkF, argsToLocals, Value.category]; done) | rfl
def Q2_30 (Z : State) (w : Nat → Addr) (h0 : Heap) (n0 : Nat) (v : Option Value) (h : Heap) (L : List Loc) : Prop := v = some (.int (0 : Int32)) ∧ Fr n0 L ∧ h = h0
set_option maxRecDepth 65536 in
set_option maxHeartbeats 40000000 in
theorem rm2_30 (l : Launch) (Z : State) (a0 : Array Value) (hw : ∀ d ∈ tables_1, d.before a0 Z = true) (w : Nat → Addr) (hW : Wd Z w) (ws : List Jvm.Cond) (h0 : Heap) (n0 : Nat) (O0 : Old Z n0 h0) :
    MetFree l ym1 (head1 (Jvm.Cond.code ym1 prog_75_method_4_code 1 (some .boolean) :: ws) ({ frames := 0, cells := 0, slots := 0, locals := 0 } : Room)) (fun a U => a = #[(.ref (w 3))] ∧ Z.Warmed39 U.vm ∧ U.heap = h0) (fun _ _ _ _ _ => True) (fun _ U o U' => ∃ v L, o = .returned v ∧ Q2_30 Z w h0 n0 v U'.heap L ∧ FrameEnd U o U' L ({ frames := 0, cells := 0, slots := 0, locals := 0 } : Room).cells ({ frames := 0, cells := 0, slots := 0, locals := 0 } : Room).slots) := by
  refine MetFree.of_bodySF (plainFor_of_name pnc_1) hisR ?_
  intro p e s m args below meth c s₁ Bd hml0 hP hK
  obtain ⟨rfl, hZ, hh⟩ := hP
  have hx := Bd.exec
  have hby := Bd.bytes
  have hml : c.maxLocals = 1 := hml0
  have hown : s.vm.findClass "com/example/gofyn/gofyn/typed/Term$Operator" = some m.cls := findClass_of_methodNamed Bd.named
  have hnm := (name_of_methodNamed Bd.named Bd.method).1
  have X0 : Stand p l e ({ frames := 0, cells := 0, slots := 0, locals := 0 } : Room) s m #[(.ref (w 3))] below meth c s₁ [] 0 0 := Stand.of_body Bd
  have e0 : s₁.heap = h0 := by rw [← hh, Bd.state]; rfl
  have N0 := Fr.nil n0
  skip
  have pre0 : ∀ t, Steps p.tables e below (s₁.setTop (mkF m 0 #[.val (.ref (w 3))] [])) t → Steps p.tables e below (s₁.setTop (entryFrame m #[(.ref (w 3))] 1)) t := fun t k => castTop (ef_2_30 m w) k
  obtain ⟨T1, X1, e1, st1⟩ := getS2 X0 hx hZ hown (host := "") (Or.inl (wk13 hw)) Via.refl e0 ((wd0 hW).ext O0.2) (g := (mkF m 1 #[.val (.ref (w 3))] [(.ref (w 3))])) rfl (hb hby d2_1)
  obtain ⟨T2, X2, e2, st2⟩ := getS2 X1 hx hZ hown (host := "") (Or.inl (wk33 hw)) Via.refl e1 ((wd2 hW).ext O0.2) (g := (mkF m 8 #[.val (.ref (w 3))] [(.ref (w 3))])) rfl (hb hby d2_8)
  obtain ⟨fs, hr, hrun, hended, hWm, hsame⟩ := X2.leave (v := some (.int (0 : Int32))) (fun h => by rw [Bd.returns] at h; cases h)
  refine ⟨_, _, pre0 _ ?_, hrun, hended, _, _, rfl, ?_, ⟨_, rfl⟩, hWm, hsame.mono (by decide) (by decide)⟩
  · show Steps p.tables e below (s₁.setTop (mkF m 0 #[.val (.ref (w 3))] [])) _
    refine sA X0 hx hby d2_0 rfl rfl ?_
    refine st1 _ ?_
    refine Jvm.RoadKit.acmp (g := (mkF m 4 #[.val (.ref (w 3))] [(.ref (w 0)), (.ref (w 3))])) X1 hx rfl rfl rfl (pc0 := 4) (pc' := 7) (same := false) rfl (hb hby d2_4) rfl (decide_eq_false fun q => (Fld.ne (wd15 hW) (wd12 hW) (by decide)) (Value.ref.inj q)) (by decide) (by decide) ?_
    refine sA X1 hx hby d2_7 rfl rfl ?_
    refine st2 _ ?_
    refine Jvm.RoadKit.acmp (g := (mkF m 11 #[.val (.ref (w 3))] [(.ref (w 1)), (.ref (w 3))])) X2 hx rfl rfl rfl (pc0 := 11) (pc' := 18) (same := false) rfl (hb hby d2_11) rfl (decide_eq_false fun q => (Fld.ne (wd15 hW) (wd13 hW) (by decide)) (Value.ref.inj q)) (by decide) (by decide) ?_
    refine sc X2 hx hby d2_18 ?_
    exact retN X2 hx (t := .boolean) Bd.returns (by simp) (hb hby d2_19) hr
  · show Q2_30 Z w h0 n0 _ T2.heap _
    rw [e2]
    exact ⟨rfl, N0, rfl⟩
theorem d6_94 : decode prog_75_method_7_code 94 = .ok (.iload_n 3, 1) := by decide +kernel
theorem d6_95 : decode prog_75_method_7_code 95 = .ok (.ifCond .gt 7, 3) := by decide +kernel
theorem d6_98 : decode prog_75_method_7_code 98 = .ok (.iconst 1, 1) := by decide +kernel
theorem d6_99 : decode prog_75_method_7_code 99 = .ok (.goto 28, 3) := by decide +kernel
theorem ef_6_31 (m : MethodId) (w : Nat → Addr) (q1 : Int32) (q2 : Int32) : entryFrame m #[(.ref (w 5)), (.int q1), (.int q2)] 4 = mkF m 0 #[.val (.ref (w 5)), .val (.int q1), .val (.int q2), .unset] [] := by first | (simp [entryFrame, mkF, argsToLocals, Value.category]; done) | rfl
def Q6_31 (Z : State) (w : Nat → Addr) (q1 : Int32) (q2 : Int32) (h0 : Heap) (n0 : Nat) (v : Option Value) (h : Heap) (L : List Loc) : Prop := v = some (.int (1 : Int32)) ∧ Fr n0 L ∧ h = h0
set_option maxRecDepth 65536 in
set_option maxHeartbeats 40000000 in
theorem rm6_31 (l : Launch) (Z : State) (a0 : Array Value) (hw : ∀ d ∈ tables_1, d.before a0 Z = true) (w : Nat → Addr) (hW : Wd Z w) (ws : List Jvm.Cond) (q1 : Int32) (q2 : Int32) (h0 : Heap) (n0 : Nat) (O0 : Old Z n0 h0) (c1 : q1 < q2) :
    MetFree l ym7 (head1 (Jvm.Cond.code ym7 prog_75_method_7_code 4 (some .boolean) :: ws) ({ frames := 1, cells := 0, slots := 0, locals := 13 } : Room)) (fun a U => a = #[(.ref (w 5)), (.int q1), (.int q2)] ∧ Z.Warmed39 U.vm ∧ U.heap = h0) (fun _ _ _ _ _ => True) (fun _ U o U' => ∃ v L, o = .returned v ∧ Q6_31 Z w q1 q2 h0 n0 v U'.heap L ∧ FrameEnd U o U' L ({ frames := 1, cells := 0, slots := 0, locals := 13 } : Room).cells ({ frames := 1, cells := 0, slots := 0, locals := 13 } : Room).slots) := by
  refine MetFree.of_bodySF (plainFor_of_name pnc_1) hisR ?_
  intro p e s m args below meth c s₁ Bd hml0 hP hK
  obtain ⟨rfl, hZ, hh⟩ := hP
  have hx := Bd.exec
  have hby := Bd.bytes
  have hml : c.maxLocals = 4 := hml0
  have hown : s.vm.findClass "com/example/gofyn/gofyn/typed/Term$Operator" = some m.cls := findClass_of_methodNamed Bd.named
  have hnm := (name_of_methodNamed Bd.named Bd.method).1
  have X0 : Stand p l e ({ frames := 1, cells := 0, slots := 0, locals := 13 } : Room) s m #[(.ref (w 5)), (.int q1), (.int q2)] below meth c s₁ [] 0 0 := Stand.of_body Bd
  have e0 : s₁.heap = h0 := by rw [← hh, Bd.state]; rfl
  have N0 := Fr.nil n0
  let La : Array Slot := #[.val (.ref (w 5)), .val (.int q1), .val (.int q2), .unset]
  have pre0 : ∀ t, Steps p.tables e below (s₁.setTop (mkF m 0 #[.val (.ref (w 5)), .val (.int q1), .val (.int q2), .unset] [])) t → Steps p.tables e below (s₁.setTop (entryFrame m #[(.ref (w 5)), (.int q1), (.int q2)] 4)) t := fun t k => castTop (ef_6_31 m w q1 q2) k
  obtain ⟨_, _, ⟨T1, L1, kk1, nn1⟩, -, X1, ⟨Lc1, hQ1, l1, y1, z1⟩, st1⟩ := Jvm.LawKit.callS X0 hx (y := ym6) hown (mvT hZ (wk40 hw)) (mvT hZ (wk41 hw)) (mvT hZ (wk42 hw)) (mvT hZ (wk43 hw)) (by decide) (backOf (W := 0) (rm7_7 l Z a0 hw w hW [] q1 q2 h0 n0 O0 c1) hZ (wk43 hw) (wk42 hw) (by decide) (by decide)) (g := (mkF m 2 La [(.int q2), (.int q1)])) rfl (by rw [hml]; rfl) (argsL := [(.int q1), (.int q2)]) (rest := []) (lenOf pds_4 rfl) rfl (by show 2 * 0 + _ ≤ _; exact Nat.le_of_eq rfl) (hb hby d6_2) (fun _ _ => ⟨rfl, e0, (by decide : 0 + 0 ≤ _), (by decide : 0 + 0 ≤ _)⟩)
  dsimp only [Pt.U, Pt.locs, Pt.cells, Pt.slots] at X1 l1 y1 z1 st1 hQ1
  subst l1 y1 z1
  obtain ⟨rfl, N1q, e1⟩ := hQ1
  have N1 := Fr.app N0 N1q
  let Lb2 : Array Slot := #[.val (.ref (w 5)), .val (.int q1), .val (.int q2), .val (.int (-1 : Int32))]
  obtain ⟨cq3, kq3, q3a, q3b, q3c⟩ := isOf hZ e1 ((wd11 hW).ext O0.2)
  obtain ⟨_, _, ⟨T3, L3, kk3, nn3⟩, -, X3, ⟨Lc3, hQ3, l3, y3, z3⟩, st3⟩ := X1.virtualBackUp hx (x := ym3) (y := ym2) hown (mvT hZ (wk19 hw)) (mvT hZ (wk20 hw)) (mvT hZ (wk21 hw)) (by decide) (mvT hZ (wk23 hw)) (mvT hZ (wk22 hw)) (backOf (W := 0) (rm4_27 l Z a0 hw w hW []  h0 n0 O0 ) hZ (wk25 hw) (wk24 hw) (by decide) (by decide)) q3a q3c (g := (mkF m 7 Lb2 [(.ref (w 5))])) rfl (by rw [hml]; rfl) (Steps.refl _) (argsL := []) (rest := []) (lenOf pds_2 rfl) rfl (by show 2 * 0 + _ ≤ _; exact Nat.le_of_eq rfl) (hb hby d6_7) (fun _ _ => ⟨rfl, e1, (by decide : 0 + 0 ≤ _), (by decide : 0 + 0 ≤ _)⟩)
  dsimp only [Pt.U, Pt.locs, Pt.cells, Pt.slots] at X3 l3 y3 z3 st3 hQ3
  subst l3 y3 z3
  obtain ⟨rfl, N3q, e3⟩ := hQ3
  have N3 := Fr.app N1 N3q
  obtain ⟨fs, hr, hrun, hended, hWm, hsame⟩ := X3.leave (v := some (.int (1 : Int32))) (fun h => by rw [Bd.returns] at h; cases h)
  refine ⟨_, _, pre0 _ ?_, hrun, hended, _, _, rfl, ?_, ⟨_, rfl⟩, hWm, hsame.mono (by decide) (by decide)⟩
  · show Steps p.tables e below (s₁.setTop (mkF m 0 La [])) _
    refine sI X0 hx hby d6_0 rfl ?_
    refine sI X0 hx hby d6_1 rfl ?_
    refine st1 _ ?_
    refine XS.istoreN X1.here hx rfl (hb hby d6_5) rfl (l' := Lb2) rfl ?_
    refine sA X1 hx hby d6_6 rfl rfl ?_
    refine st3.trans ?_
    refine XS.tswIn X3.here hx rfl (pc0 := 10) (pc' := 94) (o := 84) rfl (hb hby d6_10) rfl (by decide) (by decide) (by decide) (by decide) ?_
    refine sI X3 hx hby d6_94 rfl ?_
    refine sN X3 hx hby d6_95 (by decide) ?_
    refine sc X3 hx hby d6_98 ?_
    refine sg (pc := 99) (pc' := 127) X3 hx hby d6_99 (by decide) (by decide) ?_
    show Steps p.tables e below (T3.setTop (mkF m 127 Lb2 [(.int (1 : Int32))])) _
    exact retN X3 hx (t := .boolean) Bd.returns (by simp) (hb hby d6_127) hr
  · show Q6_31 Z w q1 q2 h0 n0 _ T3.heap _
    rw [e3]
    exact ⟨rfl, N3, rfl⟩
theorem d6_102 : decode prog_75_method_7_code 102 = .ok (.iconst 0, 1) := by decide +kernel
theorem d6_103 : decode prog_75_method_7_code 103 = .ok (.goto 24, 3) := by decide +kernel
theorem ef_6_32 (m : MethodId) (w : Nat → Addr) (q1 : Int32) (q2 : Int32) : entryFrame m #[(.ref (w 5)), (.int q1), (.int q2)] 4 = mkF m 0 #[.val (.ref (w 5)), .val (.int q1), .val (.int q2), .unset] [] := by first | (simp [entryFrame, mkF, argsToLocals, Value.category]; done) | rfl
def Q6_32 (Z : State) (w : Nat → Addr) (q1 : Int32) (q2 : Int32) (h0 : Heap) (n0 : Nat) (v : Option Value) (h : Heap) (L : List Loc) : Prop := v = some (.int (0 : Int32)) ∧ Fr n0 L ∧ h = h0
set_option maxRecDepth 65536 in
set_option maxHeartbeats 40000000 in
theorem rm6_32 (l : Launch) (Z : State) (a0 : Array Value) (hw : ∀ d ∈ tables_1, d.before a0 Z = true) (w : Nat → Addr) (hW : Wd Z w) (ws : List Jvm.Cond) (q1 : Int32) (q2 : Int32) (h0 : Heap) (n0 : Nat) (O0 : Old Z n0 h0) (c1 : ¬ (q1 < q2)) (c2 : ¬ (q1 = q2)) :
    MetFree l ym7 (head1 (Jvm.Cond.code ym7 prog_75_method_7_code 4 (some .boolean) :: ws) ({ frames := 1, cells := 0, slots := 0, locals := 13 } : Room)) (fun a U => a = #[(.ref (w 5)), (.int q1), (.int q2)] ∧ Z.Warmed39 U.vm ∧ U.heap = h0) (fun _ _ _ _ _ => True) (fun _ U o U' => ∃ v L, o = .returned v ∧ Q6_32 Z w q1 q2 h0 n0 v U'.heap L ∧ FrameEnd U o U' L ({ frames := 1, cells := 0, slots := 0, locals := 13 } : Room).cells ({ frames := 1, cells := 0, slots := 0, locals := 13 } : Room).slots) := by
  refine MetFree.of_bodySF (plainFor_of_name pnc_1) hisR ?_
  intro p e s m args below meth c s₁ Bd hml0 hP hK
  obtain ⟨rfl, hZ, hh⟩ := hP
  have hx := Bd.exec
  have hby := Bd.bytes
  have hml : c.maxLocals = 4 := hml0
  have hown : s.vm.findClass "com/example/gofyn/gofyn/typed/Term$Operator" = some m.cls := findClass_of_methodNamed Bd.named
  have hnm := (name_of_methodNamed Bd.named Bd.method).1
  have X0 : Stand p l e ({ frames := 1, cells := 0, slots := 0, locals := 13 } : Room) s m #[(.ref (w 5)), (.int q1), (.int q2)] below meth c s₁ [] 0 0 := Stand.of_body Bd
  have e0 : s₁.heap = h0 := by rw [← hh, Bd.state]; rfl
  have N0 := Fr.nil n0
  let La : Array Slot := #[.val (.ref (w 5)), .val (.int q1), .val (.int q2), .unset]
  have pre0 : ∀ t, Steps p.tables e below (s₁.setTop (mkF m 0 #[.val (.ref (w 5)), .val (.int q1), .val (.int q2), .unset] [])) t → Steps p.tables e below (s₁.setTop (entryFrame m #[(.ref (w 5)), (.int q1), (.int q2)] 4)) t := fun t k => castTop (ef_6_32 m w q1 q2) k
  obtain ⟨_, _, ⟨T1, L1, kk1, nn1⟩, -, X1, ⟨Lc1, hQ1, l1, y1, z1⟩, st1⟩ := Jvm.LawKit.callS X0 hx (y := ym6) hown (mvT hZ (wk40 hw)) (mvT hZ (wk41 hw)) (mvT hZ (wk42 hw)) (mvT hZ (wk43 hw)) (by decide) (backOf (W := 0) (rm7_9 l Z a0 hw w hW [] q1 q2 h0 n0 O0 c1 c2) hZ (wk43 hw) (wk42 hw) (by decide) (by decide)) (g := (mkF m 2 La [(.int q2), (.int q1)])) rfl (by rw [hml]; rfl) (argsL := [(.int q1), (.int q2)]) (rest := []) (lenOf pds_4 rfl) rfl (by show 2 * 0 + _ ≤ _; exact Nat.le_of_eq rfl) (hb hby d6_2) (fun _ _ => ⟨rfl, e0, (by decide : 0 + 0 ≤ _), (by decide : 0 + 0 ≤ _)⟩)
  dsimp only [Pt.U, Pt.locs, Pt.cells, Pt.slots] at X1 l1 y1 z1 st1 hQ1
  subst l1 y1 z1
  obtain ⟨rfl, N1q, e1⟩ := hQ1
  have N1 := Fr.app N0 N1q
  let Lb2 : Array Slot := #[.val (.ref (w 5)), .val (.int q1), .val (.int q2), .val (.int (1 : Int32))]
  obtain ⟨cq3, kq3, q3a, q3b, q3c⟩ := isOf hZ e1 ((wd11 hW).ext O0.2)
  obtain ⟨_, _, ⟨T3, L3, kk3, nn3⟩, -, X3, ⟨Lc3, hQ3, l3, y3, z3⟩, st3⟩ := X1.virtualBackUp hx (x := ym3) (y := ym2) hown (mvT hZ (wk19 hw)) (mvT hZ (wk20 hw)) (mvT hZ (wk21 hw)) (by decide) (mvT hZ (wk23 hw)) (mvT hZ (wk22 hw)) (backOf (W := 0) (rm4_27 l Z a0 hw w hW []  h0 n0 O0 ) hZ (wk25 hw) (wk24 hw) (by decide) (by decide)) q3a q3c (g := (mkF m 7 Lb2 [(.ref (w 5))])) rfl (by rw [hml]; rfl) (Steps.refl _) (argsL := []) (rest := []) (lenOf pds_2 rfl) rfl (by show 2 * 0 + _ ≤ _; exact Nat.le_of_eq rfl) (hb hby d6_7) (fun _ _ => ⟨rfl, e1, (by decide : 0 + 0 ≤ _), (by decide : 0 + 0 ≤ _)⟩)
  dsimp only [Pt.U, Pt.locs, Pt.cells, Pt.slots] at X3 l3 y3 z3 st3 hQ3
  subst l3 y3 z3
  obtain ⟨rfl, N3q, e3⟩ := hQ3
  have N3 := Fr.app N1 N3q
  obtain ⟨fs, hr, hrun, hended, hWm, hsame⟩ := X3.leave (v := some (.int (0 : Int32))) (fun h => by rw [Bd.returns] at h; cases h)
  refine ⟨_, _, pre0 _ ?_, hrun, hended, _, _, rfl, ?_, ⟨_, rfl⟩, hWm, hsame.mono (by decide) (by decide)⟩
  · show Steps p.tables e below (s₁.setTop (mkF m 0 La [])) _
    refine sI X0 hx hby d6_0 rfl ?_
    refine sI X0 hx hby d6_1 rfl ?_
    refine st1 _ ?_
    refine XS.istoreN X1.here hx rfl (hb hby d6_5) rfl (l' := Lb2) rfl ?_
    refine sA X1 hx hby d6_6 rfl rfl ?_
    refine st3.trans ?_
    refine XS.tswIn X3.here hx rfl (pc0 := 10) (pc' := 94) (o := 84) rfl (hb hby d6_10) rfl (by decide) (by decide) (by decide) (by decide) ?_
    refine sI X3 hx hby d6_94 rfl ?_
    refine XS.ifYes X3.here hx rfl (pc0 := 95) (pc' := 102) rfl (hb hby d6_95) rfl (by decide) (by decide) (by decide) ?_
    refine sc X3 hx hby d6_102 ?_
    refine sg (pc := 103) (pc' := 127) X3 hx hby d6_103 (by decide) (by decide) ?_
    show Steps p.tables e below (T3.setTop (mkF m 127 Lb2 [(.int (0 : Int32))])) _
    exact retN X3 hx (t := .boolean) Bd.returns (by simp) (hb hby d6_127) hr
  · show Q6_32 Z w q1 q2 h0 n0 _ T3.heap _
    rw [e3]
    exact ⟨rfl, N3, rfl⟩
theorem d1_35 : decode method_2_code 35 = .ok (.iload_n 0, 1) := by decide +kernel
theorem d1_36 : decode method_2_code 36 = .ok (.iconst 4, 1) := by decide +kernel
theorem d1_37 : decode method_2_code 37 = .ok (.if_icmp .ne 7, 3) := by decide +kernel
theorem d1_40 : decode method_2_code 40 = .ok (.getstatic 22, 3) := by decide +kernel
theorem d1_43 : decode method_2_code 43 = .ok (.areturn, 1) := by decide +kernel
theorem ef_1_33 (m : MethodId) : entryFrame m #[(.int (4 : Int32))] 1 = mkF m 0 #[.val (.int (4 : Int32))] [] := by first | (simp [entryFrame, mkF, argsToLocals, Value.category]; done) | rfl
def Q1_33 (Z : State) (w : Nat → Addr) (h0 : Heap) (n0 : Nat) (v : Option Value) (h : Heap) (L : List Loc) : Prop := v = some (.ref (w 3)) ∧ Fr n0 L ∧ h = h0
set_option maxRecDepth 65536 in
set_option maxHeartbeats 40000000 in
theorem rm1_33 (l : Launch) (Z : State) (a0 : Array Value) (hw : ∀ d ∈ tables_1, d.before a0 Z = true) (w : Nat → Addr) (hW : Wd Z w) (ws : List Jvm.Cond) (h0 : Heap) (n0 : Nat) (O0 : Old Z n0 h0) :
    MetFree l ym0 (head1 (Jvm.Cond.code ym0 method_2_code 1 (some (.object "com/example/gofyn/gofyn/typed/Term$Operator")) :: ws) ({ frames := 0, cells := 0, slots := 0, locals := 0 } : Room)) (fun a U => a = #[(.int (4 : Int32))] ∧ Z.Warmed39 U.vm ∧ U.heap = h0) (fun _ _ _ _ _ => True) (fun _ U o U' => ∃ v L, o = .returned v ∧ Q1_33 Z w h0 n0 v U'.heap L ∧ FrameEnd U o U' L ({ frames := 0, cells := 0, slots := 0, locals := 0 } : Room).cells ({ frames := 0, cells := 0, slots := 0, locals := 0 } : Room).slots) := by
  refine MetFree.of_bodySF (plainFor_of_name pnc_0) hisR ?_
  intro p e s m args below meth c s₁ Bd hml0 hP hK
  obtain ⟨rfl, hZ, hh⟩ := hP
  have hx := Bd.exec
  have hby := Bd.bytes
  have hml : c.maxLocals = 1 := hml0
  have hown : s.vm.findClass "com/example/gofyn/gofyn/typed/OperatorIsEqualityPinLaw" = some m.cls := findClass_of_methodNamed Bd.named
  have hnm := (name_of_methodNamed Bd.named Bd.method).1
  have X0 : Stand p l e ({ frames := 0, cells := 0, slots := 0, locals := 0 } : Room) s m #[(.int (4 : Int32))] below meth c s₁ [] 0 0 := Stand.of_body Bd
  have e0 : s₁.heap = h0 := by rw [← hh, Bd.state]; rfl
  have N0 := Fr.nil n0
  skip
  have pre0 : ∀ t, Steps p.tables e below (s₁.setTop (mkF m 0 #[.val (.int (4 : Int32))] [])) t → Steps p.tables e below (s₁.setTop (entryFrame m #[(.int (4 : Int32))] 1)) t := fun t k => castTop (ef_1_33 m) k
  obtain ⟨T1, X1, e1, st1⟩ := getS2 X0 hx hZ hown (host := "") (Or.inl (wk56 hw)) Via.refl e0 ((wd6 hW).ext O0.2) (g := (mkF m 40 #[.val (.int (4 : Int32))] [])) rfl (hb hby d1_40)
  obtain ⟨fs, hr, hrun, hended, hWm, hsame⟩ := X1.leave (v := some (.ref (w 3))) (fun h => by rw [Bd.returns] at h; cases h)
  refine ⟨_, _, pre0 _ ?_, hrun, hended, _, _, rfl, ?_, ⟨_, rfl⟩, hWm, hsame.mono (by decide) (by decide)⟩
  · show Steps p.tables e below (s₁.setTop (mkF m 0 #[.val (.int (4 : Int32))] [])) _
    refine sI X0 hx hby d1_0 rfl ?_
    refine XS.ifYes X0.here hx rfl (pc0 := 1) (pc' := 8) rfl (hb hby d1_1) rfl (by decide) (by decide) (by decide) ?_
    refine sI X0 hx hby d1_8 rfl ?_
    refine sc X0 hx hby d1_9 ?_
    refine XS.icmpYes X0.here hx rfl (pc0 := 10) (pc' := 17) rfl (hb hby d1_10) rfl (by decide) (by decide) (by decide) ?_
    show Steps p.tables e below (s₁.setTop (mkF m 17 #[.val (.int (4 : Int32))] [])) _
    refine sI X0 hx hby d1_17 rfl ?_
    refine sc X0 hx hby d1_18 ?_
    refine XS.icmpYes X0.here hx rfl (pc0 := 19) (pc' := 26) rfl (hb hby d1_19) rfl (by decide) (by decide) (by decide) ?_
    refine sI X0 hx hby d1_26 rfl ?_
    refine sc X0 hx hby d1_27 ?_
    show Steps p.tables e below (s₁.setTop (mkF m 28 #[.val (.int (4 : Int32))] [(.int (3 : Int32)), (.int (4 : Int32))])) _
    refine XS.icmpYes X0.here hx rfl (pc0 := 28) (pc' := 35) rfl (hb hby d1_28) rfl (by decide) (by decide) (by decide) ?_
    refine sI X0 hx hby d1_35 rfl ?_
    refine sc X0 hx hby d1_36 ?_
    refine sn X0 hx hby d1_37 (by decide) ?_
    refine st1 _ ?_
    jvm_step X1.here [X1.here.top, hx, (hb hby d1_43), X1.method', Bd.returns, Value.isRef, FieldType.isReference]
    first | (intro acts; rw [hr _ acts rfl rfl rfl]) | rw [hr _ _ rfl rfl rfl]
    exact Steps.refl _
  · show Q1_33 Z w h0 n0 _ T1.heap _
    rw [e1]
    exact ⟨rfl, N0, rfl⟩
theorem ef_4_34 (m : MethodId) (w : Nat → Addr) : entryFrame m #[(.ref (w 3))] 1 = mkF m 0 #[.val (.ref (w 3))] [] := by first | (simp [entryFrame, mkF, argsToLocals, Value.category]; done) | rfl
def Q4_34 (Z : State) (w : Nat → Addr) (h0 : Heap) (n0 : Nat) (v : Option Value) (h : Heap) (L : List Loc) : Prop := v = some (.int (4 : Int32)) ∧ Fr n0 L ∧ h = h0
set_option maxRecDepth 65536 in
set_option maxHeartbeats 40000000 in
theorem rm4_34 (l : Launch) (Z : State) (a0 : Array Value) (hw : ∀ d ∈ tables_1, d.before a0 Z = true) (w : Nat → Addr) (hW : Wd Z w) (ws : List Jvm.Cond) (h0 : Heap) (n0 : Nat) (O0 : Old Z n0 h0) :
    MetFree l ym2 (head1 (Jvm.Cond.code ym2 jdk_37_method_2_code 1 (some .int) :: ws) ({ frames := 0, cells := 0, slots := 0, locals := 0 } : Room)) (fun a U => a = #[(.ref (w 3))] ∧ Z.Warmed39 U.vm ∧ U.heap = h0) (fun _ _ _ _ _ => True) (fun _ U o U' => ∃ v L, o = .returned v ∧ Q4_34 Z w h0 n0 v U'.heap L ∧ FrameEnd U o U' L ({ frames := 0, cells := 0, slots := 0, locals := 0 } : Room).cells ({ frames := 0, cells := 0, slots := 0, locals := 0 } : Room).slots) := by
  refine MetFree.of_bodySF (plainFor_of_name pnc_2) hisR ?_
  intro p e s m args below meth c s₁ Bd hml0 hP hK
  obtain ⟨rfl, hZ, hh⟩ := hP
  have hx := Bd.exec
  have hby := Bd.bytes
  have hml : c.maxLocals = 1 := hml0
  have hown : s.vm.findClass "java/lang/Enum" = some m.cls := findClass_of_methodNamed Bd.named
  have hnm := (name_of_methodNamed Bd.named Bd.method).1
  have X0 : Stand p l e ({ frames := 0, cells := 0, slots := 0, locals := 0 } : Room) s m #[(.ref (w 3))] below meth c s₁ [] 0 0 := Stand.of_body Bd
  have e0 : s₁.heap = h0 := by rw [← hh, Bd.state]; rfl
  have N0 := Fr.nil n0
  skip
  have pre0 : ∀ t, Steps p.tables e below (s₁.setTop (mkF m 0 #[.val (.ref (w 3))] [])) t → Steps p.tables e below (s₁.setTop (entryFrame m #[(.ref (w 3))] 1)) t := fun t k => castTop (ef_4_34 m w) k
  obtain ⟨T1, X1, e1, st1⟩ := getF X0 hx hZ hown (host := "") (Or.inl (wk26 hw)) Via.refl e0 ((wd15 hW).ext O0.2) (g := (mkF m 1 #[.val (.ref (w 3))] [(.ref (w 3))])) rfl rfl (hb hby d4_1)
  obtain ⟨fs, hr, hrun, hended, hWm, hsame⟩ := X1.leave (v := some (.int (4 : Int32))) (fun h => by rw [Bd.returns] at h; cases h)
  refine ⟨_, _, pre0 _ ?_, hrun, hended, _, _, rfl, ?_, ⟨_, rfl⟩, hWm, hsame.mono (by decide) (by decide)⟩
  · show Steps p.tables e below (s₁.setTop (mkF m 0 #[.val (.ref (w 3))] [])) _
    refine sA X0 hx hby d4_0 rfl rfl ?_
    refine st1 _ ?_
    exact retI X1 hx Bd.returns (hb hby d4_4) hr
  · show Q4_34 Z w h0 n0 _ T1.heap _
    rw [e1]
    exact ⟨rfl, N0, rfl⟩
theorem d3_70 : decode prog_75_method_6_code 70 = .ok (.getstatic 10, 3) := by decide +kernel
theorem d3_73 : decode prog_75_method_6_code 73 = .ok (.goto 6, 3) := by decide +kernel
theorem ef_3_35 (m : MethodId) (w : Nat → Addr) : entryFrame m #[(.ref (w 3))] 1 = mkF m 0 #[.val (.ref (w 3))] [] := by first | (simp [entryFrame, mkF, argsToLocals, Value.category]; done) | rfl
def Q3_35 (Z : State) (w : Nat → Addr) (h0 : Heap) (n0 : Nat) (v : Option Value) (h : Heap) (L : List Loc) : Prop := v = some (.ref (w 2)) ∧ Fr n0 L ∧ h = h0
set_option maxRecDepth 65536 in
set_option maxHeartbeats 40000000 in
theorem rm3_35 (l : Launch) (Z : State) (a0 : Array Value) (hw : ∀ d ∈ tables_1, d.before a0 Z = true) (w : Nat → Addr) (hW : Wd Z w) (ws : List Jvm.Cond) (h0 : Heap) (n0 : Nat) (O0 : Old Z n0 h0) :
    MetFree l ym4 (head1 (Jvm.Cond.code ym4 prog_75_method_6_code 1 (some (.object "com/example/gofyn/gofyn/typed/Term$Operator")) :: ws) ({ frames := 1, cells := 0, slots := 0, locals := 12 } : Room)) (fun a U => a = #[(.ref (w 3))] ∧ Z.Warmed39 U.vm ∧ U.heap = h0) (fun _ _ _ _ _ => True) (fun _ U o U' => ∃ v L, o = .returned v ∧ Q3_35 Z w h0 n0 v U'.heap L ∧ FrameEnd U o U' L ({ frames := 1, cells := 0, slots := 0, locals := 12 } : Room).cells ({ frames := 1, cells := 0, slots := 0, locals := 12 } : Room).slots) := by
  refine MetFree.of_bodySF (plainFor_of_name pnc_1) hisR ?_
  intro p e s m args below meth c s₁ Bd hml0 hP hK
  obtain ⟨rfl, hZ, hh⟩ := hP
  have hx := Bd.exec
  have hby := Bd.bytes
  have hml : c.maxLocals = 1 := hml0
  have hown : s.vm.findClass "com/example/gofyn/gofyn/typed/Term$Operator" = some m.cls := findClass_of_methodNamed Bd.named
  have hnm := (name_of_methodNamed Bd.named Bd.method).1
  have X0 : Stand p l e ({ frames := 1, cells := 0, slots := 0, locals := 12 } : Room) s m #[(.ref (w 3))] below meth c s₁ [] 0 0 := Stand.of_body Bd
  have e0 : s₁.heap = h0 := by rw [← hh, Bd.state]; rfl
  have N0 := Fr.nil n0
  skip
  have pre0 : ∀ t, Steps p.tables e below (s₁.setTop (mkF m 0 #[.val (.ref (w 3))] [])) t → Steps p.tables e below (s₁.setTop (entryFrame m #[(.ref (w 3))] 1)) t := fun t k => castTop (ef_3_35 m w) k
  obtain ⟨cq1, kq1, q1a, q1b, q1c⟩ := isOf hZ e0 ((wd7 hW).ext O0.2)
  obtain ⟨_, _, ⟨T1, L1, kk1, nn1⟩, -, X1, ⟨Lc1, hQ1, l1, y1, z1⟩, st1⟩ := X0.virtualBackUp hx (x := ym3) (y := ym2) hown (mvT hZ (wk19 hw)) (mvT hZ (wk20 hw)) (mvT hZ (wk21 hw)) (by decide) (mvT hZ (wk23 hw)) (mvT hZ (wk22 hw)) (backOf (W := 0) (rm4_34 l Z a0 hw w hW []  h0 n0 O0 ) hZ (wk25 hw) (wk24 hw) (by decide) (by decide)) q1a q1c (g := (mkF m 1 #[.val (.ref (w 3))] [(.ref (w 3))])) rfl (by rw [hml]; rfl) (Steps.refl _) (argsL := []) (rest := []) (lenOf pds_2 rfl) rfl (by show 2 * 0 + _ ≤ _; exact Nat.le_of_eq rfl) (hb hby d3_1) (fun _ _ => ⟨rfl, e0, (by decide : 0 + 0 ≤ _), (by decide : 0 + 0 ≤ _)⟩)
  dsimp only [Pt.U, Pt.locs, Pt.cells, Pt.slots] at X1 l1 y1 z1 st1 hQ1
  subst l1 y1 z1
  obtain ⟨rfl, N1q, e1⟩ := hQ1
  have N1 := Fr.app N0 N1q
  obtain ⟨T2, X2, e2, st2⟩ := getS2 X1 hx hZ hown (host := "") (Or.inl (wk54 hw)) Via.refl e1 ((wd4 hW).ext O0.2) (g := (mkF m 70 #[.val (.ref (w 3))] [])) rfl (hb hby d3_70)
  obtain ⟨fs, hr, hrun, hended, hWm, hsame⟩ := X2.leave (v := some (.ref (w 2))) (fun h => by rw [Bd.returns] at h; cases h)
  refine ⟨_, _, pre0 _ ?_, hrun, hended, _, _, rfl, ?_, ⟨_, rfl⟩, hWm, hsame.mono (by decide) (by decide)⟩
  · show Steps p.tables e below (s₁.setTop (mkF m 0 #[.val (.ref (w 3))] [])) _
    refine sA X0 hx hby d3_0 rfl rfl ?_
    refine st1.trans ?_
    refine XS.tswIn X1.here hx rfl (pc0 := 4) (pc' := 70) (o := 66) rfl (hb hby d3_4) rfl (by decide) (by decide) (by decide) (by decide) ?_
    refine st2 _ ?_
    refine sg (pc := 73) (pc' := 79) X2 hx hby d3_73 (by decide) (by decide) ?_
    jvm_step X2.here [X2.here.top, hx, (hb hby d3_79), X2.method', Bd.returns, Value.isRef, FieldType.isReference]
    first | (intro acts; rw [hr _ acts rfl rfl rfl]) | rw [hr _ _ rfl rfl rfl]
    exact Steps.refl _
  · show Q3_35 Z w h0 n0 _ T2.heap _
    rw [e2]
    exact ⟨rfl, N1, rfl⟩
theorem d5_78 : decode prog_75_method_5_code 78 = .ok (.getstatic 13, 3) := by decide +kernel
theorem d5_81 : decode prog_75_method_5_code 81 = .ok (.goto 6, 3) := by decide +kernel
theorem ef_5_36 (m : MethodId) (w : Nat → Addr) : entryFrame m #[(.ref (w 3))] 1 = mkF m 0 #[.val (.ref (w 3))] [] := by first | (simp [entryFrame, mkF, argsToLocals, Value.category]; done) | rfl
def Q5_36 (Z : State) (w : Nat → Addr) (h0 : Heap) (n0 : Nat) (v : Option Value) (h : Heap) (L : List Loc) : Prop := v = some (.ref (w 5)) ∧ Fr n0 L ∧ h = h0
set_option maxRecDepth 65536 in
set_option maxHeartbeats 40000000 in
theorem rm5_36 (l : Launch) (Z : State) (a0 : Array Value) (hw : ∀ d ∈ tables_1, d.before a0 Z = true) (w : Nat → Addr) (hW : Wd Z w) (ws : List Jvm.Cond) (h0 : Heap) (n0 : Nat) (O0 : Old Z n0 h0) :
    MetFree l ym5 (head1 (Jvm.Cond.code ym5 prog_75_method_5_code 1 (some (.object "com/example/gofyn/gofyn/typed/Term$Operator")) :: ws) ({ frames := 1, cells := 0, slots := 0, locals := 12 } : Room)) (fun a U => a = #[(.ref (w 3))] ∧ Z.Warmed39 U.vm ∧ U.heap = h0) (fun _ _ _ _ _ => True) (fun _ U o U' => ∃ v L, o = .returned v ∧ Q5_36 Z w h0 n0 v U'.heap L ∧ FrameEnd U o U' L ({ frames := 1, cells := 0, slots := 0, locals := 12 } : Room).cells ({ frames := 1, cells := 0, slots := 0, locals := 12 } : Room).slots) := by
  refine MetFree.of_bodySF (plainFor_of_name pnc_1) hisR ?_
  intro p e s m args below meth c s₁ Bd hml0 hP hK
  obtain ⟨rfl, hZ, hh⟩ := hP
  have hx := Bd.exec
  have hby := Bd.bytes
  have hml : c.maxLocals = 1 := hml0
  have hown : s.vm.findClass "com/example/gofyn/gofyn/typed/Term$Operator" = some m.cls := findClass_of_methodNamed Bd.named
  have hnm := (name_of_methodNamed Bd.named Bd.method).1
  have X0 : Stand p l e ({ frames := 1, cells := 0, slots := 0, locals := 12 } : Room) s m #[(.ref (w 3))] below meth c s₁ [] 0 0 := Stand.of_body Bd
  have e0 : s₁.heap = h0 := by rw [← hh, Bd.state]; rfl
  have N0 := Fr.nil n0
  skip
  have pre0 : ∀ t, Steps p.tables e below (s₁.setTop (mkF m 0 #[.val (.ref (w 3))] [])) t → Steps p.tables e below (s₁.setTop (entryFrame m #[(.ref (w 3))] 1)) t := fun t k => castTop (ef_5_36 m w) k
  obtain ⟨cq1, kq1, q1a, q1b, q1c⟩ := isOf hZ e0 ((wd7 hW).ext O0.2)
  obtain ⟨_, _, ⟨T1, L1, kk1, nn1⟩, -, X1, ⟨Lc1, hQ1, l1, y1, z1⟩, st1⟩ := X0.virtualBackUp hx (x := ym3) (y := ym2) hown (mvT hZ (wk19 hw)) (mvT hZ (wk20 hw)) (mvT hZ (wk21 hw)) (by decide) (mvT hZ (wk23 hw)) (mvT hZ (wk22 hw)) (backOf (W := 0) (rm4_34 l Z a0 hw w hW []  h0 n0 O0 ) hZ (wk25 hw) (wk24 hw) (by decide) (by decide)) q1a q1c (g := (mkF m 1 #[.val (.ref (w 3))] [(.ref (w 3))])) rfl (by rw [hml]; rfl) (Steps.refl _) (argsL := []) (rest := []) (lenOf pds_2 rfl) rfl (by show 2 * 0 + _ ≤ _; exact Nat.le_of_eq rfl) (hb hby d5_1) (fun _ _ => ⟨rfl, e0, (by decide : 0 + 0 ≤ _), (by decide : 0 + 0 ≤ _)⟩)
  dsimp only [Pt.U, Pt.locs, Pt.cells, Pt.slots] at X1 l1 y1 z1 st1 hQ1
  subst l1 y1 z1
  obtain ⟨rfl, N1q, e1⟩ := hQ1
  have N1 := Fr.app N0 N1q
  obtain ⟨T2, X2, e2, st2⟩ := getS2 X1 hx hZ hown (host := "") (Or.inl (wk52 hw)) Via.refl e1 ((wd10 hW).ext O0.2) (g := (mkF m 78 #[.val (.ref (w 3))] [])) rfl (hb hby d5_78)
  obtain ⟨fs, hr, hrun, hended, hWm, hsame⟩ := X2.leave (v := some (.ref (w 5))) (fun h => by rw [Bd.returns] at h; cases h)
  refine ⟨_, _, pre0 _ ?_, hrun, hended, _, _, rfl, ?_, ⟨_, rfl⟩, hWm, hsame.mono (by decide) (by decide)⟩
  · show Steps p.tables e below (s₁.setTop (mkF m 0 #[.val (.ref (w 3))] [])) _
    refine sA X0 hx hby d5_0 rfl rfl ?_
    refine st1.trans ?_
    refine XS.tswIn X1.here hx rfl (pc0 := 4) (pc' := 78) (o := 74) rfl (hb hby d5_4) rfl (by decide) (by decide) (by decide) (by decide) ?_
    refine st2 _ ?_
    refine sg (pc := 81) (pc' := 87) X2 hx hby d5_81 (by decide) (by decide) ?_
    jvm_step X2.here [X2.here.top, hx, (hb hby d5_87), X2.method', Bd.returns, Value.isRef, FieldType.isReference]
    first | (intro acts; rw [hr _ acts rfl rfl rfl]) | rw [hr _ _ rfl rfl rfl]
    exact Steps.refl _
  · show Q5_36 Z w h0 n0 _ T2.heap _
    rw [e2]
    exact ⟨rfl, N1, rfl⟩
theorem d6_106 : decode prog_75_method_7_code 106 = .ok (.iload_n 3, 1) := by decide +kernel
theorem d6_107 : decode prog_75_method_7_code 107 = .ok (.ifCond .le 7, 3) := by decide +kernel
theorem d6_114 : decode prog_75_method_7_code 114 = .ok (.iconst 0, 1) := by decide +kernel
theorem d6_115 : decode prog_75_method_7_code 115 = .ok (.goto 12, 3) := by decide +kernel
theorem ef_6_37 (m : MethodId) (w : Nat → Addr) (q1 : Int32) (q2 : Int32) : entryFrame m #[(.ref (w 3)), (.int q1), (.int q2)] 4 = mkF m 0 #[.val (.ref (w 3)), .val (.int q1), .val (.int q2), .unset] [] := by first | (simp [entryFrame, mkF, argsToLocals, Value.category]; done) | rfl
def Q6_37 (Z : State) (w : Nat → Addr) (q1 : Int32) (q2 : Int32) (h0 : Heap) (n0 : Nat) (v : Option Value) (h : Heap) (L : List Loc) : Prop := v = some (.int (0 : Int32)) ∧ Fr n0 L ∧ h = h0
set_option maxRecDepth 65536 in
set_option maxHeartbeats 40000000 in
theorem rm6_37 (l : Launch) (Z : State) (a0 : Array Value) (hw : ∀ d ∈ tables_1, d.before a0 Z = true) (w : Nat → Addr) (hW : Wd Z w) (ws : List Jvm.Cond) (q1 : Int32) (q2 : Int32) (h0 : Heap) (n0 : Nat) (O0 : Old Z n0 h0) (c1 : q1 < q2) :
    MetFree l ym7 (head1 (Jvm.Cond.code ym7 prog_75_method_7_code 4 (some .boolean) :: ws) ({ frames := 1, cells := 0, slots := 0, locals := 13 } : Room)) (fun a U => a = #[(.ref (w 3)), (.int q1), (.int q2)] ∧ Z.Warmed39 U.vm ∧ U.heap = h0) (fun _ _ _ _ _ => True) (fun _ U o U' => ∃ v L, o = .returned v ∧ Q6_37 Z w q1 q2 h0 n0 v U'.heap L ∧ FrameEnd U o U' L ({ frames := 1, cells := 0, slots := 0, locals := 13 } : Room).cells ({ frames := 1, cells := 0, slots := 0, locals := 13 } : Room).slots) := by
  refine MetFree.of_bodySF (plainFor_of_name pnc_1) hisR ?_
  intro p e s m args below meth c s₁ Bd hml0 hP hK
  obtain ⟨rfl, hZ, hh⟩ := hP
  have hx := Bd.exec
  have hby := Bd.bytes
  have hml : c.maxLocals = 4 := hml0
  have hown : s.vm.findClass "com/example/gofyn/gofyn/typed/Term$Operator" = some m.cls := findClass_of_methodNamed Bd.named
  have hnm := (name_of_methodNamed Bd.named Bd.method).1
  have X0 : Stand p l e ({ frames := 1, cells := 0, slots := 0, locals := 13 } : Room) s m #[(.ref (w 3)), (.int q1), (.int q2)] below meth c s₁ [] 0 0 := Stand.of_body Bd
  have e0 : s₁.heap = h0 := by rw [← hh, Bd.state]; rfl
  have N0 := Fr.nil n0
  let La : Array Slot := #[.val (.ref (w 3)), .val (.int q1), .val (.int q2), .unset]
  have pre0 : ∀ t, Steps p.tables e below (s₁.setTop (mkF m 0 #[.val (.ref (w 3)), .val (.int q1), .val (.int q2), .unset] [])) t → Steps p.tables e below (s₁.setTop (entryFrame m #[(.ref (w 3)), (.int q1), (.int q2)] 4)) t := fun t k => castTop (ef_6_37 m w q1 q2) k
  obtain ⟨_, _, ⟨T1, L1, kk1, nn1⟩, -, X1, ⟨Lc1, hQ1, l1, y1, z1⟩, st1⟩ := Jvm.LawKit.callS X0 hx (y := ym6) hown (mvT hZ (wk40 hw)) (mvT hZ (wk41 hw)) (mvT hZ (wk42 hw)) (mvT hZ (wk43 hw)) (by decide) (backOf (W := 0) (rm7_7 l Z a0 hw w hW [] q1 q2 h0 n0 O0 c1) hZ (wk43 hw) (wk42 hw) (by decide) (by decide)) (g := (mkF m 2 La [(.int q2), (.int q1)])) rfl (by rw [hml]; rfl) (argsL := [(.int q1), (.int q2)]) (rest := []) (lenOf pds_4 rfl) rfl (by show 2 * 0 + _ ≤ _; exact Nat.le_of_eq rfl) (hb hby d6_2) (fun _ _ => ⟨rfl, e0, (by decide : 0 + 0 ≤ _), (by decide : 0 + 0 ≤ _)⟩)
  dsimp only [Pt.U, Pt.locs, Pt.cells, Pt.slots] at X1 l1 y1 z1 st1 hQ1
  subst l1 y1 z1
  obtain ⟨rfl, N1q, e1⟩ := hQ1
  have N1 := Fr.app N0 N1q
  let Lb2 : Array Slot := #[.val (.ref (w 3)), .val (.int q1), .val (.int q2), .val (.int (-1 : Int32))]
  obtain ⟨cq3, kq3, q3a, q3b, q3c⟩ := isOf hZ e1 ((wd7 hW).ext O0.2)
  obtain ⟨_, _, ⟨T3, L3, kk3, nn3⟩, -, X3, ⟨Lc3, hQ3, l3, y3, z3⟩, st3⟩ := X1.virtualBackUp hx (x := ym3) (y := ym2) hown (mvT hZ (wk19 hw)) (mvT hZ (wk20 hw)) (mvT hZ (wk21 hw)) (by decide) (mvT hZ (wk23 hw)) (mvT hZ (wk22 hw)) (backOf (W := 0) (rm4_34 l Z a0 hw w hW []  h0 n0 O0 ) hZ (wk25 hw) (wk24 hw) (by decide) (by decide)) q3a q3c (g := (mkF m 7 Lb2 [(.ref (w 3))])) rfl (by rw [hml]; rfl) (Steps.refl _) (argsL := []) (rest := []) (lenOf pds_2 rfl) rfl (by show 2 * 0 + _ ≤ _; exact Nat.le_of_eq rfl) (hb hby d6_7) (fun _ _ => ⟨rfl, e1, (by decide : 0 + 0 ≤ _), (by decide : 0 + 0 ≤ _)⟩)
  dsimp only [Pt.U, Pt.locs, Pt.cells, Pt.slots] at X3 l3 y3 z3 st3 hQ3
  subst l3 y3 z3
  obtain ⟨rfl, N3q, e3⟩ := hQ3
  have N3 := Fr.app N1 N3q
  obtain ⟨fs, hr, hrun, hended, hWm, hsame⟩ := X3.leave (v := some (.int (0 : Int32))) (fun h => by rw [Bd.returns] at h; cases h)
  refine ⟨_, _, pre0 _ ?_, hrun, hended, _, _, rfl, ?_, ⟨_, rfl⟩, hWm, hsame.mono (by decide) (by decide)⟩
  · show Steps p.tables e below (s₁.setTop (mkF m 0 La [])) _
    refine sI X0 hx hby d6_0 rfl ?_
    refine sI X0 hx hby d6_1 rfl ?_
    refine st1 _ ?_
    refine XS.istoreN X1.here hx rfl (hb hby d6_5) rfl (l' := Lb2) rfl ?_
    refine sA X1 hx hby d6_6 rfl rfl ?_
    refine st3.trans ?_
    refine XS.tswIn X3.here hx rfl (pc0 := 10) (pc' := 106) (o := 96) rfl (hb hby d6_10) rfl (by decide) (by decide) (by decide) (by decide) ?_
    refine sI X3 hx hby d6_106 rfl ?_
    refine XS.ifYes X3.here hx rfl (pc0 := 107) (pc' := 114) rfl (hb hby d6_107) rfl (by decide) (by decide) (by decide) ?_
    refine sc X3 hx hby d6_114 ?_
    refine sg (pc := 115) (pc' := 127) X3 hx hby d6_115 (by decide) (by decide) ?_
    show Steps p.tables e below (T3.setTop (mkF m 127 Lb2 [(.int (0 : Int32))])) _
    exact retN X3 hx (t := .boolean) Bd.returns (by simp) (hb hby d6_127) hr
  · show Q6_37 Z w q1 q2 h0 n0 _ T3.heap _
    rw [e3]
    exact ⟨rfl, N3, rfl⟩
theorem d6_110 : decode prog_75_method_7_code 110 = .ok (.iconst 1, 1) := by decide +kernel
theorem d6_111 : decode prog_75_method_7_code 111 = .ok (.goto 16, 3) := by decide +kernel
theorem ef_6_38 (m : MethodId) (w : Nat → Addr) (q1 : Int32) (q2 : Int32) : entryFrame m #[(.ref (w 3)), (.int q1), (.int q2)] 4 = mkF m 0 #[.val (.ref (w 3)), .val (.int q1), .val (.int q2), .unset] [] := by first | (simp [entryFrame, mkF, argsToLocals, Value.category]; done) | rfl
def Q6_38 (Z : State) (w : Nat → Addr) (q1 : Int32) (q2 : Int32) (h0 : Heap) (n0 : Nat) (v : Option Value) (h : Heap) (L : List Loc) : Prop := v = some (.int (1 : Int32)) ∧ Fr n0 L ∧ h = h0
set_option maxRecDepth 65536 in
set_option maxHeartbeats 40000000 in
theorem rm6_38 (l : Launch) (Z : State) (a0 : Array Value) (hw : ∀ d ∈ tables_1, d.before a0 Z = true) (w : Nat → Addr) (hW : Wd Z w) (ws : List Jvm.Cond) (q1 : Int32) (q2 : Int32) (h0 : Heap) (n0 : Nat) (O0 : Old Z n0 h0) (c1 : ¬ (q1 < q2)) (c2 : ¬ (q1 = q2)) :
    MetFree l ym7 (head1 (Jvm.Cond.code ym7 prog_75_method_7_code 4 (some .boolean) :: ws) ({ frames := 1, cells := 0, slots := 0, locals := 13 } : Room)) (fun a U => a = #[(.ref (w 3)), (.int q1), (.int q2)] ∧ Z.Warmed39 U.vm ∧ U.heap = h0) (fun _ _ _ _ _ => True) (fun _ U o U' => ∃ v L, o = .returned v ∧ Q6_38 Z w q1 q2 h0 n0 v U'.heap L ∧ FrameEnd U o U' L ({ frames := 1, cells := 0, slots := 0, locals := 13 } : Room).cells ({ frames := 1, cells := 0, slots := 0, locals := 13 } : Room).slots) := by
  refine MetFree.of_bodySF (plainFor_of_name pnc_1) hisR ?_
  intro p e s m args below meth c s₁ Bd hml0 hP hK
  obtain ⟨rfl, hZ, hh⟩ := hP
  have hx := Bd.exec
  have hby := Bd.bytes
  have hml : c.maxLocals = 4 := hml0
  have hown : s.vm.findClass "com/example/gofyn/gofyn/typed/Term$Operator" = some m.cls := findClass_of_methodNamed Bd.named
  have hnm := (name_of_methodNamed Bd.named Bd.method).1
  have X0 : Stand p l e ({ frames := 1, cells := 0, slots := 0, locals := 13 } : Room) s m #[(.ref (w 3)), (.int q1), (.int q2)] below meth c s₁ [] 0 0 := Stand.of_body Bd
  have e0 : s₁.heap = h0 := by rw [← hh, Bd.state]; rfl
  have N0 := Fr.nil n0
  let La : Array Slot := #[.val (.ref (w 3)), .val (.int q1), .val (.int q2), .unset]
  have pre0 : ∀ t, Steps p.tables e below (s₁.setTop (mkF m 0 #[.val (.ref (w 3)), .val (.int q1), .val (.int q2), .unset] [])) t → Steps p.tables e below (s₁.setTop (entryFrame m #[(.ref (w 3)), (.int q1), (.int q2)] 4)) t := fun t k => castTop (ef_6_38 m w q1 q2) k
  obtain ⟨_, _, ⟨T1, L1, kk1, nn1⟩, -, X1, ⟨Lc1, hQ1, l1, y1, z1⟩, st1⟩ := Jvm.LawKit.callS X0 hx (y := ym6) hown (mvT hZ (wk40 hw)) (mvT hZ (wk41 hw)) (mvT hZ (wk42 hw)) (mvT hZ (wk43 hw)) (by decide) (backOf (W := 0) (rm7_9 l Z a0 hw w hW [] q1 q2 h0 n0 O0 c1 c2) hZ (wk43 hw) (wk42 hw) (by decide) (by decide)) (g := (mkF m 2 La [(.int q2), (.int q1)])) rfl (by rw [hml]; rfl) (argsL := [(.int q1), (.int q2)]) (rest := []) (lenOf pds_4 rfl) rfl (by show 2 * 0 + _ ≤ _; exact Nat.le_of_eq rfl) (hb hby d6_2) (fun _ _ => ⟨rfl, e0, (by decide : 0 + 0 ≤ _), (by decide : 0 + 0 ≤ _)⟩)
  dsimp only [Pt.U, Pt.locs, Pt.cells, Pt.slots] at X1 l1 y1 z1 st1 hQ1
  subst l1 y1 z1
  obtain ⟨rfl, N1q, e1⟩ := hQ1
  have N1 := Fr.app N0 N1q
  let Lb2 : Array Slot := #[.val (.ref (w 3)), .val (.int q1), .val (.int q2), .val (.int (1 : Int32))]
  obtain ⟨cq3, kq3, q3a, q3b, q3c⟩ := isOf hZ e1 ((wd7 hW).ext O0.2)
  obtain ⟨_, _, ⟨T3, L3, kk3, nn3⟩, -, X3, ⟨Lc3, hQ3, l3, y3, z3⟩, st3⟩ := X1.virtualBackUp hx (x := ym3) (y := ym2) hown (mvT hZ (wk19 hw)) (mvT hZ (wk20 hw)) (mvT hZ (wk21 hw)) (by decide) (mvT hZ (wk23 hw)) (mvT hZ (wk22 hw)) (backOf (W := 0) (rm4_34 l Z a0 hw w hW []  h0 n0 O0 ) hZ (wk25 hw) (wk24 hw) (by decide) (by decide)) q3a q3c (g := (mkF m 7 Lb2 [(.ref (w 3))])) rfl (by rw [hml]; rfl) (Steps.refl _) (argsL := []) (rest := []) (lenOf pds_2 rfl) rfl (by show 2 * 0 + _ ≤ _; exact Nat.le_of_eq rfl) (hb hby d6_7) (fun _ _ => ⟨rfl, e1, (by decide : 0 + 0 ≤ _), (by decide : 0 + 0 ≤ _)⟩)
  dsimp only [Pt.U, Pt.locs, Pt.cells, Pt.slots] at X3 l3 y3 z3 st3 hQ3
  subst l3 y3 z3
  obtain ⟨rfl, N3q, e3⟩ := hQ3
  have N3 := Fr.app N1 N3q
  obtain ⟨fs, hr, hrun, hended, hWm, hsame⟩ := X3.leave (v := some (.int (1 : Int32))) (fun h => by rw [Bd.returns] at h; cases h)
  refine ⟨_, _, pre0 _ ?_, hrun, hended, _, _, rfl, ?_, ⟨_, rfl⟩, hWm, hsame.mono (by decide) (by decide)⟩
  · show Steps p.tables e below (s₁.setTop (mkF m 0 La [])) _
    refine sI X0 hx hby d6_0 rfl ?_
    refine sI X0 hx hby d6_1 rfl ?_
    refine st1 _ ?_
    refine XS.istoreN X1.here hx rfl (hb hby d6_5) rfl (l' := Lb2) rfl ?_
    refine sA X1 hx hby d6_6 rfl rfl ?_
    refine st3.trans ?_
    refine XS.tswIn X3.here hx rfl (pc0 := 10) (pc' := 106) (o := 96) rfl (hb hby d6_10) rfl (by decide) (by decide) (by decide) (by decide) ?_
    refine sI X3 hx hby d6_106 rfl ?_
    refine sN X3 hx hby d6_107 (by decide) ?_
    refine sc X3 hx hby d6_110 ?_
    refine sg (pc := 111) (pc' := 127) X3 hx hby d6_111 (by decide) (by decide) ?_
    show Steps p.tables e below (T3.setTop (mkF m 127 Lb2 [(.int (1 : Int32))])) _
    exact retN X3 hx (t := .boolean) Bd.returns (by simp) (hb hby d6_127) hr
  · show Q6_38 Z w q1 q2 h0 n0 _ T3.heap _
    rw [e3]
    exact ⟨rfl, N3, rfl⟩
theorem d1_44 : decode method_2_code 44 = .ok (.getstatic 25, 3) := by decide +kernel
theorem d1_47 : decode method_2_code 47 = .ok (.areturn, 1) := by decide +kernel
theorem ef_1_39 (m : MethodId) : entryFrame m #[(.int (5 : Int32))] 1 = mkF m 0 #[.val (.int (5 : Int32))] [] := by first | (simp [entryFrame, mkF, argsToLocals, Value.category]; done) | rfl
def Q1_39 (Z : State) (w : Nat → Addr) (h0 : Heap) (n0 : Nat) (v : Option Value) (h : Heap) (L : List Loc) : Prop := v = some (.ref (w 4)) ∧ Fr n0 L ∧ h = h0
set_option maxRecDepth 65536 in
set_option maxHeartbeats 40000000 in
theorem rm1_39 (l : Launch) (Z : State) (a0 : Array Value) (hw : ∀ d ∈ tables_1, d.before a0 Z = true) (w : Nat → Addr) (hW : Wd Z w) (ws : List Jvm.Cond) (h0 : Heap) (n0 : Nat) (O0 : Old Z n0 h0) :
    MetFree l ym0 (head1 (Jvm.Cond.code ym0 method_2_code 1 (some (.object "com/example/gofyn/gofyn/typed/Term$Operator")) :: ws) ({ frames := 0, cells := 0, slots := 0, locals := 0 } : Room)) (fun a U => a = #[(.int (5 : Int32))] ∧ Z.Warmed39 U.vm ∧ U.heap = h0) (fun _ _ _ _ _ => True) (fun _ U o U' => ∃ v L, o = .returned v ∧ Q1_39 Z w h0 n0 v U'.heap L ∧ FrameEnd U o U' L ({ frames := 0, cells := 0, slots := 0, locals := 0 } : Room).cells ({ frames := 0, cells := 0, slots := 0, locals := 0 } : Room).slots) := by
  refine MetFree.of_bodySF (plainFor_of_name pnc_0) hisR ?_
  intro p e s m args below meth c s₁ Bd hml0 hP hK
  obtain ⟨rfl, hZ, hh⟩ := hP
  have hx := Bd.exec
  have hby := Bd.bytes
  have hml : c.maxLocals = 1 := hml0
  have hown : s.vm.findClass "com/example/gofyn/gofyn/typed/OperatorIsEqualityPinLaw" = some m.cls := findClass_of_methodNamed Bd.named
  have hnm := (name_of_methodNamed Bd.named Bd.method).1
  have X0 : Stand p l e ({ frames := 0, cells := 0, slots := 0, locals := 0 } : Room) s m #[(.int (5 : Int32))] below meth c s₁ [] 0 0 := Stand.of_body Bd
  have e0 : s₁.heap = h0 := by rw [← hh, Bd.state]; rfl
  have N0 := Fr.nil n0
  skip
  have pre0 : ∀ t, Steps p.tables e below (s₁.setTop (mkF m 0 #[.val (.int (5 : Int32))] [])) t → Steps p.tables e below (s₁.setTop (entryFrame m #[(.int (5 : Int32))] 1)) t := fun t k => castTop (ef_1_39 m) k
  obtain ⟨T1, X1, e1, st1⟩ := getS2 X0 hx hZ hown (host := "") (Or.inl (wk51 hw)) Via.refl e0 ((wd8 hW).ext O0.2) (g := (mkF m 44 #[.val (.int (5 : Int32))] [])) rfl (hb hby d1_44)
  obtain ⟨fs, hr, hrun, hended, hWm, hsame⟩ := X1.leave (v := some (.ref (w 4))) (fun h => by rw [Bd.returns] at h; cases h)
  refine ⟨_, _, pre0 _ ?_, hrun, hended, _, _, rfl, ?_, ⟨_, rfl⟩, hWm, hsame.mono (by decide) (by decide)⟩
  · show Steps p.tables e below (s₁.setTop (mkF m 0 #[.val (.int (5 : Int32))] [])) _
    refine sI X0 hx hby d1_0 rfl ?_
    refine XS.ifYes X0.here hx rfl (pc0 := 1) (pc' := 8) rfl (hb hby d1_1) rfl (by decide) (by decide) (by decide) ?_
    refine sI X0 hx hby d1_8 rfl ?_
    refine sc X0 hx hby d1_9 ?_
    refine XS.icmpYes X0.here hx rfl (pc0 := 10) (pc' := 17) rfl (hb hby d1_10) rfl (by decide) (by decide) (by decide) ?_
    show Steps p.tables e below (s₁.setTop (mkF m 17 #[.val (.int (5 : Int32))] [])) _
    refine sI X0 hx hby d1_17 rfl ?_
    refine sc X0 hx hby d1_18 ?_
    refine XS.icmpYes X0.here hx rfl (pc0 := 19) (pc' := 26) rfl (hb hby d1_19) rfl (by decide) (by decide) (by decide) ?_
    refine sI X0 hx hby d1_26 rfl ?_
    refine sc X0 hx hby d1_27 ?_
    show Steps p.tables e below (s₁.setTop (mkF m 28 #[.val (.int (5 : Int32))] [(.int (3 : Int32)), (.int (5 : Int32))])) _
    refine XS.icmpYes X0.here hx rfl (pc0 := 28) (pc' := 35) rfl (hb hby d1_28) rfl (by decide) (by decide) (by decide) ?_
    refine sI X0 hx hby d1_35 rfl ?_
    refine sc X0 hx hby d1_36 ?_
    refine XS.icmpYes X0.here hx rfl (pc0 := 37) (pc' := 44) rfl (hb hby d1_37) rfl (by decide) (by decide) (by decide) ?_
    refine st1 _ ?_
    jvm_step X1.here [X1.here.top, hx, (hb hby d1_47), X1.method', Bd.returns, Value.isRef, FieldType.isReference]
    first | (intro acts; rw [hr _ acts rfl rfl rfl]) | rw [hr _ _ rfl rfl rfl]
    exact Steps.refl _
  · show Q1_39 Z w h0 n0 _ T1.heap _
    rw [e1]
    exact ⟨rfl, N0, rfl⟩
theorem ef_4_40 (m : MethodId) (w : Nat → Addr) : entryFrame m #[(.ref (w 4))] 1 = mkF m 0 #[.val (.ref (w 4))] [] := by first | (simp [entryFrame, mkF, argsToLocals, Value.category]; done) | rfl
def Q4_40 (Z : State) (w : Nat → Addr) (h0 : Heap) (n0 : Nat) (v : Option Value) (h : Heap) (L : List Loc) : Prop := v = some (.int (5 : Int32)) ∧ Fr n0 L ∧ h = h0
set_option maxRecDepth 65536 in
set_option maxHeartbeats 40000000 in
theorem rm4_40 (l : Launch) (Z : State) (a0 : Array Value) (hw : ∀ d ∈ tables_1, d.before a0 Z = true) (w : Nat → Addr) (hW : Wd Z w) (ws : List Jvm.Cond) (h0 : Heap) (n0 : Nat) (O0 : Old Z n0 h0) :
    MetFree l ym2 (head1 (Jvm.Cond.code ym2 jdk_37_method_2_code 1 (some .int) :: ws) ({ frames := 0, cells := 0, slots := 0, locals := 0 } : Room)) (fun a U => a = #[(.ref (w 4))] ∧ Z.Warmed39 U.vm ∧ U.heap = h0) (fun _ _ _ _ _ => True) (fun _ U o U' => ∃ v L, o = .returned v ∧ Q4_40 Z w h0 n0 v U'.heap L ∧ FrameEnd U o U' L ({ frames := 0, cells := 0, slots := 0, locals := 0 } : Room).cells ({ frames := 0, cells := 0, slots := 0, locals := 0 } : Room).slots) := by
  refine MetFree.of_bodySF (plainFor_of_name pnc_2) hisR ?_
  intro p e s m args below meth c s₁ Bd hml0 hP hK
  obtain ⟨rfl, hZ, hh⟩ := hP
  have hx := Bd.exec
  have hby := Bd.bytes
  have hml : c.maxLocals = 1 := hml0
  have hown : s.vm.findClass "java/lang/Enum" = some m.cls := findClass_of_methodNamed Bd.named
  have hnm := (name_of_methodNamed Bd.named Bd.method).1
  have X0 : Stand p l e ({ frames := 0, cells := 0, slots := 0, locals := 0 } : Room) s m #[(.ref (w 4))] below meth c s₁ [] 0 0 := Stand.of_body Bd
  have e0 : s₁.heap = h0 := by rw [← hh, Bd.state]; rfl
  have N0 := Fr.nil n0
  skip
  have pre0 : ∀ t, Steps p.tables e below (s₁.setTop (mkF m 0 #[.val (.ref (w 4))] [])) t → Steps p.tables e below (s₁.setTop (entryFrame m #[(.ref (w 4))] 1)) t := fun t k => castTop (ef_4_40 m w) k
  obtain ⟨T1, X1, e1, st1⟩ := getF X0 hx hZ hown (host := "") (Or.inl (wk26 hw)) Via.refl e0 ((wd16 hW).ext O0.2) (g := (mkF m 1 #[.val (.ref (w 4))] [(.ref (w 4))])) rfl rfl (hb hby d4_1)
  obtain ⟨fs, hr, hrun, hended, hWm, hsame⟩ := X1.leave (v := some (.int (5 : Int32))) (fun h => by rw [Bd.returns] at h; cases h)
  refine ⟨_, _, pre0 _ ?_, hrun, hended, _, _, rfl, ?_, ⟨_, rfl⟩, hWm, hsame.mono (by decide) (by decide)⟩
  · show Steps p.tables e below (s₁.setTop (mkF m 0 #[.val (.ref (w 4))] [])) _
    refine sA X0 hx hby d4_0 rfl rfl ?_
    refine st1 _ ?_
    exact retI X1 hx Bd.returns (hb hby d4_4) hr
  · show Q4_40 Z w h0 n0 _ T1.heap _
    rw [e1]
    exact ⟨rfl, N0, rfl⟩
theorem d3_76 : decode prog_75_method_6_code 76 = .ok (.getstatic 13, 3) := by decide +kernel
theorem ef_3_41 (m : MethodId) (w : Nat → Addr) : entryFrame m #[(.ref (w 4))] 1 = mkF m 0 #[.val (.ref (w 4))] [] := by first | (simp [entryFrame, mkF, argsToLocals, Value.category]; done) | rfl
def Q3_41 (Z : State) (w : Nat → Addr) (h0 : Heap) (n0 : Nat) (v : Option Value) (h : Heap) (L : List Loc) : Prop := v = some (.ref (w 5)) ∧ Fr n0 L ∧ h = h0
set_option maxRecDepth 65536 in
set_option maxHeartbeats 40000000 in
theorem rm3_41 (l : Launch) (Z : State) (a0 : Array Value) (hw : ∀ d ∈ tables_1, d.before a0 Z = true) (w : Nat → Addr) (hW : Wd Z w) (ws : List Jvm.Cond) (h0 : Heap) (n0 : Nat) (O0 : Old Z n0 h0) :
    MetFree l ym4 (head1 (Jvm.Cond.code ym4 prog_75_method_6_code 1 (some (.object "com/example/gofyn/gofyn/typed/Term$Operator")) :: ws) ({ frames := 1, cells := 0, slots := 0, locals := 12 } : Room)) (fun a U => a = #[(.ref (w 4))] ∧ Z.Warmed39 U.vm ∧ U.heap = h0) (fun _ _ _ _ _ => True) (fun _ U o U' => ∃ v L, o = .returned v ∧ Q3_41 Z w h0 n0 v U'.heap L ∧ FrameEnd U o U' L ({ frames := 1, cells := 0, slots := 0, locals := 12 } : Room).cells ({ frames := 1, cells := 0, slots := 0, locals := 12 } : Room).slots) := by
  refine MetFree.of_bodySF (plainFor_of_name pnc_1) hisR ?_
  intro p e s m args below meth c s₁ Bd hml0 hP hK
  obtain ⟨rfl, hZ, hh⟩ := hP
  have hx := Bd.exec
  have hby := Bd.bytes
  have hml : c.maxLocals = 1 := hml0
  have hown : s.vm.findClass "com/example/gofyn/gofyn/typed/Term$Operator" = some m.cls := findClass_of_methodNamed Bd.named
  have hnm := (name_of_methodNamed Bd.named Bd.method).1
  have X0 : Stand p l e ({ frames := 1, cells := 0, slots := 0, locals := 12 } : Room) s m #[(.ref (w 4))] below meth c s₁ [] 0 0 := Stand.of_body Bd
  have e0 : s₁.heap = h0 := by rw [← hh, Bd.state]; rfl
  have N0 := Fr.nil n0
  skip
  have pre0 : ∀ t, Steps p.tables e below (s₁.setTop (mkF m 0 #[.val (.ref (w 4))] [])) t → Steps p.tables e below (s₁.setTop (entryFrame m #[(.ref (w 4))] 1)) t := fun t k => castTop (ef_3_41 m w) k
  obtain ⟨cq1, kq1, q1a, q1b, q1c⟩ := isOf hZ e0 ((wd9 hW).ext O0.2)
  obtain ⟨_, _, ⟨T1, L1, kk1, nn1⟩, -, X1, ⟨Lc1, hQ1, l1, y1, z1⟩, st1⟩ := X0.virtualBackUp hx (x := ym3) (y := ym2) hown (mvT hZ (wk19 hw)) (mvT hZ (wk20 hw)) (mvT hZ (wk21 hw)) (by decide) (mvT hZ (wk23 hw)) (mvT hZ (wk22 hw)) (backOf (W := 0) (rm4_40 l Z a0 hw w hW []  h0 n0 O0 ) hZ (wk25 hw) (wk24 hw) (by decide) (by decide)) q1a q1c (g := (mkF m 1 #[.val (.ref (w 4))] [(.ref (w 4))])) rfl (by rw [hml]; rfl) (Steps.refl _) (argsL := []) (rest := []) (lenOf pds_2 rfl) rfl (by show 2 * 0 + _ ≤ _; exact Nat.le_of_eq rfl) (hb hby d3_1) (fun _ _ => ⟨rfl, e0, (by decide : 0 + 0 ≤ _), (by decide : 0 + 0 ≤ _)⟩)
  dsimp only [Pt.U, Pt.locs, Pt.cells, Pt.slots] at X1 l1 y1 z1 st1 hQ1
  subst l1 y1 z1
  obtain ⟨rfl, N1q, e1⟩ := hQ1
  have N1 := Fr.app N0 N1q
  obtain ⟨T2, X2, e2, st2⟩ := getS2 X1 hx hZ hown (host := "") (Or.inl (wk52 hw)) Via.refl e1 ((wd10 hW).ext O0.2) (g := (mkF m 76 #[.val (.ref (w 4))] [])) rfl (hb hby d3_76)
  obtain ⟨fs, hr, hrun, hended, hWm, hsame⟩ := X2.leave (v := some (.ref (w 5))) (fun h => by rw [Bd.returns] at h; cases h)
  refine ⟨_, _, pre0 _ ?_, hrun, hended, _, _, rfl, ?_, ⟨_, rfl⟩, hWm, hsame.mono (by decide) (by decide)⟩
  · show Steps p.tables e below (s₁.setTop (mkF m 0 #[.val (.ref (w 4))] [])) _
    refine sA X0 hx hby d3_0 rfl rfl ?_
    refine st1.trans ?_
    refine XS.tswIn X1.here hx rfl (pc0 := 4) (pc' := 76) (o := 72) rfl (hb hby d3_4) rfl (by decide) (by decide) (by decide) (by decide) ?_
    refine st2 _ ?_
    jvm_step X2.here [X2.here.top, hx, (hb hby d3_79), X2.method', Bd.returns, Value.isRef, FieldType.isReference]
    first | (intro acts; rw [hr _ acts rfl rfl rfl]) | rw [hr _ _ rfl rfl rfl]
    exact Steps.refl _
  · show Q3_41 Z w h0 n0 _ T2.heap _
    rw [e2]
    exact ⟨rfl, N1, rfl⟩
theorem d5_84 : decode prog_75_method_5_code 84 = .ok (.getstatic 10, 3) := by decide +kernel
theorem ef_5_42 (m : MethodId) (w : Nat → Addr) : entryFrame m #[(.ref (w 4))] 1 = mkF m 0 #[.val (.ref (w 4))] [] := by first | (simp [entryFrame, mkF, argsToLocals, Value.category]; done) | rfl
def Q5_42 (Z : State) (w : Nat → Addr) (h0 : Heap) (n0 : Nat) (v : Option Value) (h : Heap) (L : List Loc) : Prop := v = some (.ref (w 2)) ∧ Fr n0 L ∧ h = h0
set_option maxRecDepth 65536 in
set_option maxHeartbeats 40000000 in
theorem rm5_42 (l : Launch) (Z : State) (a0 : Array Value) (hw : ∀ d ∈ tables_1, d.before a0 Z = true) (w : Nat → Addr) (hW : Wd Z w) (ws : List Jvm.Cond) (h0 : Heap) (n0 : Nat) (O0 : Old Z n0 h0) :
    MetFree l ym5 (head1 (Jvm.Cond.code ym5 prog_75_method_5_code 1 (some (.object "com/example/gofyn/gofyn/typed/Term$Operator")) :: ws) ({ frames := 1, cells := 0, slots := 0, locals := 12 } : Room)) (fun a U => a = #[(.ref (w 4))] ∧ Z.Warmed39 U.vm ∧ U.heap = h0) (fun _ _ _ _ _ => True) (fun _ U o U' => ∃ v L, o = .returned v ∧ Q5_42 Z w h0 n0 v U'.heap L ∧ FrameEnd U o U' L ({ frames := 1, cells := 0, slots := 0, locals := 12 } : Room).cells ({ frames := 1, cells := 0, slots := 0, locals := 12 } : Room).slots) := by
  refine MetFree.of_bodySF (plainFor_of_name pnc_1) hisR ?_
  intro p e s m args below meth c s₁ Bd hml0 hP hK
  obtain ⟨rfl, hZ, hh⟩ := hP
  have hx := Bd.exec
  have hby := Bd.bytes
  have hml : c.maxLocals = 1 := hml0
  have hown : s.vm.findClass "com/example/gofyn/gofyn/typed/Term$Operator" = some m.cls := findClass_of_methodNamed Bd.named
  have hnm := (name_of_methodNamed Bd.named Bd.method).1
  have X0 : Stand p l e ({ frames := 1, cells := 0, slots := 0, locals := 12 } : Room) s m #[(.ref (w 4))] below meth c s₁ [] 0 0 := Stand.of_body Bd
  have e0 : s₁.heap = h0 := by rw [← hh, Bd.state]; rfl
  have N0 := Fr.nil n0
  skip
  have pre0 : ∀ t, Steps p.tables e below (s₁.setTop (mkF m 0 #[.val (.ref (w 4))] [])) t → Steps p.tables e below (s₁.setTop (entryFrame m #[(.ref (w 4))] 1)) t := fun t k => castTop (ef_5_42 m w) k
  obtain ⟨cq1, kq1, q1a, q1b, q1c⟩ := isOf hZ e0 ((wd9 hW).ext O0.2)
  obtain ⟨_, _, ⟨T1, L1, kk1, nn1⟩, -, X1, ⟨Lc1, hQ1, l1, y1, z1⟩, st1⟩ := X0.virtualBackUp hx (x := ym3) (y := ym2) hown (mvT hZ (wk19 hw)) (mvT hZ (wk20 hw)) (mvT hZ (wk21 hw)) (by decide) (mvT hZ (wk23 hw)) (mvT hZ (wk22 hw)) (backOf (W := 0) (rm4_40 l Z a0 hw w hW []  h0 n0 O0 ) hZ (wk25 hw) (wk24 hw) (by decide) (by decide)) q1a q1c (g := (mkF m 1 #[.val (.ref (w 4))] [(.ref (w 4))])) rfl (by rw [hml]; rfl) (Steps.refl _) (argsL := []) (rest := []) (lenOf pds_2 rfl) rfl (by show 2 * 0 + _ ≤ _; exact Nat.le_of_eq rfl) (hb hby d5_1) (fun _ _ => ⟨rfl, e0, (by decide : 0 + 0 ≤ _), (by decide : 0 + 0 ≤ _)⟩)
  dsimp only [Pt.U, Pt.locs, Pt.cells, Pt.slots] at X1 l1 y1 z1 st1 hQ1
  subst l1 y1 z1
  obtain ⟨rfl, N1q, e1⟩ := hQ1
  have N1 := Fr.app N0 N1q
  obtain ⟨T2, X2, e2, st2⟩ := getS2 X1 hx hZ hown (host := "") (Or.inl (wk54 hw)) Via.refl e1 ((wd4 hW).ext O0.2) (g := (mkF m 84 #[.val (.ref (w 4))] [])) rfl (hb hby d5_84)
  obtain ⟨fs, hr, hrun, hended, hWm, hsame⟩ := X2.leave (v := some (.ref (w 2))) (fun h => by rw [Bd.returns] at h; cases h)
  refine ⟨_, _, pre0 _ ?_, hrun, hended, _, _, rfl, ?_, ⟨_, rfl⟩, hWm, hsame.mono (by decide) (by decide)⟩
  · show Steps p.tables e below (s₁.setTop (mkF m 0 #[.val (.ref (w 4))] [])) _
    refine sA X0 hx hby d5_0 rfl rfl ?_
    refine st1.trans ?_
    refine XS.tswIn X1.here hx rfl (pc0 := 4) (pc' := 84) (o := 80) rfl (hb hby d5_4) rfl (by decide) (by decide) (by decide) (by decide) ?_
    refine st2 _ ?_
    jvm_step X2.here [X2.here.top, hx, (hb hby d5_87), X2.method', Bd.returns, Value.isRef, FieldType.isReference]
    first | (intro acts; rw [hr _ acts rfl rfl rfl]) | rw [hr _ _ rfl rfl rfl]
    exact Steps.refl _
  · show Q5_42 Z w h0 n0 _ T2.heap _
    rw [e2]
    exact ⟨rfl, N1, rfl⟩
theorem d6_118 : decode prog_75_method_7_code 118 = .ok (.iload_n 3, 1) := by decide +kernel
theorem d6_119 : decode prog_75_method_7_code 119 = .ok (.ifCond .lt 7, 3) := by decide +kernel
theorem d6_126 : decode prog_75_method_7_code 126 = .ok (.iconst 0, 1) := by decide +kernel
theorem ef_6_43 (m : MethodId) (w : Nat → Addr) (q1 : Int32) (q2 : Int32) : entryFrame m #[(.ref (w 4)), (.int q1), (.int q2)] 4 = mkF m 0 #[.val (.ref (w 4)), .val (.int q1), .val (.int q2), .unset] [] := by first | (simp [entryFrame, mkF, argsToLocals, Value.category]; done) | rfl
def Q6_43 (Z : State) (w : Nat → Addr) (q1 : Int32) (q2 : Int32) (h0 : Heap) (n0 : Nat) (v : Option Value) (h : Heap) (L : List Loc) : Prop := v = some (.int (0 : Int32)) ∧ Fr n0 L ∧ h = h0
set_option maxRecDepth 65536 in
set_option maxHeartbeats 40000000 in
theorem rm6_43 (l : Launch) (Z : State) (a0 : Array Value) (hw : ∀ d ∈ tables_1, d.before a0 Z = true) (w : Nat → Addr) (hW : Wd Z w) (ws : List Jvm.Cond) (q1 : Int32) (q2 : Int32) (h0 : Heap) (n0 : Nat) (O0 : Old Z n0 h0) (c1 : q1 < q2) :
    MetFree l ym7 (head1 (Jvm.Cond.code ym7 prog_75_method_7_code 4 (some .boolean) :: ws) ({ frames := 1, cells := 0, slots := 0, locals := 13 } : Room)) (fun a U => a = #[(.ref (w 4)), (.int q1), (.int q2)] ∧ Z.Warmed39 U.vm ∧ U.heap = h0) (fun _ _ _ _ _ => True) (fun _ U o U' => ∃ v L, o = .returned v ∧ Q6_43 Z w q1 q2 h0 n0 v U'.heap L ∧ FrameEnd U o U' L ({ frames := 1, cells := 0, slots := 0, locals := 13 } : Room).cells ({ frames := 1, cells := 0, slots := 0, locals := 13 } : Room).slots) := by
  refine MetFree.of_bodySF (plainFor_of_name pnc_1) hisR ?_
  intro p e s m args below meth c s₁ Bd hml0 hP hK
  obtain ⟨rfl, hZ, hh⟩ := hP
  have hx := Bd.exec
  have hby := Bd.bytes
  have hml : c.maxLocals = 4 := hml0
  have hown : s.vm.findClass "com/example/gofyn/gofyn/typed/Term$Operator" = some m.cls := findClass_of_methodNamed Bd.named
  have hnm := (name_of_methodNamed Bd.named Bd.method).1
  have X0 : Stand p l e ({ frames := 1, cells := 0, slots := 0, locals := 13 } : Room) s m #[(.ref (w 4)), (.int q1), (.int q2)] below meth c s₁ [] 0 0 := Stand.of_body Bd
  have e0 : s₁.heap = h0 := by rw [← hh, Bd.state]; rfl
  have N0 := Fr.nil n0
  let La : Array Slot := #[.val (.ref (w 4)), .val (.int q1), .val (.int q2), .unset]
  have pre0 : ∀ t, Steps p.tables e below (s₁.setTop (mkF m 0 #[.val (.ref (w 4)), .val (.int q1), .val (.int q2), .unset] [])) t → Steps p.tables e below (s₁.setTop (entryFrame m #[(.ref (w 4)), (.int q1), (.int q2)] 4)) t := fun t k => castTop (ef_6_43 m w q1 q2) k
  obtain ⟨_, _, ⟨T1, L1, kk1, nn1⟩, -, X1, ⟨Lc1, hQ1, l1, y1, z1⟩, st1⟩ := Jvm.LawKit.callS X0 hx (y := ym6) hown (mvT hZ (wk40 hw)) (mvT hZ (wk41 hw)) (mvT hZ (wk42 hw)) (mvT hZ (wk43 hw)) (by decide) (backOf (W := 0) (rm7_7 l Z a0 hw w hW [] q1 q2 h0 n0 O0 c1) hZ (wk43 hw) (wk42 hw) (by decide) (by decide)) (g := (mkF m 2 La [(.int q2), (.int q1)])) rfl (by rw [hml]; rfl) (argsL := [(.int q1), (.int q2)]) (rest := []) (lenOf pds_4 rfl) rfl (by show 2 * 0 + _ ≤ _; exact Nat.le_of_eq rfl) (hb hby d6_2) (fun _ _ => ⟨rfl, e0, (by decide : 0 + 0 ≤ _), (by decide : 0 + 0 ≤ _)⟩)
  dsimp only [Pt.U, Pt.locs, Pt.cells, Pt.slots] at X1 l1 y1 z1 st1 hQ1
  subst l1 y1 z1
  obtain ⟨rfl, N1q, e1⟩ := hQ1
  have N1 := Fr.app N0 N1q
  let Lb2 : Array Slot := #[.val (.ref (w 4)), .val (.int q1), .val (.int q2), .val (.int (-1 : Int32))]
  obtain ⟨cq3, kq3, q3a, q3b, q3c⟩ := isOf hZ e1 ((wd9 hW).ext O0.2)
  obtain ⟨_, _, ⟨T3, L3, kk3, nn3⟩, -, X3, ⟨Lc3, hQ3, l3, y3, z3⟩, st3⟩ := X1.virtualBackUp hx (x := ym3) (y := ym2) hown (mvT hZ (wk19 hw)) (mvT hZ (wk20 hw)) (mvT hZ (wk21 hw)) (by decide) (mvT hZ (wk23 hw)) (mvT hZ (wk22 hw)) (backOf (W := 0) (rm4_40 l Z a0 hw w hW []  h0 n0 O0 ) hZ (wk25 hw) (wk24 hw) (by decide) (by decide)) q3a q3c (g := (mkF m 7 Lb2 [(.ref (w 4))])) rfl (by rw [hml]; rfl) (Steps.refl _) (argsL := []) (rest := []) (lenOf pds_2 rfl) rfl (by show 2 * 0 + _ ≤ _; exact Nat.le_of_eq rfl) (hb hby d6_7) (fun _ _ => ⟨rfl, e1, (by decide : 0 + 0 ≤ _), (by decide : 0 + 0 ≤ _)⟩)
  dsimp only [Pt.U, Pt.locs, Pt.cells, Pt.slots] at X3 l3 y3 z3 st3 hQ3
  subst l3 y3 z3
  obtain ⟨rfl, N3q, e3⟩ := hQ3
  have N3 := Fr.app N1 N3q
  obtain ⟨fs, hr, hrun, hended, hWm, hsame⟩ := X3.leave (v := some (.int (0 : Int32))) (fun h => by rw [Bd.returns] at h; cases h)
  refine ⟨_, _, pre0 _ ?_, hrun, hended, _, _, rfl, ?_, ⟨_, rfl⟩, hWm, hsame.mono (by decide) (by decide)⟩
  · show Steps p.tables e below (s₁.setTop (mkF m 0 La [])) _
    refine sI X0 hx hby d6_0 rfl ?_
    refine sI X0 hx hby d6_1 rfl ?_
    refine st1 _ ?_
    refine XS.istoreN X1.here hx rfl (hb hby d6_5) rfl (l' := Lb2) rfl ?_
    refine sA X1 hx hby d6_6 rfl rfl ?_
    refine st3.trans ?_
    refine XS.tswIn X3.here hx rfl (pc0 := 10) (pc' := 118) (o := 108) rfl (hb hby d6_10) rfl (by decide) (by decide) (by decide) (by decide) ?_
    refine sI X3 hx hby d6_118 rfl ?_
    refine XS.ifYes X3.here hx rfl (pc0 := 119) (pc' := 126) rfl (hb hby d6_119) rfl (by decide) (by decide) (by decide) ?_
    refine sc X3 hx hby d6_126 ?_
    exact retN X3 hx (t := .boolean) Bd.returns (by simp) (hb hby d6_127) hr
  · show Q6_43 Z w q1 q2 h0 n0 _ T3.heap _
    rw [e3]
    exact ⟨rfl, N3, rfl⟩
theorem d6_122 : decode prog_75_method_7_code 122 = .ok (.iconst 1, 1) := by decide +kernel
theorem d6_123 : decode prog_75_method_7_code 123 = .ok (.goto 4, 3) := by decide +kernel
theorem ef_6_44 (m : MethodId) (w : Nat → Addr) (q1 : Int32) (q2 : Int32) : entryFrame m #[(.ref (w 4)), (.int q1), (.int q2)] 4 = mkF m 0 #[.val (.ref (w 4)), .val (.int q1), .val (.int q2), .unset] [] := by first | (simp [entryFrame, mkF, argsToLocals, Value.category]; done) | rfl
def Q6_44 (Z : State) (w : Nat → Addr) (q1 : Int32) (q2 : Int32) (h0 : Heap) (n0 : Nat) (v : Option Value) (h : Heap) (L : List Loc) : Prop := v = some (.int (1 : Int32)) ∧ Fr n0 L ∧ h = h0
set_option maxRecDepth 65536 in
set_option maxHeartbeats 40000000 in
theorem rm6_44 (l : Launch) (Z : State) (a0 : Array Value) (hw : ∀ d ∈ tables_1, d.before a0 Z = true) (w : Nat → Addr) (hW : Wd Z w) (ws : List Jvm.Cond) (q1 : Int32) (q2 : Int32) (h0 : Heap) (n0 : Nat) (O0 : Old Z n0 h0) (c1 : ¬ (q1 < q2)) (c2 : ¬ (q1 = q2)) :
    MetFree l ym7 (head1 (Jvm.Cond.code ym7 prog_75_method_7_code 4 (some .boolean) :: ws) ({ frames := 1, cells := 0, slots := 0, locals := 13 } : Room)) (fun a U => a = #[(.ref (w 4)), (.int q1), (.int q2)] ∧ Z.Warmed39 U.vm ∧ U.heap = h0) (fun _ _ _ _ _ => True) (fun _ U o U' => ∃ v L, o = .returned v ∧ Q6_44 Z w q1 q2 h0 n0 v U'.heap L ∧ FrameEnd U o U' L ({ frames := 1, cells := 0, slots := 0, locals := 13 } : Room).cells ({ frames := 1, cells := 0, slots := 0, locals := 13 } : Room).slots) := by
  refine MetFree.of_bodySF (plainFor_of_name pnc_1) hisR ?_
  intro p e s m args below meth c s₁ Bd hml0 hP hK
  obtain ⟨rfl, hZ, hh⟩ := hP
  have hx := Bd.exec
  have hby := Bd.bytes
  have hml : c.maxLocals = 4 := hml0
  have hown : s.vm.findClass "com/example/gofyn/gofyn/typed/Term$Operator" = some m.cls := findClass_of_methodNamed Bd.named
  have hnm := (name_of_methodNamed Bd.named Bd.method).1
  have X0 : Stand p l e ({ frames := 1, cells := 0, slots := 0, locals := 13 } : Room) s m #[(.ref (w 4)), (.int q1), (.int q2)] below meth c s₁ [] 0 0 := Stand.of_body Bd
  have e0 : s₁.heap = h0 := by rw [← hh, Bd.state]; rfl
  have N0 := Fr.nil n0
  let La : Array Slot := #[.val (.ref (w 4)), .val (.int q1), .val (.int q2), .unset]
  have pre0 : ∀ t, Steps p.tables e below (s₁.setTop (mkF m 0 #[.val (.ref (w 4)), .val (.int q1), .val (.int q2), .unset] [])) t → Steps p.tables e below (s₁.setTop (entryFrame m #[(.ref (w 4)), (.int q1), (.int q2)] 4)) t := fun t k => castTop (ef_6_44 m w q1 q2) k
  obtain ⟨_, _, ⟨T1, L1, kk1, nn1⟩, -, X1, ⟨Lc1, hQ1, l1, y1, z1⟩, st1⟩ := Jvm.LawKit.callS X0 hx (y := ym6) hown (mvT hZ (wk40 hw)) (mvT hZ (wk41 hw)) (mvT hZ (wk42 hw)) (mvT hZ (wk43 hw)) (by decide) (backOf (W := 0) (rm7_9 l Z a0 hw w hW [] q1 q2 h0 n0 O0 c1 c2) hZ (wk43 hw) (wk42 hw) (by decide) (by decide)) (g := (mkF m 2 La [(.int q2), (.int q1)])) rfl (by rw [hml]; rfl) (argsL := [(.int q1), (.int q2)]) (rest := []) (lenOf pds_4 rfl) rfl (by show 2 * 0 + _ ≤ _; exact Nat.le_of_eq rfl) (hb hby d6_2) (fun _ _ => ⟨rfl, e0, (by decide : 0 + 0 ≤ _), (by decide : 0 + 0 ≤ _)⟩)
  dsimp only [Pt.U, Pt.locs, Pt.cells, Pt.slots] at X1 l1 y1 z1 st1 hQ1
  subst l1 y1 z1
  obtain ⟨rfl, N1q, e1⟩ := hQ1
  have N1 := Fr.app N0 N1q
  let Lb2 : Array Slot := #[.val (.ref (w 4)), .val (.int q1), .val (.int q2), .val (.int (1 : Int32))]
  obtain ⟨cq3, kq3, q3a, q3b, q3c⟩ := isOf hZ e1 ((wd9 hW).ext O0.2)
  obtain ⟨_, _, ⟨T3, L3, kk3, nn3⟩, -, X3, ⟨Lc3, hQ3, l3, y3, z3⟩, st3⟩ := X1.virtualBackUp hx (x := ym3) (y := ym2) hown (mvT hZ (wk19 hw)) (mvT hZ (wk20 hw)) (mvT hZ (wk21 hw)) (by decide) (mvT hZ (wk23 hw)) (mvT hZ (wk22 hw)) (backOf (W := 0) (rm4_40 l Z a0 hw w hW []  h0 n0 O0 ) hZ (wk25 hw) (wk24 hw) (by decide) (by decide)) q3a q3c (g := (mkF m 7 Lb2 [(.ref (w 4))])) rfl (by rw [hml]; rfl) (Steps.refl _) (argsL := []) (rest := []) (lenOf pds_2 rfl) rfl (by show 2 * 0 + _ ≤ _; exact Nat.le_of_eq rfl) (hb hby d6_7) (fun _ _ => ⟨rfl, e1, (by decide : 0 + 0 ≤ _), (by decide : 0 + 0 ≤ _)⟩)
  dsimp only [Pt.U, Pt.locs, Pt.cells, Pt.slots] at X3 l3 y3 z3 st3 hQ3
  subst l3 y3 z3
  obtain ⟨rfl, N3q, e3⟩ := hQ3
  have N3 := Fr.app N1 N3q
  obtain ⟨fs, hr, hrun, hended, hWm, hsame⟩ := X3.leave (v := some (.int (1 : Int32))) (fun h => by rw [Bd.returns] at h; cases h)
  refine ⟨_, _, pre0 _ ?_, hrun, hended, _, _, rfl, ?_, ⟨_, rfl⟩, hWm, hsame.mono (by decide) (by decide)⟩
  · show Steps p.tables e below (s₁.setTop (mkF m 0 La [])) _
    refine sI X0 hx hby d6_0 rfl ?_
    refine sI X0 hx hby d6_1 rfl ?_
    refine st1 _ ?_
    refine XS.istoreN X1.here hx rfl (hb hby d6_5) rfl (l' := Lb2) rfl ?_
    refine sA X1 hx hby d6_6 rfl rfl ?_
    refine st3.trans ?_
    refine XS.tswIn X3.here hx rfl (pc0 := 10) (pc' := 118) (o := 108) rfl (hb hby d6_10) rfl (by decide) (by decide) (by decide) (by decide) ?_
    refine sI X3 hx hby d6_118 rfl ?_
    refine sN X3 hx hby d6_119 (by decide) ?_
    refine sc X3 hx hby d6_122 ?_
    refine sg (pc := 123) (pc' := 127) X3 hx hby d6_123 (by decide) (by decide) ?_
    show Steps p.tables e below (T3.setTop (mkF m 127 Lb2 [(.int (1 : Int32))])) _
    exact retN X3 hx (t := .boolean) Bd.returns (by simp) (hb hby d6_127) hr
  · show Q6_44 Z w q1 q2 h0 n0 _ T3.heap _
    rw [e3]
    exact ⟨rfl, N3, rfl⟩
theorem ef_0_45 (m : MethodId) (p0 : Int32) (p1 : Int32) (p2 : Int32) : entryFrame m #[(.int p0), (.int p1), (.int p2)] maxLocals = mkF m 0 #[.val (.int p0), .val (.int p1), .val (.int p2), .unset, .unset, .unset, .unset, .unset] [] := by first | (simp [entryFrame, mkF, argsToLocals, Value.category, maxLocals]; done) | rfl
def Q0 (n0 : Nat) (v : Option Value) (h : Heap) (L : List Loc) : Prop := v = some (.int (1 : Int32)) ∧ Fr n0 L
set_option maxRecDepth 65536 in
set_option maxHeartbeats 400000000 in
theorem rm0 (l : Launch) (Z : State) (a0 : Array Value) (hw : ∀ d ∈ tables_1, d.before a0 Z = true) (w : Nat → Addr) (hW : Wd Z w) (ws : List Jvm.Cond) (p0 : Int32) (p1 : Int32) (p2 : Int32) (h0 : Heap) (n0 : Nat) (O0 : Old Z n0 h0) :
    MetFree l x (head1 (Jvm.Cond.code x code maxLocals ret :: ws) room_1) (fun a U => a = #[(.int p0), (.int p1), (.int p2)] ∧ Z.Warmed39 U.vm ∧ U.heap = h0) (fun _ _ _ _ _ => True) (fun _ U o U' => ∃ v L, o = .returned v ∧ Q0 n0 v U'.heap L ∧ FrameEnd U o U' L room_1.cells room_1.slots) := by
  refine MetFree.of_bodySF (plainFor_of_name pnc_0) hisR ?_
  intro p e s m args below meth c s₁ Bd hml0 hP hK
  obtain ⟨rfl, hZ, hh⟩ := hP
  have hx := Bd.exec
  have hby := Bd.bytes
  have hml : c.maxLocals = 8 := hml0
  have hown : s.vm.findClass "com/example/gofyn/gofyn/typed/OperatorIsEqualityPinLaw" = some m.cls := findClass_of_methodNamed Bd.named
  have hnm := (name_of_methodNamed Bd.named Bd.method).1
  have X0 : Stand p l e room_1 s m #[(.int p0), (.int p1), (.int p2)] below meth c s₁ [] 0 0 := Stand.of_body Bd
  have e0 : s₁.heap = h0 := by rw [← hh, Bd.state]; rfl
  have N0 := Fr.nil n0
  let La : Array Slot := #[.val (.int p0), .val (.int p1), .val (.int p2), .unset, .unset, .unset, .unset, .unset]
  have pre0 : ∀ t, Steps p.tables e below (s₁.setTop (mkF m 0 #[.val (.int p0), .val (.int p1), .val (.int p2), .unset, .unset, .unset, .unset, .unset] [])) t → Steps p.tables e below (s₁.setTop (entryFrame m #[(.int p0), (.int p1), (.int p2)] maxLocals)) t := fun t k => castTop (ef_0_45 m p0 p1 p2) k
  let Lb1 : Array Slot := #[.val (.int p0), .val (.int p1), .val (.int p2), .val (.int ((p0 &&& (2147483647 : Int32)) % (6 : Int32))), .unset, .unset, .unset, .unset]
  have pre2 : ∀ t, Steps p.tables e below (s₁.setTop (mkF m 9 #[.val (.int p0), .val (.int p1), .val (.int p2), .val (.int ((p0 &&& (2147483647 : Int32)) % (6 : Int32))), .unset, .unset, .unset, .unset] [(.int ((p0 &&& (2147483647 : Int32)) % (6 : Int32)))])) t → Steps p.tables e below (s₁.setTop (entryFrame m #[(.int p0), (.int p1), (.int p2)] maxLocals)) t := fun t k => pre0 t (by
   show Steps p.tables e below (s₁.setTop (mkF m 0 La [])) _
   refine sI X0 hx hby at_0 rfl ?_
   refine X0.ldcInt hx hown (mvT hZ (wk0 hw)) (g := (mkF m 1 La [(.int p0)])) rfl (hb hby at_1) _ ?_
   refine XS.iand X0.here hx rfl (hb hby at_3) rfl ?_
   refine XS.bipush X0.here hx rfl (hb hby at_4) ?_
   refine iremM X0 hx rfl (hb hby at_6) rfl (by decide) ?_
   show Steps p.tables e below (s₁.setTop (mkF m 7 La [(.int ((p0 &&& (2147483647 : Int32)) % (6 : Int32)))])) _
   refine XS.istoreN X0.here hx rfl (hb hby at_7) rfl (l' := Lb1) rfl ?_
   refine sI X0 hx hby at_8 rfl ?_
   exact k)
  rcases (own_rem6 p0) with hs3 | hs3 | hs3 | hs3 | hs3 | hs3
  ·
   rw [hs3] at pre2
   let Lb4 : Array Slot := #[.val (.int p0), .val (.int p1), .val (.int p2), .val (.int (0 : Int32)), .unset, .unset, .unset, .unset]
   obtain ⟨_, _, ⟨T5, L5, kk5, nn5⟩, -, X5, ⟨Lc5, hQ5, l5, y5, z5⟩, st5⟩ := Jvm.LawKit.callS X0 hx (y := ym0) hown (mvT hZ (wk1 hw)) (mvT hZ (wk2 hw)) (mvT hZ (wk3 hw)) (mvT hZ (wk4 hw)) (by decide) (backOf (W := 0) (rm1_1 l Z a0 hw w hW []  h0 n0 O0 ) hZ (wk4 hw) (wk3 hw) (by decide) (by decide)) (g := (mkF m 9 Lb4 [(.int (0 : Int32))])) rfl (by rw [hml]; rfl) (argsL := [(.int (0 : Int32))]) (rest := []) (lenOf pds_0 rfl) rfl (by show 2 * 0 + _ ≤ _; exact Nat.le_of_eq rfl) (hb hby at_9) (fun _ _ => ⟨rfl, e0, (by decide : 0 + 0 ≤ _), (by decide : 0 + 0 ≤ _)⟩)
   dsimp only [Pt.U, Pt.locs, Pt.cells, Pt.slots] at X5 l5 y5 z5 st5 hQ5
   subst l5 y5 z5
   obtain ⟨rfl, N5q, e5⟩ := hQ5
   have N5 := Fr.app N0 N5q
   let Lb6 : Array Slot := #[.val (.int p0), .val (.int p1), .val (.int p2), .val (.int (0 : Int32)), .val (.ref (w 0)), .unset, .unset, .unset]
   obtain ⟨cq7, kq7, q7a, q7b, q7c⟩ := isOf hZ e5 ((wd1 hW).ext O0.2)
   obtain ⟨_, _, ⟨T7, L7, kk7, nn7⟩, -, X7, ⟨Lc7, hQ7, l7, y7, z7⟩, st7⟩ := X5.virtualBack hx (y := ym1) (z := ym1) hown (mvT hZ (wk8 hw)) (mvT hZ (wk9 hw)) (notFace_of_selects (args := #[]) (mvT hZ (wk11 hw))) (mvT hZ (wk11 hw)) (mvT hZ (wk10 hw)) (by decide) (backOf (W := 0) (rm2_2 l Z a0 hw w hW []  h0 n0 O0 ) hZ (wk12 hw) (wk6 hw) (by decide) (by decide)) q7a q7c (g := (mkF m 16 Lb6 [(.ref (w 0))])) rfl (by rw [hml]; rfl) (Steps.refl _) (argsL := []) (rest := []) (lenOf pds_1 rfl) rfl (by show 2 * 0 + _ ≤ _; exact Nat.le_of_eq rfl) (hb hby at_16) (fun _ _ => ⟨rfl, e5, (by decide : 0 + 0 ≤ _), (by decide : 0 + 0 ≤ _)⟩)
   dsimp only [Pt.U, Pt.locs, Pt.cells, Pt.slots] at X7 l7 y7 z7 st7 hQ7
   subst l7 y7 z7
   obtain ⟨rfl, N7q, e7⟩ := hQ7
   have N7 := Fr.app N5 N7q
   let Lb8 : Array Slot := #[.val (.int p0), .val (.int p1), .val (.int p2), .val (.int (0 : Int32)), .val (.ref (w 0)), .val (.int (1 : Int32)), .unset, .unset]
   let Lb9 : Array Slot := #[.val (.int p0), .val (.int p1), .val (.int p2), .val (.int (0 : Int32)), .val (.ref (w 0)), .val (.int (1 : Int32)), .val (.int (1 : Int32)), .unset]
   obtain ⟨cq10, kq10, q10a, q10b, q10c⟩ := isOf hZ e7 ((wd1 hW).ext O0.2)
   obtain ⟨_, _, ⟨T10, L10, kk10, nn10⟩, -, X10, ⟨Lc10, hQ10, l10, y10, z10⟩, st10⟩ := X7.virtualBack hx (y := ym4) (z := ym4) hown (mvT hZ (wk14 hw)) (mvT hZ (wk15 hw)) (notFace_of_selects (args := #[]) (mvT hZ (wk17 hw))) (mvT hZ (wk17 hw)) (mvT hZ (wk16 hw)) (by decide) (backOf (W := 0) (rm3_4 l Z a0 hw w hW []  h0 n0 O0 ) hZ (wk18 hw) (wk6 hw) (by decide) (by decide)) q10a q10c (g := (mkF m 48 Lb9 [(.ref (w 0))])) rfl (by rw [hml]; rfl) (Steps.refl _) (argsL := []) (rest := []) (lenOf pds_3 rfl) rfl (by show 2 * 0 + _ ≤ _; exact Nat.le_of_eq rfl) (hb hby at_48) (fun _ _ => ⟨rfl, e7, (by decide : 0 + 0 ≤ _), (by decide : 0 + 0 ≤ _)⟩)
   dsimp only [Pt.U, Pt.locs, Pt.cells, Pt.slots] at X10 l10 y10 z10 st10 hQ10
   subst l10 y10 z10
   obtain ⟨rfl, N10q, e10⟩ := hQ10
   have N10 := Fr.app N7 N10q
   obtain ⟨cq11, kq11, q11a, q11b, q11c⟩ := isOf hZ e10 ((wd1 hW).ext O0.2)
   obtain ⟨_, _, ⟨T11, L11, kk11, nn11⟩, -, X11, ⟨Lc11, hQ11, l11, y11, z11⟩, st11⟩ := X10.virtualBack hx (y := ym5) (z := ym5) hown (mvT hZ (wk28 hw)) (mvT hZ (wk29 hw)) (notFace_of_selects (args := #[]) (mvT hZ (wk31 hw))) (mvT hZ (wk31 hw)) (mvT hZ (wk30 hw)) (by decide) (backOf (W := 0) (rm5_5 l Z a0 hw w hW []  h0 n0 O0 ) hZ (wk32 hw) (wk6 hw) (by decide) (by decide)) q11a q11c (g := (mkF m 70 Lb9 [(.ref (w 0))])) rfl (by rw [hml]; rfl) (Steps.refl _) (argsL := []) (rest := []) (lenOf pds_3 rfl) rfl (by show 2 * 0 + _ ≤ _; exact Nat.le_of_eq rfl) (hb hby at_70) (fun _ _ => ⟨rfl, e10, (by decide : 0 + 0 ≤ _), (by decide : 0 + 0 ≤ _)⟩)
   dsimp only [Pt.U, Pt.locs, Pt.cells, Pt.slots] at X11 l11 y11 z11 st11 hQ11
   subst l11 y11 z11
   obtain ⟨rfl, N11q, e11⟩ := hQ11
   have N11 := Fr.app N10 N11q
   obtain ⟨cq12, kq12, q12a, q12b, q12c⟩ := isOf hZ e11 ((wd3 hW).ext O0.2)
   obtain ⟨_, _, ⟨T12, L12, kk12, nn12⟩, -, X12, ⟨Lc12, hQ12, l12, y12, z12⟩, st12⟩ := X11.virtualBack hx (y := ym1) (z := ym1) hown (mvT hZ (wk8 hw)) (mvT hZ (wk9 hw)) (notFace_of_selects (args := #[]) (mvT hZ (wk11 hw))) (mvT hZ (wk11 hw)) (mvT hZ (wk10 hw)) (by decide) (backOf (W := 0) (rm2_6 l Z a0 hw w hW []  h0 n0 O0 ) hZ (wk12 hw) (wk6 hw) (by decide) (by decide)) q12a q12c (g := (mkF m 73 Lb9 [(.ref (w 1))])) rfl (by rw [hml]; rfl) (Steps.refl _) (argsL := []) (rest := []) (lenOf pds_1 rfl) rfl (by show 2 * 0 + _ ≤ _; exact Nat.le_of_eq rfl) (hb hby at_73) (fun _ _ => ⟨rfl, e11, (by decide : 0 + 0 ≤ _), (by decide : 0 + 0 ≤ _)⟩)
   dsimp only [Pt.U, Pt.locs, Pt.cells, Pt.slots] at X12 l12 y12 z12 st12 hQ12
   subst l12 y12 z12
   obtain ⟨rfl, N12q, e12⟩ := hQ12
   have N12 := Fr.app N11 N12q
   have pre13 : ∀ t, Steps p.tables e below (T12.setTop (mkF m 85 Lb9 [(.int p2), (.int p1)])) t → Steps p.tables e below (s₁.setTop (entryFrame m #[(.int p0), (.int p1), (.int p2)] maxLocals)) t := fun t k => pre2 t (by
    show Steps p.tables e below (s₁.setTop (mkF m 9 Lb4 [(.int (0 : Int32))])) _
    refine st5 _ ?_
    refine XS.astore X5.here hx rfl (hb hby at_12) rfl rfl (l' := Lb6) rfl ?_
    refine sa X5 hx hby at_14 rfl rfl ?_
    refine st7.trans ?_
    refine XS.istore X7.here hx rfl (hb hby at_19) rfl (l' := Lb8) rfl ?_
    refine sI X7 hx hby at_21 rfl ?_
    refine XS.ifYes X7.here hx rfl (pc0 := 22) (pc' := 30) rfl (hb hby at_22) rfl (by decide) (by decide) (by decide) ?_
    refine sc X7 hx hby at_30 ?_
    refine sg (pc := 31) (pc' := 35) X7 hx hby at_31 (by decide) (by decide) ?_
    show Steps p.tables e below (T7.setTop (mkF m 35 Lb8 [(.int (1 : Int32))])) _
    refine XS.istore X7.here hx rfl (hb hby at_35) rfl (l' := Lb9) rfl ?_
    refine si X7 hx hby at_37 rfl ?_
    refine si X7 hx hby at_39 rfl ?_
    refine XS.icmpYes X7.here hx rfl (pc0 := 41) (pc' := 46) rfl (hb hby at_41) rfl (by decide) (by decide) (by decide) ?_
    refine sa X7 hx hby at_46 rfl rfl ?_
    show Steps p.tables e below (T7.setTop (mkF m 48 Lb9 [(.ref (w 0))])) _
    refine st10.trans ?_
    refine sa X10 hx hby at_51 rfl rfl ?_
    refine Jvm.RoadKit.acmp (g := (mkF m 53 Lb9 [(.ref (w 0)), (.ref (w 0))])) X10 hx rfl rfl rfl (pc0 := 53) (pc' := 56) (same := true) rfl (hb hby at_53) rfl (decide_eq_true rfl) (by decide) (by decide) ?_
    refine sc X10 hx hby at_56 ?_
    refine sg (pc := 57) (pc' := 61) X10 hx hby at_57 (by decide) (by decide) ?_
    refine si X10 hx hby at_61 rfl ?_
    show Steps p.tables e below (T10.setTop (mkF m 63 Lb9 [(.int (1 : Int32)), (.int (1 : Int32))])) _
    refine XS.icmpYes X10.here hx rfl (pc0 := 63) (pc' := 68) rfl (hb hby at_63) rfl (by decide) (by decide) (by decide) ?_
    refine sa X10 hx hby at_68 rfl rfl ?_
    refine st11.trans ?_
    refine st12.trans ?_
    refine si X12 hx hby at_76 rfl ?_
    refine XS.icmpYes X12.here hx rfl (pc0 := 78) (pc' := 83) rfl (hb hby at_78) rfl (by decide) (by decide) (by decide) ?_
    refine sI X12 hx hby at_83 rfl ?_
    refine sI X12 hx hby at_84 rfl ?_
    exact k)
   by_cases hc14 : p1 = p2
   ·
    obtain ⟨fs, hr, hrun, hended, hWm, hsame⟩ := X12.leave (v := some (.int (1 : Int32))) (fun h => by rw [Bd.returns] at h; cases h)
    refine ⟨_, _, pre13 _ ?_, hrun, hended, _, _, rfl, ?_, ⟨_, rfl⟩, hWm, hsame.mono (by decide) (by decide)⟩
    · show Steps p.tables e below (T12.setTop (mkF m 85 Lb9 [(.int p2), (.int p1)])) _
      refine XS.icmpYes X12.here hx rfl (pc0 := 85) (pc' := 121) rfl (hb hby at_85) rfl (teq (hc14 : p1 = p2)).1 (by decide) (by decide) ?_
      refine sc X12 hx hby at_121 ?_
      exact retN X12 hx (t := .boolean) Bd.returns (by simp) (hb hby at_122) hr
    · show Q0 n0 _ T12.heap _
      rw [e12]
      exact ⟨rfl, N12⟩
   ·
    have pre15 : ∀ t, Steps p.tables e below (T12.setTop (mkF m 92 Lb9 [(.int p2), (.int p1), (.ref (w 0))])) t → Steps p.tables e below (s₁.setTop (entryFrame m #[(.int p0), (.int p1), (.int p2)] maxLocals)) t := fun t k => pre13 t (by
     show Steps p.tables e below (T12.setTop (mkF m 85 Lb9 [(.int p2), (.int p1)])) _
     refine sn X12 hx hby at_85 (feq (hc14 : ¬ (p1 = p2))).1 ?_
     refine sa X12 hx hby at_88 rfl rfl ?_
     refine sI X12 hx hby at_90 rfl ?_
     refine sI X12 hx hby at_91 rfl ?_
     exact k)
    by_cases hc16 : p1 < p2
    ·
     obtain ⟨cq17, kq17, q17a, q17b, q17c⟩ := isOf hZ e12 ((wd1 hW).ext O0.2)
     obtain ⟨_, _, ⟨T17, L17, kk17, nn17⟩, -, X17, ⟨Lc17, hQ17, l17, y17, z17⟩, st17⟩ := X12.virtualBack hx (y := ym7) (z := ym7) hown (mvT hZ (wk35 hw)) (mvT hZ (wk36 hw)) (notFace_of_selects (args := #[]) (mvT hZ (wk38 hw))) (mvT hZ (wk38 hw)) (mvT hZ (wk37 hw)) (by decide) (backOf (W := 0) (rm6_8 l Z a0 hw w hW [] p1 p2 h0 n0 O0 hc16) hZ (wk39 hw) (wk6 hw) (by decide) (by decide)) q17a q17c (g := (mkF m 92 Lb9 [(.int p2), (.int p1), (.ref (w 0))])) rfl (by rw [hml]; rfl) (Steps.refl _) (argsL := [(.int p1), (.int p2)]) (rest := []) (lenOf pds_5 rfl) rfl (by show 2 * 0 + _ ≤ _; exact Nat.le_of_eq rfl) (hb hby at_92) (fun _ _ => ⟨rfl, e12, (by decide : 0 + 0 ≤ _), (by decide : 0 + 0 ≤ _)⟩)
     dsimp only [Pt.U, Pt.locs, Pt.cells, Pt.slots] at X17 l17 y17 z17 st17 hQ17
     subst l17 y17 z17
     obtain ⟨rfl, N17q, e17⟩ := hQ17
     have N17 := Fr.app N12 N17q
     have pre18 : ∀ t, Steps p.tables e below (T17.setTop (mkF m 99 Lb9 [(.int p1), (.int p2), (.ref (w 0)), (.int (0 : Int32))])) t → Steps p.tables e below (s₁.setTop (entryFrame m #[(.int p0), (.int p1), (.int p2)] maxLocals)) t := fun t k => pre15 t (by
      show Steps p.tables e below (T12.setTop (mkF m 92 Lb9 [(.int p2), (.int p1), (.ref (w 0))])) _
      refine st17.trans ?_
      refine sa X17 hx hby at_95 rfl rfl ?_
      refine sI X17 hx hby at_97 rfl ?_
      refine sI X17 hx hby at_98 rfl ?_
      exact k)
     by_cases hc19 : p2 < p1
     ·
      exfalso
      have z3 : (p1).toInt ≠ (p2).toInt := fun q => hc14 (Int32.toInt_inj.mp q)
      have z4 := Int32.lt_iff_toInt_lt.mp hc16
      have z5 := Int32.lt_iff_toInt_lt.mp hc19
      have z1 := rng32 p1
      have z2 := rng32 p2
      omega
     ·
      obtain ⟨cq20, kq20, q20a, q20b, q20c⟩ := isOf hZ e17 ((wd1 hW).ext O0.2)
      obtain ⟨_, _, ⟨T20, L20, kk20, nn20⟩, -, X20, ⟨Lc20, hQ20, l20, y20, z20⟩, st20⟩ := X17.virtualBack hx (y := ym7) (z := ym7) hown (mvT hZ (wk35 hw)) (mvT hZ (wk36 hw)) (notFace_of_selects (args := #[]) (mvT hZ (wk38 hw))) (mvT hZ (wk38 hw)) (mvT hZ (wk37 hw)) (by decide) (backOf (W := 1) (rm6_10 l Z a0 hw w hW [] p2 p1 h0 n0 O0 hc19 (fun q => hc14 (Eq.symm q))) hZ (wk39 hw) (wk6 hw) (by decide) (by decide)) q20a q20c (g := (mkF m 99 Lb9 [(.int p1), (.int p2), (.ref (w 0)), (.int (0 : Int32))])) rfl (by rw [hml]; rfl) (Steps.refl _) (argsL := [(.int p2), (.int p1)]) (rest := [(.int (0 : Int32))]) (lenOf pds_5 rfl) rfl (by show 2 * 0 + _ ≤ _; exact Nat.le_of_eq rfl) (hb hby at_99) (fun _ _ => ⟨rfl, e17, (by decide : 0 + 0 ≤ _), (by decide : 0 + 0 ≤ _)⟩)
      dsimp only [Pt.U, Pt.locs, Pt.cells, Pt.slots] at X20 l20 y20 z20 st20 hQ20
      subst l20 y20 z20
      obtain ⟨rfl, N20q, e20⟩ := hQ20
      have N20 := Fr.app N17 N20q
      let Lb21 : Array Slot := #[.val (.int p0), .val (.int p1), .val (.int p2), .val (.int (0 : Int32)), .val (.ref (w 0)), .val (.int (1 : Int32)), .val (.int (1 : Int32)), .val (.int (1 : Int32))]
      obtain ⟨fs, hr, hrun, hended, hWm, hsame⟩ := X20.leave (v := some (.int (1 : Int32))) (fun h => by rw [Bd.returns] at h; cases h)
      refine ⟨_, _, pre18 _ ?_, hrun, hended, _, _, rfl, ?_, ⟨_, rfl⟩, hWm, hsame.mono (by decide) (by decide)⟩
      · show Steps p.tables e below (T17.setTop (mkF m 99 Lb9 [(.int p1), (.int p2), (.ref (w 0)), (.int (0 : Int32))])) _
        refine st20.trans ?_
        refine sn X20 hx hby at_102 (by decide) ?_
        refine sc X20 hx hby at_105 ?_
        refine sg (pc := 106) (pc' := 110) X20 hx hby at_106 (by decide) (by decide) ?_
        refine XS.istore X20.here hx rfl (hb hby at_110) rfl (l' := Lb21) rfl ?_
        refine si X20 hx hby at_112 rfl ?_
        show Steps p.tables e below (T20.setTop (mkF m 114 Lb21 [(.int (1 : Int32))])) _
        refine si X20 hx hby at_114 rfl ?_
        refine XS.icmpYes X20.here hx rfl (pc0 := 116) (pc' := 121) rfl (hb hby at_116) rfl (by decide) (by decide) (by decide) ?_
        refine sc X20 hx hby at_121 ?_
        exact retN X20 hx (t := .boolean) Bd.returns (by simp) (hb hby at_122) hr
      · show Q0 n0 _ T20.heap _
        rw [e20]
        exact ⟨rfl, N20⟩
    ·
     obtain ⟨cq22, kq22, q22a, q22b, q22c⟩ := isOf hZ e12 ((wd1 hW).ext O0.2)
     obtain ⟨_, _, ⟨T22, L22, kk22, nn22⟩, -, X22, ⟨Lc22, hQ22, l22, y22, z22⟩, st22⟩ := X12.virtualBack hx (y := ym7) (z := ym7) hown (mvT hZ (wk35 hw)) (mvT hZ (wk36 hw)) (notFace_of_selects (args := #[]) (mvT hZ (wk38 hw))) (mvT hZ (wk38 hw)) (mvT hZ (wk37 hw)) (by decide) (backOf (W := 0) (rm6_10 l Z a0 hw w hW [] p1 p2 h0 n0 O0 hc16 hc14) hZ (wk39 hw) (wk6 hw) (by decide) (by decide)) q22a q22c (g := (mkF m 92 Lb9 [(.int p2), (.int p1), (.ref (w 0))])) rfl (by rw [hml]; rfl) (Steps.refl _) (argsL := [(.int p1), (.int p2)]) (rest := []) (lenOf pds_5 rfl) rfl (by show 2 * 0 + _ ≤ _; exact Nat.le_of_eq rfl) (hb hby at_92) (fun _ _ => ⟨rfl, e12, (by decide : 0 + 0 ≤ _), (by decide : 0 + 0 ≤ _)⟩)
     dsimp only [Pt.U, Pt.locs, Pt.cells, Pt.slots] at X22 l22 y22 z22 st22 hQ22
     subst l22 y22 z22
     obtain ⟨rfl, N22q, e22⟩ := hQ22
     have N22 := Fr.app N12 N22q
     have pre23 : ∀ t, Steps p.tables e below (T22.setTop (mkF m 99 Lb9 [(.int p1), (.int p2), (.ref (w 0)), (.int (0 : Int32))])) t → Steps p.tables e below (s₁.setTop (entryFrame m #[(.int p0), (.int p1), (.int p2)] maxLocals)) t := fun t k => pre15 t (by
      show Steps p.tables e below (T12.setTop (mkF m 92 Lb9 [(.int p2), (.int p1), (.ref (w 0))])) _
      refine st22.trans ?_
      refine sa X22 hx hby at_95 rfl rfl ?_
      refine sI X22 hx hby at_97 rfl ?_
      refine sI X22 hx hby at_98 rfl ?_
      exact k)
     by_cases hc24 : p2 < p1
     ·
      obtain ⟨cq25, kq25, q25a, q25b, q25c⟩ := isOf hZ e22 ((wd1 hW).ext O0.2)
      obtain ⟨_, _, ⟨T25, L25, kk25, nn25⟩, -, X25, ⟨Lc25, hQ25, l25, y25, z25⟩, st25⟩ := X22.virtualBack hx (y := ym7) (z := ym7) hown (mvT hZ (wk35 hw)) (mvT hZ (wk36 hw)) (notFace_of_selects (args := #[]) (mvT hZ (wk38 hw))) (mvT hZ (wk38 hw)) (mvT hZ (wk37 hw)) (by decide) (backOf (W := 1) (rm6_8 l Z a0 hw w hW [] p2 p1 h0 n0 O0 hc24) hZ (wk39 hw) (wk6 hw) (by decide) (by decide)) q25a q25c (g := (mkF m 99 Lb9 [(.int p1), (.int p2), (.ref (w 0)), (.int (0 : Int32))])) rfl (by rw [hml]; rfl) (Steps.refl _) (argsL := [(.int p2), (.int p1)]) (rest := [(.int (0 : Int32))]) (lenOf pds_5 rfl) rfl (by show 2 * 0 + _ ≤ _; exact Nat.le_of_eq rfl) (hb hby at_99) (fun _ _ => ⟨rfl, e22, (by decide : 0 + 0 ≤ _), (by decide : 0 + 0 ≤ _)⟩)
      dsimp only [Pt.U, Pt.locs, Pt.cells, Pt.slots] at X25 l25 y25 z25 st25 hQ25
      subst l25 y25 z25
      obtain ⟨rfl, N25q, e25⟩ := hQ25
      have N25 := Fr.app N22 N25q
      let Lb26 : Array Slot := #[.val (.int p0), .val (.int p1), .val (.int p2), .val (.int (0 : Int32)), .val (.ref (w 0)), .val (.int (1 : Int32)), .val (.int (1 : Int32)), .val (.int (1 : Int32))]
      obtain ⟨fs, hr, hrun, hended, hWm, hsame⟩ := X25.leave (v := some (.int (1 : Int32))) (fun h => by rw [Bd.returns] at h; cases h)
      refine ⟨_, _, pre23 _ ?_, hrun, hended, _, _, rfl, ?_, ⟨_, rfl⟩, hWm, hsame.mono (by decide) (by decide)⟩
      · show Steps p.tables e below (T22.setTop (mkF m 99 Lb9 [(.int p1), (.int p2), (.ref (w 0)), (.int (0 : Int32))])) _
        refine st25.trans ?_
        refine sn X25 hx hby at_102 (by decide) ?_
        refine sc X25 hx hby at_105 ?_
        refine sg (pc := 106) (pc' := 110) X25 hx hby at_106 (by decide) (by decide) ?_
        refine XS.istore X25.here hx rfl (hb hby at_110) rfl (l' := Lb26) rfl ?_
        refine si X25 hx hby at_112 rfl ?_
        show Steps p.tables e below (T25.setTop (mkF m 114 Lb26 [(.int (1 : Int32))])) _
        refine si X25 hx hby at_114 rfl ?_
        refine XS.icmpYes X25.here hx rfl (pc0 := 116) (pc' := 121) rfl (hb hby at_116) rfl (by decide) (by decide) (by decide) ?_
        refine sc X25 hx hby at_121 ?_
        exact retN X25 hx (t := .boolean) Bd.returns (by simp) (hb hby at_122) hr
      · show Q0 n0 _ T25.heap _
        rw [e25]
        exact ⟨rfl, N25⟩
     ·
      exfalso
      have z3 : (p1).toInt ≠ (p2).toInt := fun q => hc14 (Int32.toInt_inj.mp q)
      have z4 := Int32.le_iff_toInt_le.mp (Int32.not_lt.mp hc16)
      have z5 := Int32.le_iff_toInt_le.mp (Int32.not_lt.mp hc24)
      have z1 := rng32 p1
      have z2 := rng32 p2
      omega
  ·
   rw [hs3] at pre2
   let Lb27 : Array Slot := #[.val (.int p0), .val (.int p1), .val (.int p2), .val (.int (1 : Int32)), .unset, .unset, .unset, .unset]
   obtain ⟨_, _, ⟨T28, L28, kk28, nn28⟩, -, X28, ⟨Lc28, hQ28, l28, y28, z28⟩, st28⟩ := Jvm.LawKit.callS X0 hx (y := ym0) hown (mvT hZ (wk1 hw)) (mvT hZ (wk2 hw)) (mvT hZ (wk3 hw)) (mvT hZ (wk4 hw)) (by decide) (backOf (W := 0) (rm1_11 l Z a0 hw w hW []  h0 n0 O0 ) hZ (wk4 hw) (wk3 hw) (by decide) (by decide)) (g := (mkF m 9 Lb27 [(.int (1 : Int32))])) rfl (by rw [hml]; rfl) (argsL := [(.int (1 : Int32))]) (rest := []) (lenOf pds_0 rfl) rfl (by show 2 * 0 + _ ≤ _; exact Nat.le_of_eq rfl) (hb hby at_9) (fun _ _ => ⟨rfl, e0, (by decide : 0 + 0 ≤ _), (by decide : 0 + 0 ≤ _)⟩)
   dsimp only [Pt.U, Pt.locs, Pt.cells, Pt.slots] at X28 l28 y28 z28 st28 hQ28
   subst l28 y28 z28
   obtain ⟨rfl, N28q, e28⟩ := hQ28
   have N28 := Fr.app N0 N28q
   let Lb29 : Array Slot := #[.val (.int p0), .val (.int p1), .val (.int p2), .val (.int (1 : Int32)), .val (.ref (w 1)), .unset, .unset, .unset]
   obtain ⟨cq30, kq30, q30a, q30b, q30c⟩ := isOf hZ e28 ((wd3 hW).ext O0.2)
   obtain ⟨_, _, ⟨T30, L30, kk30, nn30⟩, -, X30, ⟨Lc30, hQ30, l30, y30, z30⟩, st30⟩ := X28.virtualBack hx (y := ym1) (z := ym1) hown (mvT hZ (wk8 hw)) (mvT hZ (wk9 hw)) (notFace_of_selects (args := #[]) (mvT hZ (wk11 hw))) (mvT hZ (wk11 hw)) (mvT hZ (wk10 hw)) (by decide) (backOf (W := 0) (rm2_6 l Z a0 hw w hW []  h0 n0 O0 ) hZ (wk12 hw) (wk6 hw) (by decide) (by decide)) q30a q30c (g := (mkF m 16 Lb29 [(.ref (w 1))])) rfl (by rw [hml]; rfl) (Steps.refl _) (argsL := []) (rest := []) (lenOf pds_1 rfl) rfl (by show 2 * 0 + _ ≤ _; exact Nat.le_of_eq rfl) (hb hby at_16) (fun _ _ => ⟨rfl, e28, (by decide : 0 + 0 ≤ _), (by decide : 0 + 0 ≤ _)⟩)
   dsimp only [Pt.U, Pt.locs, Pt.cells, Pt.slots] at X30 l30 y30 z30 st30 hQ30
   subst l30 y30 z30
   obtain ⟨rfl, N30q, e30⟩ := hQ30
   have N30 := Fr.app N28 N30q
   let Lb31 : Array Slot := #[.val (.int p0), .val (.int p1), .val (.int p2), .val (.int (1 : Int32)), .val (.ref (w 1)), .val (.int (1 : Int32)), .unset, .unset]
   let Lb32 : Array Slot := #[.val (.int p0), .val (.int p1), .val (.int p2), .val (.int (1 : Int32)), .val (.ref (w 1)), .val (.int (1 : Int32)), .val (.int (1 : Int32)), .unset]
   obtain ⟨cq33, kq33, q33a, q33b, q33c⟩ := isOf hZ e30 ((wd3 hW).ext O0.2)
   obtain ⟨_, _, ⟨T33, L33, kk33, nn33⟩, -, X33, ⟨Lc33, hQ33, l33, y33, z33⟩, st33⟩ := X30.virtualBack hx (y := ym4) (z := ym4) hown (mvT hZ (wk14 hw)) (mvT hZ (wk15 hw)) (notFace_of_selects (args := #[]) (mvT hZ (wk17 hw))) (mvT hZ (wk17 hw)) (mvT hZ (wk16 hw)) (by decide) (backOf (W := 0) (rm3_13 l Z a0 hw w hW []  h0 n0 O0 ) hZ (wk18 hw) (wk6 hw) (by decide) (by decide)) q33a q33c (g := (mkF m 48 Lb32 [(.ref (w 1))])) rfl (by rw [hml]; rfl) (Steps.refl _) (argsL := []) (rest := []) (lenOf pds_3 rfl) rfl (by show 2 * 0 + _ ≤ _; exact Nat.le_of_eq rfl) (hb hby at_48) (fun _ _ => ⟨rfl, e30, (by decide : 0 + 0 ≤ _), (by decide : 0 + 0 ≤ _)⟩)
   dsimp only [Pt.U, Pt.locs, Pt.cells, Pt.slots] at X33 l33 y33 z33 st33 hQ33
   subst l33 y33 z33
   obtain ⟨rfl, N33q, e33⟩ := hQ33
   have N33 := Fr.app N30 N33q
   obtain ⟨cq34, kq34, q34a, q34b, q34c⟩ := isOf hZ e33 ((wd3 hW).ext O0.2)
   obtain ⟨_, _, ⟨T34, L34, kk34, nn34⟩, -, X34, ⟨Lc34, hQ34, l34, y34, z34⟩, st34⟩ := X33.virtualBack hx (y := ym5) (z := ym5) hown (mvT hZ (wk28 hw)) (mvT hZ (wk29 hw)) (notFace_of_selects (args := #[]) (mvT hZ (wk31 hw))) (mvT hZ (wk31 hw)) (mvT hZ (wk30 hw)) (by decide) (backOf (W := 0) (rm5_14 l Z a0 hw w hW []  h0 n0 O0 ) hZ (wk32 hw) (wk6 hw) (by decide) (by decide)) q34a q34c (g := (mkF m 70 Lb32 [(.ref (w 1))])) rfl (by rw [hml]; rfl) (Steps.refl _) (argsL := []) (rest := []) (lenOf pds_3 rfl) rfl (by show 2 * 0 + _ ≤ _; exact Nat.le_of_eq rfl) (hb hby at_70) (fun _ _ => ⟨rfl, e33, (by decide : 0 + 0 ≤ _), (by decide : 0 + 0 ≤ _)⟩)
   dsimp only [Pt.U, Pt.locs, Pt.cells, Pt.slots] at X34 l34 y34 z34 st34 hQ34
   subst l34 y34 z34
   obtain ⟨rfl, N34q, e34⟩ := hQ34
   have N34 := Fr.app N33 N34q
   obtain ⟨cq35, kq35, q35a, q35b, q35c⟩ := isOf hZ e34 ((wd1 hW).ext O0.2)
   obtain ⟨_, _, ⟨T35, L35, kk35, nn35⟩, -, X35, ⟨Lc35, hQ35, l35, y35, z35⟩, st35⟩ := X34.virtualBack hx (y := ym1) (z := ym1) hown (mvT hZ (wk8 hw)) (mvT hZ (wk9 hw)) (notFace_of_selects (args := #[]) (mvT hZ (wk11 hw))) (mvT hZ (wk11 hw)) (mvT hZ (wk10 hw)) (by decide) (backOf (W := 0) (rm2_2 l Z a0 hw w hW []  h0 n0 O0 ) hZ (wk12 hw) (wk6 hw) (by decide) (by decide)) q35a q35c (g := (mkF m 73 Lb32 [(.ref (w 0))])) rfl (by rw [hml]; rfl) (Steps.refl _) (argsL := []) (rest := []) (lenOf pds_1 rfl) rfl (by show 2 * 0 + _ ≤ _; exact Nat.le_of_eq rfl) (hb hby at_73) (fun _ _ => ⟨rfl, e34, (by decide : 0 + 0 ≤ _), (by decide : 0 + 0 ≤ _)⟩)
   dsimp only [Pt.U, Pt.locs, Pt.cells, Pt.slots] at X35 l35 y35 z35 st35 hQ35
   subst l35 y35 z35
   obtain ⟨rfl, N35q, e35⟩ := hQ35
   have N35 := Fr.app N34 N35q
   have pre36 : ∀ t, Steps p.tables e below (T35.setTop (mkF m 85 Lb32 [(.int p2), (.int p1)])) t → Steps p.tables e below (s₁.setTop (entryFrame m #[(.int p0), (.int p1), (.int p2)] maxLocals)) t := fun t k => pre2 t (by
    show Steps p.tables e below (s₁.setTop (mkF m 9 Lb27 [(.int (1 : Int32))])) _
    refine st28 _ ?_
    refine XS.astore X28.here hx rfl (hb hby at_12) rfl rfl (l' := Lb29) rfl ?_
    refine sa X28 hx hby at_14 rfl rfl ?_
    refine st30.trans ?_
    refine XS.istore X30.here hx rfl (hb hby at_19) rfl (l' := Lb31) rfl ?_
    refine sI X30 hx hby at_21 rfl ?_
    refine sN X30 hx hby at_22 (by decide) ?_
    refine sI X30 hx hby at_25 rfl ?_
    refine sc X30 hx hby at_26 ?_
    show Steps p.tables e below (T30.setTop (mkF m 27 Lb31 [(.int (1 : Int32)), (.int (1 : Int32))])) _
    refine sn X30 hx hby at_27 (by decide) ?_
    refine sc X30 hx hby at_30 ?_
    refine sg (pc := 31) (pc' := 35) X30 hx hby at_31 (by decide) (by decide) ?_
    refine XS.istore X30.here hx rfl (hb hby at_35) rfl (l' := Lb32) rfl ?_
    refine si X30 hx hby at_37 rfl ?_
    show Steps p.tables e below (T30.setTop (mkF m 39 Lb32 [(.int (1 : Int32))])) _
    refine si X30 hx hby at_39 rfl ?_
    refine XS.icmpYes X30.here hx rfl (pc0 := 41) (pc' := 46) rfl (hb hby at_41) rfl (by decide) (by decide) (by decide) ?_
    refine sa X30 hx hby at_46 rfl rfl ?_
    refine st33.trans ?_
    refine sa X33 hx hby at_51 rfl rfl ?_
    refine Jvm.RoadKit.acmp (g := (mkF m 53 Lb32 [(.ref (w 1)), (.ref (w 1))])) X33 hx rfl rfl rfl (pc0 := 53) (pc' := 56) (same := true) rfl (hb hby at_53) rfl (decide_eq_true rfl) (by decide) (by decide) ?_
    refine sc X33 hx hby at_56 ?_
    refine sg (pc := 57) (pc' := 61) X33 hx hby at_57 (by decide) (by decide) ?_
    refine si X33 hx hby at_61 rfl ?_
    show Steps p.tables e below (T33.setTop (mkF m 63 Lb32 [(.int (1 : Int32)), (.int (1 : Int32))])) _
    refine XS.icmpYes X33.here hx rfl (pc0 := 63) (pc' := 68) rfl (hb hby at_63) rfl (by decide) (by decide) (by decide) ?_
    refine sa X33 hx hby at_68 rfl rfl ?_
    refine st34.trans ?_
    refine st35.trans ?_
    refine si X35 hx hby at_76 rfl ?_
    refine XS.icmpYes X35.here hx rfl (pc0 := 78) (pc' := 83) rfl (hb hby at_78) rfl (by decide) (by decide) (by decide) ?_
    refine sI X35 hx hby at_83 rfl ?_
    refine sI X35 hx hby at_84 rfl ?_
    exact k)
   by_cases hc37 : p1 = p2
   ·
    obtain ⟨fs, hr, hrun, hended, hWm, hsame⟩ := X35.leave (v := some (.int (1 : Int32))) (fun h => by rw [Bd.returns] at h; cases h)
    refine ⟨_, _, pre36 _ ?_, hrun, hended, _, _, rfl, ?_, ⟨_, rfl⟩, hWm, hsame.mono (by decide) (by decide)⟩
    · show Steps p.tables e below (T35.setTop (mkF m 85 Lb32 [(.int p2), (.int p1)])) _
      refine XS.icmpYes X35.here hx rfl (pc0 := 85) (pc' := 121) rfl (hb hby at_85) rfl (teq (hc37 : p1 = p2)).1 (by decide) (by decide) ?_
      refine sc X35 hx hby at_121 ?_
      exact retN X35 hx (t := .boolean) Bd.returns (by simp) (hb hby at_122) hr
    · show Q0 n0 _ T35.heap _
      rw [e35]
      exact ⟨rfl, N35⟩
   ·
    have pre38 : ∀ t, Steps p.tables e below (T35.setTop (mkF m 92 Lb32 [(.int p2), (.int p1), (.ref (w 1))])) t → Steps p.tables e below (s₁.setTop (entryFrame m #[(.int p0), (.int p1), (.int p2)] maxLocals)) t := fun t k => pre36 t (by
     show Steps p.tables e below (T35.setTop (mkF m 85 Lb32 [(.int p2), (.int p1)])) _
     refine sn X35 hx hby at_85 (feq (hc37 : ¬ (p1 = p2))).1 ?_
     refine sa X35 hx hby at_88 rfl rfl ?_
     refine sI X35 hx hby at_90 rfl ?_
     refine sI X35 hx hby at_91 rfl ?_
     exact k)
    by_cases hc39 : p1 < p2
    ·
     obtain ⟨cq40, kq40, q40a, q40b, q40c⟩ := isOf hZ e35 ((wd3 hW).ext O0.2)
     obtain ⟨_, _, ⟨T40, L40, kk40, nn40⟩, -, X40, ⟨Lc40, hQ40, l40, y40, z40⟩, st40⟩ := X35.virtualBack hx (y := ym7) (z := ym7) hown (mvT hZ (wk35 hw)) (mvT hZ (wk36 hw)) (notFace_of_selects (args := #[]) (mvT hZ (wk38 hw))) (mvT hZ (wk38 hw)) (mvT hZ (wk37 hw)) (by decide) (backOf (W := 0) (rm6_15 l Z a0 hw w hW [] p1 p2 h0 n0 O0 hc39) hZ (wk39 hw) (wk6 hw) (by decide) (by decide)) q40a q40c (g := (mkF m 92 Lb32 [(.int p2), (.int p1), (.ref (w 1))])) rfl (by rw [hml]; rfl) (Steps.refl _) (argsL := [(.int p1), (.int p2)]) (rest := []) (lenOf pds_5 rfl) rfl (by show 2 * 0 + _ ≤ _; exact Nat.le_of_eq rfl) (hb hby at_92) (fun _ _ => ⟨rfl, e35, (by decide : 0 + 0 ≤ _), (by decide : 0 + 0 ≤ _)⟩)
     dsimp only [Pt.U, Pt.locs, Pt.cells, Pt.slots] at X40 l40 y40 z40 st40 hQ40
     subst l40 y40 z40
     obtain ⟨rfl, N40q, e40⟩ := hQ40
     have N40 := Fr.app N35 N40q
     have pre41 : ∀ t, Steps p.tables e below (T40.setTop (mkF m 99 Lb32 [(.int p1), (.int p2), (.ref (w 1)), (.int (1 : Int32))])) t → Steps p.tables e below (s₁.setTop (entryFrame m #[(.int p0), (.int p1), (.int p2)] maxLocals)) t := fun t k => pre38 t (by
      show Steps p.tables e below (T35.setTop (mkF m 92 Lb32 [(.int p2), (.int p1), (.ref (w 1))])) _
      refine st40.trans ?_
      refine sa X40 hx hby at_95 rfl rfl ?_
      refine sI X40 hx hby at_97 rfl ?_
      refine sI X40 hx hby at_98 rfl ?_
      exact k)
     by_cases hc42 : p2 < p1
     ·
      exfalso
      have z3 : (p1).toInt ≠ (p2).toInt := fun q => hc37 (Int32.toInt_inj.mp q)
      have z4 := Int32.lt_iff_toInt_lt.mp hc39
      have z5 := Int32.lt_iff_toInt_lt.mp hc42
      have z1 := rng32 p1
      have z2 := rng32 p2
      omega
     ·
      obtain ⟨cq43, kq43, q43a, q43b, q43c⟩ := isOf hZ e40 ((wd3 hW).ext O0.2)
      obtain ⟨_, _, ⟨T43, L43, kk43, nn43⟩, -, X43, ⟨Lc43, hQ43, l43, y43, z43⟩, st43⟩ := X40.virtualBack hx (y := ym7) (z := ym7) hown (mvT hZ (wk35 hw)) (mvT hZ (wk36 hw)) (notFace_of_selects (args := #[]) (mvT hZ (wk38 hw))) (mvT hZ (wk38 hw)) (mvT hZ (wk37 hw)) (by decide) (backOf (W := 1) (rm6_16 l Z a0 hw w hW [] p2 p1 h0 n0 O0 hc42 (fun q => hc37 (Eq.symm q))) hZ (wk39 hw) (wk6 hw) (by decide) (by decide)) q43a q43c (g := (mkF m 99 Lb32 [(.int p1), (.int p2), (.ref (w 1)), (.int (1 : Int32))])) rfl (by rw [hml]; rfl) (Steps.refl _) (argsL := [(.int p2), (.int p1)]) (rest := [(.int (1 : Int32))]) (lenOf pds_5 rfl) rfl (by show 2 * 0 + _ ≤ _; exact Nat.le_of_eq rfl) (hb hby at_99) (fun _ _ => ⟨rfl, e40, (by decide : 0 + 0 ≤ _), (by decide : 0 + 0 ≤ _)⟩)
      dsimp only [Pt.U, Pt.locs, Pt.cells, Pt.slots] at X43 l43 y43 z43 st43 hQ43
      subst l43 y43 z43
      obtain ⟨rfl, N43q, e43⟩ := hQ43
      have N43 := Fr.app N40 N43q
      let Lb44 : Array Slot := #[.val (.int p0), .val (.int p1), .val (.int p2), .val (.int (1 : Int32)), .val (.ref (w 1)), .val (.int (1 : Int32)), .val (.int (1 : Int32)), .val (.int (1 : Int32))]
      obtain ⟨fs, hr, hrun, hended, hWm, hsame⟩ := X43.leave (v := some (.int (1 : Int32))) (fun h => by rw [Bd.returns] at h; cases h)
      refine ⟨_, _, pre41 _ ?_, hrun, hended, _, _, rfl, ?_, ⟨_, rfl⟩, hWm, hsame.mono (by decide) (by decide)⟩
      · show Steps p.tables e below (T40.setTop (mkF m 99 Lb32 [(.int p1), (.int p2), (.ref (w 1)), (.int (1 : Int32))])) _
        refine st43.trans ?_
        refine sn X43 hx hby at_102 (by decide) ?_
        refine sc X43 hx hby at_105 ?_
        refine sg (pc := 106) (pc' := 110) X43 hx hby at_106 (by decide) (by decide) ?_
        refine XS.istore X43.here hx rfl (hb hby at_110) rfl (l' := Lb44) rfl ?_
        refine si X43 hx hby at_112 rfl ?_
        show Steps p.tables e below (T43.setTop (mkF m 114 Lb44 [(.int (1 : Int32))])) _
        refine si X43 hx hby at_114 rfl ?_
        refine XS.icmpYes X43.here hx rfl (pc0 := 116) (pc' := 121) rfl (hb hby at_116) rfl (by decide) (by decide) (by decide) ?_
        refine sc X43 hx hby at_121 ?_
        exact retN X43 hx (t := .boolean) Bd.returns (by simp) (hb hby at_122) hr
      · show Q0 n0 _ T43.heap _
        rw [e43]
        exact ⟨rfl, N43⟩
    ·
     obtain ⟨cq45, kq45, q45a, q45b, q45c⟩ := isOf hZ e35 ((wd3 hW).ext O0.2)
     obtain ⟨_, _, ⟨T45, L45, kk45, nn45⟩, -, X45, ⟨Lc45, hQ45, l45, y45, z45⟩, st45⟩ := X35.virtualBack hx (y := ym7) (z := ym7) hown (mvT hZ (wk35 hw)) (mvT hZ (wk36 hw)) (notFace_of_selects (args := #[]) (mvT hZ (wk38 hw))) (mvT hZ (wk38 hw)) (mvT hZ (wk37 hw)) (by decide) (backOf (W := 0) (rm6_16 l Z a0 hw w hW [] p1 p2 h0 n0 O0 hc39 hc37) hZ (wk39 hw) (wk6 hw) (by decide) (by decide)) q45a q45c (g := (mkF m 92 Lb32 [(.int p2), (.int p1), (.ref (w 1))])) rfl (by rw [hml]; rfl) (Steps.refl _) (argsL := [(.int p1), (.int p2)]) (rest := []) (lenOf pds_5 rfl) rfl (by show 2 * 0 + _ ≤ _; exact Nat.le_of_eq rfl) (hb hby at_92) (fun _ _ => ⟨rfl, e35, (by decide : 0 + 0 ≤ _), (by decide : 0 + 0 ≤ _)⟩)
     dsimp only [Pt.U, Pt.locs, Pt.cells, Pt.slots] at X45 l45 y45 z45 st45 hQ45
     subst l45 y45 z45
     obtain ⟨rfl, N45q, e45⟩ := hQ45
     have N45 := Fr.app N35 N45q
     have pre46 : ∀ t, Steps p.tables e below (T45.setTop (mkF m 99 Lb32 [(.int p1), (.int p2), (.ref (w 1)), (.int (1 : Int32))])) t → Steps p.tables e below (s₁.setTop (entryFrame m #[(.int p0), (.int p1), (.int p2)] maxLocals)) t := fun t k => pre38 t (by
      show Steps p.tables e below (T35.setTop (mkF m 92 Lb32 [(.int p2), (.int p1), (.ref (w 1))])) _
      refine st45.trans ?_
      refine sa X45 hx hby at_95 rfl rfl ?_
      refine sI X45 hx hby at_97 rfl ?_
      refine sI X45 hx hby at_98 rfl ?_
      exact k)
     by_cases hc47 : p2 < p1
     ·
      obtain ⟨cq48, kq48, q48a, q48b, q48c⟩ := isOf hZ e45 ((wd3 hW).ext O0.2)
      obtain ⟨_, _, ⟨T48, L48, kk48, nn48⟩, -, X48, ⟨Lc48, hQ48, l48, y48, z48⟩, st48⟩ := X45.virtualBack hx (y := ym7) (z := ym7) hown (mvT hZ (wk35 hw)) (mvT hZ (wk36 hw)) (notFace_of_selects (args := #[]) (mvT hZ (wk38 hw))) (mvT hZ (wk38 hw)) (mvT hZ (wk37 hw)) (by decide) (backOf (W := 1) (rm6_15 l Z a0 hw w hW [] p2 p1 h0 n0 O0 hc47) hZ (wk39 hw) (wk6 hw) (by decide) (by decide)) q48a q48c (g := (mkF m 99 Lb32 [(.int p1), (.int p2), (.ref (w 1)), (.int (1 : Int32))])) rfl (by rw [hml]; rfl) (Steps.refl _) (argsL := [(.int p2), (.int p1)]) (rest := [(.int (1 : Int32))]) (lenOf pds_5 rfl) rfl (by show 2 * 0 + _ ≤ _; exact Nat.le_of_eq rfl) (hb hby at_99) (fun _ _ => ⟨rfl, e45, (by decide : 0 + 0 ≤ _), (by decide : 0 + 0 ≤ _)⟩)
      dsimp only [Pt.U, Pt.locs, Pt.cells, Pt.slots] at X48 l48 y48 z48 st48 hQ48
      subst l48 y48 z48
      obtain ⟨rfl, N48q, e48⟩ := hQ48
      have N48 := Fr.app N45 N48q
      let Lb49 : Array Slot := #[.val (.int p0), .val (.int p1), .val (.int p2), .val (.int (1 : Int32)), .val (.ref (w 1)), .val (.int (1 : Int32)), .val (.int (1 : Int32)), .val (.int (1 : Int32))]
      obtain ⟨fs, hr, hrun, hended, hWm, hsame⟩ := X48.leave (v := some (.int (1 : Int32))) (fun h => by rw [Bd.returns] at h; cases h)
      refine ⟨_, _, pre46 _ ?_, hrun, hended, _, _, rfl, ?_, ⟨_, rfl⟩, hWm, hsame.mono (by decide) (by decide)⟩
      · show Steps p.tables e below (T45.setTop (mkF m 99 Lb32 [(.int p1), (.int p2), (.ref (w 1)), (.int (1 : Int32))])) _
        refine st48.trans ?_
        refine sn X48 hx hby at_102 (by decide) ?_
        refine sc X48 hx hby at_105 ?_
        refine sg (pc := 106) (pc' := 110) X48 hx hby at_106 (by decide) (by decide) ?_
        refine XS.istore X48.here hx rfl (hb hby at_110) rfl (l' := Lb49) rfl ?_
        refine si X48 hx hby at_112 rfl ?_
        show Steps p.tables e below (T48.setTop (mkF m 114 Lb49 [(.int (1 : Int32))])) _
        refine si X48 hx hby at_114 rfl ?_
        refine XS.icmpYes X48.here hx rfl (pc0 := 116) (pc' := 121) rfl (hb hby at_116) rfl (by decide) (by decide) (by decide) ?_
        refine sc X48 hx hby at_121 ?_
        exact retN X48 hx (t := .boolean) Bd.returns (by simp) (hb hby at_122) hr
      · show Q0 n0 _ T48.heap _
        rw [e48]
        exact ⟨rfl, N48⟩
     ·
      exfalso
      have z3 : (p1).toInt ≠ (p2).toInt := fun q => hc37 (Int32.toInt_inj.mp q)
      have z4 := Int32.le_iff_toInt_le.mp (Int32.not_lt.mp hc39)
      have z5 := Int32.le_iff_toInt_le.mp (Int32.not_lt.mp hc47)
      have z1 := rng32 p1
      have z2 := rng32 p2
      omega
  ·
   rw [hs3] at pre2
   let Lb50 : Array Slot := #[.val (.int p0), .val (.int p1), .val (.int p2), .val (.int (2 : Int32)), .unset, .unset, .unset, .unset]
   obtain ⟨_, _, ⟨T51, L51, kk51, nn51⟩, -, X51, ⟨Lc51, hQ51, l51, y51, z51⟩, st51⟩ := Jvm.LawKit.callS X0 hx (y := ym0) hown (mvT hZ (wk1 hw)) (mvT hZ (wk2 hw)) (mvT hZ (wk3 hw)) (mvT hZ (wk4 hw)) (by decide) (backOf (W := 0) (rm1_17 l Z a0 hw w hW []  h0 n0 O0 ) hZ (wk4 hw) (wk3 hw) (by decide) (by decide)) (g := (mkF m 9 Lb50 [(.int (2 : Int32))])) rfl (by rw [hml]; rfl) (argsL := [(.int (2 : Int32))]) (rest := []) (lenOf pds_0 rfl) rfl (by show 2 * 0 + _ ≤ _; exact Nat.le_of_eq rfl) (hb hby at_9) (fun _ _ => ⟨rfl, e0, (by decide : 0 + 0 ≤ _), (by decide : 0 + 0 ≤ _)⟩)
   dsimp only [Pt.U, Pt.locs, Pt.cells, Pt.slots] at X51 l51 y51 z51 st51 hQ51
   subst l51 y51 z51
   obtain ⟨rfl, N51q, e51⟩ := hQ51
   have N51 := Fr.app N0 N51q
   let Lb52 : Array Slot := #[.val (.int p0), .val (.int p1), .val (.int p2), .val (.int (2 : Int32)), .val (.ref (w 2)), .unset, .unset, .unset]
   obtain ⟨cq53, kq53, q53a, q53b, q53c⟩ := isOf hZ e51 ((wd5 hW).ext O0.2)
   obtain ⟨_, _, ⟨T53, L53, kk53, nn53⟩, -, X53, ⟨Lc53, hQ53, l53, y53, z53⟩, st53⟩ := X51.virtualBack hx (y := ym1) (z := ym1) hown (mvT hZ (wk8 hw)) (mvT hZ (wk9 hw)) (notFace_of_selects (args := #[]) (mvT hZ (wk11 hw))) (mvT hZ (wk11 hw)) (mvT hZ (wk10 hw)) (by decide) (backOf (W := 0) (rm2_18 l Z a0 hw w hW []  h0 n0 O0 ) hZ (wk12 hw) (wk6 hw) (by decide) (by decide)) q53a q53c (g := (mkF m 16 Lb52 [(.ref (w 2))])) rfl (by rw [hml]; rfl) (Steps.refl _) (argsL := []) (rest := []) (lenOf pds_1 rfl) rfl (by show 2 * 0 + _ ≤ _; exact Nat.le_of_eq rfl) (hb hby at_16) (fun _ _ => ⟨rfl, e51, (by decide : 0 + 0 ≤ _), (by decide : 0 + 0 ≤ _)⟩)
   dsimp only [Pt.U, Pt.locs, Pt.cells, Pt.slots] at X53 l53 y53 z53 st53 hQ53
   subst l53 y53 z53
   obtain ⟨rfl, N53q, e53⟩ := hQ53
   have N53 := Fr.app N51 N53q
   let Lb54 : Array Slot := #[.val (.int p0), .val (.int p1), .val (.int p2), .val (.int (2 : Int32)), .val (.ref (w 2)), .val (.int (0 : Int32)), .unset, .unset]
   let Lb55 : Array Slot := #[.val (.int p0), .val (.int p1), .val (.int p2), .val (.int (2 : Int32)), .val (.ref (w 2)), .val (.int (0 : Int32)), .val (.int (0 : Int32)), .unset]
   obtain ⟨cq56, kq56, q56a, q56b, q56c⟩ := isOf hZ e53 ((wd5 hW).ext O0.2)
   obtain ⟨_, _, ⟨T56, L56, kk56, nn56⟩, -, X56, ⟨Lc56, hQ56, l56, y56, z56⟩, st56⟩ := X53.virtualBack hx (y := ym4) (z := ym4) hown (mvT hZ (wk14 hw)) (mvT hZ (wk15 hw)) (notFace_of_selects (args := #[]) (mvT hZ (wk17 hw))) (mvT hZ (wk17 hw)) (mvT hZ (wk16 hw)) (by decide) (backOf (W := 0) (rm3_20 l Z a0 hw w hW []  h0 n0 O0 ) hZ (wk18 hw) (wk6 hw) (by decide) (by decide)) q56a q56c (g := (mkF m 48 Lb55 [(.ref (w 2))])) rfl (by rw [hml]; rfl) (Steps.refl _) (argsL := []) (rest := []) (lenOf pds_3 rfl) rfl (by show 2 * 0 + _ ≤ _; exact Nat.le_of_eq rfl) (hb hby at_48) (fun _ _ => ⟨rfl, e53, (by decide : 0 + 0 ≤ _), (by decide : 0 + 0 ≤ _)⟩)
   dsimp only [Pt.U, Pt.locs, Pt.cells, Pt.slots] at X56 l56 y56 z56 st56 hQ56
   subst l56 y56 z56
   obtain ⟨rfl, N56q, e56⟩ := hQ56
   have N56 := Fr.app N53 N56q
   obtain ⟨cq57, kq57, q57a, q57b, q57c⟩ := isOf hZ e56 ((wd5 hW).ext O0.2)
   obtain ⟨_, _, ⟨T57, L57, kk57, nn57⟩, -, X57, ⟨Lc57, hQ57, l57, y57, z57⟩, st57⟩ := X56.virtualBack hx (y := ym5) (z := ym5) hown (mvT hZ (wk28 hw)) (mvT hZ (wk29 hw)) (notFace_of_selects (args := #[]) (mvT hZ (wk31 hw))) (mvT hZ (wk31 hw)) (mvT hZ (wk30 hw)) (by decide) (backOf (W := 0) (rm5_21 l Z a0 hw w hW []  h0 n0 O0 ) hZ (wk32 hw) (wk6 hw) (by decide) (by decide)) q57a q57c (g := (mkF m 70 Lb55 [(.ref (w 2))])) rfl (by rw [hml]; rfl) (Steps.refl _) (argsL := []) (rest := []) (lenOf pds_3 rfl) rfl (by show 2 * 0 + _ ≤ _; exact Nat.le_of_eq rfl) (hb hby at_70) (fun _ _ => ⟨rfl, e56, (by decide : 0 + 0 ≤ _), (by decide : 0 + 0 ≤ _)⟩)
   dsimp only [Pt.U, Pt.locs, Pt.cells, Pt.slots] at X57 l57 y57 z57 st57 hQ57
   subst l57 y57 z57
   obtain ⟨rfl, N57q, e57⟩ := hQ57
   have N57 := Fr.app N56 N57q
   obtain ⟨cq58, kq58, q58a, q58b, q58c⟩ := isOf hZ e57 ((wd9 hW).ext O0.2)
   obtain ⟨_, _, ⟨T58, L58, kk58, nn58⟩, -, X58, ⟨Lc58, hQ58, l58, y58, z58⟩, st58⟩ := X57.virtualBack hx (y := ym1) (z := ym1) hown (mvT hZ (wk8 hw)) (mvT hZ (wk9 hw)) (notFace_of_selects (args := #[]) (mvT hZ (wk11 hw))) (mvT hZ (wk11 hw)) (mvT hZ (wk10 hw)) (by decide) (backOf (W := 0) (rm2_22 l Z a0 hw w hW []  h0 n0 O0 ) hZ (wk12 hw) (wk6 hw) (by decide) (by decide)) q58a q58c (g := (mkF m 73 Lb55 [(.ref (w 4))])) rfl (by rw [hml]; rfl) (Steps.refl _) (argsL := []) (rest := []) (lenOf pds_1 rfl) rfl (by show 2 * 0 + _ ≤ _; exact Nat.le_of_eq rfl) (hb hby at_73) (fun _ _ => ⟨rfl, e57, (by decide : 0 + 0 ≤ _), (by decide : 0 + 0 ≤ _)⟩)
   dsimp only [Pt.U, Pt.locs, Pt.cells, Pt.slots] at X58 l58 y58 z58 st58 hQ58
   subst l58 y58 z58
   obtain ⟨rfl, N58q, e58⟩ := hQ58
   have N58 := Fr.app N57 N58q
   have pre59 : ∀ t, Steps p.tables e below (T58.setTop (mkF m 85 Lb55 [(.int p2), (.int p1)])) t → Steps p.tables e below (s₁.setTop (entryFrame m #[(.int p0), (.int p1), (.int p2)] maxLocals)) t := fun t k => pre2 t (by
    show Steps p.tables e below (s₁.setTop (mkF m 9 Lb50 [(.int (2 : Int32))])) _
    refine st51 _ ?_
    refine XS.astore X51.here hx rfl (hb hby at_12) rfl rfl (l' := Lb52) rfl ?_
    refine sa X51 hx hby at_14 rfl rfl ?_
    refine st53.trans ?_
    refine XS.istore X53.here hx rfl (hb hby at_19) rfl (l' := Lb54) rfl ?_
    refine sI X53 hx hby at_21 rfl ?_
    refine sN X53 hx hby at_22 (by decide) ?_
    refine sI X53 hx hby at_25 rfl ?_
    refine sc X53 hx hby at_26 ?_
    show Steps p.tables e below (T53.setTop (mkF m 27 Lb54 [(.int (1 : Int32)), (.int (2 : Int32))])) _
    refine XS.icmpYes X53.here hx rfl (pc0 := 27) (pc' := 34) rfl (hb hby at_27) rfl (by decide) (by decide) (by decide) ?_
    refine sc X53 hx hby at_34 ?_
    refine XS.istore X53.here hx rfl (hb hby at_35) rfl (l' := Lb55) rfl ?_
    refine si X53 hx hby at_37 rfl ?_
    refine si X53 hx hby at_39 rfl ?_
    show Steps p.tables e below (T53.setTop (mkF m 41 Lb55 [(.int (0 : Int32)), (.int (0 : Int32))])) _
    refine XS.icmpYes X53.here hx rfl (pc0 := 41) (pc' := 46) rfl (hb hby at_41) rfl (by decide) (by decide) (by decide) ?_
    refine sa X53 hx hby at_46 rfl rfl ?_
    refine st56.trans ?_
    refine sa X56 hx hby at_51 rfl rfl ?_
    refine Jvm.RoadKit.acmp (g := (mkF m 53 Lb55 [(.ref (w 2)), (.ref (w 3))])) X56 hx rfl rfl rfl (pc0 := 53) (pc' := 60) (same := false) rfl (hb hby at_53) rfl (decide_eq_false fun q => (Fld.ne (wd15 hW) (wd14 hW) (by decide)) (Value.ref.inj q)) (by decide) (by decide) ?_
    refine sc X56 hx hby at_60 ?_
    refine si X56 hx hby at_61 rfl ?_
    refine XS.icmpYes X56.here hx rfl (pc0 := 63) (pc' := 68) rfl (hb hby at_63) rfl (by decide) (by decide) (by decide) ?_
    show Steps p.tables e below (T56.setTop (mkF m 68 Lb55 [])) _
    refine sa X56 hx hby at_68 rfl rfl ?_
    refine st57.trans ?_
    refine st58.trans ?_
    refine si X58 hx hby at_76 rfl ?_
    refine XS.icmpYes X58.here hx rfl (pc0 := 78) (pc' := 83) rfl (hb hby at_78) rfl (by decide) (by decide) (by decide) ?_
    refine sI X58 hx hby at_83 rfl ?_
    refine sI X58 hx hby at_84 rfl ?_
    exact k)
   by_cases hc60 : p1 = p2
   ·
    obtain ⟨fs, hr, hrun, hended, hWm, hsame⟩ := X58.leave (v := some (.int (1 : Int32))) (fun h => by rw [Bd.returns] at h; cases h)
    refine ⟨_, _, pre59 _ ?_, hrun, hended, _, _, rfl, ?_, ⟨_, rfl⟩, hWm, hsame.mono (by decide) (by decide)⟩
    · show Steps p.tables e below (T58.setTop (mkF m 85 Lb55 [(.int p2), (.int p1)])) _
      refine XS.icmpYes X58.here hx rfl (pc0 := 85) (pc' := 121) rfl (hb hby at_85) rfl (teq (hc60 : p1 = p2)).1 (by decide) (by decide) ?_
      refine sc X58 hx hby at_121 ?_
      exact retN X58 hx (t := .boolean) Bd.returns (by simp) (hb hby at_122) hr
    · show Q0 n0 _ T58.heap _
      rw [e58]
      exact ⟨rfl, N58⟩
   ·
    have pre61 : ∀ t, Steps p.tables e below (T58.setTop (mkF m 92 Lb55 [(.int p2), (.int p1), (.ref (w 2))])) t → Steps p.tables e below (s₁.setTop (entryFrame m #[(.int p0), (.int p1), (.int p2)] maxLocals)) t := fun t k => pre59 t (by
     show Steps p.tables e below (T58.setTop (mkF m 85 Lb55 [(.int p2), (.int p1)])) _
     refine sn X58 hx hby at_85 (feq (hc60 : ¬ (p1 = p2))).1 ?_
     refine sa X58 hx hby at_88 rfl rfl ?_
     refine sI X58 hx hby at_90 rfl ?_
     refine sI X58 hx hby at_91 rfl ?_
     exact k)
    by_cases hc62 : p1 < p2
    ·
     obtain ⟨cq63, kq63, q63a, q63b, q63c⟩ := isOf hZ e58 ((wd5 hW).ext O0.2)
     obtain ⟨_, _, ⟨T63, L63, kk63, nn63⟩, -, X63, ⟨Lc63, hQ63, l63, y63, z63⟩, st63⟩ := X58.virtualBack hx (y := ym7) (z := ym7) hown (mvT hZ (wk35 hw)) (mvT hZ (wk36 hw)) (notFace_of_selects (args := #[]) (mvT hZ (wk38 hw))) (mvT hZ (wk38 hw)) (mvT hZ (wk37 hw)) (by decide) (backOf (W := 0) (rm6_23 l Z a0 hw w hW [] p1 p2 h0 n0 O0 hc62) hZ (wk39 hw) (wk6 hw) (by decide) (by decide)) q63a q63c (g := (mkF m 92 Lb55 [(.int p2), (.int p1), (.ref (w 2))])) rfl (by rw [hml]; rfl) (Steps.refl _) (argsL := [(.int p1), (.int p2)]) (rest := []) (lenOf pds_5 rfl) rfl (by show 2 * 0 + _ ≤ _; exact Nat.le_of_eq rfl) (hb hby at_92) (fun _ _ => ⟨rfl, e58, (by decide : 0 + 0 ≤ _), (by decide : 0 + 0 ≤ _)⟩)
     dsimp only [Pt.U, Pt.locs, Pt.cells, Pt.slots] at X63 l63 y63 z63 st63 hQ63
     subst l63 y63 z63
     obtain ⟨rfl, N63q, e63⟩ := hQ63
     have N63 := Fr.app N58 N63q
     have pre64 : ∀ t, Steps p.tables e below (T63.setTop (mkF m 99 Lb55 [(.int p1), (.int p2), (.ref (w 2)), (.int (1 : Int32))])) t → Steps p.tables e below (s₁.setTop (entryFrame m #[(.int p0), (.int p1), (.int p2)] maxLocals)) t := fun t k => pre61 t (by
      show Steps p.tables e below (T58.setTop (mkF m 92 Lb55 [(.int p2), (.int p1), (.ref (w 2))])) _
      refine st63.trans ?_
      refine sa X63 hx hby at_95 rfl rfl ?_
      refine sI X63 hx hby at_97 rfl ?_
      refine sI X63 hx hby at_98 rfl ?_
      exact k)
     by_cases hc65 : p2 < p1
     ·
      exfalso
      have z3 : (p1).toInt ≠ (p2).toInt := fun q => hc60 (Int32.toInt_inj.mp q)
      have z4 := Int32.lt_iff_toInt_lt.mp hc62
      have z5 := Int32.lt_iff_toInt_lt.mp hc65
      have z1 := rng32 p1
      have z2 := rng32 p2
      omega
     ·
      obtain ⟨cq66, kq66, q66a, q66b, q66c⟩ := isOf hZ e63 ((wd5 hW).ext O0.2)
      obtain ⟨_, _, ⟨T66, L66, kk66, nn66⟩, -, X66, ⟨Lc66, hQ66, l66, y66, z66⟩, st66⟩ := X63.virtualBack hx (y := ym7) (z := ym7) hown (mvT hZ (wk35 hw)) (mvT hZ (wk36 hw)) (notFace_of_selects (args := #[]) (mvT hZ (wk38 hw))) (mvT hZ (wk38 hw)) (mvT hZ (wk37 hw)) (by decide) (backOf (W := 1) (rm6_24 l Z a0 hw w hW [] p2 p1 h0 n0 O0 hc65 (fun q => hc60 (Eq.symm q))) hZ (wk39 hw) (wk6 hw) (by decide) (by decide)) q66a q66c (g := (mkF m 99 Lb55 [(.int p1), (.int p2), (.ref (w 2)), (.int (1 : Int32))])) rfl (by rw [hml]; rfl) (Steps.refl _) (argsL := [(.int p2), (.int p1)]) (rest := [(.int (1 : Int32))]) (lenOf pds_5 rfl) rfl (by show 2 * 0 + _ ≤ _; exact Nat.le_of_eq rfl) (hb hby at_99) (fun _ _ => ⟨rfl, e63, (by decide : 0 + 0 ≤ _), (by decide : 0 + 0 ≤ _)⟩)
      dsimp only [Pt.U, Pt.locs, Pt.cells, Pt.slots] at X66 l66 y66 z66 st66 hQ66
      subst l66 y66 z66
      obtain ⟨rfl, N66q, e66⟩ := hQ66
      have N66 := Fr.app N63 N66q
      let Lb67 : Array Slot := #[.val (.int p0), .val (.int p1), .val (.int p2), .val (.int (2 : Int32)), .val (.ref (w 2)), .val (.int (0 : Int32)), .val (.int (0 : Int32)), .val (.int (0 : Int32))]
      obtain ⟨fs, hr, hrun, hended, hWm, hsame⟩ := X66.leave (v := some (.int (1 : Int32))) (fun h => by rw [Bd.returns] at h; cases h)
      refine ⟨_, _, pre64 _ ?_, hrun, hended, _, _, rfl, ?_, ⟨_, rfl⟩, hWm, hsame.mono (by decide) (by decide)⟩
      · show Steps p.tables e below (T63.setTop (mkF m 99 Lb55 [(.int p1), (.int p2), (.ref (w 2)), (.int (1 : Int32))])) _
        refine st66.trans ?_
        refine XS.icmpYes X66.here hx rfl (pc0 := 102) (pc' := 109) rfl (hb hby at_102) rfl (by decide) (by decide) (by decide) ?_
        refine sc X66 hx hby at_109 ?_
        refine XS.istore X66.here hx rfl (hb hby at_110) rfl (l' := Lb67) rfl ?_
        refine si X66 hx hby at_112 rfl ?_
        refine si X66 hx hby at_114 rfl ?_
        show Steps p.tables e below (T66.setTop (mkF m 116 Lb67 [(.int (0 : Int32)), (.int (0 : Int32))])) _
        refine XS.icmpYes X66.here hx rfl (pc0 := 116) (pc' := 121) rfl (hb hby at_116) rfl (by decide) (by decide) (by decide) ?_
        refine sc X66 hx hby at_121 ?_
        exact retN X66 hx (t := .boolean) Bd.returns (by simp) (hb hby at_122) hr
      · show Q0 n0 _ T66.heap _
        rw [e66]
        exact ⟨rfl, N66⟩
    ·
     obtain ⟨cq68, kq68, q68a, q68b, q68c⟩ := isOf hZ e58 ((wd5 hW).ext O0.2)
     obtain ⟨_, _, ⟨T68, L68, kk68, nn68⟩, -, X68, ⟨Lc68, hQ68, l68, y68, z68⟩, st68⟩ := X58.virtualBack hx (y := ym7) (z := ym7) hown (mvT hZ (wk35 hw)) (mvT hZ (wk36 hw)) (notFace_of_selects (args := #[]) (mvT hZ (wk38 hw))) (mvT hZ (wk38 hw)) (mvT hZ (wk37 hw)) (by decide) (backOf (W := 0) (rm6_24 l Z a0 hw w hW [] p1 p2 h0 n0 O0 hc62 hc60) hZ (wk39 hw) (wk6 hw) (by decide) (by decide)) q68a q68c (g := (mkF m 92 Lb55 [(.int p2), (.int p1), (.ref (w 2))])) rfl (by rw [hml]; rfl) (Steps.refl _) (argsL := [(.int p1), (.int p2)]) (rest := []) (lenOf pds_5 rfl) rfl (by show 2 * 0 + _ ≤ _; exact Nat.le_of_eq rfl) (hb hby at_92) (fun _ _ => ⟨rfl, e58, (by decide : 0 + 0 ≤ _), (by decide : 0 + 0 ≤ _)⟩)
     dsimp only [Pt.U, Pt.locs, Pt.cells, Pt.slots] at X68 l68 y68 z68 st68 hQ68
     subst l68 y68 z68
     obtain ⟨rfl, N68q, e68⟩ := hQ68
     have N68 := Fr.app N58 N68q
     have pre69 : ∀ t, Steps p.tables e below (T68.setTop (mkF m 99 Lb55 [(.int p1), (.int p2), (.ref (w 2)), (.int (0 : Int32))])) t → Steps p.tables e below (s₁.setTop (entryFrame m #[(.int p0), (.int p1), (.int p2)] maxLocals)) t := fun t k => pre61 t (by
      show Steps p.tables e below (T58.setTop (mkF m 92 Lb55 [(.int p2), (.int p1), (.ref (w 2))])) _
      refine st68.trans ?_
      refine sa X68 hx hby at_95 rfl rfl ?_
      refine sI X68 hx hby at_97 rfl ?_
      refine sI X68 hx hby at_98 rfl ?_
      exact k)
     by_cases hc70 : p2 < p1
     ·
      obtain ⟨cq71, kq71, q71a, q71b, q71c⟩ := isOf hZ e68 ((wd5 hW).ext O0.2)
      obtain ⟨_, _, ⟨T71, L71, kk71, nn71⟩, -, X71, ⟨Lc71, hQ71, l71, y71, z71⟩, st71⟩ := X68.virtualBack hx (y := ym7) (z := ym7) hown (mvT hZ (wk35 hw)) (mvT hZ (wk36 hw)) (notFace_of_selects (args := #[]) (mvT hZ (wk38 hw))) (mvT hZ (wk38 hw)) (mvT hZ (wk37 hw)) (by decide) (backOf (W := 1) (rm6_23 l Z a0 hw w hW [] p2 p1 h0 n0 O0 hc70) hZ (wk39 hw) (wk6 hw) (by decide) (by decide)) q71a q71c (g := (mkF m 99 Lb55 [(.int p1), (.int p2), (.ref (w 2)), (.int (0 : Int32))])) rfl (by rw [hml]; rfl) (Steps.refl _) (argsL := [(.int p2), (.int p1)]) (rest := [(.int (0 : Int32))]) (lenOf pds_5 rfl) rfl (by show 2 * 0 + _ ≤ _; exact Nat.le_of_eq rfl) (hb hby at_99) (fun _ _ => ⟨rfl, e68, (by decide : 0 + 0 ≤ _), (by decide : 0 + 0 ≤ _)⟩)
      dsimp only [Pt.U, Pt.locs, Pt.cells, Pt.slots] at X71 l71 y71 z71 st71 hQ71
      subst l71 y71 z71
      obtain ⟨rfl, N71q, e71⟩ := hQ71
      have N71 := Fr.app N68 N71q
      let Lb72 : Array Slot := #[.val (.int p0), .val (.int p1), .val (.int p2), .val (.int (2 : Int32)), .val (.ref (w 2)), .val (.int (0 : Int32)), .val (.int (0 : Int32)), .val (.int (0 : Int32))]
      obtain ⟨fs, hr, hrun, hended, hWm, hsame⟩ := X71.leave (v := some (.int (1 : Int32))) (fun h => by rw [Bd.returns] at h; cases h)
      refine ⟨_, _, pre69 _ ?_, hrun, hended, _, _, rfl, ?_, ⟨_, rfl⟩, hWm, hsame.mono (by decide) (by decide)⟩
      · show Steps p.tables e below (T68.setTop (mkF m 99 Lb55 [(.int p1), (.int p2), (.ref (w 2)), (.int (0 : Int32))])) _
        refine st71.trans ?_
        refine XS.icmpYes X71.here hx rfl (pc0 := 102) (pc' := 109) rfl (hb hby at_102) rfl (by decide) (by decide) (by decide) ?_
        refine sc X71 hx hby at_109 ?_
        refine XS.istore X71.here hx rfl (hb hby at_110) rfl (l' := Lb72) rfl ?_
        refine si X71 hx hby at_112 rfl ?_
        refine si X71 hx hby at_114 rfl ?_
        show Steps p.tables e below (T71.setTop (mkF m 116 Lb72 [(.int (0 : Int32)), (.int (0 : Int32))])) _
        refine XS.icmpYes X71.here hx rfl (pc0 := 116) (pc' := 121) rfl (hb hby at_116) rfl (by decide) (by decide) (by decide) ?_
        refine sc X71 hx hby at_121 ?_
        exact retN X71 hx (t := .boolean) Bd.returns (by simp) (hb hby at_122) hr
      · show Q0 n0 _ T71.heap _
        rw [e71]
        exact ⟨rfl, N71⟩
     ·
      exfalso
      have z3 : (p1).toInt ≠ (p2).toInt := fun q => hc60 (Int32.toInt_inj.mp q)
      have z4 := Int32.le_iff_toInt_le.mp (Int32.not_lt.mp hc62)
      have z5 := Int32.le_iff_toInt_le.mp (Int32.not_lt.mp hc70)
      have z1 := rng32 p1
      have z2 := rng32 p2
      omega
  ·
   rw [hs3] at pre2
   let Lb73 : Array Slot := #[.val (.int p0), .val (.int p1), .val (.int p2), .val (.int (3 : Int32)), .unset, .unset, .unset, .unset]
   obtain ⟨_, _, ⟨T74, L74, kk74, nn74⟩, -, X74, ⟨Lc74, hQ74, l74, y74, z74⟩, st74⟩ := Jvm.LawKit.callS X0 hx (y := ym0) hown (mvT hZ (wk1 hw)) (mvT hZ (wk2 hw)) (mvT hZ (wk3 hw)) (mvT hZ (wk4 hw)) (by decide) (backOf (W := 0) (rm1_25 l Z a0 hw w hW []  h0 n0 O0 ) hZ (wk4 hw) (wk3 hw) (by decide) (by decide)) (g := (mkF m 9 Lb73 [(.int (3 : Int32))])) rfl (by rw [hml]; rfl) (argsL := [(.int (3 : Int32))]) (rest := []) (lenOf pds_0 rfl) rfl (by show 2 * 0 + _ ≤ _; exact Nat.le_of_eq rfl) (hb hby at_9) (fun _ _ => ⟨rfl, e0, (by decide : 0 + 0 ≤ _), (by decide : 0 + 0 ≤ _)⟩)
   dsimp only [Pt.U, Pt.locs, Pt.cells, Pt.slots] at X74 l74 y74 z74 st74 hQ74
   subst l74 y74 z74
   obtain ⟨rfl, N74q, e74⟩ := hQ74
   have N74 := Fr.app N0 N74q
   let Lb75 : Array Slot := #[.val (.int p0), .val (.int p1), .val (.int p2), .val (.int (3 : Int32)), .val (.ref (w 5)), .unset, .unset, .unset]
   obtain ⟨cq76, kq76, q76a, q76b, q76c⟩ := isOf hZ e74 ((wd11 hW).ext O0.2)
   obtain ⟨_, _, ⟨T76, L76, kk76, nn76⟩, -, X76, ⟨Lc76, hQ76, l76, y76, z76⟩, st76⟩ := X74.virtualBack hx (y := ym1) (z := ym1) hown (mvT hZ (wk8 hw)) (mvT hZ (wk9 hw)) (notFace_of_selects (args := #[]) (mvT hZ (wk11 hw))) (mvT hZ (wk11 hw)) (mvT hZ (wk10 hw)) (by decide) (backOf (W := 0) (rm2_26 l Z a0 hw w hW []  h0 n0 O0 ) hZ (wk12 hw) (wk6 hw) (by decide) (by decide)) q76a q76c (g := (mkF m 16 Lb75 [(.ref (w 5))])) rfl (by rw [hml]; rfl) (Steps.refl _) (argsL := []) (rest := []) (lenOf pds_1 rfl) rfl (by show 2 * 0 + _ ≤ _; exact Nat.le_of_eq rfl) (hb hby at_16) (fun _ _ => ⟨rfl, e74, (by decide : 0 + 0 ≤ _), (by decide : 0 + 0 ≤ _)⟩)
   dsimp only [Pt.U, Pt.locs, Pt.cells, Pt.slots] at X76 l76 y76 z76 st76 hQ76
   subst l76 y76 z76
   obtain ⟨rfl, N76q, e76⟩ := hQ76
   have N76 := Fr.app N74 N76q
   let Lb77 : Array Slot := #[.val (.int p0), .val (.int p1), .val (.int p2), .val (.int (3 : Int32)), .val (.ref (w 5)), .val (.int (0 : Int32)), .unset, .unset]
   let Lb78 : Array Slot := #[.val (.int p0), .val (.int p1), .val (.int p2), .val (.int (3 : Int32)), .val (.ref (w 5)), .val (.int (0 : Int32)), .val (.int (0 : Int32)), .unset]
   obtain ⟨cq79, kq79, q79a, q79b, q79c⟩ := isOf hZ e76 ((wd11 hW).ext O0.2)
   obtain ⟨_, _, ⟨T79, L79, kk79, nn79⟩, -, X79, ⟨Lc79, hQ79, l79, y79, z79⟩, st79⟩ := X76.virtualBack hx (y := ym4) (z := ym4) hown (mvT hZ (wk14 hw)) (mvT hZ (wk15 hw)) (notFace_of_selects (args := #[]) (mvT hZ (wk17 hw))) (mvT hZ (wk17 hw)) (mvT hZ (wk16 hw)) (by decide) (backOf (W := 0) (rm3_28 l Z a0 hw w hW []  h0 n0 O0 ) hZ (wk18 hw) (wk6 hw) (by decide) (by decide)) q79a q79c (g := (mkF m 48 Lb78 [(.ref (w 5))])) rfl (by rw [hml]; rfl) (Steps.refl _) (argsL := []) (rest := []) (lenOf pds_3 rfl) rfl (by show 2 * 0 + _ ≤ _; exact Nat.le_of_eq rfl) (hb hby at_48) (fun _ _ => ⟨rfl, e76, (by decide : 0 + 0 ≤ _), (by decide : 0 + 0 ≤ _)⟩)
   dsimp only [Pt.U, Pt.locs, Pt.cells, Pt.slots] at X79 l79 y79 z79 st79 hQ79
   subst l79 y79 z79
   obtain ⟨rfl, N79q, e79⟩ := hQ79
   have N79 := Fr.app N76 N79q
   obtain ⟨cq80, kq80, q80a, q80b, q80c⟩ := isOf hZ e79 ((wd11 hW).ext O0.2)
   obtain ⟨_, _, ⟨T80, L80, kk80, nn80⟩, -, X80, ⟨Lc80, hQ80, l80, y80, z80⟩, st80⟩ := X79.virtualBack hx (y := ym5) (z := ym5) hown (mvT hZ (wk28 hw)) (mvT hZ (wk29 hw)) (notFace_of_selects (args := #[]) (mvT hZ (wk31 hw))) (mvT hZ (wk31 hw)) (mvT hZ (wk30 hw)) (by decide) (backOf (W := 0) (rm5_29 l Z a0 hw w hW []  h0 n0 O0 ) hZ (wk32 hw) (wk6 hw) (by decide) (by decide)) q80a q80c (g := (mkF m 70 Lb78 [(.ref (w 5))])) rfl (by rw [hml]; rfl) (Steps.refl _) (argsL := []) (rest := []) (lenOf pds_3 rfl) rfl (by show 2 * 0 + _ ≤ _; exact Nat.le_of_eq rfl) (hb hby at_70) (fun _ _ => ⟨rfl, e79, (by decide : 0 + 0 ≤ _), (by decide : 0 + 0 ≤ _)⟩)
   dsimp only [Pt.U, Pt.locs, Pt.cells, Pt.slots] at X80 l80 y80 z80 st80 hQ80
   subst l80 y80 z80
   obtain ⟨rfl, N80q, e80⟩ := hQ80
   have N80 := Fr.app N79 N80q
   obtain ⟨cq81, kq81, q81a, q81b, q81c⟩ := isOf hZ e80 ((wd7 hW).ext O0.2)
   obtain ⟨_, _, ⟨T81, L81, kk81, nn81⟩, -, X81, ⟨Lc81, hQ81, l81, y81, z81⟩, st81⟩ := X80.virtualBack hx (y := ym1) (z := ym1) hown (mvT hZ (wk8 hw)) (mvT hZ (wk9 hw)) (notFace_of_selects (args := #[]) (mvT hZ (wk11 hw))) (mvT hZ (wk11 hw)) (mvT hZ (wk10 hw)) (by decide) (backOf (W := 0) (rm2_30 l Z a0 hw w hW []  h0 n0 O0 ) hZ (wk12 hw) (wk6 hw) (by decide) (by decide)) q81a q81c (g := (mkF m 73 Lb78 [(.ref (w 3))])) rfl (by rw [hml]; rfl) (Steps.refl _) (argsL := []) (rest := []) (lenOf pds_1 rfl) rfl (by show 2 * 0 + _ ≤ _; exact Nat.le_of_eq rfl) (hb hby at_73) (fun _ _ => ⟨rfl, e80, (by decide : 0 + 0 ≤ _), (by decide : 0 + 0 ≤ _)⟩)
   dsimp only [Pt.U, Pt.locs, Pt.cells, Pt.slots] at X81 l81 y81 z81 st81 hQ81
   subst l81 y81 z81
   obtain ⟨rfl, N81q, e81⟩ := hQ81
   have N81 := Fr.app N80 N81q
   have pre82 : ∀ t, Steps p.tables e below (T81.setTop (mkF m 85 Lb78 [(.int p2), (.int p1)])) t → Steps p.tables e below (s₁.setTop (entryFrame m #[(.int p0), (.int p1), (.int p2)] maxLocals)) t := fun t k => pre2 t (by
    show Steps p.tables e below (s₁.setTop (mkF m 9 Lb73 [(.int (3 : Int32))])) _
    refine st74 _ ?_
    refine XS.astore X74.here hx rfl (hb hby at_12) rfl rfl (l' := Lb75) rfl ?_
    refine sa X74 hx hby at_14 rfl rfl ?_
    refine st76.trans ?_
    refine XS.istore X76.here hx rfl (hb hby at_19) rfl (l' := Lb77) rfl ?_
    refine sI X76 hx hby at_21 rfl ?_
    refine sN X76 hx hby at_22 (by decide) ?_
    refine sI X76 hx hby at_25 rfl ?_
    refine sc X76 hx hby at_26 ?_
    show Steps p.tables e below (T76.setTop (mkF m 27 Lb77 [(.int (1 : Int32)), (.int (3 : Int32))])) _
    refine XS.icmpYes X76.here hx rfl (pc0 := 27) (pc' := 34) rfl (hb hby at_27) rfl (by decide) (by decide) (by decide) ?_
    refine sc X76 hx hby at_34 ?_
    refine XS.istore X76.here hx rfl (hb hby at_35) rfl (l' := Lb78) rfl ?_
    refine si X76 hx hby at_37 rfl ?_
    refine si X76 hx hby at_39 rfl ?_
    show Steps p.tables e below (T76.setTop (mkF m 41 Lb78 [(.int (0 : Int32)), (.int (0 : Int32))])) _
    refine XS.icmpYes X76.here hx rfl (pc0 := 41) (pc' := 46) rfl (hb hby at_41) rfl (by decide) (by decide) (by decide) ?_
    refine sa X76 hx hby at_46 rfl rfl ?_
    refine st79.trans ?_
    refine sa X79 hx hby at_51 rfl rfl ?_
    refine Jvm.RoadKit.acmp (g := (mkF m 53 Lb78 [(.ref (w 5)), (.ref (w 4))])) X79 hx rfl rfl rfl (pc0 := 53) (pc' := 60) (same := false) rfl (hb hby at_53) rfl (decide_eq_false fun q => (Fld.ne (wd16 hW) (wd17 hW) (by decide)) (Value.ref.inj q)) (by decide) (by decide) ?_
    refine sc X79 hx hby at_60 ?_
    refine si X79 hx hby at_61 rfl ?_
    refine XS.icmpYes X79.here hx rfl (pc0 := 63) (pc' := 68) rfl (hb hby at_63) rfl (by decide) (by decide) (by decide) ?_
    show Steps p.tables e below (T79.setTop (mkF m 68 Lb78 [])) _
    refine sa X79 hx hby at_68 rfl rfl ?_
    refine st80.trans ?_
    refine st81.trans ?_
    refine si X81 hx hby at_76 rfl ?_
    refine XS.icmpYes X81.here hx rfl (pc0 := 78) (pc' := 83) rfl (hb hby at_78) rfl (by decide) (by decide) (by decide) ?_
    refine sI X81 hx hby at_83 rfl ?_
    refine sI X81 hx hby at_84 rfl ?_
    exact k)
   by_cases hc83 : p1 = p2
   ·
    obtain ⟨fs, hr, hrun, hended, hWm, hsame⟩ := X81.leave (v := some (.int (1 : Int32))) (fun h => by rw [Bd.returns] at h; cases h)
    refine ⟨_, _, pre82 _ ?_, hrun, hended, _, _, rfl, ?_, ⟨_, rfl⟩, hWm, hsame.mono (by decide) (by decide)⟩
    · show Steps p.tables e below (T81.setTop (mkF m 85 Lb78 [(.int p2), (.int p1)])) _
      refine XS.icmpYes X81.here hx rfl (pc0 := 85) (pc' := 121) rfl (hb hby at_85) rfl (teq (hc83 : p1 = p2)).1 (by decide) (by decide) ?_
      refine sc X81 hx hby at_121 ?_
      exact retN X81 hx (t := .boolean) Bd.returns (by simp) (hb hby at_122) hr
    · show Q0 n0 _ T81.heap _
      rw [e81]
      exact ⟨rfl, N81⟩
   ·
    have pre84 : ∀ t, Steps p.tables e below (T81.setTop (mkF m 92 Lb78 [(.int p2), (.int p1), (.ref (w 5))])) t → Steps p.tables e below (s₁.setTop (entryFrame m #[(.int p0), (.int p1), (.int p2)] maxLocals)) t := fun t k => pre82 t (by
     show Steps p.tables e below (T81.setTop (mkF m 85 Lb78 [(.int p2), (.int p1)])) _
     refine sn X81 hx hby at_85 (feq (hc83 : ¬ (p1 = p2))).1 ?_
     refine sa X81 hx hby at_88 rfl rfl ?_
     refine sI X81 hx hby at_90 rfl ?_
     refine sI X81 hx hby at_91 rfl ?_
     exact k)
    by_cases hc85 : p1 < p2
    ·
     obtain ⟨cq86, kq86, q86a, q86b, q86c⟩ := isOf hZ e81 ((wd11 hW).ext O0.2)
     obtain ⟨_, _, ⟨T86, L86, kk86, nn86⟩, -, X86, ⟨Lc86, hQ86, l86, y86, z86⟩, st86⟩ := X81.virtualBack hx (y := ym7) (z := ym7) hown (mvT hZ (wk35 hw)) (mvT hZ (wk36 hw)) (notFace_of_selects (args := #[]) (mvT hZ (wk38 hw))) (mvT hZ (wk38 hw)) (mvT hZ (wk37 hw)) (by decide) (backOf (W := 0) (rm6_31 l Z a0 hw w hW [] p1 p2 h0 n0 O0 hc85) hZ (wk39 hw) (wk6 hw) (by decide) (by decide)) q86a q86c (g := (mkF m 92 Lb78 [(.int p2), (.int p1), (.ref (w 5))])) rfl (by rw [hml]; rfl) (Steps.refl _) (argsL := [(.int p1), (.int p2)]) (rest := []) (lenOf pds_5 rfl) rfl (by show 2 * 0 + _ ≤ _; exact Nat.le_of_eq rfl) (hb hby at_92) (fun _ _ => ⟨rfl, e81, (by decide : 0 + 0 ≤ _), (by decide : 0 + 0 ≤ _)⟩)
     dsimp only [Pt.U, Pt.locs, Pt.cells, Pt.slots] at X86 l86 y86 z86 st86 hQ86
     subst l86 y86 z86
     obtain ⟨rfl, N86q, e86⟩ := hQ86
     have N86 := Fr.app N81 N86q
     have pre87 : ∀ t, Steps p.tables e below (T86.setTop (mkF m 99 Lb78 [(.int p1), (.int p2), (.ref (w 5)), (.int (1 : Int32))])) t → Steps p.tables e below (s₁.setTop (entryFrame m #[(.int p0), (.int p1), (.int p2)] maxLocals)) t := fun t k => pre84 t (by
      show Steps p.tables e below (T81.setTop (mkF m 92 Lb78 [(.int p2), (.int p1), (.ref (w 5))])) _
      refine st86.trans ?_
      refine sa X86 hx hby at_95 rfl rfl ?_
      refine sI X86 hx hby at_97 rfl ?_
      refine sI X86 hx hby at_98 rfl ?_
      exact k)
     by_cases hc88 : p2 < p1
     ·
      exfalso
      have z3 : (p1).toInt ≠ (p2).toInt := fun q => hc83 (Int32.toInt_inj.mp q)
      have z4 := Int32.lt_iff_toInt_lt.mp hc85
      have z5 := Int32.lt_iff_toInt_lt.mp hc88
      have z1 := rng32 p1
      have z2 := rng32 p2
      omega
     ·
      obtain ⟨cq89, kq89, q89a, q89b, q89c⟩ := isOf hZ e86 ((wd11 hW).ext O0.2)
      obtain ⟨_, _, ⟨T89, L89, kk89, nn89⟩, -, X89, ⟨Lc89, hQ89, l89, y89, z89⟩, st89⟩ := X86.virtualBack hx (y := ym7) (z := ym7) hown (mvT hZ (wk35 hw)) (mvT hZ (wk36 hw)) (notFace_of_selects (args := #[]) (mvT hZ (wk38 hw))) (mvT hZ (wk38 hw)) (mvT hZ (wk37 hw)) (by decide) (backOf (W := 1) (rm6_32 l Z a0 hw w hW [] p2 p1 h0 n0 O0 hc88 (fun q => hc83 (Eq.symm q))) hZ (wk39 hw) (wk6 hw) (by decide) (by decide)) q89a q89c (g := (mkF m 99 Lb78 [(.int p1), (.int p2), (.ref (w 5)), (.int (1 : Int32))])) rfl (by rw [hml]; rfl) (Steps.refl _) (argsL := [(.int p2), (.int p1)]) (rest := [(.int (1 : Int32))]) (lenOf pds_5 rfl) rfl (by show 2 * 0 + _ ≤ _; exact Nat.le_of_eq rfl) (hb hby at_99) (fun _ _ => ⟨rfl, e86, (by decide : 0 + 0 ≤ _), (by decide : 0 + 0 ≤ _)⟩)
      dsimp only [Pt.U, Pt.locs, Pt.cells, Pt.slots] at X89 l89 y89 z89 st89 hQ89
      subst l89 y89 z89
      obtain ⟨rfl, N89q, e89⟩ := hQ89
      have N89 := Fr.app N86 N89q
      let Lb90 : Array Slot := #[.val (.int p0), .val (.int p1), .val (.int p2), .val (.int (3 : Int32)), .val (.ref (w 5)), .val (.int (0 : Int32)), .val (.int (0 : Int32)), .val (.int (0 : Int32))]
      obtain ⟨fs, hr, hrun, hended, hWm, hsame⟩ := X89.leave (v := some (.int (1 : Int32))) (fun h => by rw [Bd.returns] at h; cases h)
      refine ⟨_, _, pre87 _ ?_, hrun, hended, _, _, rfl, ?_, ⟨_, rfl⟩, hWm, hsame.mono (by decide) (by decide)⟩
      · show Steps p.tables e below (T86.setTop (mkF m 99 Lb78 [(.int p1), (.int p2), (.ref (w 5)), (.int (1 : Int32))])) _
        refine st89.trans ?_
        refine XS.icmpYes X89.here hx rfl (pc0 := 102) (pc' := 109) rfl (hb hby at_102) rfl (by decide) (by decide) (by decide) ?_
        refine sc X89 hx hby at_109 ?_
        refine XS.istore X89.here hx rfl (hb hby at_110) rfl (l' := Lb90) rfl ?_
        refine si X89 hx hby at_112 rfl ?_
        refine si X89 hx hby at_114 rfl ?_
        show Steps p.tables e below (T89.setTop (mkF m 116 Lb90 [(.int (0 : Int32)), (.int (0 : Int32))])) _
        refine XS.icmpYes X89.here hx rfl (pc0 := 116) (pc' := 121) rfl (hb hby at_116) rfl (by decide) (by decide) (by decide) ?_
        refine sc X89 hx hby at_121 ?_
        exact retN X89 hx (t := .boolean) Bd.returns (by simp) (hb hby at_122) hr
      · show Q0 n0 _ T89.heap _
        rw [e89]
        exact ⟨rfl, N89⟩
    ·
     obtain ⟨cq91, kq91, q91a, q91b, q91c⟩ := isOf hZ e81 ((wd11 hW).ext O0.2)
     obtain ⟨_, _, ⟨T91, L91, kk91, nn91⟩, -, X91, ⟨Lc91, hQ91, l91, y91, z91⟩, st91⟩ := X81.virtualBack hx (y := ym7) (z := ym7) hown (mvT hZ (wk35 hw)) (mvT hZ (wk36 hw)) (notFace_of_selects (args := #[]) (mvT hZ (wk38 hw))) (mvT hZ (wk38 hw)) (mvT hZ (wk37 hw)) (by decide) (backOf (W := 0) (rm6_32 l Z a0 hw w hW [] p1 p2 h0 n0 O0 hc85 hc83) hZ (wk39 hw) (wk6 hw) (by decide) (by decide)) q91a q91c (g := (mkF m 92 Lb78 [(.int p2), (.int p1), (.ref (w 5))])) rfl (by rw [hml]; rfl) (Steps.refl _) (argsL := [(.int p1), (.int p2)]) (rest := []) (lenOf pds_5 rfl) rfl (by show 2 * 0 + _ ≤ _; exact Nat.le_of_eq rfl) (hb hby at_92) (fun _ _ => ⟨rfl, e81, (by decide : 0 + 0 ≤ _), (by decide : 0 + 0 ≤ _)⟩)
     dsimp only [Pt.U, Pt.locs, Pt.cells, Pt.slots] at X91 l91 y91 z91 st91 hQ91
     subst l91 y91 z91
     obtain ⟨rfl, N91q, e91⟩ := hQ91
     have N91 := Fr.app N81 N91q
     have pre92 : ∀ t, Steps p.tables e below (T91.setTop (mkF m 99 Lb78 [(.int p1), (.int p2), (.ref (w 5)), (.int (0 : Int32))])) t → Steps p.tables e below (s₁.setTop (entryFrame m #[(.int p0), (.int p1), (.int p2)] maxLocals)) t := fun t k => pre84 t (by
      show Steps p.tables e below (T81.setTop (mkF m 92 Lb78 [(.int p2), (.int p1), (.ref (w 5))])) _
      refine st91.trans ?_
      refine sa X91 hx hby at_95 rfl rfl ?_
      refine sI X91 hx hby at_97 rfl ?_
      refine sI X91 hx hby at_98 rfl ?_
      exact k)
     by_cases hc93 : p2 < p1
     ·
      obtain ⟨cq94, kq94, q94a, q94b, q94c⟩ := isOf hZ e91 ((wd11 hW).ext O0.2)
      obtain ⟨_, _, ⟨T94, L94, kk94, nn94⟩, -, X94, ⟨Lc94, hQ94, l94, y94, z94⟩, st94⟩ := X91.virtualBack hx (y := ym7) (z := ym7) hown (mvT hZ (wk35 hw)) (mvT hZ (wk36 hw)) (notFace_of_selects (args := #[]) (mvT hZ (wk38 hw))) (mvT hZ (wk38 hw)) (mvT hZ (wk37 hw)) (by decide) (backOf (W := 1) (rm6_31 l Z a0 hw w hW [] p2 p1 h0 n0 O0 hc93) hZ (wk39 hw) (wk6 hw) (by decide) (by decide)) q94a q94c (g := (mkF m 99 Lb78 [(.int p1), (.int p2), (.ref (w 5)), (.int (0 : Int32))])) rfl (by rw [hml]; rfl) (Steps.refl _) (argsL := [(.int p2), (.int p1)]) (rest := [(.int (0 : Int32))]) (lenOf pds_5 rfl) rfl (by show 2 * 0 + _ ≤ _; exact Nat.le_of_eq rfl) (hb hby at_99) (fun _ _ => ⟨rfl, e91, (by decide : 0 + 0 ≤ _), (by decide : 0 + 0 ≤ _)⟩)
      dsimp only [Pt.U, Pt.locs, Pt.cells, Pt.slots] at X94 l94 y94 z94 st94 hQ94
      subst l94 y94 z94
      obtain ⟨rfl, N94q, e94⟩ := hQ94
      have N94 := Fr.app N91 N94q
      let Lb95 : Array Slot := #[.val (.int p0), .val (.int p1), .val (.int p2), .val (.int (3 : Int32)), .val (.ref (w 5)), .val (.int (0 : Int32)), .val (.int (0 : Int32)), .val (.int (0 : Int32))]
      obtain ⟨fs, hr, hrun, hended, hWm, hsame⟩ := X94.leave (v := some (.int (1 : Int32))) (fun h => by rw [Bd.returns] at h; cases h)
      refine ⟨_, _, pre92 _ ?_, hrun, hended, _, _, rfl, ?_, ⟨_, rfl⟩, hWm, hsame.mono (by decide) (by decide)⟩
      · show Steps p.tables e below (T91.setTop (mkF m 99 Lb78 [(.int p1), (.int p2), (.ref (w 5)), (.int (0 : Int32))])) _
        refine st94.trans ?_
        refine XS.icmpYes X94.here hx rfl (pc0 := 102) (pc' := 109) rfl (hb hby at_102) rfl (by decide) (by decide) (by decide) ?_
        refine sc X94 hx hby at_109 ?_
        refine XS.istore X94.here hx rfl (hb hby at_110) rfl (l' := Lb95) rfl ?_
        refine si X94 hx hby at_112 rfl ?_
        refine si X94 hx hby at_114 rfl ?_
        show Steps p.tables e below (T94.setTop (mkF m 116 Lb95 [(.int (0 : Int32)), (.int (0 : Int32))])) _
        refine XS.icmpYes X94.here hx rfl (pc0 := 116) (pc' := 121) rfl (hb hby at_116) rfl (by decide) (by decide) (by decide) ?_
        refine sc X94 hx hby at_121 ?_
        exact retN X94 hx (t := .boolean) Bd.returns (by simp) (hb hby at_122) hr
      · show Q0 n0 _ T94.heap _
        rw [e94]
        exact ⟨rfl, N94⟩
     ·
      exfalso
      have z3 : (p1).toInt ≠ (p2).toInt := fun q => hc83 (Int32.toInt_inj.mp q)
      have z4 := Int32.le_iff_toInt_le.mp (Int32.not_lt.mp hc85)
      have z5 := Int32.le_iff_toInt_le.mp (Int32.not_lt.mp hc93)
      have z1 := rng32 p1
      have z2 := rng32 p2
      omega
  ·
   rw [hs3] at pre2
   let Lb96 : Array Slot := #[.val (.int p0), .val (.int p1), .val (.int p2), .val (.int (4 : Int32)), .unset, .unset, .unset, .unset]
   obtain ⟨_, _, ⟨T97, L97, kk97, nn97⟩, -, X97, ⟨Lc97, hQ97, l97, y97, z97⟩, st97⟩ := Jvm.LawKit.callS X0 hx (y := ym0) hown (mvT hZ (wk1 hw)) (mvT hZ (wk2 hw)) (mvT hZ (wk3 hw)) (mvT hZ (wk4 hw)) (by decide) (backOf (W := 0) (rm1_33 l Z a0 hw w hW []  h0 n0 O0 ) hZ (wk4 hw) (wk3 hw) (by decide) (by decide)) (g := (mkF m 9 Lb96 [(.int (4 : Int32))])) rfl (by rw [hml]; rfl) (argsL := [(.int (4 : Int32))]) (rest := []) (lenOf pds_0 rfl) rfl (by show 2 * 0 + _ ≤ _; exact Nat.le_of_eq rfl) (hb hby at_9) (fun _ _ => ⟨rfl, e0, (by decide : 0 + 0 ≤ _), (by decide : 0 + 0 ≤ _)⟩)
   dsimp only [Pt.U, Pt.locs, Pt.cells, Pt.slots] at X97 l97 y97 z97 st97 hQ97
   subst l97 y97 z97
   obtain ⟨rfl, N97q, e97⟩ := hQ97
   have N97 := Fr.app N0 N97q
   let Lb98 : Array Slot := #[.val (.int p0), .val (.int p1), .val (.int p2), .val (.int (4 : Int32)), .val (.ref (w 3)), .unset, .unset, .unset]
   obtain ⟨cq99, kq99, q99a, q99b, q99c⟩ := isOf hZ e97 ((wd7 hW).ext O0.2)
   obtain ⟨_, _, ⟨T99, L99, kk99, nn99⟩, -, X99, ⟨Lc99, hQ99, l99, y99, z99⟩, st99⟩ := X97.virtualBack hx (y := ym1) (z := ym1) hown (mvT hZ (wk8 hw)) (mvT hZ (wk9 hw)) (notFace_of_selects (args := #[]) (mvT hZ (wk11 hw))) (mvT hZ (wk11 hw)) (mvT hZ (wk10 hw)) (by decide) (backOf (W := 0) (rm2_30 l Z a0 hw w hW []  h0 n0 O0 ) hZ (wk12 hw) (wk6 hw) (by decide) (by decide)) q99a q99c (g := (mkF m 16 Lb98 [(.ref (w 3))])) rfl (by rw [hml]; rfl) (Steps.refl _) (argsL := []) (rest := []) (lenOf pds_1 rfl) rfl (by show 2 * 0 + _ ≤ _; exact Nat.le_of_eq rfl) (hb hby at_16) (fun _ _ => ⟨rfl, e97, (by decide : 0 + 0 ≤ _), (by decide : 0 + 0 ≤ _)⟩)
   dsimp only [Pt.U, Pt.locs, Pt.cells, Pt.slots] at X99 l99 y99 z99 st99 hQ99
   subst l99 y99 z99
   obtain ⟨rfl, N99q, e99⟩ := hQ99
   have N99 := Fr.app N97 N99q
   let Lb100 : Array Slot := #[.val (.int p0), .val (.int p1), .val (.int p2), .val (.int (4 : Int32)), .val (.ref (w 3)), .val (.int (0 : Int32)), .unset, .unset]
   let Lb101 : Array Slot := #[.val (.int p0), .val (.int p1), .val (.int p2), .val (.int (4 : Int32)), .val (.ref (w 3)), .val (.int (0 : Int32)), .val (.int (0 : Int32)), .unset]
   obtain ⟨cq102, kq102, q102a, q102b, q102c⟩ := isOf hZ e99 ((wd7 hW).ext O0.2)
   obtain ⟨_, _, ⟨T102, L102, kk102, nn102⟩, -, X102, ⟨Lc102, hQ102, l102, y102, z102⟩, st102⟩ := X99.virtualBack hx (y := ym4) (z := ym4) hown (mvT hZ (wk14 hw)) (mvT hZ (wk15 hw)) (notFace_of_selects (args := #[]) (mvT hZ (wk17 hw))) (mvT hZ (wk17 hw)) (mvT hZ (wk16 hw)) (by decide) (backOf (W := 0) (rm3_35 l Z a0 hw w hW []  h0 n0 O0 ) hZ (wk18 hw) (wk6 hw) (by decide) (by decide)) q102a q102c (g := (mkF m 48 Lb101 [(.ref (w 3))])) rfl (by rw [hml]; rfl) (Steps.refl _) (argsL := []) (rest := []) (lenOf pds_3 rfl) rfl (by show 2 * 0 + _ ≤ _; exact Nat.le_of_eq rfl) (hb hby at_48) (fun _ _ => ⟨rfl, e99, (by decide : 0 + 0 ≤ _), (by decide : 0 + 0 ≤ _)⟩)
   dsimp only [Pt.U, Pt.locs, Pt.cells, Pt.slots] at X102 l102 y102 z102 st102 hQ102
   subst l102 y102 z102
   obtain ⟨rfl, N102q, e102⟩ := hQ102
   have N102 := Fr.app N99 N102q
   obtain ⟨cq103, kq103, q103a, q103b, q103c⟩ := isOf hZ e102 ((wd7 hW).ext O0.2)
   obtain ⟨_, _, ⟨T103, L103, kk103, nn103⟩, -, X103, ⟨Lc103, hQ103, l103, y103, z103⟩, st103⟩ := X102.virtualBack hx (y := ym5) (z := ym5) hown (mvT hZ (wk28 hw)) (mvT hZ (wk29 hw)) (notFace_of_selects (args := #[]) (mvT hZ (wk31 hw))) (mvT hZ (wk31 hw)) (mvT hZ (wk30 hw)) (by decide) (backOf (W := 0) (rm5_36 l Z a0 hw w hW []  h0 n0 O0 ) hZ (wk32 hw) (wk6 hw) (by decide) (by decide)) q103a q103c (g := (mkF m 70 Lb101 [(.ref (w 3))])) rfl (by rw [hml]; rfl) (Steps.refl _) (argsL := []) (rest := []) (lenOf pds_3 rfl) rfl (by show 2 * 0 + _ ≤ _; exact Nat.le_of_eq rfl) (hb hby at_70) (fun _ _ => ⟨rfl, e102, (by decide : 0 + 0 ≤ _), (by decide : 0 + 0 ≤ _)⟩)
   dsimp only [Pt.U, Pt.locs, Pt.cells, Pt.slots] at X103 l103 y103 z103 st103 hQ103
   subst l103 y103 z103
   obtain ⟨rfl, N103q, e103⟩ := hQ103
   have N103 := Fr.app N102 N103q
   obtain ⟨cq104, kq104, q104a, q104b, q104c⟩ := isOf hZ e103 ((wd11 hW).ext O0.2)
   obtain ⟨_, _, ⟨T104, L104, kk104, nn104⟩, -, X104, ⟨Lc104, hQ104, l104, y104, z104⟩, st104⟩ := X103.virtualBack hx (y := ym1) (z := ym1) hown (mvT hZ (wk8 hw)) (mvT hZ (wk9 hw)) (notFace_of_selects (args := #[]) (mvT hZ (wk11 hw))) (mvT hZ (wk11 hw)) (mvT hZ (wk10 hw)) (by decide) (backOf (W := 0) (rm2_26 l Z a0 hw w hW []  h0 n0 O0 ) hZ (wk12 hw) (wk6 hw) (by decide) (by decide)) q104a q104c (g := (mkF m 73 Lb101 [(.ref (w 5))])) rfl (by rw [hml]; rfl) (Steps.refl _) (argsL := []) (rest := []) (lenOf pds_1 rfl) rfl (by show 2 * 0 + _ ≤ _; exact Nat.le_of_eq rfl) (hb hby at_73) (fun _ _ => ⟨rfl, e103, (by decide : 0 + 0 ≤ _), (by decide : 0 + 0 ≤ _)⟩)
   dsimp only [Pt.U, Pt.locs, Pt.cells, Pt.slots] at X104 l104 y104 z104 st104 hQ104
   subst l104 y104 z104
   obtain ⟨rfl, N104q, e104⟩ := hQ104
   have N104 := Fr.app N103 N104q
   have pre105 : ∀ t, Steps p.tables e below (T104.setTop (mkF m 85 Lb101 [(.int p2), (.int p1)])) t → Steps p.tables e below (s₁.setTop (entryFrame m #[(.int p0), (.int p1), (.int p2)] maxLocals)) t := fun t k => pre2 t (by
    show Steps p.tables e below (s₁.setTop (mkF m 9 Lb96 [(.int (4 : Int32))])) _
    refine st97 _ ?_
    refine XS.astore X97.here hx rfl (hb hby at_12) rfl rfl (l' := Lb98) rfl ?_
    refine sa X97 hx hby at_14 rfl rfl ?_
    refine st99.trans ?_
    refine XS.istore X99.here hx rfl (hb hby at_19) rfl (l' := Lb100) rfl ?_
    refine sI X99 hx hby at_21 rfl ?_
    refine sN X99 hx hby at_22 (by decide) ?_
    refine sI X99 hx hby at_25 rfl ?_
    refine sc X99 hx hby at_26 ?_
    show Steps p.tables e below (T99.setTop (mkF m 27 Lb100 [(.int (1 : Int32)), (.int (4 : Int32))])) _
    refine XS.icmpYes X99.here hx rfl (pc0 := 27) (pc' := 34) rfl (hb hby at_27) rfl (by decide) (by decide) (by decide) ?_
    refine sc X99 hx hby at_34 ?_
    refine XS.istore X99.here hx rfl (hb hby at_35) rfl (l' := Lb101) rfl ?_
    refine si X99 hx hby at_37 rfl ?_
    refine si X99 hx hby at_39 rfl ?_
    show Steps p.tables e below (T99.setTop (mkF m 41 Lb101 [(.int (0 : Int32)), (.int (0 : Int32))])) _
    refine XS.icmpYes X99.here hx rfl (pc0 := 41) (pc' := 46) rfl (hb hby at_41) rfl (by decide) (by decide) (by decide) ?_
    refine sa X99 hx hby at_46 rfl rfl ?_
    refine st102.trans ?_
    refine sa X102 hx hby at_51 rfl rfl ?_
    refine Jvm.RoadKit.acmp (g := (mkF m 53 Lb101 [(.ref (w 3)), (.ref (w 2))])) X102 hx rfl rfl rfl (pc0 := 53) (pc' := 60) (same := false) rfl (hb hby at_53) rfl (decide_eq_false fun q => (Fld.ne (wd14 hW) (wd15 hW) (by decide)) (Value.ref.inj q)) (by decide) (by decide) ?_
    refine sc X102 hx hby at_60 ?_
    refine si X102 hx hby at_61 rfl ?_
    refine XS.icmpYes X102.here hx rfl (pc0 := 63) (pc' := 68) rfl (hb hby at_63) rfl (by decide) (by decide) (by decide) ?_
    show Steps p.tables e below (T102.setTop (mkF m 68 Lb101 [])) _
    refine sa X102 hx hby at_68 rfl rfl ?_
    refine st103.trans ?_
    refine st104.trans ?_
    refine si X104 hx hby at_76 rfl ?_
    refine XS.icmpYes X104.here hx rfl (pc0 := 78) (pc' := 83) rfl (hb hby at_78) rfl (by decide) (by decide) (by decide) ?_
    refine sI X104 hx hby at_83 rfl ?_
    refine sI X104 hx hby at_84 rfl ?_
    exact k)
   by_cases hc106 : p1 = p2
   ·
    obtain ⟨fs, hr, hrun, hended, hWm, hsame⟩ := X104.leave (v := some (.int (1 : Int32))) (fun h => by rw [Bd.returns] at h; cases h)
    refine ⟨_, _, pre105 _ ?_, hrun, hended, _, _, rfl, ?_, ⟨_, rfl⟩, hWm, hsame.mono (by decide) (by decide)⟩
    · show Steps p.tables e below (T104.setTop (mkF m 85 Lb101 [(.int p2), (.int p1)])) _
      refine XS.icmpYes X104.here hx rfl (pc0 := 85) (pc' := 121) rfl (hb hby at_85) rfl (teq (hc106 : p1 = p2)).1 (by decide) (by decide) ?_
      refine sc X104 hx hby at_121 ?_
      exact retN X104 hx (t := .boolean) Bd.returns (by simp) (hb hby at_122) hr
    · show Q0 n0 _ T104.heap _
      rw [e104]
      exact ⟨rfl, N104⟩
   ·
    have pre107 : ∀ t, Steps p.tables e below (T104.setTop (mkF m 92 Lb101 [(.int p2), (.int p1), (.ref (w 3))])) t → Steps p.tables e below (s₁.setTop (entryFrame m #[(.int p0), (.int p1), (.int p2)] maxLocals)) t := fun t k => pre105 t (by
     show Steps p.tables e below (T104.setTop (mkF m 85 Lb101 [(.int p2), (.int p1)])) _
     refine sn X104 hx hby at_85 (feq (hc106 : ¬ (p1 = p2))).1 ?_
     refine sa X104 hx hby at_88 rfl rfl ?_
     refine sI X104 hx hby at_90 rfl ?_
     refine sI X104 hx hby at_91 rfl ?_
     exact k)
    by_cases hc108 : p1 < p2
    ·
     obtain ⟨cq109, kq109, q109a, q109b, q109c⟩ := isOf hZ e104 ((wd7 hW).ext O0.2)
     obtain ⟨_, _, ⟨T109, L109, kk109, nn109⟩, -, X109, ⟨Lc109, hQ109, l109, y109, z109⟩, st109⟩ := X104.virtualBack hx (y := ym7) (z := ym7) hown (mvT hZ (wk35 hw)) (mvT hZ (wk36 hw)) (notFace_of_selects (args := #[]) (mvT hZ (wk38 hw))) (mvT hZ (wk38 hw)) (mvT hZ (wk37 hw)) (by decide) (backOf (W := 0) (rm6_37 l Z a0 hw w hW [] p1 p2 h0 n0 O0 hc108) hZ (wk39 hw) (wk6 hw) (by decide) (by decide)) q109a q109c (g := (mkF m 92 Lb101 [(.int p2), (.int p1), (.ref (w 3))])) rfl (by rw [hml]; rfl) (Steps.refl _) (argsL := [(.int p1), (.int p2)]) (rest := []) (lenOf pds_5 rfl) rfl (by show 2 * 0 + _ ≤ _; exact Nat.le_of_eq rfl) (hb hby at_92) (fun _ _ => ⟨rfl, e104, (by decide : 0 + 0 ≤ _), (by decide : 0 + 0 ≤ _)⟩)
     dsimp only [Pt.U, Pt.locs, Pt.cells, Pt.slots] at X109 l109 y109 z109 st109 hQ109
     subst l109 y109 z109
     obtain ⟨rfl, N109q, e109⟩ := hQ109
     have N109 := Fr.app N104 N109q
     have pre110 : ∀ t, Steps p.tables e below (T109.setTop (mkF m 99 Lb101 [(.int p1), (.int p2), (.ref (w 3)), (.int (0 : Int32))])) t → Steps p.tables e below (s₁.setTop (entryFrame m #[(.int p0), (.int p1), (.int p2)] maxLocals)) t := fun t k => pre107 t (by
      show Steps p.tables e below (T104.setTop (mkF m 92 Lb101 [(.int p2), (.int p1), (.ref (w 3))])) _
      refine st109.trans ?_
      refine sa X109 hx hby at_95 rfl rfl ?_
      refine sI X109 hx hby at_97 rfl ?_
      refine sI X109 hx hby at_98 rfl ?_
      exact k)
     by_cases hc111 : p2 < p1
     ·
      exfalso
      have z3 : (p1).toInt ≠ (p2).toInt := fun q => hc106 (Int32.toInt_inj.mp q)
      have z4 := Int32.lt_iff_toInt_lt.mp hc108
      have z5 := Int32.lt_iff_toInt_lt.mp hc111
      have z1 := rng32 p1
      have z2 := rng32 p2
      omega
     ·
      obtain ⟨cq112, kq112, q112a, q112b, q112c⟩ := isOf hZ e109 ((wd7 hW).ext O0.2)
      obtain ⟨_, _, ⟨T112, L112, kk112, nn112⟩, -, X112, ⟨Lc112, hQ112, l112, y112, z112⟩, st112⟩ := X109.virtualBack hx (y := ym7) (z := ym7) hown (mvT hZ (wk35 hw)) (mvT hZ (wk36 hw)) (notFace_of_selects (args := #[]) (mvT hZ (wk38 hw))) (mvT hZ (wk38 hw)) (mvT hZ (wk37 hw)) (by decide) (backOf (W := 1) (rm6_38 l Z a0 hw w hW [] p2 p1 h0 n0 O0 hc111 (fun q => hc106 (Eq.symm q))) hZ (wk39 hw) (wk6 hw) (by decide) (by decide)) q112a q112c (g := (mkF m 99 Lb101 [(.int p1), (.int p2), (.ref (w 3)), (.int (0 : Int32))])) rfl (by rw [hml]; rfl) (Steps.refl _) (argsL := [(.int p2), (.int p1)]) (rest := [(.int (0 : Int32))]) (lenOf pds_5 rfl) rfl (by show 2 * 0 + _ ≤ _; exact Nat.le_of_eq rfl) (hb hby at_99) (fun _ _ => ⟨rfl, e109, (by decide : 0 + 0 ≤ _), (by decide : 0 + 0 ≤ _)⟩)
      dsimp only [Pt.U, Pt.locs, Pt.cells, Pt.slots] at X112 l112 y112 z112 st112 hQ112
      subst l112 y112 z112
      obtain ⟨rfl, N112q, e112⟩ := hQ112
      have N112 := Fr.app N109 N112q
      let Lb113 : Array Slot := #[.val (.int p0), .val (.int p1), .val (.int p2), .val (.int (4 : Int32)), .val (.ref (w 3)), .val (.int (0 : Int32)), .val (.int (0 : Int32)), .val (.int (0 : Int32))]
      obtain ⟨fs, hr, hrun, hended, hWm, hsame⟩ := X112.leave (v := some (.int (1 : Int32))) (fun h => by rw [Bd.returns] at h; cases h)
      refine ⟨_, _, pre110 _ ?_, hrun, hended, _, _, rfl, ?_, ⟨_, rfl⟩, hWm, hsame.mono (by decide) (by decide)⟩
      · show Steps p.tables e below (T109.setTop (mkF m 99 Lb101 [(.int p1), (.int p2), (.ref (w 3)), (.int (0 : Int32))])) _
        refine st112.trans ?_
        refine XS.icmpYes X112.here hx rfl (pc0 := 102) (pc' := 109) rfl (hb hby at_102) rfl (by decide) (by decide) (by decide) ?_
        refine sc X112 hx hby at_109 ?_
        refine XS.istore X112.here hx rfl (hb hby at_110) rfl (l' := Lb113) rfl ?_
        refine si X112 hx hby at_112 rfl ?_
        refine si X112 hx hby at_114 rfl ?_
        show Steps p.tables e below (T112.setTop (mkF m 116 Lb113 [(.int (0 : Int32)), (.int (0 : Int32))])) _
        refine XS.icmpYes X112.here hx rfl (pc0 := 116) (pc' := 121) rfl (hb hby at_116) rfl (by decide) (by decide) (by decide) ?_
        refine sc X112 hx hby at_121 ?_
        exact retN X112 hx (t := .boolean) Bd.returns (by simp) (hb hby at_122) hr
      · show Q0 n0 _ T112.heap _
        rw [e112]
        exact ⟨rfl, N112⟩
    ·
     obtain ⟨cq114, kq114, q114a, q114b, q114c⟩ := isOf hZ e104 ((wd7 hW).ext O0.2)
     obtain ⟨_, _, ⟨T114, L114, kk114, nn114⟩, -, X114, ⟨Lc114, hQ114, l114, y114, z114⟩, st114⟩ := X104.virtualBack hx (y := ym7) (z := ym7) hown (mvT hZ (wk35 hw)) (mvT hZ (wk36 hw)) (notFace_of_selects (args := #[]) (mvT hZ (wk38 hw))) (mvT hZ (wk38 hw)) (mvT hZ (wk37 hw)) (by decide) (backOf (W := 0) (rm6_38 l Z a0 hw w hW [] p1 p2 h0 n0 O0 hc108 hc106) hZ (wk39 hw) (wk6 hw) (by decide) (by decide)) q114a q114c (g := (mkF m 92 Lb101 [(.int p2), (.int p1), (.ref (w 3))])) rfl (by rw [hml]; rfl) (Steps.refl _) (argsL := [(.int p1), (.int p2)]) (rest := []) (lenOf pds_5 rfl) rfl (by show 2 * 0 + _ ≤ _; exact Nat.le_of_eq rfl) (hb hby at_92) (fun _ _ => ⟨rfl, e104, (by decide : 0 + 0 ≤ _), (by decide : 0 + 0 ≤ _)⟩)
     dsimp only [Pt.U, Pt.locs, Pt.cells, Pt.slots] at X114 l114 y114 z114 st114 hQ114
     subst l114 y114 z114
     obtain ⟨rfl, N114q, e114⟩ := hQ114
     have N114 := Fr.app N104 N114q
     have pre115 : ∀ t, Steps p.tables e below (T114.setTop (mkF m 99 Lb101 [(.int p1), (.int p2), (.ref (w 3)), (.int (1 : Int32))])) t → Steps p.tables e below (s₁.setTop (entryFrame m #[(.int p0), (.int p1), (.int p2)] maxLocals)) t := fun t k => pre107 t (by
      show Steps p.tables e below (T104.setTop (mkF m 92 Lb101 [(.int p2), (.int p1), (.ref (w 3))])) _
      refine st114.trans ?_
      refine sa X114 hx hby at_95 rfl rfl ?_
      refine sI X114 hx hby at_97 rfl ?_
      refine sI X114 hx hby at_98 rfl ?_
      exact k)
     by_cases hc116 : p2 < p1
     ·
      obtain ⟨cq117, kq117, q117a, q117b, q117c⟩ := isOf hZ e114 ((wd7 hW).ext O0.2)
      obtain ⟨_, _, ⟨T117, L117, kk117, nn117⟩, -, X117, ⟨Lc117, hQ117, l117, y117, z117⟩, st117⟩ := X114.virtualBack hx (y := ym7) (z := ym7) hown (mvT hZ (wk35 hw)) (mvT hZ (wk36 hw)) (notFace_of_selects (args := #[]) (mvT hZ (wk38 hw))) (mvT hZ (wk38 hw)) (mvT hZ (wk37 hw)) (by decide) (backOf (W := 1) (rm6_37 l Z a0 hw w hW [] p2 p1 h0 n0 O0 hc116) hZ (wk39 hw) (wk6 hw) (by decide) (by decide)) q117a q117c (g := (mkF m 99 Lb101 [(.int p1), (.int p2), (.ref (w 3)), (.int (1 : Int32))])) rfl (by rw [hml]; rfl) (Steps.refl _) (argsL := [(.int p2), (.int p1)]) (rest := [(.int (1 : Int32))]) (lenOf pds_5 rfl) rfl (by show 2 * 0 + _ ≤ _; exact Nat.le_of_eq rfl) (hb hby at_99) (fun _ _ => ⟨rfl, e114, (by decide : 0 + 0 ≤ _), (by decide : 0 + 0 ≤ _)⟩)
      dsimp only [Pt.U, Pt.locs, Pt.cells, Pt.slots] at X117 l117 y117 z117 st117 hQ117
      subst l117 y117 z117
      obtain ⟨rfl, N117q, e117⟩ := hQ117
      have N117 := Fr.app N114 N117q
      let Lb118 : Array Slot := #[.val (.int p0), .val (.int p1), .val (.int p2), .val (.int (4 : Int32)), .val (.ref (w 3)), .val (.int (0 : Int32)), .val (.int (0 : Int32)), .val (.int (0 : Int32))]
      obtain ⟨fs, hr, hrun, hended, hWm, hsame⟩ := X117.leave (v := some (.int (1 : Int32))) (fun h => by rw [Bd.returns] at h; cases h)
      refine ⟨_, _, pre115 _ ?_, hrun, hended, _, _, rfl, ?_, ⟨_, rfl⟩, hWm, hsame.mono (by decide) (by decide)⟩
      · show Steps p.tables e below (T114.setTop (mkF m 99 Lb101 [(.int p1), (.int p2), (.ref (w 3)), (.int (1 : Int32))])) _
        refine st117.trans ?_
        refine XS.icmpYes X117.here hx rfl (pc0 := 102) (pc' := 109) rfl (hb hby at_102) rfl (by decide) (by decide) (by decide) ?_
        refine sc X117 hx hby at_109 ?_
        refine XS.istore X117.here hx rfl (hb hby at_110) rfl (l' := Lb118) rfl ?_
        refine si X117 hx hby at_112 rfl ?_
        refine si X117 hx hby at_114 rfl ?_
        show Steps p.tables e below (T117.setTop (mkF m 116 Lb118 [(.int (0 : Int32)), (.int (0 : Int32))])) _
        refine XS.icmpYes X117.here hx rfl (pc0 := 116) (pc' := 121) rfl (hb hby at_116) rfl (by decide) (by decide) (by decide) ?_
        refine sc X117 hx hby at_121 ?_
        exact retN X117 hx (t := .boolean) Bd.returns (by simp) (hb hby at_122) hr
      · show Q0 n0 _ T117.heap _
        rw [e117]
        exact ⟨rfl, N117⟩
     ·
      exfalso
      have z3 : (p1).toInt ≠ (p2).toInt := fun q => hc106 (Int32.toInt_inj.mp q)
      have z4 := Int32.le_iff_toInt_le.mp (Int32.not_lt.mp hc108)
      have z5 := Int32.le_iff_toInt_le.mp (Int32.not_lt.mp hc116)
      have z1 := rng32 p1
      have z2 := rng32 p2
      omega
  ·
   rw [hs3] at pre2
   let Lb119 : Array Slot := #[.val (.int p0), .val (.int p1), .val (.int p2), .val (.int (5 : Int32)), .unset, .unset, .unset, .unset]
   obtain ⟨_, _, ⟨T120, L120, kk120, nn120⟩, -, X120, ⟨Lc120, hQ120, l120, y120, z120⟩, st120⟩ := Jvm.LawKit.callS X0 hx (y := ym0) hown (mvT hZ (wk1 hw)) (mvT hZ (wk2 hw)) (mvT hZ (wk3 hw)) (mvT hZ (wk4 hw)) (by decide) (backOf (W := 0) (rm1_39 l Z a0 hw w hW []  h0 n0 O0 ) hZ (wk4 hw) (wk3 hw) (by decide) (by decide)) (g := (mkF m 9 Lb119 [(.int (5 : Int32))])) rfl (by rw [hml]; rfl) (argsL := [(.int (5 : Int32))]) (rest := []) (lenOf pds_0 rfl) rfl (by show 2 * 0 + _ ≤ _; exact Nat.le_of_eq rfl) (hb hby at_9) (fun _ _ => ⟨rfl, e0, (by decide : 0 + 0 ≤ _), (by decide : 0 + 0 ≤ _)⟩)
   dsimp only [Pt.U, Pt.locs, Pt.cells, Pt.slots] at X120 l120 y120 z120 st120 hQ120
   subst l120 y120 z120
   obtain ⟨rfl, N120q, e120⟩ := hQ120
   have N120 := Fr.app N0 N120q
   let Lb121 : Array Slot := #[.val (.int p0), .val (.int p1), .val (.int p2), .val (.int (5 : Int32)), .val (.ref (w 4)), .unset, .unset, .unset]
   obtain ⟨cq122, kq122, q122a, q122b, q122c⟩ := isOf hZ e120 ((wd9 hW).ext O0.2)
   obtain ⟨_, _, ⟨T122, L122, kk122, nn122⟩, -, X122, ⟨Lc122, hQ122, l122, y122, z122⟩, st122⟩ := X120.virtualBack hx (y := ym1) (z := ym1) hown (mvT hZ (wk8 hw)) (mvT hZ (wk9 hw)) (notFace_of_selects (args := #[]) (mvT hZ (wk11 hw))) (mvT hZ (wk11 hw)) (mvT hZ (wk10 hw)) (by decide) (backOf (W := 0) (rm2_22 l Z a0 hw w hW []  h0 n0 O0 ) hZ (wk12 hw) (wk6 hw) (by decide) (by decide)) q122a q122c (g := (mkF m 16 Lb121 [(.ref (w 4))])) rfl (by rw [hml]; rfl) (Steps.refl _) (argsL := []) (rest := []) (lenOf pds_1 rfl) rfl (by show 2 * 0 + _ ≤ _; exact Nat.le_of_eq rfl) (hb hby at_16) (fun _ _ => ⟨rfl, e120, (by decide : 0 + 0 ≤ _), (by decide : 0 + 0 ≤ _)⟩)
   dsimp only [Pt.U, Pt.locs, Pt.cells, Pt.slots] at X122 l122 y122 z122 st122 hQ122
   subst l122 y122 z122
   obtain ⟨rfl, N122q, e122⟩ := hQ122
   have N122 := Fr.app N120 N122q
   let Lb123 : Array Slot := #[.val (.int p0), .val (.int p1), .val (.int p2), .val (.int (5 : Int32)), .val (.ref (w 4)), .val (.int (0 : Int32)), .unset, .unset]
   let Lb124 : Array Slot := #[.val (.int p0), .val (.int p1), .val (.int p2), .val (.int (5 : Int32)), .val (.ref (w 4)), .val (.int (0 : Int32)), .val (.int (0 : Int32)), .unset]
   obtain ⟨cq125, kq125, q125a, q125b, q125c⟩ := isOf hZ e122 ((wd9 hW).ext O0.2)
   obtain ⟨_, _, ⟨T125, L125, kk125, nn125⟩, -, X125, ⟨Lc125, hQ125, l125, y125, z125⟩, st125⟩ := X122.virtualBack hx (y := ym4) (z := ym4) hown (mvT hZ (wk14 hw)) (mvT hZ (wk15 hw)) (notFace_of_selects (args := #[]) (mvT hZ (wk17 hw))) (mvT hZ (wk17 hw)) (mvT hZ (wk16 hw)) (by decide) (backOf (W := 0) (rm3_41 l Z a0 hw w hW []  h0 n0 O0 ) hZ (wk18 hw) (wk6 hw) (by decide) (by decide)) q125a q125c (g := (mkF m 48 Lb124 [(.ref (w 4))])) rfl (by rw [hml]; rfl) (Steps.refl _) (argsL := []) (rest := []) (lenOf pds_3 rfl) rfl (by show 2 * 0 + _ ≤ _; exact Nat.le_of_eq rfl) (hb hby at_48) (fun _ _ => ⟨rfl, e122, (by decide : 0 + 0 ≤ _), (by decide : 0 + 0 ≤ _)⟩)
   dsimp only [Pt.U, Pt.locs, Pt.cells, Pt.slots] at X125 l125 y125 z125 st125 hQ125
   subst l125 y125 z125
   obtain ⟨rfl, N125q, e125⟩ := hQ125
   have N125 := Fr.app N122 N125q
   obtain ⟨cq126, kq126, q126a, q126b, q126c⟩ := isOf hZ e125 ((wd9 hW).ext O0.2)
   obtain ⟨_, _, ⟨T126, L126, kk126, nn126⟩, -, X126, ⟨Lc126, hQ126, l126, y126, z126⟩, st126⟩ := X125.virtualBack hx (y := ym5) (z := ym5) hown (mvT hZ (wk28 hw)) (mvT hZ (wk29 hw)) (notFace_of_selects (args := #[]) (mvT hZ (wk31 hw))) (mvT hZ (wk31 hw)) (mvT hZ (wk30 hw)) (by decide) (backOf (W := 0) (rm5_42 l Z a0 hw w hW []  h0 n0 O0 ) hZ (wk32 hw) (wk6 hw) (by decide) (by decide)) q126a q126c (g := (mkF m 70 Lb124 [(.ref (w 4))])) rfl (by rw [hml]; rfl) (Steps.refl _) (argsL := []) (rest := []) (lenOf pds_3 rfl) rfl (by show 2 * 0 + _ ≤ _; exact Nat.le_of_eq rfl) (hb hby at_70) (fun _ _ => ⟨rfl, e125, (by decide : 0 + 0 ≤ _), (by decide : 0 + 0 ≤ _)⟩)
   dsimp only [Pt.U, Pt.locs, Pt.cells, Pt.slots] at X126 l126 y126 z126 st126 hQ126
   subst l126 y126 z126
   obtain ⟨rfl, N126q, e126⟩ := hQ126
   have N126 := Fr.app N125 N126q
   obtain ⟨cq127, kq127, q127a, q127b, q127c⟩ := isOf hZ e126 ((wd5 hW).ext O0.2)
   obtain ⟨_, _, ⟨T127, L127, kk127, nn127⟩, -, X127, ⟨Lc127, hQ127, l127, y127, z127⟩, st127⟩ := X126.virtualBack hx (y := ym1) (z := ym1) hown (mvT hZ (wk8 hw)) (mvT hZ (wk9 hw)) (notFace_of_selects (args := #[]) (mvT hZ (wk11 hw))) (mvT hZ (wk11 hw)) (mvT hZ (wk10 hw)) (by decide) (backOf (W := 0) (rm2_18 l Z a0 hw w hW []  h0 n0 O0 ) hZ (wk12 hw) (wk6 hw) (by decide) (by decide)) q127a q127c (g := (mkF m 73 Lb124 [(.ref (w 2))])) rfl (by rw [hml]; rfl) (Steps.refl _) (argsL := []) (rest := []) (lenOf pds_1 rfl) rfl (by show 2 * 0 + _ ≤ _; exact Nat.le_of_eq rfl) (hb hby at_73) (fun _ _ => ⟨rfl, e126, (by decide : 0 + 0 ≤ _), (by decide : 0 + 0 ≤ _)⟩)
   dsimp only [Pt.U, Pt.locs, Pt.cells, Pt.slots] at X127 l127 y127 z127 st127 hQ127
   subst l127 y127 z127
   obtain ⟨rfl, N127q, e127⟩ := hQ127
   have N127 := Fr.app N126 N127q
   have pre128 : ∀ t, Steps p.tables e below (T127.setTop (mkF m 85 Lb124 [(.int p2), (.int p1)])) t → Steps p.tables e below (s₁.setTop (entryFrame m #[(.int p0), (.int p1), (.int p2)] maxLocals)) t := fun t k => pre2 t (by
    show Steps p.tables e below (s₁.setTop (mkF m 9 Lb119 [(.int (5 : Int32))])) _
    refine st120 _ ?_
    refine XS.astore X120.here hx rfl (hb hby at_12) rfl rfl (l' := Lb121) rfl ?_
    refine sa X120 hx hby at_14 rfl rfl ?_
    refine st122.trans ?_
    refine XS.istore X122.here hx rfl (hb hby at_19) rfl (l' := Lb123) rfl ?_
    refine sI X122 hx hby at_21 rfl ?_
    refine sN X122 hx hby at_22 (by decide) ?_
    refine sI X122 hx hby at_25 rfl ?_
    refine sc X122 hx hby at_26 ?_
    show Steps p.tables e below (T122.setTop (mkF m 27 Lb123 [(.int (1 : Int32)), (.int (5 : Int32))])) _
    refine XS.icmpYes X122.here hx rfl (pc0 := 27) (pc' := 34) rfl (hb hby at_27) rfl (by decide) (by decide) (by decide) ?_
    refine sc X122 hx hby at_34 ?_
    refine XS.istore X122.here hx rfl (hb hby at_35) rfl (l' := Lb124) rfl ?_
    refine si X122 hx hby at_37 rfl ?_
    refine si X122 hx hby at_39 rfl ?_
    show Steps p.tables e below (T122.setTop (mkF m 41 Lb124 [(.int (0 : Int32)), (.int (0 : Int32))])) _
    refine XS.icmpYes X122.here hx rfl (pc0 := 41) (pc' := 46) rfl (hb hby at_41) rfl (by decide) (by decide) (by decide) ?_
    refine sa X122 hx hby at_46 rfl rfl ?_
    refine st125.trans ?_
    refine sa X125 hx hby at_51 rfl rfl ?_
    refine Jvm.RoadKit.acmp (g := (mkF m 53 Lb124 [(.ref (w 4)), (.ref (w 5))])) X125 hx rfl rfl rfl (pc0 := 53) (pc' := 60) (same := false) rfl (hb hby at_53) rfl (decide_eq_false fun q => (Fld.ne (wd17 hW) (wd16 hW) (by decide)) (Value.ref.inj q)) (by decide) (by decide) ?_
    refine sc X125 hx hby at_60 ?_
    refine si X125 hx hby at_61 rfl ?_
    refine XS.icmpYes X125.here hx rfl (pc0 := 63) (pc' := 68) rfl (hb hby at_63) rfl (by decide) (by decide) (by decide) ?_
    show Steps p.tables e below (T125.setTop (mkF m 68 Lb124 [])) _
    refine sa X125 hx hby at_68 rfl rfl ?_
    refine st126.trans ?_
    refine st127.trans ?_
    refine si X127 hx hby at_76 rfl ?_
    refine XS.icmpYes X127.here hx rfl (pc0 := 78) (pc' := 83) rfl (hb hby at_78) rfl (by decide) (by decide) (by decide) ?_
    refine sI X127 hx hby at_83 rfl ?_
    refine sI X127 hx hby at_84 rfl ?_
    exact k)
   by_cases hc129 : p1 = p2
   ·
    obtain ⟨fs, hr, hrun, hended, hWm, hsame⟩ := X127.leave (v := some (.int (1 : Int32))) (fun h => by rw [Bd.returns] at h; cases h)
    refine ⟨_, _, pre128 _ ?_, hrun, hended, _, _, rfl, ?_, ⟨_, rfl⟩, hWm, hsame.mono (by decide) (by decide)⟩
    · show Steps p.tables e below (T127.setTop (mkF m 85 Lb124 [(.int p2), (.int p1)])) _
      refine XS.icmpYes X127.here hx rfl (pc0 := 85) (pc' := 121) rfl (hb hby at_85) rfl (teq (hc129 : p1 = p2)).1 (by decide) (by decide) ?_
      refine sc X127 hx hby at_121 ?_
      exact retN X127 hx (t := .boolean) Bd.returns (by simp) (hb hby at_122) hr
    · show Q0 n0 _ T127.heap _
      rw [e127]
      exact ⟨rfl, N127⟩
   ·
    have pre130 : ∀ t, Steps p.tables e below (T127.setTop (mkF m 92 Lb124 [(.int p2), (.int p1), (.ref (w 4))])) t → Steps p.tables e below (s₁.setTop (entryFrame m #[(.int p0), (.int p1), (.int p2)] maxLocals)) t := fun t k => pre128 t (by
     show Steps p.tables e below (T127.setTop (mkF m 85 Lb124 [(.int p2), (.int p1)])) _
     refine sn X127 hx hby at_85 (feq (hc129 : ¬ (p1 = p2))).1 ?_
     refine sa X127 hx hby at_88 rfl rfl ?_
     refine sI X127 hx hby at_90 rfl ?_
     refine sI X127 hx hby at_91 rfl ?_
     exact k)
    by_cases hc131 : p1 < p2
    ·
     obtain ⟨cq132, kq132, q132a, q132b, q132c⟩ := isOf hZ e127 ((wd9 hW).ext O0.2)
     obtain ⟨_, _, ⟨T132, L132, kk132, nn132⟩, -, X132, ⟨Lc132, hQ132, l132, y132, z132⟩, st132⟩ := X127.virtualBack hx (y := ym7) (z := ym7) hown (mvT hZ (wk35 hw)) (mvT hZ (wk36 hw)) (notFace_of_selects (args := #[]) (mvT hZ (wk38 hw))) (mvT hZ (wk38 hw)) (mvT hZ (wk37 hw)) (by decide) (backOf (W := 0) (rm6_43 l Z a0 hw w hW [] p1 p2 h0 n0 O0 hc131) hZ (wk39 hw) (wk6 hw) (by decide) (by decide)) q132a q132c (g := (mkF m 92 Lb124 [(.int p2), (.int p1), (.ref (w 4))])) rfl (by rw [hml]; rfl) (Steps.refl _) (argsL := [(.int p1), (.int p2)]) (rest := []) (lenOf pds_5 rfl) rfl (by show 2 * 0 + _ ≤ _; exact Nat.le_of_eq rfl) (hb hby at_92) (fun _ _ => ⟨rfl, e127, (by decide : 0 + 0 ≤ _), (by decide : 0 + 0 ≤ _)⟩)
     dsimp only [Pt.U, Pt.locs, Pt.cells, Pt.slots] at X132 l132 y132 z132 st132 hQ132
     subst l132 y132 z132
     obtain ⟨rfl, N132q, e132⟩ := hQ132
     have N132 := Fr.app N127 N132q
     have pre133 : ∀ t, Steps p.tables e below (T132.setTop (mkF m 99 Lb124 [(.int p1), (.int p2), (.ref (w 4)), (.int (0 : Int32))])) t → Steps p.tables e below (s₁.setTop (entryFrame m #[(.int p0), (.int p1), (.int p2)] maxLocals)) t := fun t k => pre130 t (by
      show Steps p.tables e below (T127.setTop (mkF m 92 Lb124 [(.int p2), (.int p1), (.ref (w 4))])) _
      refine st132.trans ?_
      refine sa X132 hx hby at_95 rfl rfl ?_
      refine sI X132 hx hby at_97 rfl ?_
      refine sI X132 hx hby at_98 rfl ?_
      exact k)
     by_cases hc134 : p2 < p1
     ·
      exfalso
      have z3 : (p1).toInt ≠ (p2).toInt := fun q => hc129 (Int32.toInt_inj.mp q)
      have z4 := Int32.lt_iff_toInt_lt.mp hc131
      have z5 := Int32.lt_iff_toInt_lt.mp hc134
      have z1 := rng32 p1
      have z2 := rng32 p2
      omega
     ·
      obtain ⟨cq135, kq135, q135a, q135b, q135c⟩ := isOf hZ e132 ((wd9 hW).ext O0.2)
      obtain ⟨_, _, ⟨T135, L135, kk135, nn135⟩, -, X135, ⟨Lc135, hQ135, l135, y135, z135⟩, st135⟩ := X132.virtualBack hx (y := ym7) (z := ym7) hown (mvT hZ (wk35 hw)) (mvT hZ (wk36 hw)) (notFace_of_selects (args := #[]) (mvT hZ (wk38 hw))) (mvT hZ (wk38 hw)) (mvT hZ (wk37 hw)) (by decide) (backOf (W := 1) (rm6_44 l Z a0 hw w hW [] p2 p1 h0 n0 O0 hc134 (fun q => hc129 (Eq.symm q))) hZ (wk39 hw) (wk6 hw) (by decide) (by decide)) q135a q135c (g := (mkF m 99 Lb124 [(.int p1), (.int p2), (.ref (w 4)), (.int (0 : Int32))])) rfl (by rw [hml]; rfl) (Steps.refl _) (argsL := [(.int p2), (.int p1)]) (rest := [(.int (0 : Int32))]) (lenOf pds_5 rfl) rfl (by show 2 * 0 + _ ≤ _; exact Nat.le_of_eq rfl) (hb hby at_99) (fun _ _ => ⟨rfl, e132, (by decide : 0 + 0 ≤ _), (by decide : 0 + 0 ≤ _)⟩)
      dsimp only [Pt.U, Pt.locs, Pt.cells, Pt.slots] at X135 l135 y135 z135 st135 hQ135
      subst l135 y135 z135
      obtain ⟨rfl, N135q, e135⟩ := hQ135
      have N135 := Fr.app N132 N135q
      let Lb136 : Array Slot := #[.val (.int p0), .val (.int p1), .val (.int p2), .val (.int (5 : Int32)), .val (.ref (w 4)), .val (.int (0 : Int32)), .val (.int (0 : Int32)), .val (.int (0 : Int32))]
      obtain ⟨fs, hr, hrun, hended, hWm, hsame⟩ := X135.leave (v := some (.int (1 : Int32))) (fun h => by rw [Bd.returns] at h; cases h)
      refine ⟨_, _, pre133 _ ?_, hrun, hended, _, _, rfl, ?_, ⟨_, rfl⟩, hWm, hsame.mono (by decide) (by decide)⟩
      · show Steps p.tables e below (T132.setTop (mkF m 99 Lb124 [(.int p1), (.int p2), (.ref (w 4)), (.int (0 : Int32))])) _
        refine st135.trans ?_
        refine XS.icmpYes X135.here hx rfl (pc0 := 102) (pc' := 109) rfl (hb hby at_102) rfl (by decide) (by decide) (by decide) ?_
        refine sc X135 hx hby at_109 ?_
        refine XS.istore X135.here hx rfl (hb hby at_110) rfl (l' := Lb136) rfl ?_
        refine si X135 hx hby at_112 rfl ?_
        refine si X135 hx hby at_114 rfl ?_
        show Steps p.tables e below (T135.setTop (mkF m 116 Lb136 [(.int (0 : Int32)), (.int (0 : Int32))])) _
        refine XS.icmpYes X135.here hx rfl (pc0 := 116) (pc' := 121) rfl (hb hby at_116) rfl (by decide) (by decide) (by decide) ?_
        refine sc X135 hx hby at_121 ?_
        exact retN X135 hx (t := .boolean) Bd.returns (by simp) (hb hby at_122) hr
      · show Q0 n0 _ T135.heap _
        rw [e135]
        exact ⟨rfl, N135⟩
    ·
     obtain ⟨cq137, kq137, q137a, q137b, q137c⟩ := isOf hZ e127 ((wd9 hW).ext O0.2)
     obtain ⟨_, _, ⟨T137, L137, kk137, nn137⟩, -, X137, ⟨Lc137, hQ137, l137, y137, z137⟩, st137⟩ := X127.virtualBack hx (y := ym7) (z := ym7) hown (mvT hZ (wk35 hw)) (mvT hZ (wk36 hw)) (notFace_of_selects (args := #[]) (mvT hZ (wk38 hw))) (mvT hZ (wk38 hw)) (mvT hZ (wk37 hw)) (by decide) (backOf (W := 0) (rm6_44 l Z a0 hw w hW [] p1 p2 h0 n0 O0 hc131 hc129) hZ (wk39 hw) (wk6 hw) (by decide) (by decide)) q137a q137c (g := (mkF m 92 Lb124 [(.int p2), (.int p1), (.ref (w 4))])) rfl (by rw [hml]; rfl) (Steps.refl _) (argsL := [(.int p1), (.int p2)]) (rest := []) (lenOf pds_5 rfl) rfl (by show 2 * 0 + _ ≤ _; exact Nat.le_of_eq rfl) (hb hby at_92) (fun _ _ => ⟨rfl, e127, (by decide : 0 + 0 ≤ _), (by decide : 0 + 0 ≤ _)⟩)
     dsimp only [Pt.U, Pt.locs, Pt.cells, Pt.slots] at X137 l137 y137 z137 st137 hQ137
     subst l137 y137 z137
     obtain ⟨rfl, N137q, e137⟩ := hQ137
     have N137 := Fr.app N127 N137q
     have pre138 : ∀ t, Steps p.tables e below (T137.setTop (mkF m 99 Lb124 [(.int p1), (.int p2), (.ref (w 4)), (.int (1 : Int32))])) t → Steps p.tables e below (s₁.setTop (entryFrame m #[(.int p0), (.int p1), (.int p2)] maxLocals)) t := fun t k => pre130 t (by
      show Steps p.tables e below (T127.setTop (mkF m 92 Lb124 [(.int p2), (.int p1), (.ref (w 4))])) _
      refine st137.trans ?_
      refine sa X137 hx hby at_95 rfl rfl ?_
      refine sI X137 hx hby at_97 rfl ?_
      refine sI X137 hx hby at_98 rfl ?_
      exact k)
     by_cases hc139 : p2 < p1
     ·
      obtain ⟨cq140, kq140, q140a, q140b, q140c⟩ := isOf hZ e137 ((wd9 hW).ext O0.2)
      obtain ⟨_, _, ⟨T140, L140, kk140, nn140⟩, -, X140, ⟨Lc140, hQ140, l140, y140, z140⟩, st140⟩ := X137.virtualBack hx (y := ym7) (z := ym7) hown (mvT hZ (wk35 hw)) (mvT hZ (wk36 hw)) (notFace_of_selects (args := #[]) (mvT hZ (wk38 hw))) (mvT hZ (wk38 hw)) (mvT hZ (wk37 hw)) (by decide) (backOf (W := 1) (rm6_43 l Z a0 hw w hW [] p2 p1 h0 n0 O0 hc139) hZ (wk39 hw) (wk6 hw) (by decide) (by decide)) q140a q140c (g := (mkF m 99 Lb124 [(.int p1), (.int p2), (.ref (w 4)), (.int (1 : Int32))])) rfl (by rw [hml]; rfl) (Steps.refl _) (argsL := [(.int p2), (.int p1)]) (rest := [(.int (1 : Int32))]) (lenOf pds_5 rfl) rfl (by show 2 * 0 + _ ≤ _; exact Nat.le_of_eq rfl) (hb hby at_99) (fun _ _ => ⟨rfl, e137, (by decide : 0 + 0 ≤ _), (by decide : 0 + 0 ≤ _)⟩)
      dsimp only [Pt.U, Pt.locs, Pt.cells, Pt.slots] at X140 l140 y140 z140 st140 hQ140
      subst l140 y140 z140
      obtain ⟨rfl, N140q, e140⟩ := hQ140
      have N140 := Fr.app N137 N140q
      let Lb141 : Array Slot := #[.val (.int p0), .val (.int p1), .val (.int p2), .val (.int (5 : Int32)), .val (.ref (w 4)), .val (.int (0 : Int32)), .val (.int (0 : Int32)), .val (.int (0 : Int32))]
      obtain ⟨fs, hr, hrun, hended, hWm, hsame⟩ := X140.leave (v := some (.int (1 : Int32))) (fun h => by rw [Bd.returns] at h; cases h)
      refine ⟨_, _, pre138 _ ?_, hrun, hended, _, _, rfl, ?_, ⟨_, rfl⟩, hWm, hsame.mono (by decide) (by decide)⟩
      · show Steps p.tables e below (T137.setTop (mkF m 99 Lb124 [(.int p1), (.int p2), (.ref (w 4)), (.int (1 : Int32))])) _
        refine st140.trans ?_
        refine XS.icmpYes X140.here hx rfl (pc0 := 102) (pc' := 109) rfl (hb hby at_102) rfl (by decide) (by decide) (by decide) ?_
        refine sc X140 hx hby at_109 ?_
        refine XS.istore X140.here hx rfl (hb hby at_110) rfl (l' := Lb141) rfl ?_
        refine si X140 hx hby at_112 rfl ?_
        refine si X140 hx hby at_114 rfl ?_
        show Steps p.tables e below (T140.setTop (mkF m 116 Lb141 [(.int (0 : Int32)), (.int (0 : Int32))])) _
        refine XS.icmpYes X140.here hx rfl (pc0 := 116) (pc' := 121) rfl (hb hby at_116) rfl (by decide) (by decide) (by decide) ?_
        refine sc X140 hx hby at_121 ?_
        exact retN X140 hx (t := .boolean) Bd.returns (by simp) (hb hby at_122) hr
      · show Q0 n0 _ T140.heap _
        rw [e140]
        exact ⟨rfl, N140⟩
     ·
      exfalso
      have z3 : (p1).toInt ≠ (p2).toInt := fun q => hc129 (Int32.toInt_inj.mp q)
      have z4 := Int32.le_iff_toInt_le.mp (Int32.not_lt.mp hc131)
      have z5 := Int32.le_iff_toInt_le.mp (Int32.not_lt.mp hc139)
      have z1 := rng32 p1
      have z2 := rng32 p2
      omega
set_option maxRecDepth 65536 in
set_option maxHeartbeats 400000000 in
theorem comes_1 {Post : Tables → Env → Array Value → State → Outcome → State → Prop} (hpost : ∀ tb e args s v u, (limb_1_1.after args s (.returned v) u = true ∧ limb_1_2.after args s (.returned v) u = true ∧ True) → FrameEnd s (.returned v) u (Jvm.fieldLocs frame_1_writes args s ++ Jvm.arrayLocs frame_1_arrays args s ++ Jvm.staticLocs frame_1_statics s) 0 0 → Post tb e args s (.returned v) u) :
    ArmFor flags0 classFile x code maxLocals ret World_1 tables_1 room_1 Calls_1 rest_1 Pre_1 Post := by
  intro l hfl _ _ p e ha hc hk s m args below hf hA hF happ hP
  obtain ⟨hcalls, hrest, hpre⟩ := hP
  obtain ⟨-, -, -, hnamed, -, -, -, hat⟩ := (Spec.applies_iff hf).mp happ
  obtain ⟨hg, hn⟩ := and_e (Cond.before_iff.mp (show (Jvm.Cond.and given_1 narrow_1).before args s = true from hpre))
  obtain ⟨ga4, gb4⟩ := and_e hg
  obtain ⟨ga5, gb5⟩ := and_e gb4
  obtain ⟨ga6, gb6⟩ := and_e gb5
  obtain ⟨v0, v1, v2, rfl⟩ : ∃ v0 v1 v2 : Value, args = #[v0, v1, v2] := by
    have hs : args.size = 3 := by simpa [Cond.value, given_1] using ga4
    obtain ⟨L⟩ := args
    match L, hs with
    | [v0, v1, v2], _ => exact ⟨v0, v1, v2, rfl⟩
  have hw := fun d (hd : d ∈ tables_1) => atoms_spec (ws := Jvm.Cond.code x code maxLocals ret :: tables_1) hat d (List.mem_cons_of_mem _ hd)
  have hfit : Fit s := fun {y c} hc i hi => by
    obtain ⟨ha, rfl⟩ := Array.getElem?_eq_some_iff.mp hc
    have q := List.all_eq_true.mp ((Array.all_eq_true_iff_forall_mem.mp hF) _ (Array.getElem_mem ha)) i (List.mem_range.mpr hi)
    simpa [Array.getElem?_eq_getElem hi] using q
  obtain ⟨i0, ei0⟩ := is_v ga5
  obtain rfl : v0 = (.int i0) := Option.some.inj ei0
  obtain ⟨i1, ei1⟩ := is_v ga6
  obtain rfl : v1 = (.int i1) := Option.some.inj ei1
  obtain ⟨i2, ei2⟩ := is_v gb6
  obtain rfl : v2 = (.int i2) := Option.some.inj ei2
  obtain ⟨na0, nb0⟩ := and_e hn
  obtain ⟨na1, nb1⟩ := and_e nb0
  obtain ⟨na2, nb2⟩ := and_e nb1
  obtain ⟨na3, nb3⟩ := and_e nb2
  obtain ⟨na4, nb4⟩ := and_e nb3
  obtain ⟨na5, nb5⟩ := and_e nb4
  obtain ⟨na6, nb6⟩ := and_e nb5
  obtain ⟨na7, nb7⟩ := and_e nb6
  obtain ⟨na8, nb8⟩ := and_e nb7
  obtain ⟨na9, nb9⟩ := and_e nb8
  obtain ⟨na10, nb10⟩ := and_e nb9
  obtain ⟨x0, ev0⟩ := exa_v na0
  obtain ⟨x1, ev1⟩ := exa_v na2
  obtain ⟨x2, ev2⟩ := exa_v na4
  obtain ⟨x3, ev3⟩ := exa_v na6
  obtain ⟨x4, ev4⟩ := exa_v na8
  obtain ⟨x5, ev5⟩ := exa_v na10
  have hW : Wd s (fun i => ([x0, x1, x2, x3, x4, x5] : List Addr).getD i 0) := ⟨(Sta.start ev0 (Or.inr ⟨(wk6 hw), (wk7 hw)⟩)), (Exa.start ev0 na0), (Sta.start ev1 (Or.inr ⟨(wk6 hw), (wk34 hw)⟩)), (Exa.start ev1 na2), (Sta.start ev2 (Or.inr ⟨(wk6 hw), (wk46 hw)⟩)), (Exa.start ev2 na4), (Sta.start ev3 (Or.inr ⟨(wk6 hw), (wk48 hw)⟩)), (Exa.start ev3 na6), (Sta.start ev4 (Or.inr ⟨(wk6 hw), (wk50 hw)⟩)), (Exa.start ev4 na8), (Sta.start ev5 (Or.inr ⟨(wk6 hw), (wk53 hw)⟩)), (Exa.start ev5 na10), (own_fldI ev0 na1), (own_fldI ev1 na3), (own_fldI ev2 na5), (own_fldI ev3 na7), (own_fldI ev4 na9), (own_fldI ev5 nb10), trivial⟩
  obtain ⟨n, o, h1, h2, h3, _, L, rfl, ⟨rfl, N⟩, hq⟩ := rm0 l s _ hw _ hW tables_1 i0 i1 i2 s.heap s.heap.size (Old.start s) p e ha hc hk s m _ below hf ((Spec.applies_iff_loose hf).mp happ).1 ⟨rfl, State.Warmed39.refl s, rfl⟩ trivial
  refine ⟨n, _, h1, h2, h3, hpost _ _ _ _ _ _ ⟨Cond.after_iff.mpr rfl, Cond.after_iff.mpr (eq_i res_at (Term.int_eval (1)) rfl), trivial⟩ ⟨hq.1, hq.2.1, (hq.2.2.sift fun y hy => Or.inr (N y hy)).mono (by decide) (by decide)⟩⟩
theorem main_1_1 : Claimed_1_1 := comes_1 fun _ _ _ _ _ _ h hF => ⟨h.1, hF⟩
theorem main_1_2 : Claimed_1_2 := comes_1 fun _ _ _ _ _ _ h hF => ⟨h.2.1, hF⟩
end Jvm.Pilot.@@N@@
namespace Jvm.Pilot.@@N@@
open Jvm Jvm.ClassFile Sem Op Lib Jvm.Free Jvm.Stand Jvm.Pilot.@@N@@.Jvm.D
/-! MADE BY PROGRAM (witnessworld.py) out of the Statement's table words and the real class files: 15 classes; the members and pool entries that the words name. The judged class is class 1, her method 2. -/
namespace start1
open Jvm.ClassFile
def u (s : String) : CpInfo := .utf8 (stringToUtf16 s)
/-- a pool by its gaps: so many unusable entries, then the entry; so many at the end -/
def gap : Nat → List CpInfo → List CpInfo
  | 0, r => r
  | n + 1, r => .unusable :: gap n r
def poolList (es : List (Nat × CpInfo)) (last : Nat) : List CpInfo := es.foldr (fun e r => gap e.1 (e.2 :: r)) (gap last [])
def pool (es : List (Nat × CpInfo)) (last : Nat) : Array CpInfo := ⟨poolList es last⟩
def fileOf (pool : Array CpInfo) (this : Nat) (attrs : Array Attribute := #[]) (ms : Array MethodInfo := #[]) (fl : Nat := 33) (sup : Nat := 0) (ifs : Array Nat := #[]) (fds : Array FieldInfo := #[]) : ClassFile where
  minorVersion := 0
  majorVersion := 65
  constantPool := pool
  accessFlags := fl
  thisClass := this
  superClass := sup
  interfaces := ifs
  fields := fds
  methods := ms
  attributes := attrs
def plain (name : String) (sup : Option ClassId) : Class where
  name := name
  kind := .ordinary
  loader := none
  accessFlags := 33
  super := sup
  interfaces := #[]
  cf := none
  fields := #[]
  methods := #[]
  instanceTypes := #[]
  staticTypes := #[]
  resolved := #[]
  callSites := []
  init := .initialized
  statics := none
  mirror := none

def pool0 : Array CpInfo := pool [(5, u "<init>"), (0, u "()V"), (1, .class_ 10), (1, u "java/lang/Object")] 113

def k0m0 : Method := { name := "<init>", desc := "()V", sig := { parameters := [], returnType := none }, accessFlags := 1, code := none }
/-- java/lang/Object -/
def k0 : Class := { plain "java/lang/Object" none with
  accessFlags := 33
  interfaces := #[]
  cf := some (fileOf pool0 8 #[] #[{ accessFlags := 1, nameIndex := 5, descriptorIndex := 6, attributes := #[] }] 33 0 #[] #[])
  fields := #[]
  methods := #[k0m0]
  instanceTypes := #[]
  staticTypes := #[]
  resolved := Array.replicate 124 none
  statics := none }

def pool1 : Array CpInfo := pool [(2, .class_ 4), (1, u "java/lang/Object"), (0, u "<init>"), (0, u "()V"), (0, .fieldref 8 9), (0, .class_ 10), (0, .nameAndType 11 12), (0, u "com/example/gofyn/gofyn/typed/Term$Operator"), (0, u "EQUAL"), (0, u "Lcom/example/gofyn/gofyn/typed/Term$Operator;"), (0, .fieldref 8 14), (0, .nameAndType 15 12), (0, u "NOT_EQUAL"), (0, .fieldref 8 17), (0, .nameAndType 18 12), (0, u "LESS"), (0, .fieldref 8 20), (0, .nameAndType 21 12), (0, u "LESS_EQUAL"), (0, .fieldref 8 23), (0, .nameAndType 24 12), (0, u "GREATER"), (0, .fieldref 8 26), (0, .nameAndType 27 12), (0, u "GREATER_EQUAL"), (0, .integer 2147483647), (0, .methodref 30 31), (0, .class_ 32), (0, .nameAndType 33 34), (0, u "com/example/gofyn/gofyn/typed/OperatorIsEqualityPinLaw"), (0, u "pick"), (0, u "(I)Lcom/example/gofyn/gofyn/typed/Term$Operator;"), (0, .methodref 8 36), (0, .nameAndType 37 38), (0, u "isEquality"), (0, u "()Z"), (0, .methodref 8 40), (0, .nameAndType 41 42), (0, u "mirrored"), (0, u "()Lcom/example/gofyn/gofyn/typed/Term$Operator;"), (0, .methodref 8 44), (0, .nameAndType 45 42), (0, u "complement"), (0, .methodref 8 47), (0, .nameAndType 48 49), (0, u "holds"), (0, u "(II)Z"), (3, u "law"), (0, u "(III)Z")] 6

def k1m0 : Method := { name := "<init>", desc := "()V", sig := { parameters := [], returnType := none }, accessFlags := 2, code := none }
def k1c1 : Code := { maxStack := 2, maxLocals := 1, code := method_2_code, exceptionTable := #[], attributes := #[] }
def k1m1 : Method := { name := "pick", desc := "(I)Lcom/example/gofyn/gofyn/typed/Term$Operator;", sig := { parameters := [.int], returnType := some (.object "com/example/gofyn/gofyn/typed/Term$Operator") }, accessFlags := 10, code := some k1c1 }
def k1c2 : Code := { maxStack := 4, maxLocals := 8, code := code, exceptionTable := #[], attributes := #[] }
def k1m2 : Method := { name := "law", desc := "(III)Z", sig := { parameters := [.int, .int, .int], returnType := some .boolean }, accessFlags := 9, code := some k1c2 }
/-- com/example/gofyn/gofyn/typed/OperatorIsEqualityPinLaw -/
def k1 : Class := { plain "com/example/gofyn/gofyn/typed/OperatorIsEqualityPinLaw" (some 0) with
  accessFlags := 49
  interfaces := #[]
  cf := some (fileOf pool1 30 #[] #[{ accessFlags := 2, nameIndex := 5, descriptorIndex := 6, attributes := #[] }, { accessFlags := 10, nameIndex := 33, descriptorIndex := 34, attributes := #[] }, { accessFlags := 9, nameIndex := 53, descriptorIndex := 54, attributes := #[] }] 49 2 #[] #[])
  fields := #[]
  methods := #[k1m0, k1m1, k1m2]
  instanceTypes := #[]
  staticTypes := #[]
  resolved := Array.replicate 61 none
  statics := none }

def pool2 : Array CpInfo := pool [(1, .class_ 2), (0, u "java/lang/constant/Constable"), (0, .class_ 4), (0, u "java/lang/Object")] 6

/-- java/lang/constant/Constable -/
def k2 : Class := { plain "java/lang/constant/Constable" (some 0) with
  accessFlags := 1537
  interfaces := #[]
  cf := some (fileOf pool2 1 #[] #[] 1537 3 #[] #[])
  fields := #[]
  methods := #[]
  instanceTypes := #[]
  staticTypes := #[]
  resolved := Array.replicate 11 none
  statics := none }

def pool3 : Array CpInfo := pool [(1, .class_ 2), (0, u "java/lang/Comparable"), (0, .class_ 4), (0, u "java/lang/Object")] 7

/-- java/lang/Comparable -/
def k3 : Class := { plain "java/lang/Comparable" (some 0) with
  accessFlags := 1537
  interfaces := #[]
  cf := some (fileOf pool3 1 #[] #[] 1537 3 #[] #[])
  fields := #[]
  methods := #[]
  instanceTypes := #[]
  staticTypes := #[]
  resolved := Array.replicate 12 none
  statics := none }

def pool4 : Array CpInfo := pool [(1, .class_ 2), (0, u "java/io/Serializable"), (0, .class_ 4), (0, u "java/lang/Object")] 2

/-- java/io/Serializable -/
def k4 : Class := { plain "java/io/Serializable" (some 0) with
  accessFlags := 1537
  interfaces := #[]
  cf := some (fileOf pool4 1 #[] #[] 1537 3 #[] #[])
  fields := #[]
  methods := #[]
  instanceTypes := #[]
  staticTypes := #[]
  resolved := Array.replicate 7 none
  statics := none }

def pool5 : Array CpInfo := pool [(2, .class_ 4), (1, u "java/lang/Enum"), (0, u "name"), (0, u "Ljava/lang/String;"), (0, .fieldref 2 8), (0, .nameAndType 9 10), (0, u "ordinal"), (0, u "I"), (1, .class_ 14), (1, u "java/lang/Object"), (4, u "hash"), (86, .class_ 108), (1, u "java/lang/Enum$EnumDesc"), (2, .class_ 112), (0, u "java/lang/constant/Constable"), (0, .class_ 114), (0, u "java/lang/Comparable"), (0, .class_ 116), (0, u "java/io/Serializable"), (9, u "()I")] 77

def k5c0 : Code := { maxStack := 1, maxLocals := 1, code := jdk_37_method_2_code, exceptionTable := #[], attributes := #[] }
def k5m0 : Method := { name := "ordinal", desc := "()I", sig := { parameters := [], returnType := some .int }, accessFlags := 17, code := some k5c0 }
/-- java/lang/Enum -/
def k5 : Class := { plain "java/lang/Enum" (some 0) with
  accessFlags := 1057
  interfaces := #[2, 3, 4]
  cf := some (fileOf pool5 2 #[.nestMembers #[106]] #[{ accessFlags := 17, nameIndex := 9, descriptorIndex := 126, attributes := #[] }] 1057 12 #[111, 113, 115] #[{ accessFlags := 18, nameIndex := 5, descriptorIndex := 6, attributes := #[] }, { accessFlags := 18, nameIndex := 9, descriptorIndex := 10, attributes := #[] }, { accessFlags := 2, nameIndex := 19, descriptorIndex := 10, attributes := #[] }])
  fields := #[{ name := "name", type := (.object "java/lang/String"), accessFlags := 18, slot := 0, constantValue := 0 }, { name := "ordinal", type := .int, accessFlags := 18, slot := 1, constantValue := 0 }, { name := "hash", type := .int, accessFlags := 2, slot := 2, constantValue := 0 }]
  methods := #[k5m0]
  instanceTypes := #[(.object "java/lang/String"), .int, .int]
  staticTypes := #[]
  resolved := Array.replicate 204 none
  statics := none }

def pool6 : Array CpInfo := pool [(1, .class_ 2), (0, u "com/example/gofyn/gofyn/typed/Term$Operator"), (0, .fieldref 1 4), (0, .nameAndType 5 6), (0, u "EQUAL"), (0, u "Lcom/example/gofyn/gofyn/typed/Term$Operator;"), (0, .fieldref 1 8), (0, .nameAndType 9 6), (0, u "NOT_EQUAL"), (0, .fieldref 1 11), (0, .nameAndType 12 6), (0, u "LESS"), (0, .fieldref 1 14), (0, .nameAndType 15 6), (0, u "LESS_EQUAL"), (0, .fieldref 1 17), (0, .nameAndType 18 6), (0, u "GREATER"), (0, .fieldref 1 20), (0, .nameAndType 21 6), (0, u "GREATER_EQUAL"), (2, u "$VALUES"), (0, u "[Lcom/example/gofyn/gofyn/typed/Term$Operator;"), (6, .class_ 34), (1, u "java/lang/Enum"), (8, u "symbol"), (0, u "Ljava/lang/String;"), (0, .methodref 1 46), (0, .nameAndType 47 48), (0, u "ordinal"), (0, u "()I"), (5, .methodref 55 56), (0, .class_ 57), (0, .nameAndType 58 59), (0, u "java/lang/Integer"), (0, u "compare"), (0, u "(II)I"), (32, u "isEquality"), (0, u "()Z"), (1, u "complement"), (0, u "()Lcom/example/gofyn/gofyn/typed/Term$Operator;"), (0, u "mirrored"), (0, u "holds"), (0, u "(II)Z"), (6, .class_ 107), (0, u "com/example/gofyn/gofyn/typed/Term")] 2

def k6c0 : Code := { maxStack := 2, maxLocals := 1, code := prog_75_method_4_code, exceptionTable := #[], attributes := #[] }
def k6m0 : Method := { name := "isEquality", desc := "()Z", sig := { parameters := [], returnType := some .boolean }, accessFlags := 0, code := some k6c0 }
def k6c1 : Code := { maxStack := 4, maxLocals := 1, code := prog_75_method_5_code, exceptionTable := #[], attributes := #[] }
def k6m1 : Method := { name := "complement", desc := "()Lcom/example/gofyn/gofyn/typed/Term$Operator;", sig := { parameters := [], returnType := some (.object "com/example/gofyn/gofyn/typed/Term$Operator") }, accessFlags := 0, code := some k6c1 }
def k6c2 : Code := { maxStack := 4, maxLocals := 1, code := prog_75_method_6_code, exceptionTable := #[], attributes := #[] }
def k6m2 : Method := { name := "mirrored", desc := "()Lcom/example/gofyn/gofyn/typed/Term$Operator;", sig := { parameters := [], returnType := some (.object "com/example/gofyn/gofyn/typed/Term$Operator") }, accessFlags := 0, code := some k6c2 }
def k6c3 : Code := { maxStack := 4, maxLocals := 4, code := prog_75_method_7_code, exceptionTable := #[], attributes := #[] }
def k6m3 : Method := { name := "holds", desc := "(II)Z", sig := { parameters := [.int, .int], returnType := some .boolean }, accessFlags := 0, code := some k6c3 }
/-- com/example/gofyn/gofyn/typed/Term$Operator -/
def k6 : Class := { plain "com/example/gofyn/gofyn/typed/Term$Operator" (some 5) with
  accessFlags := 16432
  interfaces := #[]
  cf := some (fileOf pool6 1 #[.nestHost 106] #[{ accessFlags := 0, nameIndex := 92, descriptorIndex := 93, attributes := #[] }, { accessFlags := 0, nameIndex := 95, descriptorIndex := 96, attributes := #[] }, { accessFlags := 0, nameIndex := 97, descriptorIndex := 96, attributes := #[] }, { accessFlags := 0, nameIndex := 98, descriptorIndex := 99, attributes := #[] }] 16432 32 #[] #[{ accessFlags := 16409, nameIndex := 5, descriptorIndex := 6, attributes := #[] }, { accessFlags := 16409, nameIndex := 9, descriptorIndex := 6, attributes := #[] }, { accessFlags := 16409, nameIndex := 12, descriptorIndex := 6, attributes := #[] }, { accessFlags := 16409, nameIndex := 15, descriptorIndex := 6, attributes := #[] }, { accessFlags := 16409, nameIndex := 18, descriptorIndex := 6, attributes := #[] }, { accessFlags := 16409, nameIndex := 21, descriptorIndex := 6, attributes := #[] }, { accessFlags := 18, nameIndex := 43, descriptorIndex := 44, attributes := #[] }, { accessFlags := 4122, nameIndex := 24, descriptorIndex := 25, attributes := #[] }])
  fields := #[{ name := "EQUAL", type := (.object "com/example/gofyn/gofyn/typed/Term$Operator"), accessFlags := 16409, slot := 0, constantValue := 0 }, { name := "NOT_EQUAL", type := (.object "com/example/gofyn/gofyn/typed/Term$Operator"), accessFlags := 16409, slot := 1, constantValue := 0 }, { name := "LESS", type := (.object "com/example/gofyn/gofyn/typed/Term$Operator"), accessFlags := 16409, slot := 2, constantValue := 0 }, { name := "LESS_EQUAL", type := (.object "com/example/gofyn/gofyn/typed/Term$Operator"), accessFlags := 16409, slot := 3, constantValue := 0 }, { name := "GREATER", type := (.object "com/example/gofyn/gofyn/typed/Term$Operator"), accessFlags := 16409, slot := 4, constantValue := 0 }, { name := "GREATER_EQUAL", type := (.object "com/example/gofyn/gofyn/typed/Term$Operator"), accessFlags := 16409, slot := 5, constantValue := 0 }, { name := "symbol", type := (.object "java/lang/String"), accessFlags := 18, slot := 3, constantValue := 0 }, { name := "$VALUES", type := (.array (.object "com/example/gofyn/gofyn/typed/Term$Operator")), accessFlags := 4122, slot := 6, constantValue := 0 }]
  methods := #[k6m0, k6m1, k6m2, k6m3]
  instanceTypes := #[(.object "java/lang/String"), .int, .int, (.object "java/lang/String")]
  staticTypes := #[(.object "com/example/gofyn/gofyn/typed/Term$Operator"), (.object "com/example/gofyn/gofyn/typed/Term$Operator"), (.object "com/example/gofyn/gofyn/typed/Term$Operator"), (.object "com/example/gofyn/gofyn/typed/Term$Operator"), (.object "com/example/gofyn/gofyn/typed/Term$Operator"), (.object "com/example/gofyn/gofyn/typed/Term$Operator"), (.array (.object "com/example/gofyn/gofyn/typed/Term$Operator"))]
  resolved := Array.replicate 110 none
  statics := some 0 }

def pool7 : Array CpInfo := pool [(2, .class_ 4), (1, u "java/lang/Object"), (0, u "<init>"), (0, u "()V"), (1, .class_ 10), (1, u "java/lang/Number"), (2, .class_ 14), (0, u "java/io/Serializable"), (0, u "serialVersionUID"), (0, u "J")] 20

def k7m0 : Method := { name := "<init>", desc := "()V", sig := { parameters := [], returnType := none }, accessFlags := 1, code := none }
/-- java/lang/Number -/
def k7 : Class := { plain "java/lang/Number" (some 0) with
  accessFlags := 1057
  interfaces := #[4]
  cf := some (fileOf pool7 8 #[] #[{ accessFlags := 1, nameIndex := 5, descriptorIndex := 6, attributes := #[] }] 1057 2 #[13] #[{ accessFlags := 26, nameIndex := 15, descriptorIndex := 16, attributes := #[] }])
  fields := #[{ name := "serialVersionUID", type := .long, accessFlags := 26, slot := 0, constantValue := 0 }]
  methods := #[k7m0]
  instanceTypes := #[]
  staticTypes := #[.long]
  resolved := Array.replicate 37 none
  statics := none }

def pool8 : Array CpInfo := pool [(1, .class_ 2), (0, u "java/lang/constant/ConstantDesc"), (0, .class_ 4), (0, u "java/lang/Object")] 32

/-- java/lang/constant/ConstantDesc -/
def k8 : Class := { plain "java/lang/constant/ConstantDesc" (some 0) with
  accessFlags := 1537
  interfaces := #[]
  cf := some (fileOf pool8 1 #[] #[] 1537 3 #[] #[])
  fields := #[]
  methods := #[]
  instanceTypes := #[]
  staticTypes := #[]
  resolved := Array.replicate 37 none
  statics := none }

def pool9 : Array CpInfo := pool [(1, .class_ 2), (0, u "java/lang/Integer"), (16, u "digits"), (0, u "[C"), (39, u "(II)I"), (24, u "DigitOnes"), (0, u "[B"), (2, u "DigitTens"), (99, .class_ 190), (0, u "java/lang/Integer$IntegerCache"), (3, u "I"), (8, .class_ 204), (0, u "java/lang/Number"), (2, u "value"), (53, u "compare"), (40, u "TYPE"), (0, u "Ljava/lang/Class;"), (0, .class_ 305), (0, u "java/lang/Comparable"), (0, .class_ 307), (0, u "java/lang/constant/Constable"), (0, .class_ 309), (0, u "java/lang/constant/ConstantDesc"), (0, u "MIN_VALUE"), (1, u "MAX_VALUE"), (3, u "SIZE"), (1, u "BYTES"), (1, u "serialVersionUID"), (0, u "J")] 131

def k9c0 : Code := { maxStack := 2, maxLocals := 2, code := jdk_33_method_40_code, exceptionTable := #[], attributes := #[] }
def k9m0 : Method := { name := "compare", desc := "(II)I", sig := { parameters := [.int, .int], returnType := some .int }, accessFlags := 9, code := some k9c0 }
/-- java/lang/Integer -/
def k9 : Class := { plain "java/lang/Integer" (some 7) with
  accessFlags := 49
  interfaces := #[3, 2, 8]
  cf := some (fileOf pool9 1 #[.nestMembers #[189]] #[{ accessFlags := 9, nameIndex := 261, descriptorIndex := 60, attributes := #[] }] 49 203 #[304, 306, 308] #[{ accessFlags := 25, nameIndex := 310, descriptorIndex := 194, attributes := #[] }, { accessFlags := 25, nameIndex := 312, descriptorIndex := 194, attributes := #[] }, { accessFlags := 25, nameIndex := 302, descriptorIndex := 303, attributes := #[] }, { accessFlags := 24, nameIndex := 19, descriptorIndex := 20, attributes := #[] }, { accessFlags := 24, nameIndex := 89, descriptorIndex := 86, attributes := #[] }, { accessFlags := 24, nameIndex := 85, descriptorIndex := 86, attributes := #[] }, { accessFlags := 18, nameIndex := 207, descriptorIndex := 194, attributes := #[] }, { accessFlags := 25, nameIndex := 316, descriptorIndex := 194, attributes := #[] }, { accessFlags := 25, nameIndex := 318, descriptorIndex := 194, attributes := #[] }, { accessFlags := 26, nameIndex := 320, descriptorIndex := 321, attributes := #[] }])
  fields := #[{ name := "MIN_VALUE", type := .int, accessFlags := 25, slot := 0, constantValue := 0 }, { name := "MAX_VALUE", type := .int, accessFlags := 25, slot := 1, constantValue := 0 }, { name := "TYPE", type := (.object "java/lang/Class"), accessFlags := 25, slot := 2, constantValue := 0 }, { name := "digits", type := (.array .char), accessFlags := 24, slot := 3, constantValue := 0 }, { name := "DigitTens", type := (.array .byte), accessFlags := 24, slot := 4, constantValue := 0 }, { name := "DigitOnes", type := (.array .byte), accessFlags := 24, slot := 5, constantValue := 0 }, { name := "value", type := .int, accessFlags := 18, slot := 0, constantValue := 0 }, { name := "SIZE", type := .int, accessFlags := 25, slot := 6, constantValue := 0 }, { name := "BYTES", type := .int, accessFlags := 25, slot := 7, constantValue := 0 }, { name := "serialVersionUID", type := .long, accessFlags := 26, slot := 8, constantValue := 0 }]
  methods := #[k9m0]
  instanceTypes := #[.int]
  staticTypes := #[.int, .int, (.object "java/lang/Class"), (.array .char), (.array .byte), (.array .byte), .int, .int, .long]
  resolved := Array.replicate 453 none
  statics := none }

def pool10 : Array CpInfo := pool [(1, u "java/lang/Cloneable"), (0, .class_ 1), (0, u "java/lang/Object"), (0, .class_ 3)] 3

/-- java/lang/Cloneable -/
def k10 : Class := { plain "java/lang/Cloneable" (some 0) with
  accessFlags := 1537
  interfaces := #[]
  cf := some (fileOf pool10 2 #[] #[] 1537 4 #[] #[])
  fields := #[]
  methods := #[]
  instanceTypes := #[]
  staticTypes := #[]
  resolved := Array.replicate 8 none
  statics := none }

/-- the primitive byte -/
def k11 : Class := { plain "byte" none with kind := .primitive 'B', accessFlags := 0x411 }
/-- [B -/
def k12 : Class := { plain "[B" (some 0) with kind := .array 11 .byte, interfaces := #[10, 4], accessFlags := 1041 }

/-- the primitive int -/
def k13 : Class := { plain "int" none with kind := .primitive 'I', accessFlags := 0x411 }
/-- [I -/
def k14 : Class := { plain "[I" (some 0) with kind := .array 13 .int, interfaces := #[10, 4], accessFlags := 1041 }

def heap : Heap := #[{ cls := 6, slots := #[.ref 1, .ref 2, .ref 3, .ref 6, .ref 4, .ref 5, .null], vm := .statics 6 },
  { cls := 6, slots := #[.null, .int 0, .int 0, .null], vm := .none },
  { cls := 6, slots := #[.null, .int 1, .int 0, .null], vm := .none },
  { cls := 6, slots := #[.null, .int 2, .int 0, .null], vm := .none },
  { cls := 6, slots := #[.null, .int 4, .int 0, .null], vm := .none },
  { cls := 6, slots := #[.null, .int 5, .int 0, .null], vm := .none },
  { cls := 6, slots := #[.null, .int 3, .int 0, .null], vm := .none }]
def classes : Array Class := #[k0, k1, k2, k3, k4, k5, k6, k7, k8, k9, k10, k11, k12, k13, k14]
def interned : List (Array UInt16 × Addr) := []
def slotsUsed : Nat := 31
def theMethod : MethodId := ⟨1, 2⟩
def args0 : Array Value := #[.int 5, .int 6, .int 7]
def aboutOver (below : List Frame) : State where
  vm := { classes := classes, interned := interned.toArray }
  heap := heap
  slotsUsed := slotsUsed
  threads := #[{ frames := .invoking theMethod args0 :: below }]
def below0 : List Frame := [.native { method := ⟨0, 0⟩, args := #[] }]
def about1 : State := aboutOver below0
def p0 : Program := .bare "" "" ""
def e0 : Env := launch0.env 0 0 0
theorem w_frames : about1.frames = Frame.invoking theMethod args0 :: below0 := rfl
set_option maxRecDepth 65536 in
theorem w_args : argsFit about1.vm theMethod args0 = true := by decide +kernel
set_option maxRecDepth 65536 in
theorem w_heap : heapFits about1 = true := by decide +kernel
set_option maxRecDepth 65536 in
theorem w_runnable : about1.curStatus? = some .runnable := by decide +kernel
set_option maxRecDepth 65536 in
theorem w_alone : about1.alone = true := by decide +kernel
set_option maxRecDepth 65536 in
theorem w_named : about1.methodNamed? x = some theMethod := by decide +kernel
set_option maxRecDepth 65536 in
theorem w_hears : about1.hears theMethod below0 = true := by decide +kernel
set_option maxRecDepth 65536 in
theorem w_ripe : about1.ripe theMethod args0 below0 = true := by decide +kernel
theorem w_running : about1.status = .running := rfl
set_option maxRecDepth 65536 in
theorem w_room : about1.hasRoom e0.platform room_1 = true :=
  launch0.hasRoom_least _ room_1 (by decide +kernel) (by decide +kernel) (by decide +kernel) (by decide +kernel) (by decide +kernel) (by decide +kernel)
theorem allAtoms_all (ts : List Jvm.Cond) (a : Array Jvm.Value) (st : Jvm.State) : (allAtoms ts).before a st = ts.all (fun c => c.before a st) := by
  induction ts with
  | nil => rfl
  | cons c t ih =>
    show (Jvm.Cond.and c (allAtoms t)).before a st = _
    rw [Jvm.Cond.before_and, ih, List.all_cons]
def words1 : List Jvm.Cond := Jvm.Cond.code x code maxLocals ret :: tables_1
/-- a 'code' word, met by the world's own term for the bytes: nothing is compared byte by byte -/
theorem code_word {y : MethodName} {bytes : ByteArray} {mx : Nat} {rt : Option FieldType} {a : Array Value} {s : State} {m : MethodId} {meth : Method} {c : Code} (h1 : s.methodNamed? y = some m) (h2 : s.vm.method? m = some meth) (h3 : meth.code = some c) (h4 : c.code = bytes)
    (h5 : (c.maxLocals == mx && c.exceptionTable.isEmpty && decide (c.maxStack ≤ mostOperands) && decide (meth.sig.returnType = rt) && !meth.locks && decide (parseMethodDescriptor y.desc = some meth.sig)) = true) : (Jvm.Cond.code y bytes mx rt).before a s = true := by
  simp only [Bool.and_eq_true, beq_iff_eq, Bool.not_eq_true', decide_eq_true_eq] at h5
  obtain ⟨⟨⟨⟨⟨g1, g2⟩, g3⟩, g4⟩, g5⟩, g6⟩ := h5
  simp [Cond.before, Cond.holds, Cond.value, h1, h2, h3, h4, g1, g2, g3, g4, g5, g6]
def isCode : Jvm.Cond → Bool
  | .code _ _ _ _ => true
  | _ => false
theorem all_split {L : List Jvm.Cond} {P : Jvm.Cond → Bool} (h1 : L.all (fun c => isCode c || P c) = true) (h2 : ∀ c ∈ L.filter isCode, P c = true) : L.all P = true := by
  refine List.all_eq_true.mpr fun c hc => ?_
  have h := List.all_eq_true.mp h1 c hc
  rcases Bool.eq_false_or_eq_true (isCode c) with hi | hi
  · exact h2 c (List.mem_filter.mpr ⟨hc, hi⟩)
  · simpa [hi] using h
set_option maxRecDepth 65536 in
theorem w_c0 : (Jvm.Cond.code x code maxLocals ret).before args0 about1 = true := code_word (m := ⟨1, 2⟩) (meth := k1m2) (c := k1c2) (by decide +kernel) rfl rfl rfl (by decide +kernel)
set_option maxRecDepth 65536 in
theorem w_c1 : (Jvm.Cond.code ({ cls := "com/example/gofyn/gofyn/typed/OperatorIsEqualityPinLaw", name := "pick", desc := "(I)Lcom/example/gofyn/gofyn/typed/Term$Operator;" } : Jvm.MethodName) method_2_code (1 : Nat) (Option.some (Jvm.ClassFile.FieldType.object "com/example/gofyn/gofyn/typed/Term$Operator"))).before args0 about1 = true := code_word (m := ⟨1, 1⟩) (meth := k1m1) (c := k1c1) (by decide +kernel) rfl rfl rfl (by decide +kernel)
set_option maxRecDepth 65536 in
theorem w_c2 : (Jvm.Cond.code ({ cls := "com/example/gofyn/gofyn/typed/Term$Operator", name := "isEquality", desc := "()Z" } : Jvm.MethodName) prog_75_method_4_code (1 : Nat) (Option.some Jvm.ClassFile.FieldType.boolean)).before args0 about1 = true := code_word (m := ⟨6, 0⟩) (meth := k6m0) (c := k6c0) (by decide +kernel) rfl rfl rfl (by decide +kernel)
set_option maxRecDepth 65536 in
theorem w_c3 : (Jvm.Cond.code ({ cls := "com/example/gofyn/gofyn/typed/Term$Operator", name := "mirrored", desc := "()Lcom/example/gofyn/gofyn/typed/Term$Operator;" } : Jvm.MethodName) prog_75_method_6_code (1 : Nat) (Option.some (Jvm.ClassFile.FieldType.object "com/example/gofyn/gofyn/typed/Term$Operator"))).before args0 about1 = true := code_word (m := ⟨6, 2⟩) (meth := k6m2) (c := k6c2) (by decide +kernel) rfl rfl rfl (by decide +kernel)
set_option maxRecDepth 65536 in
theorem w_c4 : (Jvm.Cond.code ({ cls := "java/lang/Enum", name := "ordinal", desc := "()I" } : Jvm.MethodName) jdk_37_method_2_code (1 : Nat) (Option.some Jvm.ClassFile.FieldType.int)).before args0 about1 = true := code_word (m := ⟨5, 0⟩) (meth := k5m0) (c := k5c0) (by decide +kernel) rfl rfl rfl (by decide +kernel)
set_option maxRecDepth 65536 in
theorem w_c5 : (Jvm.Cond.code ({ cls := "com/example/gofyn/gofyn/typed/Term$Operator", name := "complement", desc := "()Lcom/example/gofyn/gofyn/typed/Term$Operator;" } : Jvm.MethodName) prog_75_method_5_code (1 : Nat) (Option.some (Jvm.ClassFile.FieldType.object "com/example/gofyn/gofyn/typed/Term$Operator"))).before args0 about1 = true := code_word (m := ⟨6, 1⟩) (meth := k6m1) (c := k6c1) (by decide +kernel) rfl rfl rfl (by decide +kernel)
set_option maxRecDepth 65536 in
theorem w_c6 : (Jvm.Cond.code ({ cls := "com/example/gofyn/gofyn/typed/Term$Operator", name := "holds", desc := "(II)Z" } : Jvm.MethodName) prog_75_method_7_code (4 : Nat) (Option.some Jvm.ClassFile.FieldType.boolean)).before args0 about1 = true := code_word (m := ⟨6, 3⟩) (meth := k6m3) (c := k6c3) (by decide +kernel) rfl rfl rfl (by decide +kernel)
set_option maxRecDepth 65536 in
theorem w_c7 : (Jvm.Cond.code ({ cls := "java/lang/Integer", name := "compare", desc := "(II)I" } : Jvm.MethodName) jdk_33_method_40_code (2 : Nat) (Option.some Jvm.ClassFile.FieldType.int)).before args0 about1 = true := code_word (m := ⟨9, 0⟩) (meth := k9m0) (c := k9c0) (by decide +kernel) rfl rfl rfl (by decide +kernel)
def codes1 : List Jvm.Cond := [Jvm.Cond.code x code maxLocals ret, Jvm.Cond.code ({ cls := "com/example/gofyn/gofyn/typed/OperatorIsEqualityPinLaw", name := "pick", desc := "(I)Lcom/example/gofyn/gofyn/typed/Term$Operator;" } : Jvm.MethodName) method_2_code (1 : Nat) (Option.some (Jvm.ClassFile.FieldType.object "com/example/gofyn/gofyn/typed/Term$Operator")), Jvm.Cond.code ({ cls := "com/example/gofyn/gofyn/typed/Term$Operator", name := "isEquality", desc := "()Z" } : Jvm.MethodName) prog_75_method_4_code (1 : Nat) (Option.some Jvm.ClassFile.FieldType.boolean), Jvm.Cond.code ({ cls := "com/example/gofyn/gofyn/typed/Term$Operator", name := "mirrored", desc := "()Lcom/example/gofyn/gofyn/typed/Term$Operator;" } : Jvm.MethodName) prog_75_method_6_code (1 : Nat) (Option.some (Jvm.ClassFile.FieldType.object "com/example/gofyn/gofyn/typed/Term$Operator")), Jvm.Cond.code ({ cls := "java/lang/Enum", name := "ordinal", desc := "()I" } : Jvm.MethodName) jdk_37_method_2_code (1 : Nat) (Option.some Jvm.ClassFile.FieldType.int), Jvm.Cond.code ({ cls := "com/example/gofyn/gofyn/typed/Term$Operator", name := "complement", desc := "()Lcom/example/gofyn/gofyn/typed/Term$Operator;" } : Jvm.MethodName) prog_75_method_5_code (1 : Nat) (Option.some (Jvm.ClassFile.FieldType.object "com/example/gofyn/gofyn/typed/Term$Operator")), Jvm.Cond.code ({ cls := "com/example/gofyn/gofyn/typed/Term$Operator", name := "holds", desc := "(II)Z" } : Jvm.MethodName) prog_75_method_7_code (4 : Nat) (Option.some Jvm.ClassFile.FieldType.boolean), Jvm.Cond.code ({ cls := "java/lang/Integer", name := "compare", desc := "(II)I" } : Jvm.MethodName) jdk_33_method_40_code (2 : Nat) (Option.some Jvm.ClassFile.FieldType.int)]
set_option maxRecDepth 65536 in
theorem codes_eq : words1.filter isCode = codes1 := rfl
theorem w_codes : ∀ c ∈ words1.filter isCode, c.before args0 about1 = true := by
  rw [codes_eq]
  intro c hc
  simp only [codes1, List.mem_cons, List.not_mem_nil, or_false] at hc
  rcases hc with rfl | rfl | rfl | rfl | rfl | rfl | rfl | rfl
  · exact w_c0
  · exact w_c1
  · exact w_c2
  · exact w_c3
  · exact w_c4
  · exact w_c5
  · exact w_c6
  · exact w_c7
set_option maxRecDepth 65536 in
theorem w_t1 : (words1.take 24).all (fun c => isCode c || c.before args0 about1) = true := by decide +kernel
set_option maxRecDepth 65536 in
theorem w_t2 : ((words1.drop 24).take 24).all (fun c => isCode c || c.before args0 about1) = true := by decide +kernel
set_option maxRecDepth 65536 in
theorem w_t3 : ((words1.drop 24).drop 24).all (fun c => isCode c || c.before args0 about1) = true := by decide +kernel
theorem w_tables : (allAtoms (Jvm.Cond.code x code maxLocals ret :: tables_1)).before args0 about1 = true := by
  rw [allAtoms_all]
  show words1.all (fun c => c.before args0 about1) = true
  refine all_split ?_ w_codes
  rw [← List.take_append_drop 24 words1, List.all_append, w_t1, ← List.take_append_drop 24 (words1.drop 24), List.all_append, w_t2, w_t3]
  rfl
set_option maxRecDepth 65536 in
theorem w_case : (Jvm.Cond.and given_1 narrow_1).before args0 about1 = true := by decide +kernel
theorem w_applies : (headSpec (Jvm.Cond.code x code maxLocals ret :: tables_1) room_1).applies x e0.platform about1 = true :=
  (Spec.applies_iff w_frames).mpr ⟨w_running, w_runnable, w_alone, w_named, w_hears, w_ripe, w_room, w_tables⟩
theorem atStart : AtStart classFile x code maxLocals ret World_1 tables_1 room_1 Calls_1 rest_1 Pre_1 launch0 p0 e0 about1 theMethod args0 below0 :=
  ⟨lists_1, trivial, launch0.admits_env _ _ _, launch0.least_env, fairChoices_fair.cas, fairChoices_fair.clock, w_frames, w_args, w_heap, w_applies, trivial, trivial, w_case⟩
end start1
theorem witness_1 : WitnessClaimed_1 := ⟨start1.p0, start1.e0, start1.about1, start1.theMethod, start1.args0, start1.below0, start1.atStart⟩
end Jvm.Pilot.@@N@@
