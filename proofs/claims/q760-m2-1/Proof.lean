import JvmDerived
import JvmDerived.Pilot.@@N@@Statement
import JvmDerived.Pilot.@@N@@Code
set_option linter.unusedVariables false
set_option linter.unusedSimpArgs false
namespace Jvm.RoadKit
open Sem ClassFile Op Lib Jvm.Stand Jvm.Free Jvm.LawKit
section New
variable {p : Program} {l : Launch} {e : Env} {R : Room} {s : State} {m : MethodId} {args : Array Value} {below : List Frame} {meth : Method} {c : Code} {T : State} {locs : List Loc} {cells slots : Nat}
theorem retI (X : Stand p l e R s m args below meth c T locs cells slots) (hx : p.tables.exec = Jvm.exec) {pc : Nat} {Ls : Array Slot} {z : Int32} {rest : List Value} (hret : meth.sig.returnType = some .int) (hd : decode c.code pc = .ok (.ireturn, 1)) {fs : List Frame}
    (hl : ∀ (f : JFrame) (acts : List Action), f.method = m → f.locked = none → f.entered = [] → (doReturn e (T.setTop f) acts (some (.int z))).1 = T.setFrames fs) : Steps p.tables e below (T.setTop (mkF m pc Ls (.int z :: rest))) (T.setFrames fs) := by
  have hm' : T.vm.method? m = some meth := X.method'
  have hn : narrow .int (.int z) = .int z := rfl
  show Steps p.tables e below (T.setTop { method := m, pc := pc, locals := Ls, stack := _ :: rest, locked := none }) _
  jvm_step X.here [X.here.top, hx, hd, hm', hret, hn]
  first | (intro acts; rw [hl _ acts rfl rfl rfl]) | rw [hl _ _ rfl rfl rfl]
  exact Steps.refl _
end New
end Jvm.RoadKit
namespace Jvm.Pilot.@@N@@
open Jvm Jvm.ClassFile Sem Op Lib Jvm.Free Jvm.Stand Jvm.LawKit Jvm.RoadKit Bundle Jvm.Pilot.@@N@@.Jvm.D
theorem own_pad {Z : State} {h : Heap} {a : Addr} {k : ClassId} {ty : FieldType} {z : Int32} {dv : Value} (F : Arv Z h a k ty z [] dv) (n : Nat) (vs : List Value) (e : vs = List.replicate n dv) : Arv Z h a k ty z vs dv := e ▸ F.pad (pad_rep [] dv n)
theorem own_irr32 (x : Int32) : ¬ x < x := Int32.lt_irrefl
theorem own_irr64 (x : Int64) : ¬ x < x := Int64.lt_irrefl
theorem own_fldI {args : Array Value} {s : State} {t : Term} {C n d : String} {x : Addr} {k : Int32} (ht : t.eval args s none [] s = some (.ref x)) (h : (Cond.eq (Term.field t C n d) (Term.int k)).value args s none s [] = some true) : Fld s s.heap x C n d (.int k) := Fld.start ((fld_at ht).symm.trans (eqv_i (Term.int_eval k) h))
theorem own_fldJ {args : Array Value} {s : State} {t : Term} {C n d : String} {x : Addr} {k : Int64} (ht : t.eval args s none [] s = some (.ref x)) (h : (Cond.eq (Term.field t C n d) (Term.long k)).value args s none s [] = some true) : Fld s s.heap x C n d (.long k) := Fld.start ((fld_at ht).symm.trans (eqv_l (long_at k) h))
theorem own_len {args : Array Value} {s : State} {t : Term} {x : Addr} {cl : Cell} {ty : FieldType} {k : Int32} (ht : t.eval args s none [] s = some (.ref x)) (A : Arr s s.heap x cl ty) (h : (Cond.eq (Term.length t) (Term.int k)).value args s none s [] = some true) : cl.slots.size.toInt32 = k ∧ cl.slots.size < 2 ^ 31 := by
  have e := eqv_i (Term.int_eval k) h
  have ha := A.fin (Vm.Alike.refl _)
  by_cases q : cl.slots.size < 2 ^ 31
  · have e2 := (len_f ht ha q).symm.trans e
    exact ⟨Value.int.inj (Option.some.inj e2), q⟩
  · simp [Term.eval, ht, ha, q] at e
theorem own_elem {args : Array Value} {s : State} {t u : Term} {x : Addr} {cl : Cell} {ty : FieldType} {k : Int32} {v : Value} (ht : t.eval args s none [] s = some (.ref x)) (A : Arr s s.heap x cl ty) (hu : u.eval args s none [] s = some v) (hv : v.isRef = true) (h : (Cond.eq (Term.elem t (Term.int k)) u).value args s none s [] = some true) : cl.slots[k.toNatClampNeg]? = some v := by
  obtain ⟨a, b, h1, h2, h3, h4⟩ := cmp_v (Or.inl h)
  have hb := Option.some.inj (h2.symm.trans hu)
  subst hb
  obtain ⟨c', e1, e2, e3⟩ := elem_at h1 ht (Term.int_eval k)
  have ec := Option.some.inj (e1.symm.trans A.1)
  subst ec
  have ha : a.isRef = true := by
    rcases ref_cases hv with rfl | ⟨y, rfl⟩
    · exact h4.2
    · exact h4.2
  rw [e3, gotT (eq_R h1 h2 ha hv) h]
def own_KL (h h' : Heap) (ls : List Loc) : Prop := h.size ≤ h'.size ∧ ∀ (x : Addr) (c : Cell), h[x]? = some c → ∃ c' : Cell, h'[x]? = some c' ∧ c'.cls = c.cls ∧ c'.vm = c.vm ∧ c'.slots.size = c.slots.size ∧ ((∀ y ∈ ls, y.base ≠ x) → c' = c) ∧ ∀ i, (⟨x, i⟩ : Loc) ∉ ls → c'.slots[i]? = c.slots[i]?
section OwnKL
variable {Z : State} {h0 h h' : Heap} {ls ls' : List Loc} {a b x : Addr} {i j sl n0 : Nat} {v : Value} {C n d : String}
theorem own_kl0 (h : Heap) (ls : List Loc) : own_KL h h ls := ⟨Nat.le_refl _, fun x c q => ⟨c, q, rfl, rfl, rfl, fun _ => rfl, fun _ _ => rfl⟩⟩
theorem own_klE (K : own_KL h0 h ls) (E : Ext h h') : own_KL h0 h' ls := ⟨Nat.le_trans K.1 E.1, fun x c q => by obtain ⟨c', q', r⟩ := K.2 x c q; exact ⟨c', E.2 x c' q', r⟩⟩
theorem own_klT (K : own_KL h0 h ls) (K' : own_KL h h' ls') (q : ∀ y ∈ ls', y ∈ ls ∨ h0.size ≤ y.base) : own_KL h0 h' ls := by
  refine ⟨Nat.le_trans K.1 K'.1, fun x c hc => ?_⟩
  obtain ⟨c1, a1, a2, a3, a4, a5, a6⟩ := K.2 x c hc
  obtain ⟨c2, b1, b2, b3, b4, b5, b6⟩ := K'.2 x c1 a1
  have hx : x < h0.size := (Array.getElem?_eq_some_iff.mp hc).1
  refine ⟨c2, b1, b2.trans a2, b3.trans a3, b4.trans a4, fun hn => ?_, fun i hi => ?_⟩
  · rw [← a5 hn]; exact b5 fun y hy e => (q y hy).elim (fun z => hn y z e) (fun z => absurd hx (Nat.not_lt.mpr (e ▸ z)))
  · rw [← a6 i hi]; exact b6 i fun z => (q _ z).elim hi (fun u => absurd hx (Nat.not_lt.mpr u))
theorem own_klofW (W : Wr h h' a sl v) : own_KL h h' [⟨a, sl⟩] := by
  refine ⟨Nat.le_of_eq W.size.symm, fun x c hc => ?_⟩
  obtain ⟨c', e1, e2, e3, e4, e5, e6, -⟩ := wr_at W hc
  refine ⟨c', e1, e2, e3, e4, fun hn => e5 fun q => hn _ (List.mem_singleton.mpr rfl) q.symm, fun i hi => ?_⟩
  by_cases q : x = a
  · exact e6 i fun r => hi (by rw [q, r]; exact List.mem_singleton.mpr rfl)
  · rw [e5 q]
theorem own_klW (K : own_KL h0 h ls) (W : Wr h h' a sl v) (q : (⟨a, sl⟩ : Loc) ∈ ls ∨ h0.size ≤ a) : own_KL h0 h' ls := own_klT K (own_klofW W) fun y hy => by cases List.mem_singleton.mp hy; exact q
theorem own_ka0 : ∀ y ∈ ([] : List Loc), y ∈ ls ∨ n0 ≤ y.base := fun _ q => nomatch q
theorem own_kac (q : (⟨a, sl⟩ : Loc) ∈ ls ∨ n0 ≤ a) (r : ∀ y ∈ ls', y ∈ ls ∨ n0 ≤ y.base) : ∀ y ∈ (⟨a, sl⟩ : Loc) :: ls', y ∈ ls ∨ n0 ≤ y.base := fun y z => (List.mem_cons.mp z).elim (fun u => u ▸ q) (r y)
theorem own_ng0 : ∀ y ∈ ([] : List Loc), n0 ≤ y.base := fun _ q => nomatch q
theorem own_ngc (q : n0 ≤ a) (r : ∀ y ∈ ls', n0 ≤ y.base) : ∀ y ∈ (⟨a, sl⟩ : Loc) :: ls', n0 ≤ y.base := fun y z => (List.mem_cons.mp z).elim (fun u => u ▸ q) (r y)
theorem own_nb0 : ∀ y ∈ ([] : List Loc), y.base ≠ a := fun _ q => nomatch q
theorem own_nbc (q : b ≠ a) (r : ∀ y ∈ ls', y.base ≠ a) : ∀ y ∈ (⟨b, sl⟩ : Loc) :: ls', y.base ≠ a := fun y z => (List.mem_cons.mp z).elim (fun u => u ▸ q) (r y)
theorem own_nl0 : (⟨a, i⟩ : Loc) ∉ ([] : List Loc) := fun q => nomatch q
theorem own_nlb (q : a ≠ b) (r : (⟨a, i⟩ : Loc) ∉ ls) : (⟨a, i⟩ : Loc) ∉ (⟨b, j⟩ : Loc) :: ls := fun z => (List.mem_cons.mp z).elim (fun u => q (congrArg Loc.base u)) r
theorem own_nls (q : i ≠ j) (r : (⟨a, i⟩ : Loc) ∉ ls) : (⟨a, i⟩ : Loc) ∉ (⟨b, j⟩ : Loc) :: ls := fun z => (List.mem_cons.mp z).elim (fun u => q (congrArg Loc.slot u)) r
theorem own_exa (F : Exa Z h a C) (K : own_KL h h' ls) : Exa Z h' a C := by
  obtain ⟨cell, k, h1, h2, h3, h4, h5⟩ := F
  obtain ⟨c', e1, e2, e3, e4, -⟩ := K.2 _ _ h1
  exact ⟨c', k, e1, by rw [e2]; exact h2, by rw [e2]; exact h3, by rw [e3]; exact h4, by rw [e4]; exact h5⟩
theorem own_fld (F : Fld Z h a C n d v) (K : own_KL h h' ls) (q : (⟨a, Jvm.RoadKit.slotOf Z C n d⟩ : Loc) ∉ ls) : Fld Z h' a C n d v := by
  obtain ⟨cell, cf, k, i, f, h1, h2, h3, h4, h5, h6, h7⟩ := F
  obtain ⟨c', e1, e2, e3, e4, -, e6⟩ := K.2 _ _ h1
  refine ⟨c', cf, k, i, f, e1, h2, h3, by rw [e3]; exact h4, by rw [e3]; exact h5, by rw [e2]; exact h6, ?_⟩
  rw [e6 _ (by simpa [Jvm.RoadKit.slotOf, h2] using q)]; exact h7
theorem own_arv {k : ClassId} {ty : FieldType} {z : Int32} {vs : List Value} {dv : Value} (F : Arv Z h a k ty z vs dv) (K : own_KL h h' ls) (q : ∀ y ∈ ls, y.base ≠ a) : Arv Z h' a k ty z vs dv := by
  obtain ⟨c, A, r⟩ := F
  obtain ⟨c', e1, -, -, -, e5, -⟩ := K.2 _ _ A.1
  cases e5 q
  exact ⟨c, ⟨e1, A.2⟩, r⟩
theorem own_old (O : Old Z n0 h) (K : own_KL h h' ls) (q : ∀ y ∈ ls, n0 ≤ y.base) : Old Z n0 h' := ⟨O.1, Nat.le_trans O.2.1 K.1, fun x c r => by
  obtain ⟨c', e1, -, -, -, e5, -⟩ := K.2 x c (O.2.2 x c r)
  have hx : x < n0 := O.1 ▸ (Array.getElem?_eq_some_iff.mp r).1
  rw [e1, e5 fun y hy e => absurd hx (Nat.not_lt.mpr (e ▸ q y hy))]⟩
end OwnKL
theorem own_NSroot {Z : State} {a0 : Array Value} {O K : String} {n : Nat} (w : (Cond.noSuperclass O).before a0 Z = true) (wk : (Cond.instantiable K n).before a0 Z = true) (hn : O ≠ K) : NS Z O K := by
  obtain ⟨c, k, h1, h2, h3, -, -⟩ := Cond.noSuperclass_spec w
  obtain ⟨t, -, g1, -⟩ := Cond.instantiable_spec wk
  have ne := ids_ne h1 g1 hn
  refine ⟨c, t, h1, g1, fun fuel => ?_⟩
  cases fuel with
  | zero => rfl
  | succ f => simp [Vm.isSubclassAux, ne, h2, h3]
theorem own_NSno {Z : State} {a0 : Array Value} {C S K : String} {n : Nat} (w : (Cond.superclass C S).before a0 Z = true) (wk : (Cond.instantiable K n).before a0 Z = true) (u : NS Z C K) (hn : C ≠ K) : ∃ c t, Z.vm.findClass C = some c ∧ Z.vm.findClass K = some t ∧ Z.vm.assignable c t = false := by
  obtain ⟨c, t, h0, g0, n3⟩ := u
  obtain ⟨p, k, kp, h1, h2, h3, h4, h5, -, h7⟩ := Cond.superclass_spec h0 w
  obtain ⟨t', k', g1, g2, g5, g7, -⟩ := Cond.instantiable_spec wk
  cases g0.symm.trans g1
  have ne := ids_ne h0 g0 hn
  have g8 : k'.isInterface = false := by cases hI : k'.isInterface <;> simp [hI] at g7 ⊢
  refine ⟨c, t, h0, g0, ?_⟩
  show Z.vm.assignableAux (255 + 1) c t = false
  simp [Vm.assignableAux, ne, h2, g2, h5, g5, g8, Vm.isSubclass, n3]
theorem own_boxI {Z : State} {args : Array Value} {t : Term} {a : Addr} {c : Cell} {K : String} {z : Int32} (et : ∀ idx, t.eval args Z none idx Z = some (.ref a)) (A : Arr Z Z.heap a c (.object K)) (q : c.slots.size.toInt32 = z ∧ c.slots.size < 2 ^ 31) (hz : ¬ z < 0)
    (h : (Cond.all t (.and (.exactly (.elem t (.index 0)) K) (.eq (.field (.elem t (.index 0)) K "value" "I") (.sub (.index 0) (.int 128))))).value args Z none Z [] = some true) : Bxs Z a c K "I" z (fun j => .int (j - 128)) :=
  Bxs.start et A q.2 q.1 hz h fun X j nn hh => eqv_i (by simp [Term.eval, idx_at nn, (back32 nn).1]) hh
theorem own_boxJ {Z : State} {args : Array Value} {t : Term} {a : Addr} {c : Cell} {K : String} {z : Int32} (et : ∀ idx, t.eval args Z none idx Z = some (.ref a)) (A : Arr Z Z.heap a c (.object K)) (q : c.slots.size.toInt32 = z ∧ c.slots.size < 2 ^ 31) (hz : ¬ z < 0)
    (h : (Cond.all t (.and (.exactly (.elem t (.index 0)) K) (.eq (.field (.elem t (.index 0)) K "value" "J") (.op1 .i2l (.sub (.index 0) (.int 128)))))).value args Z none Z [] = some true) : Bxs Z a c K "J" z (fun j => .long (j - 128).toInt64) :=
  Bxs.start et A q.2 q.1 hz h fun X j nn hh => eqv_l (i2l_at (by simp [Term.eval, idx_at nn, (back32 nn).1])) hh
theorem own_staI {s : State} {args : Array Value} {C n d : String} {k : Int32} (h : (Cond.eq (Term.static C n d) (Term.int k)).value args s none s [] = some true) : (Term.static C n d).eval args s none [] s = some (.int k) := eqv_i (Term.int_eval k) h
theorem own_selp {Z : State} {a0 : Array Value} {y : MethodName} {n : Nat} (wi : (Cond.instantiable y.cls n).before a0 Z = true) (wp : (Cond.privateMethod y).before a0 Z = true) (wm : (Cond.instanceMethod y).before a0 Z = true) (hy : y.cls ≠ "java/lang/invoke/MethodHandle" ∧ y.cls ≠ "java/lang/invoke/VarHandle") : (Cond.selects y.cls y y).before a0 Z = true := by
  obtain ⟨c, k, h1, h2, -, h4, -⟩ := Cond.instantiable_spec wi
  exact selects_self_of_private h1 h2 (by cases hI : k.isInterface <;> simp [hI] at h4 ⊢) (Cond.privateMethod_at wp) wm hy
def own_Gk (Z : State) (h : Heap) (a : Addr) (k : ClassId) (ty : FieldType) (n j : Int32) (v : Value) : Prop := ∃ c : Cell, Arr Z h a c ty ∧ c.cls = k ∧ c.slots.size = n.toNatClampNeg ∧ ¬ n < 0 ∧ c.slots[j.toNatClampNeg]? = some v
section OwnGk
variable {Z : State} {h h' : Heap} {ls : List Loc} {a b : Addr} {k : ClassId} {ty : FieldType} {n j : Int32} {v u : Value} {sl : Nat}
theorem own_Gk.lt (F : own_Gk Z h a k ty n j v) : a < h.size := by obtain ⟨c, A, -⟩ := F; exact A.lt
theorem own_gk_ext (F : own_Gk Z h a k ty n j v) (E : Ext h h') : own_Gk Z h' a k ty n j v := by obtain ⟨c, A, r⟩ := F; exact ⟨c, A.ext E, r⟩
theorem own_gk_oth (F : own_Gk Z h a k ty n j v) (W : Wr h h' b sl u) (q : a ≠ b) : own_Gk Z h' a k ty n j v := by obtain ⟨c, A, r⟩ := F; exact ⟨c, A.other W q, r⟩
theorem own_gk_kl (F : own_Gk Z h a k ty n j v) (K : own_KL h h' ls) (q : ∀ y ∈ ls, y.base ≠ a) : own_Gk Z h' a k ty n j v := by
  obtain ⟨c, A, r⟩ := F
  obtain ⟨c', e1, -, -, -, e5, -⟩ := K.2 _ _ A.1
  cases e5 q
  exact ⟨c, ⟨e1, A.2⟩, r⟩
theorem own_gk_set {c : Cell} (A : Arr Z h a c ty) (q1 : c.cls = k) (S : c.slots.size = n.toNatClampNeg) (N : ¬ n < 0) (W : Wr h h' a j.toNatClampNeg v) : own_Gk Z h' a k ty n j v := by
  obtain ⟨c', e1, e2, e3, e4, -, -, e7⟩ := wr_at W A.1
  have e8 := (e7 rfl).1
  exact ⟨_, A.same W, q1, by rw [sz_set]; exact S, N, by rw [← e8]; exact (e7 rfl).2.1⟩
end OwnGk
section OwnSteps
variable {p : Program} {l : Launch} {e : Env} {R : Room} {s : State} {m : MethodId} {args : Array Value} {below : List Frame} {meth : Method} {c : Code} {T target : State} {locs : List Loc} {cells slots : Nat} {code : ByteArray} {pc : Nat} {Ls : Array Slot} {K : List Value}
theorem sc (X : Stand p l e R s m args below meth c T locs cells slots) (hx : p.tables.exec = Jvm.exec) (hby : c.code = code) {i : Int} (hd : decode code pc = .ok (.iconst i, 1)) (hr : Steps p.tables e below (T.setTop (mkF m (pc + 1) Ls (.int (Int32.ofInt i) :: K))) target) : Steps p.tables e below (T.setTop (mkF m pc Ls K)) target := XS.iconst X.here hx rfl (hb hby hd) hr
theorem sa (X : Stand p l e R s m args below meth c T locs cells slots) (hx : p.tables.exec = Jvm.exec) (hby : c.code = code) {k : Nat} {v : Value} (hd : decode code pc = .ok (.aload k, 2)) (hl : Ls[k]? = some (.val v)) (hv : v.isRef = true) (hr : Steps p.tables e below (T.setTop (mkF m (pc + 2) Ls (v :: K))) target) : Steps p.tables e below (T.setTop (mkF m pc Ls K)) target := XS.aload X.here hx rfl (hb hby hd) hl hv hr
theorem sA (X : Stand p l e R s m args below meth c T locs cells slots) (hx : p.tables.exec = Jvm.exec) (hby : c.code = code) {k : Fin 4} {v : Value} (hd : decode code pc = .ok (.aload_n k, 1)) (hl : Ls[k.val]? = some (.val v)) (hv : v.isRef = true) (hr : Steps p.tables e below (T.setTop (mkF m (pc + 1) Ls (v :: K))) target) : Steps p.tables e below (T.setTop (mkF m pc Ls K)) target := XS.aloadN X.here hx rfl (hb hby hd) hl hv hr
theorem si (X : Stand p l e R s m args below meth c T locs cells slots) (hx : p.tables.exec = Jvm.exec) (hby : c.code = code) {k : Nat} {v : Int32} (hd : decode code pc = .ok (.iload k, 2)) (hl : Ls[k]? = some (.val (.int v))) (hr : Steps p.tables e below (T.setTop (mkF m (pc + 2) Ls (.int v :: K))) target) : Steps p.tables e below (T.setTop (mkF m pc Ls K)) target := XS.iload X.here hx rfl (hb hby hd) hl hr
theorem sI (X : Stand p l e R s m args below meth c T locs cells slots) (hx : p.tables.exec = Jvm.exec) (hby : c.code = code) {k : Fin 4} {v : Int32} (hd : decode code pc = .ok (.iload_n k, 1)) (hl : Ls[k.val]? = some (.val (.int v))) (hr : Steps p.tables e below (T.setTop (mkF m (pc + 1) Ls (.int v :: K))) target) : Steps p.tables e below (T.setTop (mkF m pc Ls K)) target := XS.iloadN X.here hx rfl (hb hby hd) hl hr
theorem sL (X : Stand p l e R s m args below meth c T locs cells slots) (hx : p.tables.exec = Jvm.exec) (hby : c.code = code) {k : Fin 4} {v : Int64} (hd : decode code pc = .ok (.lload_n k, 1)) (hl : Ls[k.val]? = some (.val (.long v))) (hr : Steps p.tables e below (T.setTop (mkF m (pc + 1) Ls (.long v :: K))) target) : Steps p.tables e below (T.setTop (mkF m pc Ls K)) target := XS.lloadN X.here hx rfl (hb hby hd) hl hr
theorem sg (X : Stand p l e R s m args below meth c T locs cells slots) (hx : p.tables.exec = Jvm.exec) (hby : c.code = code) {o : Int} {pc' : Nat} (hd : decode code pc = .ok (.goto o, 3)) (ho : 0 ≤ (pc : Int) + o) (hp : ((pc : Int) + o).toNat = pc') (hr : Steps p.tables e below (T.setTop (mkF m pc' Ls K)) target) : Steps p.tables e below (T.setTop (mkF m pc Ls K)) target := XS.goto X.here hx rfl rfl (hb hby hd) ho hp hr
theorem sn (X : Stand p l e R s m args below meth c T locs cells slots) (hx : p.tables.exec = Jvm.exec) (hby : c.code = code) {cd : ClassFile.Cond} {o : Int} {x y : Int32} (hd : decode code pc = .ok (.if_icmp cd o, 3)) (hc : if_icmp.holds cd x y = false) (hr : Steps p.tables e below (T.setTop (mkF m (pc + 3) Ls K)) target) : Steps p.tables e below (T.setTop (mkF m pc Ls (.int y :: .int x :: K))) target := XS.icmpNo X.here hx rfl (hb hby hd) rfl hc hr
theorem sN (X : Stand p l e R s m args below meth c T locs cells slots) (hx : p.tables.exec = Jvm.exec) (hby : c.code = code) {cd : ClassFile.Cond} {o : Int} {x : Int32} (hd : decode code pc = .ok (.ifCond cd o, 3)) (hc : ifCond.holds cd x = false) (hr : Steps p.tables e below (T.setTop (mkF m (pc + 3) Ls K)) target) : Steps p.tables e below (T.setTop (mkF m pc Ls (.int x :: K))) target := XS.ifNo X.here hx rfl (hb hby hd) rfl hc hr
end OwnSteps

theorem own_rem6 (x : Int32) : (x &&& 2147483647) % 6 = 0 ∨ (x &&& 2147483647) % 6 = 1 ∨ (x &&& 2147483647) % 6 = 2 ∨ (x &&& 2147483647) % 6 = 3 ∨ (x &&& 2147483647) % 6 = 4 ∨ (x &&& 2147483647) % 6 = 5 := by
  have h : (x &&& 2147483647).toInt = x.toInt % 2147483648 := c_mask x 2147483647 31 (by decide) (by decide)
  have h2 : ((x &&& 2147483647) % 6).toInt = (x &&& 2147483647).toInt % 6 := by
    rw [Int32.toInt_mod, Int.tmod_eq_emod_of_nonneg (by rw [h]; omega)]; rfl
  have hr : ((x &&& 2147483647) % 6).toInt = 0 ∨ ((x &&& 2147483647) % 6).toInt = 1 ∨ ((x &&& 2147483647) % 6).toInt = 2 ∨ ((x &&& 2147483647) % 6).toInt = 3 ∨ ((x &&& 2147483647) % 6).toInt = 4 ∨ ((x &&& 2147483647) % 6).toInt = 5 := by omega
  rcases hr with q | q | q | q | q | q
  · exact Or.inl (Int32.toInt_inj.mp q)
  · exact Or.inr (Or.inl (Int32.toInt_inj.mp q))
  · exact Or.inr (Or.inr (Or.inl (Int32.toInt_inj.mp q)))
  · exact Or.inr (Or.inr (Or.inr (Or.inl (Int32.toInt_inj.mp q))))
  · exact Or.inr (Or.inr (Or.inr (Or.inr (Or.inl (Int32.toInt_inj.mp q)))))
  · exact Or.inr (Or.inr (Or.inr (Or.inr (Or.inr (Int32.toInt_inj.mp q)))))
abbrev ym0 : MethodName := ⟨"com/example/gofyn/gofyn/typed/OperatorComplementPinLaw", "pick", "(I)Lcom/example/gofyn/gofyn/typed/Term$Operator;"⟩
abbrev ym1 : MethodName := ⟨"java/lang/Enum", "ordinal", "()I"⟩
abbrev ym2 : MethodName := ⟨"com/example/gofyn/gofyn/typed/Term$Operator", "ordinal", "()I"⟩
abbrev ym3 : MethodName := ⟨"com/example/gofyn/gofyn/typed/Term$Operator", "complement", "()Lcom/example/gofyn/gofyn/typed/Term$Operator;"⟩
abbrev ym4 : MethodName := ⟨"java/lang/Integer", "compare", "(II)I"⟩
abbrev ym5 : MethodName := ⟨"com/example/gofyn/gofyn/typed/Term$Operator", "holds", "(II)Z"⟩
theorem wk0 {Z : State} {a0 : Array Value} (hw : ∀ d ∈ tables_1, d.before a0 Z = true) : (Jvm.Cond.methodLink "com/example/gofyn/gofyn/typed/OperatorComplementPinLaw" (29 : Nat) ({ cls := "com/example/gofyn/gofyn/typed/OperatorComplementPinLaw", name := "pick", desc := "(I)Lcom/example/gofyn/gofyn/typed/Term$Operator;" } : Jvm.MethodName)).before a0 Z = true := hw _ (List.mem_of_getElem? (i := 0) rfl)
theorem wk1 {Z : State} {a0 : Array Value} (hw : ∀ d ∈ tables_1, d.before a0 Z = true) : (Jvm.Cond.static ({ cls := "com/example/gofyn/gofyn/typed/OperatorComplementPinLaw", name := "pick", desc := "(I)Lcom/example/gofyn/gofyn/typed/Term$Operator;" } : Jvm.MethodName)).before a0 Z = true := hw _ (List.mem_of_getElem? (i := 1) rfl)
theorem wk2 {Z : State} {a0 : Array Value} (hw : ∀ d ∈ tables_1, d.before a0 Z = true) : (Jvm.Cond.initialized "com/example/gofyn/gofyn/typed/OperatorComplementPinLaw").before a0 Z = true := hw _ (List.mem_of_getElem? (i := 2) rfl)
theorem wk3 {Z : State} {a0 : Array Value} (hw : ∀ d ∈ tables_1, d.before a0 Z = true) : (Jvm.Cond.code ({ cls := "com/example/gofyn/gofyn/typed/OperatorComplementPinLaw", name := "pick", desc := "(I)Lcom/example/gofyn/gofyn/typed/Term$Operator;" } : Jvm.MethodName) method_2_code (2 : Nat) (Option.some (Jvm.ClassFile.FieldType.object "com/example/gofyn/gofyn/typed/Term$Operator"))).before a0 Z = true := hw _ (List.mem_of_getElem? (i := 3) rfl)
theorem wk4 {Z : State} {a0 : Array Value} (hw : ∀ d ∈ tables_1, d.before a0 Z = true) : (Jvm.Cond.constant "com/example/gofyn/gofyn/typed/OperatorComplementPinLaw" (7 : Nat) (2147483647 : Int32)).before a0 Z = true := hw _ (List.mem_of_getElem? (i := 4) rfl)
theorem wk5 {Z : State} {a0 : Array Value} (hw : ∀ d ∈ tables_1, d.before a0 Z = true) : (Jvm.Cond.fieldLink "com/example/gofyn/gofyn/typed/OperatorComplementPinLaw" (8 : Nat) "com/example/gofyn/gofyn/typed/Term$Operator" "EQUAL" "Lcom/example/gofyn/gofyn/typed/Term$Operator;").before a0 Z = true := hw _ (List.mem_of_getElem? (i := 5) rfl)
theorem wk6 {Z : State} {a0 : Array Value} (hw : ∀ d ∈ tables_1, d.before a0 Z = true) : (Jvm.Cond.initialized "com/example/gofyn/gofyn/typed/Term$Operator").before a0 Z = true := hw _ (List.mem_of_getElem? (i := 6) rfl)
theorem wk7 {Z : State} {a0 : Array Value} (hw : ∀ d ∈ tables_1, d.before a0 Z = true) : (Jvm.Cond.laysStatic "com/example/gofyn/gofyn/typed/Term$Operator" "EQUAL" "Lcom/example/gofyn/gofyn/typed/Term$Operator;").before a0 Z = true := hw _ (List.mem_of_getElem? (i := 7) rfl)
theorem wk8 {Z : State} {a0 : Array Value} (hw : ∀ d ∈ tables_1, d.before a0 Z = true) : (Jvm.Cond.methodLink "com/example/gofyn/gofyn/typed/OperatorComplementPinLaw" (35 : Nat) ({ cls := "com/example/gofyn/gofyn/typed/Term$Operator", name := "complement", desc := "()Lcom/example/gofyn/gofyn/typed/Term$Operator;" } : Jvm.MethodName)).before a0 Z = true := hw _ (List.mem_of_getElem? (i := 8) rfl)
theorem wk9 {Z : State} {a0 : Array Value} (hw : ∀ d ∈ tables_1, d.before a0 Z = true) : (Jvm.Cond.declares ({ cls := "com/example/gofyn/gofyn/typed/Term$Operator", name := "complement", desc := "()Lcom/example/gofyn/gofyn/typed/Term$Operator;" } : Jvm.MethodName)).before a0 Z = true := hw _ (List.mem_of_getElem? (i := 9) rfl)
theorem wk10 {Z : State} {a0 : Array Value} (hw : ∀ d ∈ tables_1, d.before a0 Z = true) : (Jvm.Cond.instanceMethod ({ cls := "com/example/gofyn/gofyn/typed/Term$Operator", name := "complement", desc := "()Lcom/example/gofyn/gofyn/typed/Term$Operator;" } : Jvm.MethodName)).before a0 Z = true := hw _ (List.mem_of_getElem? (i := 10) rfl)
theorem wk11 {Z : State} {a0 : Array Value} (hw : ∀ d ∈ tables_1, d.before a0 Z = true) : (Jvm.Cond.selects "com/example/gofyn/gofyn/typed/Term$Operator" ({ cls := "com/example/gofyn/gofyn/typed/Term$Operator", name := "complement", desc := "()Lcom/example/gofyn/gofyn/typed/Term$Operator;" } : Jvm.MethodName) ({ cls := "com/example/gofyn/gofyn/typed/Term$Operator", name := "complement", desc := "()Lcom/example/gofyn/gofyn/typed/Term$Operator;" } : Jvm.MethodName)).before a0 Z = true := hw _ (List.mem_of_getElem? (i := 11) rfl)
theorem wk12 {Z : State} {a0 : Array Value} (hw : ∀ d ∈ tables_1, d.before a0 Z = true) : (Jvm.Cond.code ({ cls := "com/example/gofyn/gofyn/typed/Term$Operator", name := "complement", desc := "()Lcom/example/gofyn/gofyn/typed/Term$Operator;" } : Jvm.MethodName) prog_75_method_5_code (1 : Nat) (Option.some (Jvm.ClassFile.FieldType.object "com/example/gofyn/gofyn/typed/Term$Operator"))).before a0 Z = true := hw _ (List.mem_of_getElem? (i := 12) rfl)
theorem wk13 {Z : State} {a0 : Array Value} (hw : ∀ d ∈ tables_1, d.before a0 Z = true) : (Jvm.Cond.methodLink "com/example/gofyn/gofyn/typed/Term$Operator" (45 : Nat) ({ cls := "com/example/gofyn/gofyn/typed/Term$Operator", name := "ordinal", desc := "()I" } : Jvm.MethodName)).before a0 Z = true := hw _ (List.mem_of_getElem? (i := 13) rfl)
theorem wk14 {Z : State} {a0 : Array Value} (hw : ∀ d ∈ tables_1, d.before a0 Z = true) : (Jvm.Cond.sameMethod "com/example/gofyn/gofyn/typed/Term$Operator" "java/lang/Enum" "ordinal" "()I").before a0 Z = true := hw _ (List.mem_of_getElem? (i := 14) rfl)
theorem wk15 {Z : State} {a0 : Array Value} (hw : ∀ d ∈ tables_1, d.before a0 Z = true) : (Jvm.Cond.declares ({ cls := "java/lang/Enum", name := "ordinal", desc := "()I" } : Jvm.MethodName)).before a0 Z = true := hw _ (List.mem_of_getElem? (i := 15) rfl)
theorem wk16 {Z : State} {a0 : Array Value} (hw : ∀ d ∈ tables_1, d.before a0 Z = true) : (Jvm.Cond.instanceMethod ({ cls := "java/lang/Enum", name := "ordinal", desc := "()I" } : Jvm.MethodName)).before a0 Z = true := hw _ (List.mem_of_getElem? (i := 16) rfl)
theorem wk17 {Z : State} {a0 : Array Value} (hw : ∀ d ∈ tables_1, d.before a0 Z = true) : (Jvm.Cond.selects "com/example/gofyn/gofyn/typed/Term$Operator" ({ cls := "com/example/gofyn/gofyn/typed/Term$Operator", name := "ordinal", desc := "()I" } : Jvm.MethodName) ({ cls := "java/lang/Enum", name := "ordinal", desc := "()I" } : Jvm.MethodName)).before a0 Z = true := hw _ (List.mem_of_getElem? (i := 17) rfl)
theorem wk18 {Z : State} {a0 : Array Value} (hw : ∀ d ∈ tables_1, d.before a0 Z = true) : (Jvm.Cond.initialized "java/lang/Enum").before a0 Z = true := hw _ (List.mem_of_getElem? (i := 18) rfl)
theorem wk19 {Z : State} {a0 : Array Value} (hw : ∀ d ∈ tables_1, d.before a0 Z = true) : (Jvm.Cond.code ({ cls := "java/lang/Enum", name := "ordinal", desc := "()I" } : Jvm.MethodName) jdk_37_method_2_code (1 : Nat) (Option.some Jvm.ClassFile.FieldType.int)).before a0 Z = true := hw _ (List.mem_of_getElem? (i := 19) rfl)
theorem wk20 {Z : State} {a0 : Array Value} (hw : ∀ d ∈ tables_1, d.before a0 Z = true) : (Jvm.Cond.fieldLink "java/lang/Enum" (7 : Nat) "java/lang/Enum" "ordinal" "I").before a0 Z = true := hw _ (List.mem_of_getElem? (i := 20) rfl)
theorem wk22 {Z : State} {a0 : Array Value} (hw : ∀ d ∈ tables_1, d.before a0 Z = true) : (Jvm.Cond.fieldLink "com/example/gofyn/gofyn/typed/Term$Operator" (7 : Nat) "com/example/gofyn/gofyn/typed/Term$Operator" "NOT_EQUAL" "Lcom/example/gofyn/gofyn/typed/Term$Operator;").before a0 Z = true := hw _ (List.mem_of_getElem? (i := 22) rfl)
theorem wk23 {Z : State} {a0 : Array Value} (hw : ∀ d ∈ tables_1, d.before a0 Z = true) : (Jvm.Cond.laysStatic "com/example/gofyn/gofyn/typed/Term$Operator" "NOT_EQUAL" "Lcom/example/gofyn/gofyn/typed/Term$Operator;").before a0 Z = true := hw _ (List.mem_of_getElem? (i := 23) rfl)
theorem wk24 {Z : State} {a0 : Array Value} (hw : ∀ d ∈ tables_1, d.before a0 Z = true) : (Jvm.Cond.methodLink "com/example/gofyn/gofyn/typed/OperatorComplementPinLaw" (39 : Nat) ({ cls := "com/example/gofyn/gofyn/typed/Term$Operator", name := "holds", desc := "(II)Z" } : Jvm.MethodName)).before a0 Z = true := hw _ (List.mem_of_getElem? (i := 24) rfl)
theorem wk25 {Z : State} {a0 : Array Value} (hw : ∀ d ∈ tables_1, d.before a0 Z = true) : (Jvm.Cond.declares ({ cls := "com/example/gofyn/gofyn/typed/Term$Operator", name := "holds", desc := "(II)Z" } : Jvm.MethodName)).before a0 Z = true := hw _ (List.mem_of_getElem? (i := 25) rfl)
theorem wk26 {Z : State} {a0 : Array Value} (hw : ∀ d ∈ tables_1, d.before a0 Z = true) : (Jvm.Cond.instanceMethod ({ cls := "com/example/gofyn/gofyn/typed/Term$Operator", name := "holds", desc := "(II)Z" } : Jvm.MethodName)).before a0 Z = true := hw _ (List.mem_of_getElem? (i := 26) rfl)
theorem wk27 {Z : State} {a0 : Array Value} (hw : ∀ d ∈ tables_1, d.before a0 Z = true) : (Jvm.Cond.selects "com/example/gofyn/gofyn/typed/Term$Operator" ({ cls := "com/example/gofyn/gofyn/typed/Term$Operator", name := "holds", desc := "(II)Z" } : Jvm.MethodName) ({ cls := "com/example/gofyn/gofyn/typed/Term$Operator", name := "holds", desc := "(II)Z" } : Jvm.MethodName)).before a0 Z = true := hw _ (List.mem_of_getElem? (i := 27) rfl)
theorem wk28 {Z : State} {a0 : Array Value} (hw : ∀ d ∈ tables_1, d.before a0 Z = true) : (Jvm.Cond.code ({ cls := "com/example/gofyn/gofyn/typed/Term$Operator", name := "holds", desc := "(II)Z" } : Jvm.MethodName) prog_75_method_7_code (4 : Nat) (Option.some Jvm.ClassFile.FieldType.boolean)).before a0 Z = true := hw _ (List.mem_of_getElem? (i := 28) rfl)
theorem wk29 {Z : State} {a0 : Array Value} (hw : ∀ d ∈ tables_1, d.before a0 Z = true) : (Jvm.Cond.methodLink "com/example/gofyn/gofyn/typed/Term$Operator" (54 : Nat) ({ cls := "java/lang/Integer", name := "compare", desc := "(II)I" } : Jvm.MethodName)).before a0 Z = true := hw _ (List.mem_of_getElem? (i := 29) rfl)
theorem wk30 {Z : State} {a0 : Array Value} (hw : ∀ d ∈ tables_1, d.before a0 Z = true) : (Jvm.Cond.static ({ cls := "java/lang/Integer", name := "compare", desc := "(II)I" } : Jvm.MethodName)).before a0 Z = true := hw _ (List.mem_of_getElem? (i := 30) rfl)
theorem wk31 {Z : State} {a0 : Array Value} (hw : ∀ d ∈ tables_1, d.before a0 Z = true) : (Jvm.Cond.initialized "java/lang/Integer").before a0 Z = true := hw _ (List.mem_of_getElem? (i := 31) rfl)
theorem wk32 {Z : State} {a0 : Array Value} (hw : ∀ d ∈ tables_1, d.before a0 Z = true) : (Jvm.Cond.code ({ cls := "java/lang/Integer", name := "compare", desc := "(II)I" } : Jvm.MethodName) jdk_33_method_40_code (2 : Nat) (Option.some Jvm.ClassFile.FieldType.int)).before a0 Z = true := hw _ (List.mem_of_getElem? (i := 32) rfl)
theorem wk33 {Z : State} {a0 : Array Value} (hw : ∀ d ∈ tables_1, d.before a0 Z = true) : (Jvm.Cond.fieldLink "com/example/gofyn/gofyn/typed/Term$Operator" (3 : Nat) "com/example/gofyn/gofyn/typed/Term$Operator" "EQUAL" "Lcom/example/gofyn/gofyn/typed/Term$Operator;").before a0 Z = true := hw _ (List.mem_of_getElem? (i := 33) rfl)
theorem wk34 {Z : State} {a0 : Array Value} (hw : ∀ d ∈ tables_1, d.before a0 Z = true) : (Jvm.Cond.fieldLink "com/example/gofyn/gofyn/typed/OperatorComplementPinLaw" (14 : Nat) "com/example/gofyn/gofyn/typed/Term$Operator" "NOT_EQUAL" "Lcom/example/gofyn/gofyn/typed/Term$Operator;").before a0 Z = true := hw _ (List.mem_of_getElem? (i := 34) rfl)
theorem wk35 {Z : State} {a0 : Array Value} (hw : ∀ d ∈ tables_1, d.before a0 Z = true) : (Jvm.Cond.fieldLink "com/example/gofyn/gofyn/typed/OperatorComplementPinLaw" (17 : Nat) "com/example/gofyn/gofyn/typed/Term$Operator" "LESS" "Lcom/example/gofyn/gofyn/typed/Term$Operator;").before a0 Z = true := hw _ (List.mem_of_getElem? (i := 35) rfl)
theorem wk36 {Z : State} {a0 : Array Value} (hw : ∀ d ∈ tables_1, d.before a0 Z = true) : (Jvm.Cond.laysStatic "com/example/gofyn/gofyn/typed/Term$Operator" "LESS" "Lcom/example/gofyn/gofyn/typed/Term$Operator;").before a0 Z = true := hw _ (List.mem_of_getElem? (i := 36) rfl)
theorem wk37 {Z : State} {a0 : Array Value} (hw : ∀ d ∈ tables_1, d.before a0 Z = true) : (Jvm.Cond.fieldLink "com/example/gofyn/gofyn/typed/Term$Operator" (19 : Nat) "com/example/gofyn/gofyn/typed/Term$Operator" "GREATER_EQUAL" "Lcom/example/gofyn/gofyn/typed/Term$Operator;").before a0 Z = true := hw _ (List.mem_of_getElem? (i := 37) rfl)
theorem wk38 {Z : State} {a0 : Array Value} (hw : ∀ d ∈ tables_1, d.before a0 Z = true) : (Jvm.Cond.laysStatic "com/example/gofyn/gofyn/typed/Term$Operator" "GREATER_EQUAL" "Lcom/example/gofyn/gofyn/typed/Term$Operator;").before a0 Z = true := hw _ (List.mem_of_getElem? (i := 38) rfl)
theorem wk39 {Z : State} {a0 : Array Value} (hw : ∀ d ∈ tables_1, d.before a0 Z = true) : (Jvm.Cond.fieldLink "com/example/gofyn/gofyn/typed/Term$Operator" (10 : Nat) "com/example/gofyn/gofyn/typed/Term$Operator" "LESS" "Lcom/example/gofyn/gofyn/typed/Term$Operator;").before a0 Z = true := hw _ (List.mem_of_getElem? (i := 39) rfl)
theorem wk40 {Z : State} {a0 : Array Value} (hw : ∀ d ∈ tables_1, d.before a0 Z = true) : (Jvm.Cond.fieldLink "com/example/gofyn/gofyn/typed/OperatorComplementPinLaw" (26 : Nat) "com/example/gofyn/gofyn/typed/Term$Operator" "GREATER_EQUAL" "Lcom/example/gofyn/gofyn/typed/Term$Operator;").before a0 Z = true := hw _ (List.mem_of_getElem? (i := 40) rfl)
theorem wk41 {Z : State} {a0 : Array Value} (hw : ∀ d ∈ tables_1, d.before a0 Z = true) : (Jvm.Cond.fieldLink "com/example/gofyn/gofyn/typed/OperatorComplementPinLaw" (20 : Nat) "com/example/gofyn/gofyn/typed/Term$Operator" "LESS_EQUAL" "Lcom/example/gofyn/gofyn/typed/Term$Operator;").before a0 Z = true := hw _ (List.mem_of_getElem? (i := 41) rfl)
theorem wk42 {Z : State} {a0 : Array Value} (hw : ∀ d ∈ tables_1, d.before a0 Z = true) : (Jvm.Cond.laysStatic "com/example/gofyn/gofyn/typed/Term$Operator" "LESS_EQUAL" "Lcom/example/gofyn/gofyn/typed/Term$Operator;").before a0 Z = true := hw _ (List.mem_of_getElem? (i := 42) rfl)
theorem wk43 {Z : State} {a0 : Array Value} (hw : ∀ d ∈ tables_1, d.before a0 Z = true) : (Jvm.Cond.fieldLink "com/example/gofyn/gofyn/typed/Term$Operator" (16 : Nat) "com/example/gofyn/gofyn/typed/Term$Operator" "GREATER" "Lcom/example/gofyn/gofyn/typed/Term$Operator;").before a0 Z = true := hw _ (List.mem_of_getElem? (i := 43) rfl)
theorem wk44 {Z : State} {a0 : Array Value} (hw : ∀ d ∈ tables_1, d.before a0 Z = true) : (Jvm.Cond.laysStatic "com/example/gofyn/gofyn/typed/Term$Operator" "GREATER" "Lcom/example/gofyn/gofyn/typed/Term$Operator;").before a0 Z = true := hw _ (List.mem_of_getElem? (i := 44) rfl)
theorem wk45 {Z : State} {a0 : Array Value} (hw : ∀ d ∈ tables_1, d.before a0 Z = true) : (Jvm.Cond.fieldLink "com/example/gofyn/gofyn/typed/Term$Operator" (13 : Nat) "com/example/gofyn/gofyn/typed/Term$Operator" "LESS_EQUAL" "Lcom/example/gofyn/gofyn/typed/Term$Operator;").before a0 Z = true := hw _ (List.mem_of_getElem? (i := 45) rfl)
theorem wk46 {Z : State} {a0 : Array Value} (hw : ∀ d ∈ tables_1, d.before a0 Z = true) : (Jvm.Cond.fieldLink "com/example/gofyn/gofyn/typed/OperatorComplementPinLaw" (23 : Nat) "com/example/gofyn/gofyn/typed/Term$Operator" "GREATER" "Lcom/example/gofyn/gofyn/typed/Term$Operator;").before a0 Z = true := hw _ (List.mem_of_getElem? (i := 46) rfl)
def Wd (Z : State) (w : Nat → Addr) : Prop := Sta Z Z.heap "com/example/gofyn/gofyn/typed/Term$Operator" "EQUAL" "Lcom/example/gofyn/gofyn/typed/Term$Operator;" (.ref (w 0)) ∧ Exa Z Z.heap (w 0) "com/example/gofyn/gofyn/typed/Term$Operator" ∧ Sta Z Z.heap "com/example/gofyn/gofyn/typed/Term$Operator" "NOT_EQUAL" "Lcom/example/gofyn/gofyn/typed/Term$Operator;" (.ref (w 1)) ∧ Exa Z Z.heap (w 1) "com/example/gofyn/gofyn/typed/Term$Operator" ∧ Sta Z Z.heap "com/example/gofyn/gofyn/typed/Term$Operator" "LESS" "Lcom/example/gofyn/gofyn/typed/Term$Operator;" (.ref (w 2)) ∧ Exa Z Z.heap (w 2) "com/example/gofyn/gofyn/typed/Term$Operator" ∧ Sta Z Z.heap "com/example/gofyn/gofyn/typed/Term$Operator" "GREATER_EQUAL" "Lcom/example/gofyn/gofyn/typed/Term$Operator;" (.ref (w 3)) ∧ Exa Z Z.heap (w 3) "com/example/gofyn/gofyn/typed/Term$Operator" ∧ Sta Z Z.heap "com/example/gofyn/gofyn/typed/Term$Operator" "LESS_EQUAL" "Lcom/example/gofyn/gofyn/typed/Term$Operator;" (.ref (w 4)) ∧ Exa Z Z.heap (w 4) "com/example/gofyn/gofyn/typed/Term$Operator" ∧ Sta Z Z.heap "com/example/gofyn/gofyn/typed/Term$Operator" "GREATER" "Lcom/example/gofyn/gofyn/typed/Term$Operator;" (.ref (w 5)) ∧ Exa Z Z.heap (w 5) "com/example/gofyn/gofyn/typed/Term$Operator" ∧ Fld Z Z.heap (w 0) "java/lang/Enum" "ordinal" "I" (.int (0 : Int32)) ∧ Fld Z Z.heap (w 1) "java/lang/Enum" "ordinal" "I" (.int (1 : Int32)) ∧ Fld Z Z.heap (w 2) "java/lang/Enum" "ordinal" "I" (.int (2 : Int32)) ∧ Fld Z Z.heap (w 3) "java/lang/Enum" "ordinal" "I" (.int (5 : Int32)) ∧ Fld Z Z.heap (w 4) "java/lang/Enum" "ordinal" "I" (.int (3 : Int32)) ∧ Fld Z Z.heap (w 5) "java/lang/Enum" "ordinal" "I" (.int (4 : Int32)) ∧ True
theorem wd0 {Z : State} {w : Nat → Addr} (hW : Wd Z w) : Sta Z Z.heap "com/example/gofyn/gofyn/typed/Term$Operator" "EQUAL" "Lcom/example/gofyn/gofyn/typed/Term$Operator;" (.ref (w 0)) := hW.1
theorem wd1 {Z : State} {w : Nat → Addr} (hW : Wd Z w) : Exa Z Z.heap (w 0) "com/example/gofyn/gofyn/typed/Term$Operator" := hW.2.1
theorem wd2 {Z : State} {w : Nat → Addr} (hW : Wd Z w) : Sta Z Z.heap "com/example/gofyn/gofyn/typed/Term$Operator" "NOT_EQUAL" "Lcom/example/gofyn/gofyn/typed/Term$Operator;" (.ref (w 1)) := hW.2.2.1
theorem wd3 {Z : State} {w : Nat → Addr} (hW : Wd Z w) : Exa Z Z.heap (w 1) "com/example/gofyn/gofyn/typed/Term$Operator" := hW.2.2.2.1
theorem wd4 {Z : State} {w : Nat → Addr} (hW : Wd Z w) : Sta Z Z.heap "com/example/gofyn/gofyn/typed/Term$Operator" "LESS" "Lcom/example/gofyn/gofyn/typed/Term$Operator;" (.ref (w 2)) := hW.2.2.2.2.1
theorem wd5 {Z : State} {w : Nat → Addr} (hW : Wd Z w) : Exa Z Z.heap (w 2) "com/example/gofyn/gofyn/typed/Term$Operator" := hW.2.2.2.2.2.1
theorem wd6 {Z : State} {w : Nat → Addr} (hW : Wd Z w) : Sta Z Z.heap "com/example/gofyn/gofyn/typed/Term$Operator" "GREATER_EQUAL" "Lcom/example/gofyn/gofyn/typed/Term$Operator;" (.ref (w 3)) := hW.2.2.2.2.2.2.1
theorem wd7 {Z : State} {w : Nat → Addr} (hW : Wd Z w) : Exa Z Z.heap (w 3) "com/example/gofyn/gofyn/typed/Term$Operator" := hW.2.2.2.2.2.2.2.1
theorem wd8 {Z : State} {w : Nat → Addr} (hW : Wd Z w) : Sta Z Z.heap "com/example/gofyn/gofyn/typed/Term$Operator" "LESS_EQUAL" "Lcom/example/gofyn/gofyn/typed/Term$Operator;" (.ref (w 4)) := hW.2.2.2.2.2.2.2.2.1
theorem wd9 {Z : State} {w : Nat → Addr} (hW : Wd Z w) : Exa Z Z.heap (w 4) "com/example/gofyn/gofyn/typed/Term$Operator" := hW.2.2.2.2.2.2.2.2.2.1
theorem wd10 {Z : State} {w : Nat → Addr} (hW : Wd Z w) : Sta Z Z.heap "com/example/gofyn/gofyn/typed/Term$Operator" "GREATER" "Lcom/example/gofyn/gofyn/typed/Term$Operator;" (.ref (w 5)) := hW.2.2.2.2.2.2.2.2.2.2.1
theorem wd11 {Z : State} {w : Nat → Addr} (hW : Wd Z w) : Exa Z Z.heap (w 5) "com/example/gofyn/gofyn/typed/Term$Operator" := hW.2.2.2.2.2.2.2.2.2.2.2.1
theorem wd12 {Z : State} {w : Nat → Addr} (hW : Wd Z w) : Fld Z Z.heap (w 0) "java/lang/Enum" "ordinal" "I" (.int (0 : Int32)) := hW.2.2.2.2.2.2.2.2.2.2.2.2.1
theorem wd13 {Z : State} {w : Nat → Addr} (hW : Wd Z w) : Fld Z Z.heap (w 1) "java/lang/Enum" "ordinal" "I" (.int (1 : Int32)) := hW.2.2.2.2.2.2.2.2.2.2.2.2.2.1
theorem wd14 {Z : State} {w : Nat → Addr} (hW : Wd Z w) : Fld Z Z.heap (w 2) "java/lang/Enum" "ordinal" "I" (.int (2 : Int32)) := hW.2.2.2.2.2.2.2.2.2.2.2.2.2.2.1
theorem wd15 {Z : State} {w : Nat → Addr} (hW : Wd Z w) : Fld Z Z.heap (w 3) "java/lang/Enum" "ordinal" "I" (.int (5 : Int32)) := hW.2.2.2.2.2.2.2.2.2.2.2.2.2.2.2.1
theorem wd16 {Z : State} {w : Nat → Addr} (hW : Wd Z w) : Fld Z Z.heap (w 4) "java/lang/Enum" "ordinal" "I" (.int (3 : Int32)) := hW.2.2.2.2.2.2.2.2.2.2.2.2.2.2.2.2.1
theorem wd17 {Z : State} {w : Nat → Addr} (hW : Wd Z w) : Fld Z Z.heap (w 5) "java/lang/Enum" "ordinal" "I" (.int (4 : Int32)) := hW.2.2.2.2.2.2.2.2.2.2.2.2.2.2.2.2.2.1
theorem d1_0 : decode method_2_code 0 = .ok (.iload_n 0, 1) := by decide +kernel
theorem d1_1 : decode method_2_code 1 = .ok (.ldc 7, 2) := by decide +kernel
theorem d1_3 : decode method_2_code 3 = .ok (.iand, 1) := by decide +kernel
theorem d1_4 : decode method_2_code 4 = .ok (.bipush 6, 2) := by decide +kernel
theorem d1_6 : decode method_2_code 6 = .ok (.irem, 1) := by decide +kernel
theorem d1_7 : decode method_2_code 7 = .ok (.istore_n 1, 1) := by decide +kernel
theorem d1_8 : decode method_2_code 8 = .ok (.iload_n 1, 1) := by decide +kernel
theorem d1_9 : decode method_2_code 9 = .ok (.ifCond .ne 7, 3) := by decide +kernel
theorem d1_12 : decode method_2_code 12 = .ok (.getstatic 8, 3) := by decide +kernel
theorem d1_15 : decode method_2_code 15 = .ok (.areturn, 1) := by decide +kernel
theorem ef_1_1 (m : MethodId) (q1 : Int32) : entryFrame m #[(.int q1)] 2 = mkF m 0 #[.val (.int q1), .unset] [] := by first | (simp [entryFrame, mkF, argsToLocals, Value.category]; done) | rfl
theorem pnc_0 : plainName "com/example/gofyn/gofyn/typed/OperatorComplementPinLaw" = true := by first | (simp [plainName, overriddenIn]; done) | decide +kernel
def Q1_1 (Z : State) (w : Nat → Addr) (q1 : Int32) (h0 : Heap) (n0 : Nat) (v : Option Value) (h : Heap) (L : List Loc) : Prop := v = some (.ref (w 0)) ∧ Fr n0 L ∧ h = h0
set_option maxRecDepth 65536 in
set_option maxHeartbeats 40000000 in
theorem rm1_1 (l : Launch) (Z : State) (a0 : Array Value) (hw : ∀ d ∈ tables_1, d.before a0 Z = true) (w : Nat → Addr) (hW : Wd Z w) (ws : List Jvm.Cond) (q1 : Int32) (h0 : Heap) (n0 : Nat) (O0 : Old Z n0 h0) (c1 : ((q1 &&& (2147483647 : Int32)) % (6 : Int32)) = (0 : Int32)) :
    MetFree l ym0 (head1 (Jvm.Cond.code ym0 method_2_code 2 (some (.object "com/example/gofyn/gofyn/typed/Term$Operator")) :: ws) ({ frames := 0, cells := 0, slots := 0, locals := 0 } : Room)) (fun a U => a = #[(.int q1)] ∧ Z.Warmed39 U.vm ∧ U.heap = h0) (fun _ _ _ _ _ => True) (fun _ U o U' => ∃ v L, o = .returned v ∧ Q1_1 Z w q1 h0 n0 v U'.heap L ∧ FrameEnd U o U' L ({ frames := 0, cells := 0, slots := 0, locals := 0 } : Room).cells ({ frames := 0, cells := 0, slots := 0, locals := 0 } : Room).slots) := by
  refine MetFree.of_bodySF (plainFor_of_name pnc_0) hisR ?_
  intro p e s m args below meth c s₁ Bd hml0 hP hK
  obtain ⟨rfl, hZ, hh⟩ := hP
  have hx := Bd.exec
  have hby := Bd.bytes
  have hml : c.maxLocals = 2 := hml0
  have hown : s.vm.findClass "com/example/gofyn/gofyn/typed/OperatorComplementPinLaw" = some m.cls := findClass_of_methodNamed Bd.named
  have hnm := (name_of_methodNamed Bd.named Bd.method).1
  have X0 : Stand p l e ({ frames := 0, cells := 0, slots := 0, locals := 0 } : Room) s m #[(.int q1)] below meth c s₁ [] 0 0 := Stand.of_body Bd
  have e0 : s₁.heap = h0 := by rw [← hh, Bd.state]; rfl
  have N0 := Fr.nil n0
  skip
  have pre0 : ∀ t, Steps p.tables e below (s₁.setTop (mkF m 0 #[.val (.int q1), .unset] [])) t → Steps p.tables e below (s₁.setTop (entryFrame m #[(.int q1)] 2)) t := fun t k => castTop (ef_1_1 m q1) k
  let Lb1 : Array Slot := #[.val (.int q1), .val (.int ((q1 &&& (2147483647 : Int32)) % (6 : Int32)))]
  obtain ⟨T2, X2, e2, st2⟩ := getS2 X0 hx hZ hown (host := "") (Or.inl (wk5 hw)) Via.refl e0 ((wd0 hW).ext O0.2) (g := (mkF m 12 Lb1 [])) rfl (hb hby d1_12)
  obtain ⟨fs, hr, hrun, hended, hWm, hsame⟩ := X2.leave (v := some (.ref (w 0))) (fun h => by rw [Bd.returns] at h; cases h)
  refine ⟨_, _, pre0 _ ?_, hrun, hended, _, _, rfl, ?_, ⟨_, rfl⟩, hWm, hsame.mono (by decide) (by decide)⟩
  · show Steps p.tables e below (s₁.setTop (mkF m 0 #[.val (.int q1), .unset] [])) _
    refine sI X0 hx hby d1_0 rfl ?_
    refine X0.ldcInt hx hown (mvT hZ (wk4 hw)) (g := (mkF m 1 #[.val (.int q1), .unset] [(.int q1)])) rfl (hb hby d1_1) _ ?_
    refine XS.iand X0.here hx rfl (hb hby d1_3) rfl ?_
    refine XS.bipush X0.here hx rfl (hb hby d1_4) ?_
    refine iremM X0 hx rfl (hb hby d1_6) rfl (by decide) ?_
    show Steps p.tables e below (s₁.setTop (mkF m 7 #[.val (.int q1), .unset] [(.int ((q1 &&& (2147483647 : Int32)) % (6 : Int32)))])) _
    refine XS.istoreN X0.here hx rfl (hb hby d1_7) rfl (l' := Lb1) rfl ?_
    refine sI X0 hx hby d1_8 rfl ?_
    refine sN X0 hx hby d1_9 ((if0 _ _).trans (teq (c1 : ((q1 &&& (2147483647 : Int32)) % (6 : Int32)) = (0 : Int32))).2) ?_
    refine st2 _ ?_
    jvm_step X2.here [X2.here.top, hx, (hb hby d1_15), X2.method', Bd.returns, Value.isRef, FieldType.isReference]
    first | (intro acts; rw [hr _ acts rfl rfl rfl]) | rw [hr _ _ rfl rfl rfl]
    exact Steps.refl _
  · show Q1_1 Z w q1 h0 n0 _ T2.heap _
    rw [e2]
    exact ⟨rfl, N0, rfl⟩
theorem pds_0 : parseMethodDescriptor "(I)Lcom/example/gofyn/gofyn/typed/Term$Operator;" = some ⟨[.int], some (.object "com/example/gofyn/gofyn/typed/Term$Operator")⟩ := by decide +kernel
theorem d2_0 : decode prog_75_method_5_code 0 = .ok (.aload_n 0, 1) := by decide +kernel
theorem d2_1 : decode prog_75_method_5_code 1 = .ok (.invokevirtual 45, 3) := by decide +kernel
theorem d3_0 : decode jdk_37_method_2_code 0 = .ok (.aload_n 0, 1) := by decide +kernel
theorem d3_1 : decode jdk_37_method_2_code 1 = .ok (.getfield 7, 3) := by decide +kernel
theorem d3_4 : decode jdk_37_method_2_code 4 = .ok (.ireturn, 1) := by decide +kernel
theorem ef_3_2 (m : MethodId) (w : Nat → Addr) : entryFrame m #[(.ref (w 0))] 1 = mkF m 0 #[.val (.ref (w 0))] [] := by first | (simp [entryFrame, mkF, argsToLocals, Value.category]; done) | rfl
theorem pnc_1 : plainName "java/lang/Enum" = true := by first | (simp [plainName, overriddenIn]; done) | decide +kernel
def Q3_2 (Z : State) (w : Nat → Addr) (h0 : Heap) (n0 : Nat) (v : Option Value) (h : Heap) (L : List Loc) : Prop := v = some (.int (0 : Int32)) ∧ Fr n0 L ∧ h = h0
set_option maxRecDepth 65536 in
set_option maxHeartbeats 40000000 in
theorem rm3_2 (l : Launch) (Z : State) (a0 : Array Value) (hw : ∀ d ∈ tables_1, d.before a0 Z = true) (w : Nat → Addr) (hW : Wd Z w) (ws : List Jvm.Cond) (h0 : Heap) (n0 : Nat) (O0 : Old Z n0 h0) :
    MetFree l ym1 (head1 (Jvm.Cond.code ym1 jdk_37_method_2_code 1 (some .int) :: ws) ({ frames := 0, cells := 0, slots := 0, locals := 0 } : Room)) (fun a U => a = #[(.ref (w 0))] ∧ Z.Warmed39 U.vm ∧ U.heap = h0) (fun _ _ _ _ _ => True) (fun _ U o U' => ∃ v L, o = .returned v ∧ Q3_2 Z w h0 n0 v U'.heap L ∧ FrameEnd U o U' L ({ frames := 0, cells := 0, slots := 0, locals := 0 } : Room).cells ({ frames := 0, cells := 0, slots := 0, locals := 0 } : Room).slots) := by
  refine MetFree.of_bodySF (plainFor_of_name pnc_1) hisR ?_
  intro p e s m args below meth c s₁ Bd hml0 hP hK
  obtain ⟨rfl, hZ, hh⟩ := hP
  have hx := Bd.exec
  have hby := Bd.bytes
  have hml : c.maxLocals = 1 := hml0
  have hown : s.vm.findClass "java/lang/Enum" = some m.cls := findClass_of_methodNamed Bd.named
  have hnm := (name_of_methodNamed Bd.named Bd.method).1
  have X0 : Stand p l e ({ frames := 0, cells := 0, slots := 0, locals := 0 } : Room) s m #[(.ref (w 0))] below meth c s₁ [] 0 0 := Stand.of_body Bd
  have e0 : s₁.heap = h0 := by rw [← hh, Bd.state]; rfl
  have N0 := Fr.nil n0
  skip
  have pre0 : ∀ t, Steps p.tables e below (s₁.setTop (mkF m 0 #[.val (.ref (w 0))] [])) t → Steps p.tables e below (s₁.setTop (entryFrame m #[(.ref (w 0))] 1)) t := fun t k => castTop (ef_3_2 m w) k
  obtain ⟨T1, X1, e1, st1⟩ := getF X0 hx hZ hown (host := "") (Or.inl (wk20 hw)) Via.refl e0 ((wd12 hW).ext O0.2) (g := (mkF m 1 #[.val (.ref (w 0))] [(.ref (w 0))])) rfl rfl (hb hby d3_1)
  obtain ⟨fs, hr, hrun, hended, hWm, hsame⟩ := X1.leave (v := some (.int (0 : Int32))) (fun h => by rw [Bd.returns] at h; cases h)
  refine ⟨_, _, pre0 _ ?_, hrun, hended, _, _, rfl, ?_, ⟨_, rfl⟩, hWm, hsame.mono (by decide) (by decide)⟩
  · show Steps p.tables e below (s₁.setTop (mkF m 0 #[.val (.ref (w 0))] [])) _
    refine sA X0 hx hby d3_0 rfl rfl ?_
    refine st1 _ ?_
    exact retI X1 hx Bd.returns (hb hby d3_4) hr
  · show Q3_2 Z w h0 n0 _ T1.heap _
    rw [e1]
    exact ⟨rfl, N0, rfl⟩
theorem pds_1 : parseMethodDescriptor "()I" = some ⟨[], some .int⟩ := by decide +kernel
theorem d2_4 : decode prog_75_method_5_code 4 = .ok (.tableswitch 40 0 5 #[50, 56, 62, 68, 74, 80], 40) := by decide +kernel
theorem d2_54 : decode prog_75_method_5_code 54 = .ok (.getstatic 7, 3) := by decide +kernel
theorem d2_57 : decode prog_75_method_5_code 57 = .ok (.goto 30, 3) := by decide +kernel
theorem d2_87 : decode prog_75_method_5_code 87 = .ok (.areturn, 1) := by decide +kernel
theorem ef_2_3 (m : MethodId) (w : Nat → Addr) : entryFrame m #[(.ref (w 0))] 1 = mkF m 0 #[.val (.ref (w 0))] [] := by first | (simp [entryFrame, mkF, argsToLocals, Value.category]; done) | rfl
theorem pnc_2 : plainName "com/example/gofyn/gofyn/typed/Term$Operator" = true := by first | (simp [plainName, overriddenIn]; done) | decide +kernel
def Q2_3 (Z : State) (w : Nat → Addr) (h0 : Heap) (n0 : Nat) (v : Option Value) (h : Heap) (L : List Loc) : Prop := v = some (.ref (w 1)) ∧ Fr n0 L ∧ h = h0
set_option maxRecDepth 65536 in
set_option maxHeartbeats 40000000 in
theorem rm2_3 (l : Launch) (Z : State) (a0 : Array Value) (hw : ∀ d ∈ tables_1, d.before a0 Z = true) (w : Nat → Addr) (hW : Wd Z w) (ws : List Jvm.Cond) (h0 : Heap) (n0 : Nat) (O0 : Old Z n0 h0) :
    MetFree l ym3 (head1 (Jvm.Cond.code ym3 prog_75_method_5_code 1 (some (.object "com/example/gofyn/gofyn/typed/Term$Operator")) :: ws) ({ frames := 1, cells := 0, slots := 0, locals := 12 } : Room)) (fun a U => a = #[(.ref (w 0))] ∧ Z.Warmed39 U.vm ∧ U.heap = h0) (fun _ _ _ _ _ => True) (fun _ U o U' => ∃ v L, o = .returned v ∧ Q2_3 Z w h0 n0 v U'.heap L ∧ FrameEnd U o U' L ({ frames := 1, cells := 0, slots := 0, locals := 12 } : Room).cells ({ frames := 1, cells := 0, slots := 0, locals := 12 } : Room).slots) := by
  refine MetFree.of_bodySF (plainFor_of_name pnc_2) hisR ?_
  intro p e s m args below meth c s₁ Bd hml0 hP hK
  obtain ⟨rfl, hZ, hh⟩ := hP
  have hx := Bd.exec
  have hby := Bd.bytes
  have hml : c.maxLocals = 1 := hml0
  have hown : s.vm.findClass "com/example/gofyn/gofyn/typed/Term$Operator" = some m.cls := findClass_of_methodNamed Bd.named
  have hnm := (name_of_methodNamed Bd.named Bd.method).1
  have X0 : Stand p l e ({ frames := 1, cells := 0, slots := 0, locals := 12 } : Room) s m #[(.ref (w 0))] below meth c s₁ [] 0 0 := Stand.of_body Bd
  have e0 : s₁.heap = h0 := by rw [← hh, Bd.state]; rfl
  have N0 := Fr.nil n0
  skip
  have pre0 : ∀ t, Steps p.tables e below (s₁.setTop (mkF m 0 #[.val (.ref (w 0))] [])) t → Steps p.tables e below (s₁.setTop (entryFrame m #[(.ref (w 0))] 1)) t := fun t k => castTop (ef_2_3 m w) k
  obtain ⟨cq1, kq1, q1a, q1b, q1c⟩ := isOf hZ e0 ((wd1 hW).ext O0.2)
  obtain ⟨_, _, ⟨T1, L1, kk1, nn1⟩, -, X1, ⟨Lc1, hQ1, l1, y1, z1⟩, st1⟩ := X0.virtualBackUp hx (x := ym2) (y := ym1) hown (mvT hZ (wk13 hw)) (mvT hZ (wk14 hw)) (mvT hZ (wk15 hw)) (by decide) (mvT hZ (wk17 hw)) (mvT hZ (wk16 hw)) (backOf (W := 0) (rm3_2 l Z a0 hw w hW []  h0 n0 O0 ) hZ (wk19 hw) (wk18 hw) (by decide) (by decide)) q1a q1c (g := (mkF m 1 #[.val (.ref (w 0))] [(.ref (w 0))])) rfl (by rw [hml]; rfl) (Steps.refl _) (argsL := []) (rest := []) (lenOf pds_1 rfl) rfl (by show 2 * 0 + _ ≤ _; exact Nat.le_of_eq rfl) (hb hby d2_1) (fun _ _ => ⟨rfl, e0, (by decide : 0 + 0 ≤ _), (by decide : 0 + 0 ≤ _)⟩)
  dsimp only [Pt.U, Pt.locs, Pt.cells, Pt.slots] at X1 l1 y1 z1 st1 hQ1
  subst l1 y1 z1
  obtain ⟨rfl, N1q, e1⟩ := hQ1
  have N1 := Fr.app N0 N1q
  obtain ⟨T2, X2, e2, st2⟩ := getS2 X1 hx hZ hown (host := "") (Or.inl (wk22 hw)) Via.refl e1 ((wd2 hW).ext O0.2) (g := (mkF m 54 #[.val (.ref (w 0))] [])) rfl (hb hby d2_54)
  obtain ⟨fs, hr, hrun, hended, hWm, hsame⟩ := X2.leave (v := some (.ref (w 1))) (fun h => by rw [Bd.returns] at h; cases h)
  refine ⟨_, _, pre0 _ ?_, hrun, hended, _, _, rfl, ?_, ⟨_, rfl⟩, hWm, hsame.mono (by decide) (by decide)⟩
  · show Steps p.tables e below (s₁.setTop (mkF m 0 #[.val (.ref (w 0))] [])) _
    refine sA X0 hx hby d2_0 rfl rfl ?_
    refine st1.trans ?_
    refine XS.tswIn X1.here hx rfl (pc0 := 4) (pc' := 54) (o := 50) rfl (hb hby d2_4) rfl (by decide) (by decide) (by decide) (by decide) ?_
    refine st2 _ ?_
    refine sg (pc := 57) (pc' := 87) X2 hx hby d2_57 (by decide) (by decide) ?_
    jvm_step X2.here [X2.here.top, hx, (hb hby d2_87), X2.method', Bd.returns, Value.isRef, FieldType.isReference]
    first | (intro acts; rw [hr _ acts rfl rfl rfl]) | rw [hr _ _ rfl rfl rfl]
    exact Steps.refl _
  · show Q2_3 Z w h0 n0 _ T2.heap _
    rw [e2]
    exact ⟨rfl, N1, rfl⟩
theorem pds_2 : parseMethodDescriptor "()Lcom/example/gofyn/gofyn/typed/Term$Operator;" = some ⟨[], some (.object "com/example/gofyn/gofyn/typed/Term$Operator")⟩ := by decide +kernel
theorem d4_0 : decode prog_75_method_7_code 0 = .ok (.iload_n 1, 1) := by decide +kernel
theorem d4_1 : decode prog_75_method_7_code 1 = .ok (.iload_n 2, 1) := by decide +kernel
theorem d4_2 : decode prog_75_method_7_code 2 = .ok (.invokestatic 54, 3) := by decide +kernel
theorem d5_0 : decode jdk_33_method_40_code 0 = .ok (.iload_n 0, 1) := by decide +kernel
theorem d5_1 : decode jdk_33_method_40_code 1 = .ok (.iload_n 1, 1) := by decide +kernel
theorem d5_2 : decode jdk_33_method_40_code 2 = .ok (.if_icmp .ge 7, 3) := by decide +kernel
theorem d5_5 : decode jdk_33_method_40_code 5 = .ok (.iconst (-1), 1) := by decide +kernel
theorem d5_6 : decode jdk_33_method_40_code 6 = .ok (.goto 13, 3) := by decide +kernel
theorem d5_19 : decode jdk_33_method_40_code 19 = .ok (.ireturn, 1) := by decide +kernel
theorem ef_5_4 (m : MethodId) (q1 : Int32) (q2 : Int32) : entryFrame m #[(.int q1), (.int q2)] 2 = mkF m 0 #[.val (.int q1), .val (.int q2)] [] := by first | (simp [entryFrame, mkF, argsToLocals, Value.category]; done) | rfl
theorem pnc_3 : plainName "java/lang/Integer" = true := by first | (simp [plainName, overriddenIn]; done) | decide +kernel
def Q5_4 (Z : State) (w : Nat → Addr) (q1 : Int32) (q2 : Int32) (h0 : Heap) (n0 : Nat) (v : Option Value) (h : Heap) (L : List Loc) : Prop := v = some (.int (-1 : Int32)) ∧ Fr n0 L ∧ h = h0
set_option maxRecDepth 65536 in
set_option maxHeartbeats 40000000 in
theorem rm5_4 (l : Launch) (Z : State) (a0 : Array Value) (hw : ∀ d ∈ tables_1, d.before a0 Z = true) (w : Nat → Addr) (hW : Wd Z w) (ws : List Jvm.Cond) (q1 : Int32) (q2 : Int32) (h0 : Heap) (n0 : Nat) (O0 : Old Z n0 h0) (c1 : q1 < q2) :
    MetFree l ym4 (head1 (Jvm.Cond.code ym4 jdk_33_method_40_code 2 (some .int) :: ws) ({ frames := 0, cells := 0, slots := 0, locals := 0 } : Room)) (fun a U => a = #[(.int q1), (.int q2)] ∧ Z.Warmed39 U.vm ∧ U.heap = h0) (fun _ _ _ _ _ => True) (fun _ U o U' => ∃ v L, o = .returned v ∧ Q5_4 Z w q1 q2 h0 n0 v U'.heap L ∧ FrameEnd U o U' L ({ frames := 0, cells := 0, slots := 0, locals := 0 } : Room).cells ({ frames := 0, cells := 0, slots := 0, locals := 0 } : Room).slots) := by
  refine MetFree.of_bodySF (plainFor_of_name pnc_3) hisR ?_
  intro p e s m args below meth c s₁ Bd hml0 hP hK
  obtain ⟨rfl, hZ, hh⟩ := hP
  have hx := Bd.exec
  have hby := Bd.bytes
  have hml : c.maxLocals = 2 := hml0
  have hown : s.vm.findClass "java/lang/Integer" = some m.cls := findClass_of_methodNamed Bd.named
  have hnm := (name_of_methodNamed Bd.named Bd.method).1
  have X0 : Stand p l e ({ frames := 0, cells := 0, slots := 0, locals := 0 } : Room) s m #[(.int q1), (.int q2)] below meth c s₁ [] 0 0 := Stand.of_body Bd
  have e0 : s₁.heap = h0 := by rw [← hh, Bd.state]; rfl
  have N0 := Fr.nil n0
  skip
  have pre0 : ∀ t, Steps p.tables e below (s₁.setTop (mkF m 0 #[.val (.int q1), .val (.int q2)] [])) t → Steps p.tables e below (s₁.setTop (entryFrame m #[(.int q1), (.int q2)] 2)) t := fun t k => castTop (ef_5_4 m q1 q2) k
  obtain ⟨fs, hr, hrun, hended, hWm, hsame⟩ := X0.leave (v := some (.int (-1 : Int32))) (fun h => by rw [Bd.returns] at h; cases h)
  refine ⟨_, _, pre0 _ ?_, hrun, hended, _, _, rfl, ?_, ⟨_, rfl⟩, hWm, hsame.mono (by decide) (by decide)⟩
  · show Steps p.tables e below (s₁.setTop (mkF m 0 #[.val (.int q1), .val (.int q2)] [])) _
    refine sI X0 hx hby d5_0 rfl ?_
    refine sI X0 hx hby d5_1 rfl ?_
    refine sn X0 hx hby d5_2 (tlt (c1 : q1 < q2)).2.1 ?_
    refine sc X0 hx hby d5_5 ?_
    refine sg (pc := 6) (pc' := 19) X0 hx hby d5_6 (by decide) (by decide) ?_
    show Steps p.tables e below (s₁.setTop (mkF m 19 #[.val (.int q1), .val (.int q2)] [(.int (-1 : Int32))])) _
    exact retI X0 hx Bd.returns (hb hby d5_19) hr
  · show Q5_4 Z w q1 q2 h0 n0 _ s₁.heap _
    rw [e0]
    exact ⟨rfl, N0, rfl⟩
theorem pds_3 : parseMethodDescriptor "(II)I" = some ⟨[.int, .int], some .int⟩ := by decide +kernel
theorem d4_5 : decode prog_75_method_7_code 5 = .ok (.istore_n 3, 1) := by decide +kernel
theorem d4_6 : decode prog_75_method_7_code 6 = .ok (.aload_n 0, 1) := by decide +kernel
theorem d4_7 : decode prog_75_method_7_code 7 = .ok (.invokevirtual 45, 3) := by decide +kernel
theorem ef_3_5 (m : MethodId) (w : Nat → Addr) : entryFrame m #[(.ref (w 1))] 1 = mkF m 0 #[.val (.ref (w 1))] [] := by first | (simp [entryFrame, mkF, argsToLocals, Value.category]; done) | rfl
def Q3_5 (Z : State) (w : Nat → Addr) (h0 : Heap) (n0 : Nat) (v : Option Value) (h : Heap) (L : List Loc) : Prop := v = some (.int (1 : Int32)) ∧ Fr n0 L ∧ h = h0
set_option maxRecDepth 65536 in
set_option maxHeartbeats 40000000 in
theorem rm3_5 (l : Launch) (Z : State) (a0 : Array Value) (hw : ∀ d ∈ tables_1, d.before a0 Z = true) (w : Nat → Addr) (hW : Wd Z w) (ws : List Jvm.Cond) (h0 : Heap) (n0 : Nat) (O0 : Old Z n0 h0) :
    MetFree l ym1 (head1 (Jvm.Cond.code ym1 jdk_37_method_2_code 1 (some .int) :: ws) ({ frames := 0, cells := 0, slots := 0, locals := 0 } : Room)) (fun a U => a = #[(.ref (w 1))] ∧ Z.Warmed39 U.vm ∧ U.heap = h0) (fun _ _ _ _ _ => True) (fun _ U o U' => ∃ v L, o = .returned v ∧ Q3_5 Z w h0 n0 v U'.heap L ∧ FrameEnd U o U' L ({ frames := 0, cells := 0, slots := 0, locals := 0 } : Room).cells ({ frames := 0, cells := 0, slots := 0, locals := 0 } : Room).slots) := by
  refine MetFree.of_bodySF (plainFor_of_name pnc_1) hisR ?_
  intro p e s m args below meth c s₁ Bd hml0 hP hK
  obtain ⟨rfl, hZ, hh⟩ := hP
  have hx := Bd.exec
  have hby := Bd.bytes
  have hml : c.maxLocals = 1 := hml0
  have hown : s.vm.findClass "java/lang/Enum" = some m.cls := findClass_of_methodNamed Bd.named
  have hnm := (name_of_methodNamed Bd.named Bd.method).1
  have X0 : Stand p l e ({ frames := 0, cells := 0, slots := 0, locals := 0 } : Room) s m #[(.ref (w 1))] below meth c s₁ [] 0 0 := Stand.of_body Bd
  have e0 : s₁.heap = h0 := by rw [← hh, Bd.state]; rfl
  have N0 := Fr.nil n0
  skip
  have pre0 : ∀ t, Steps p.tables e below (s₁.setTop (mkF m 0 #[.val (.ref (w 1))] [])) t → Steps p.tables e below (s₁.setTop (entryFrame m #[(.ref (w 1))] 1)) t := fun t k => castTop (ef_3_5 m w) k
  obtain ⟨T1, X1, e1, st1⟩ := getF X0 hx hZ hown (host := "") (Or.inl (wk20 hw)) Via.refl e0 ((wd13 hW).ext O0.2) (g := (mkF m 1 #[.val (.ref (w 1))] [(.ref (w 1))])) rfl rfl (hb hby d3_1)
  obtain ⟨fs, hr, hrun, hended, hWm, hsame⟩ := X1.leave (v := some (.int (1 : Int32))) (fun h => by rw [Bd.returns] at h; cases h)
  refine ⟨_, _, pre0 _ ?_, hrun, hended, _, _, rfl, ?_, ⟨_, rfl⟩, hWm, hsame.mono (by decide) (by decide)⟩
  · show Steps p.tables e below (s₁.setTop (mkF m 0 #[.val (.ref (w 1))] [])) _
    refine sA X0 hx hby d3_0 rfl rfl ?_
    refine st1 _ ?_
    exact retI X1 hx Bd.returns (hb hby d3_4) hr
  · show Q3_5 Z w h0 n0 _ T1.heap _
    rw [e1]
    exact ⟨rfl, N0, rfl⟩
theorem d4_10 : decode prog_75_method_7_code 10 = .ok (.tableswitch 38 0 5 #[48, 60, 72, 84, 96, 108], 38) := by decide +kernel
theorem d4_70 : decode prog_75_method_7_code 70 = .ok (.iload_n 3, 1) := by decide +kernel
theorem d4_71 : decode prog_75_method_7_code 71 = .ok (.ifCond .eq 7, 3) := by decide +kernel
theorem d4_74 : decode prog_75_method_7_code 74 = .ok (.iconst 1, 1) := by decide +kernel
theorem d4_75 : decode prog_75_method_7_code 75 = .ok (.goto 52, 3) := by decide +kernel
theorem d4_127 : decode prog_75_method_7_code 127 = .ok (.ireturn, 1) := by decide +kernel
theorem ef_4_6 (m : MethodId) (w : Nat → Addr) (q1 : Int32) (q2 : Int32) : entryFrame m #[(.ref (w 1)), (.int q1), (.int q2)] 4 = mkF m 0 #[.val (.ref (w 1)), .val (.int q1), .val (.int q2), .unset] [] := by first | (simp [entryFrame, mkF, argsToLocals, Value.category]; done) | rfl
def Q4_6 (Z : State) (w : Nat → Addr) (q1 : Int32) (q2 : Int32) (h0 : Heap) (n0 : Nat) (v : Option Value) (h : Heap) (L : List Loc) : Prop := v = some (.int (1 : Int32)) ∧ Fr n0 L ∧ h = h0
set_option maxRecDepth 65536 in
set_option maxHeartbeats 40000000 in
theorem rm4_6 (l : Launch) (Z : State) (a0 : Array Value) (hw : ∀ d ∈ tables_1, d.before a0 Z = true) (w : Nat → Addr) (hW : Wd Z w) (ws : List Jvm.Cond) (q1 : Int32) (q2 : Int32) (h0 : Heap) (n0 : Nat) (O0 : Old Z n0 h0) (c1 : q1 < q2) :
    MetFree l ym5 (head1 (Jvm.Cond.code ym5 prog_75_method_7_code 4 (some .boolean) :: ws) ({ frames := 1, cells := 0, slots := 0, locals := 13 } : Room)) (fun a U => a = #[(.ref (w 1)), (.int q1), (.int q2)] ∧ Z.Warmed39 U.vm ∧ U.heap = h0) (fun _ _ _ _ _ => True) (fun _ U o U' => ∃ v L, o = .returned v ∧ Q4_6 Z w q1 q2 h0 n0 v U'.heap L ∧ FrameEnd U o U' L ({ frames := 1, cells := 0, slots := 0, locals := 13 } : Room).cells ({ frames := 1, cells := 0, slots := 0, locals := 13 } : Room).slots) := by
  refine MetFree.of_bodySF (plainFor_of_name pnc_2) hisR ?_
  intro p e s m args below meth c s₁ Bd hml0 hP hK
  obtain ⟨rfl, hZ, hh⟩ := hP
  have hx := Bd.exec
  have hby := Bd.bytes
  have hml : c.maxLocals = 4 := hml0
  have hown : s.vm.findClass "com/example/gofyn/gofyn/typed/Term$Operator" = some m.cls := findClass_of_methodNamed Bd.named
  have hnm := (name_of_methodNamed Bd.named Bd.method).1
  have X0 : Stand p l e ({ frames := 1, cells := 0, slots := 0, locals := 13 } : Room) s m #[(.ref (w 1)), (.int q1), (.int q2)] below meth c s₁ [] 0 0 := Stand.of_body Bd
  have e0 : s₁.heap = h0 := by rw [← hh, Bd.state]; rfl
  have N0 := Fr.nil n0
  let La : Array Slot := #[.val (.ref (w 1)), .val (.int q1), .val (.int q2), .unset]
  have pre0 : ∀ t, Steps p.tables e below (s₁.setTop (mkF m 0 #[.val (.ref (w 1)), .val (.int q1), .val (.int q2), .unset] [])) t → Steps p.tables e below (s₁.setTop (entryFrame m #[(.ref (w 1)), (.int q1), (.int q2)] 4)) t := fun t k => castTop (ef_4_6 m w q1 q2) k
  obtain ⟨_, _, ⟨T1, L1, kk1, nn1⟩, -, X1, ⟨Lc1, hQ1, l1, y1, z1⟩, st1⟩ := Jvm.LawKit.callS X0 hx (y := ym4) hown (mvT hZ (wk29 hw)) (mvT hZ (wk30 hw)) (mvT hZ (wk31 hw)) (mvT hZ (wk32 hw)) (by decide) (backOf (W := 0) (rm5_4 l Z a0 hw w hW [] q1 q2 h0 n0 O0 c1) hZ (wk32 hw) (wk31 hw) (by decide) (by decide)) (g := (mkF m 2 La [(.int q2), (.int q1)])) rfl (by rw [hml]; rfl) (argsL := [(.int q1), (.int q2)]) (rest := []) (lenOf pds_3 rfl) rfl (by show 2 * 0 + _ ≤ _; exact Nat.le_of_eq rfl) (hb hby d4_2) (fun _ _ => ⟨rfl, e0, (by decide : 0 + 0 ≤ _), (by decide : 0 + 0 ≤ _)⟩)
  dsimp only [Pt.U, Pt.locs, Pt.cells, Pt.slots] at X1 l1 y1 z1 st1 hQ1
  subst l1 y1 z1
  obtain ⟨rfl, N1q, e1⟩ := hQ1
  have N1 := Fr.app N0 N1q
  let Lb2 : Array Slot := #[.val (.ref (w 1)), .val (.int q1), .val (.int q2), .val (.int (-1 : Int32))]
  obtain ⟨cq3, kq3, q3a, q3b, q3c⟩ := isOf hZ e1 ((wd3 hW).ext O0.2)
  obtain ⟨_, _, ⟨T3, L3, kk3, nn3⟩, -, X3, ⟨Lc3, hQ3, l3, y3, z3⟩, st3⟩ := X1.virtualBackUp hx (x := ym2) (y := ym1) hown (mvT hZ (wk13 hw)) (mvT hZ (wk14 hw)) (mvT hZ (wk15 hw)) (by decide) (mvT hZ (wk17 hw)) (mvT hZ (wk16 hw)) (backOf (W := 0) (rm3_5 l Z a0 hw w hW []  h0 n0 O0 ) hZ (wk19 hw) (wk18 hw) (by decide) (by decide)) q3a q3c (g := (mkF m 7 Lb2 [(.ref (w 1))])) rfl (by rw [hml]; rfl) (Steps.refl _) (argsL := []) (rest := []) (lenOf pds_1 rfl) rfl (by show 2 * 0 + _ ≤ _; exact Nat.le_of_eq rfl) (hb hby d4_7) (fun _ _ => ⟨rfl, e1, (by decide : 0 + 0 ≤ _), (by decide : 0 + 0 ≤ _)⟩)
  dsimp only [Pt.U, Pt.locs, Pt.cells, Pt.slots] at X3 l3 y3 z3 st3 hQ3
  subst l3 y3 z3
  obtain ⟨rfl, N3q, e3⟩ := hQ3
  have N3 := Fr.app N1 N3q
  obtain ⟨fs, hr, hrun, hended, hWm, hsame⟩ := X3.leave (v := some (.int (1 : Int32))) (fun h => by rw [Bd.returns] at h; cases h)
  refine ⟨_, _, pre0 _ ?_, hrun, hended, _, _, rfl, ?_, ⟨_, rfl⟩, hWm, hsame.mono (by decide) (by decide)⟩
  · show Steps p.tables e below (s₁.setTop (mkF m 0 La [])) _
    refine sI X0 hx hby d4_0 rfl ?_
    refine sI X0 hx hby d4_1 rfl ?_
    refine st1 _ ?_
    refine XS.istoreN X1.here hx rfl (hb hby d4_5) rfl (l' := Lb2) rfl ?_
    refine sA X1 hx hby d4_6 rfl rfl ?_
    refine st3.trans ?_
    refine XS.tswIn X3.here hx rfl (pc0 := 10) (pc' := 70) (o := 60) rfl (hb hby d4_10) rfl (by decide) (by decide) (by decide) (by decide) ?_
    refine sI X3 hx hby d4_70 rfl ?_
    refine sN X3 hx hby d4_71 (by decide) ?_
    refine sc X3 hx hby d4_74 ?_
    refine sg (pc := 75) (pc' := 127) X3 hx hby d4_75 (by decide) (by decide) ?_
    show Steps p.tables e below (T3.setTop (mkF m 127 Lb2 [(.int (1 : Int32))])) _
    exact retN X3 hx (t := .boolean) Bd.returns (by simp) (hb hby d4_127) hr
  · show Q4_6 Z w q1 q2 h0 n0 _ T3.heap _
    rw [e3]
    exact ⟨rfl, N3, rfl⟩
theorem pds_4 : parseMethodDescriptor "(II)Z" = some ⟨[.int, .int], some .boolean⟩ := by decide +kernel
theorem d4_58 : decode prog_75_method_7_code 58 = .ok (.iload_n 3, 1) := by decide +kernel
theorem d4_59 : decode prog_75_method_7_code 59 = .ok (.ifCond .ne 7, 3) := by decide +kernel
theorem d4_66 : decode prog_75_method_7_code 66 = .ok (.iconst 0, 1) := by decide +kernel
theorem d4_67 : decode prog_75_method_7_code 67 = .ok (.goto 60, 3) := by decide +kernel
theorem ef_4_7 (m : MethodId) (w : Nat → Addr) (q1 : Int32) (q2 : Int32) : entryFrame m #[(.ref (w 0)), (.int q1), (.int q2)] 4 = mkF m 0 #[.val (.ref (w 0)), .val (.int q1), .val (.int q2), .unset] [] := by first | (simp [entryFrame, mkF, argsToLocals, Value.category]; done) | rfl
def Q4_7 (Z : State) (w : Nat → Addr) (q1 : Int32) (q2 : Int32) (h0 : Heap) (n0 : Nat) (v : Option Value) (h : Heap) (L : List Loc) : Prop := v = some (.int (0 : Int32)) ∧ Fr n0 L ∧ h = h0
set_option maxRecDepth 65536 in
set_option maxHeartbeats 40000000 in
theorem rm4_7 (l : Launch) (Z : State) (a0 : Array Value) (hw : ∀ d ∈ tables_1, d.before a0 Z = true) (w : Nat → Addr) (hW : Wd Z w) (ws : List Jvm.Cond) (q1 : Int32) (q2 : Int32) (h0 : Heap) (n0 : Nat) (O0 : Old Z n0 h0) (c1 : q1 < q2) :
    MetFree l ym5 (head1 (Jvm.Cond.code ym5 prog_75_method_7_code 4 (some .boolean) :: ws) ({ frames := 1, cells := 0, slots := 0, locals := 13 } : Room)) (fun a U => a = #[(.ref (w 0)), (.int q1), (.int q2)] ∧ Z.Warmed39 U.vm ∧ U.heap = h0) (fun _ _ _ _ _ => True) (fun _ U o U' => ∃ v L, o = .returned v ∧ Q4_7 Z w q1 q2 h0 n0 v U'.heap L ∧ FrameEnd U o U' L ({ frames := 1, cells := 0, slots := 0, locals := 13 } : Room).cells ({ frames := 1, cells := 0, slots := 0, locals := 13 } : Room).slots) := by
  refine MetFree.of_bodySF (plainFor_of_name pnc_2) hisR ?_
  intro p e s m args below meth c s₁ Bd hml0 hP hK
  obtain ⟨rfl, hZ, hh⟩ := hP
  have hx := Bd.exec
  have hby := Bd.bytes
  have hml : c.maxLocals = 4 := hml0
  have hown : s.vm.findClass "com/example/gofyn/gofyn/typed/Term$Operator" = some m.cls := findClass_of_methodNamed Bd.named
  have hnm := (name_of_methodNamed Bd.named Bd.method).1
  have X0 : Stand p l e ({ frames := 1, cells := 0, slots := 0, locals := 13 } : Room) s m #[(.ref (w 0)), (.int q1), (.int q2)] below meth c s₁ [] 0 0 := Stand.of_body Bd
  have e0 : s₁.heap = h0 := by rw [← hh, Bd.state]; rfl
  have N0 := Fr.nil n0
  let La : Array Slot := #[.val (.ref (w 0)), .val (.int q1), .val (.int q2), .unset]
  have pre0 : ∀ t, Steps p.tables e below (s₁.setTop (mkF m 0 #[.val (.ref (w 0)), .val (.int q1), .val (.int q2), .unset] [])) t → Steps p.tables e below (s₁.setTop (entryFrame m #[(.ref (w 0)), (.int q1), (.int q2)] 4)) t := fun t k => castTop (ef_4_7 m w q1 q2) k
  obtain ⟨_, _, ⟨T1, L1, kk1, nn1⟩, -, X1, ⟨Lc1, hQ1, l1, y1, z1⟩, st1⟩ := Jvm.LawKit.callS X0 hx (y := ym4) hown (mvT hZ (wk29 hw)) (mvT hZ (wk30 hw)) (mvT hZ (wk31 hw)) (mvT hZ (wk32 hw)) (by decide) (backOf (W := 0) (rm5_4 l Z a0 hw w hW [] q1 q2 h0 n0 O0 c1) hZ (wk32 hw) (wk31 hw) (by decide) (by decide)) (g := (mkF m 2 La [(.int q2), (.int q1)])) rfl (by rw [hml]; rfl) (argsL := [(.int q1), (.int q2)]) (rest := []) (lenOf pds_3 rfl) rfl (by show 2 * 0 + _ ≤ _; exact Nat.le_of_eq rfl) (hb hby d4_2) (fun _ _ => ⟨rfl, e0, (by decide : 0 + 0 ≤ _), (by decide : 0 + 0 ≤ _)⟩)
  dsimp only [Pt.U, Pt.locs, Pt.cells, Pt.slots] at X1 l1 y1 z1 st1 hQ1
  subst l1 y1 z1
  obtain ⟨rfl, N1q, e1⟩ := hQ1
  have N1 := Fr.app N0 N1q
  let Lb2 : Array Slot := #[.val (.ref (w 0)), .val (.int q1), .val (.int q2), .val (.int (-1 : Int32))]
  obtain ⟨cq3, kq3, q3a, q3b, q3c⟩ := isOf hZ e1 ((wd1 hW).ext O0.2)
  obtain ⟨_, _, ⟨T3, L3, kk3, nn3⟩, -, X3, ⟨Lc3, hQ3, l3, y3, z3⟩, st3⟩ := X1.virtualBackUp hx (x := ym2) (y := ym1) hown (mvT hZ (wk13 hw)) (mvT hZ (wk14 hw)) (mvT hZ (wk15 hw)) (by decide) (mvT hZ (wk17 hw)) (mvT hZ (wk16 hw)) (backOf (W := 0) (rm3_2 l Z a0 hw w hW []  h0 n0 O0 ) hZ (wk19 hw) (wk18 hw) (by decide) (by decide)) q3a q3c (g := (mkF m 7 Lb2 [(.ref (w 0))])) rfl (by rw [hml]; rfl) (Steps.refl _) (argsL := []) (rest := []) (lenOf pds_1 rfl) rfl (by show 2 * 0 + _ ≤ _; exact Nat.le_of_eq rfl) (hb hby d4_7) (fun _ _ => ⟨rfl, e1, (by decide : 0 + 0 ≤ _), (by decide : 0 + 0 ≤ _)⟩)
  dsimp only [Pt.U, Pt.locs, Pt.cells, Pt.slots] at X3 l3 y3 z3 st3 hQ3
  subst l3 y3 z3
  obtain ⟨rfl, N3q, e3⟩ := hQ3
  have N3 := Fr.app N1 N3q
  obtain ⟨fs, hr, hrun, hended, hWm, hsame⟩ := X3.leave (v := some (.int (0 : Int32))) (fun h => by rw [Bd.returns] at h; cases h)
  refine ⟨_, _, pre0 _ ?_, hrun, hended, _, _, rfl, ?_, ⟨_, rfl⟩, hWm, hsame.mono (by decide) (by decide)⟩
  · show Steps p.tables e below (s₁.setTop (mkF m 0 La [])) _
    refine sI X0 hx hby d4_0 rfl ?_
    refine sI X0 hx hby d4_1 rfl ?_
    refine st1 _ ?_
    refine XS.istoreN X1.here hx rfl (hb hby d4_5) rfl (l' := Lb2) rfl ?_
    refine sA X1 hx hby d4_6 rfl rfl ?_
    refine st3.trans ?_
    refine XS.tswIn X3.here hx rfl (pc0 := 10) (pc' := 58) (o := 48) rfl (hb hby d4_10) rfl (by decide) (by decide) (by decide) (by decide) ?_
    refine sI X3 hx hby d4_58 rfl ?_
    refine XS.ifYes X3.here hx rfl (pc0 := 59) (pc' := 66) rfl (hb hby d4_59) rfl (by decide) (by decide) (by decide) ?_
    refine sc X3 hx hby d4_66 ?_
    refine sg (pc := 67) (pc' := 127) X3 hx hby d4_67 (by decide) (by decide) ?_
    show Steps p.tables e below (T3.setTop (mkF m 127 Lb2 [(.int (0 : Int32))])) _
    exact retN X3 hx (t := .boolean) Bd.returns (by simp) (hb hby d4_127) hr
  · show Q4_7 Z w q1 q2 h0 n0 _ T3.heap _
    rw [e3]
    exact ⟨rfl, N3, rfl⟩
theorem d2_60 : decode prog_75_method_5_code 60 = .ok (.getstatic 3, 3) := by decide +kernel
theorem d2_63 : decode prog_75_method_5_code 63 = .ok (.goto 24, 3) := by decide +kernel
theorem ef_2_8 (m : MethodId) (w : Nat → Addr) : entryFrame m #[(.ref (w 1))] 1 = mkF m 0 #[.val (.ref (w 1))] [] := by first | (simp [entryFrame, mkF, argsToLocals, Value.category]; done) | rfl
def Q2_8 (Z : State) (w : Nat → Addr) (h0 : Heap) (n0 : Nat) (v : Option Value) (h : Heap) (L : List Loc) : Prop := v = some (.ref (w 0)) ∧ Fr n0 L ∧ h = h0
set_option maxRecDepth 65536 in
set_option maxHeartbeats 40000000 in
theorem rm2_8 (l : Launch) (Z : State) (a0 : Array Value) (hw : ∀ d ∈ tables_1, d.before a0 Z = true) (w : Nat → Addr) (hW : Wd Z w) (ws : List Jvm.Cond) (h0 : Heap) (n0 : Nat) (O0 : Old Z n0 h0) :
    MetFree l ym3 (head1 (Jvm.Cond.code ym3 prog_75_method_5_code 1 (some (.object "com/example/gofyn/gofyn/typed/Term$Operator")) :: ws) ({ frames := 1, cells := 0, slots := 0, locals := 12 } : Room)) (fun a U => a = #[(.ref (w 1))] ∧ Z.Warmed39 U.vm ∧ U.heap = h0) (fun _ _ _ _ _ => True) (fun _ U o U' => ∃ v L, o = .returned v ∧ Q2_8 Z w h0 n0 v U'.heap L ∧ FrameEnd U o U' L ({ frames := 1, cells := 0, slots := 0, locals := 12 } : Room).cells ({ frames := 1, cells := 0, slots := 0, locals := 12 } : Room).slots) := by
  refine MetFree.of_bodySF (plainFor_of_name pnc_2) hisR ?_
  intro p e s m args below meth c s₁ Bd hml0 hP hK
  obtain ⟨rfl, hZ, hh⟩ := hP
  have hx := Bd.exec
  have hby := Bd.bytes
  have hml : c.maxLocals = 1 := hml0
  have hown : s.vm.findClass "com/example/gofyn/gofyn/typed/Term$Operator" = some m.cls := findClass_of_methodNamed Bd.named
  have hnm := (name_of_methodNamed Bd.named Bd.method).1
  have X0 : Stand p l e ({ frames := 1, cells := 0, slots := 0, locals := 12 } : Room) s m #[(.ref (w 1))] below meth c s₁ [] 0 0 := Stand.of_body Bd
  have e0 : s₁.heap = h0 := by rw [← hh, Bd.state]; rfl
  have N0 := Fr.nil n0
  skip
  have pre0 : ∀ t, Steps p.tables e below (s₁.setTop (mkF m 0 #[.val (.ref (w 1))] [])) t → Steps p.tables e below (s₁.setTop (entryFrame m #[(.ref (w 1))] 1)) t := fun t k => castTop (ef_2_8 m w) k
  obtain ⟨cq1, kq1, q1a, q1b, q1c⟩ := isOf hZ e0 ((wd3 hW).ext O0.2)
  obtain ⟨_, _, ⟨T1, L1, kk1, nn1⟩, -, X1, ⟨Lc1, hQ1, l1, y1, z1⟩, st1⟩ := X0.virtualBackUp hx (x := ym2) (y := ym1) hown (mvT hZ (wk13 hw)) (mvT hZ (wk14 hw)) (mvT hZ (wk15 hw)) (by decide) (mvT hZ (wk17 hw)) (mvT hZ (wk16 hw)) (backOf (W := 0) (rm3_5 l Z a0 hw w hW []  h0 n0 O0 ) hZ (wk19 hw) (wk18 hw) (by decide) (by decide)) q1a q1c (g := (mkF m 1 #[.val (.ref (w 1))] [(.ref (w 1))])) rfl (by rw [hml]; rfl) (Steps.refl _) (argsL := []) (rest := []) (lenOf pds_1 rfl) rfl (by show 2 * 0 + _ ≤ _; exact Nat.le_of_eq rfl) (hb hby d2_1) (fun _ _ => ⟨rfl, e0, (by decide : 0 + 0 ≤ _), (by decide : 0 + 0 ≤ _)⟩)
  dsimp only [Pt.U, Pt.locs, Pt.cells, Pt.slots] at X1 l1 y1 z1 st1 hQ1
  subst l1 y1 z1
  obtain ⟨rfl, N1q, e1⟩ := hQ1
  have N1 := Fr.app N0 N1q
  obtain ⟨T2, X2, e2, st2⟩ := getS2 X1 hx hZ hown (host := "") (Or.inl (wk33 hw)) Via.refl e1 ((wd0 hW).ext O0.2) (g := (mkF m 60 #[.val (.ref (w 1))] [])) rfl (hb hby d2_60)
  obtain ⟨fs, hr, hrun, hended, hWm, hsame⟩ := X2.leave (v := some (.ref (w 0))) (fun h => by rw [Bd.returns] at h; cases h)
  refine ⟨_, _, pre0 _ ?_, hrun, hended, _, _, rfl, ?_, ⟨_, rfl⟩, hWm, hsame.mono (by decide) (by decide)⟩
  · show Steps p.tables e below (s₁.setTop (mkF m 0 #[.val (.ref (w 1))] [])) _
    refine sA X0 hx hby d2_0 rfl rfl ?_
    refine st1.trans ?_
    refine XS.tswIn X1.here hx rfl (pc0 := 4) (pc' := 60) (o := 56) rfl (hb hby d2_4) rfl (by decide) (by decide) (by decide) (by decide) ?_
    refine st2 _ ?_
    refine sg (pc := 63) (pc' := 87) X2 hx hby d2_63 (by decide) (by decide) ?_
    jvm_step X2.here [X2.here.top, hx, (hb hby d2_87), X2.method', Bd.returns, Value.isRef, FieldType.isReference]
    first | (intro acts; rw [hr _ acts rfl rfl rfl]) | rw [hr _ _ rfl rfl rfl]
    exact Steps.refl _
  · show Q2_8 Z w h0 n0 _ T2.heap _
    rw [e2]
    exact ⟨rfl, N1, rfl⟩
theorem d5_9 : decode jdk_33_method_40_code 9 = .ok (.iload_n 0, 1) := by decide +kernel
theorem d5_10 : decode jdk_33_method_40_code 10 = .ok (.iload_n 1, 1) := by decide +kernel
theorem d5_11 : decode jdk_33_method_40_code 11 = .ok (.if_icmp .ne 7, 3) := by decide +kernel
theorem d5_14 : decode jdk_33_method_40_code 14 = .ok (.iconst 0, 1) := by decide +kernel
theorem d5_15 : decode jdk_33_method_40_code 15 = .ok (.goto 4, 3) := by decide +kernel
theorem ef_5_9 (m : MethodId) (q1 : Int32) (q2 : Int32) : entryFrame m #[(.int q1), (.int q2)] 2 = mkF m 0 #[.val (.int q1), .val (.int q2)] [] := by first | (simp [entryFrame, mkF, argsToLocals, Value.category]; done) | rfl
def Q5_9 (Z : State) (w : Nat → Addr) (q1 : Int32) (q2 : Int32) (h0 : Heap) (n0 : Nat) (v : Option Value) (h : Heap) (L : List Loc) : Prop := v = some (.int (0 : Int32)) ∧ Fr n0 L ∧ h = h0
set_option maxRecDepth 65536 in
set_option maxHeartbeats 40000000 in
theorem rm5_9 (l : Launch) (Z : State) (a0 : Array Value) (hw : ∀ d ∈ tables_1, d.before a0 Z = true) (w : Nat → Addr) (hW : Wd Z w) (ws : List Jvm.Cond) (q1 : Int32) (q2 : Int32) (h0 : Heap) (n0 : Nat) (O0 : Old Z n0 h0) (c1 : ¬ (q1 < q2)) (c2 : q1 = q2) :
    MetFree l ym4 (head1 (Jvm.Cond.code ym4 jdk_33_method_40_code 2 (some .int) :: ws) ({ frames := 0, cells := 0, slots := 0, locals := 0 } : Room)) (fun a U => a = #[(.int q1), (.int q2)] ∧ Z.Warmed39 U.vm ∧ U.heap = h0) (fun _ _ _ _ _ => True) (fun _ U o U' => ∃ v L, o = .returned v ∧ Q5_9 Z w q1 q2 h0 n0 v U'.heap L ∧ FrameEnd U o U' L ({ frames := 0, cells := 0, slots := 0, locals := 0 } : Room).cells ({ frames := 0, cells := 0, slots := 0, locals := 0 } : Room).slots) := by
  refine MetFree.of_bodySF (plainFor_of_name pnc_3) hisR ?_
  intro p e s m args below meth c s₁ Bd hml0 hP hK
  obtain ⟨rfl, hZ, hh⟩ := hP
  have hx := Bd.exec
  have hby := Bd.bytes
  have hml : c.maxLocals = 2 := hml0
  have hown : s.vm.findClass "java/lang/Integer" = some m.cls := findClass_of_methodNamed Bd.named
  have hnm := (name_of_methodNamed Bd.named Bd.method).1
  have X0 : Stand p l e ({ frames := 0, cells := 0, slots := 0, locals := 0 } : Room) s m #[(.int q1), (.int q2)] below meth c s₁ [] 0 0 := Stand.of_body Bd
  have e0 : s₁.heap = h0 := by rw [← hh, Bd.state]; rfl
  have N0 := Fr.nil n0
  skip
  have pre0 : ∀ t, Steps p.tables e below (s₁.setTop (mkF m 0 #[.val (.int q1), .val (.int q2)] [])) t → Steps p.tables e below (s₁.setTop (entryFrame m #[(.int q1), (.int q2)] 2)) t := fun t k => castTop (ef_5_9 m q1 q2) k
  obtain ⟨fs, hr, hrun, hended, hWm, hsame⟩ := X0.leave (v := some (.int (0 : Int32))) (fun h => by rw [Bd.returns] at h; cases h)
  refine ⟨_, _, pre0 _ ?_, hrun, hended, _, _, rfl, ?_, ⟨_, rfl⟩, hWm, hsame.mono (by decide) (by decide)⟩
  · show Steps p.tables e below (s₁.setTop (mkF m 0 #[.val (.int q1), .val (.int q2)] [])) _
    refine sI X0 hx hby d5_0 rfl ?_
    refine sI X0 hx hby d5_1 rfl ?_
    refine XS.icmpYes X0.here hx rfl (pc0 := 2) (pc' := 9) rfl (hb hby d5_2) rfl (flt (c1 : ¬ (q1 < q2))).2.1 (by decide) (by decide) ?_
    refine sI X0 hx hby d5_9 rfl ?_
    refine sI X0 hx hby d5_10 rfl ?_
    show Steps p.tables e below (s₁.setTop (mkF m 11 #[.val (.int q1), .val (.int q2)] [(.int q2), (.int q1)])) _
    refine sn X0 hx hby d5_11 (teq (c2 : q1 = q2)).2 ?_
    refine sc X0 hx hby d5_14 ?_
    refine sg (pc := 15) (pc' := 19) X0 hx hby d5_15 (by decide) (by decide) ?_
    exact retI X0 hx Bd.returns (hb hby d5_19) hr
  · show Q5_9 Z w q1 q2 h0 n0 _ s₁.heap _
    rw [e0]
    exact ⟨rfl, N0, rfl⟩
theorem d4_78 : decode prog_75_method_7_code 78 = .ok (.iconst 0, 1) := by decide +kernel
theorem d4_79 : decode prog_75_method_7_code 79 = .ok (.goto 48, 3) := by decide +kernel
theorem ef_4_10 (m : MethodId) (w : Nat → Addr) (q1 : Int32) (q2 : Int32) : entryFrame m #[(.ref (w 1)), (.int q1), (.int q2)] 4 = mkF m 0 #[.val (.ref (w 1)), .val (.int q1), .val (.int q2), .unset] [] := by first | (simp [entryFrame, mkF, argsToLocals, Value.category]; done) | rfl
def Q4_10 (Z : State) (w : Nat → Addr) (q1 : Int32) (q2 : Int32) (h0 : Heap) (n0 : Nat) (v : Option Value) (h : Heap) (L : List Loc) : Prop := v = some (.int (0 : Int32)) ∧ Fr n0 L ∧ h = h0
set_option maxRecDepth 65536 in
set_option maxHeartbeats 40000000 in
theorem rm4_10 (l : Launch) (Z : State) (a0 : Array Value) (hw : ∀ d ∈ tables_1, d.before a0 Z = true) (w : Nat → Addr) (hW : Wd Z w) (ws : List Jvm.Cond) (q1 : Int32) (q2 : Int32) (h0 : Heap) (n0 : Nat) (O0 : Old Z n0 h0) (c1 : ¬ (q1 < q2)) (c2 : q1 = q2) :
    MetFree l ym5 (head1 (Jvm.Cond.code ym5 prog_75_method_7_code 4 (some .boolean) :: ws) ({ frames := 1, cells := 0, slots := 0, locals := 13 } : Room)) (fun a U => a = #[(.ref (w 1)), (.int q1), (.int q2)] ∧ Z.Warmed39 U.vm ∧ U.heap = h0) (fun _ _ _ _ _ => True) (fun _ U o U' => ∃ v L, o = .returned v ∧ Q4_10 Z w q1 q2 h0 n0 v U'.heap L ∧ FrameEnd U o U' L ({ frames := 1, cells := 0, slots := 0, locals := 13 } : Room).cells ({ frames := 1, cells := 0, slots := 0, locals := 13 } : Room).slots) := by
  refine MetFree.of_bodySF (plainFor_of_name pnc_2) hisR ?_
  intro p e s m args below meth c s₁ Bd hml0 hP hK
  obtain ⟨rfl, hZ, hh⟩ := hP
  have hx := Bd.exec
  have hby := Bd.bytes
  have hml : c.maxLocals = 4 := hml0
  have hown : s.vm.findClass "com/example/gofyn/gofyn/typed/Term$Operator" = some m.cls := findClass_of_methodNamed Bd.named
  have hnm := (name_of_methodNamed Bd.named Bd.method).1
  have X0 : Stand p l e ({ frames := 1, cells := 0, slots := 0, locals := 13 } : Room) s m #[(.ref (w 1)), (.int q1), (.int q2)] below meth c s₁ [] 0 0 := Stand.of_body Bd
  have e0 : s₁.heap = h0 := by rw [← hh, Bd.state]; rfl
  have N0 := Fr.nil n0
  let La : Array Slot := #[.val (.ref (w 1)), .val (.int q1), .val (.int q2), .unset]
  have pre0 : ∀ t, Steps p.tables e below (s₁.setTop (mkF m 0 #[.val (.ref (w 1)), .val (.int q1), .val (.int q2), .unset] [])) t → Steps p.tables e below (s₁.setTop (entryFrame m #[(.ref (w 1)), (.int q1), (.int q2)] 4)) t := fun t k => castTop (ef_4_10 m w q1 q2) k
  obtain ⟨_, _, ⟨T1, L1, kk1, nn1⟩, -, X1, ⟨Lc1, hQ1, l1, y1, z1⟩, st1⟩ := Jvm.LawKit.callS X0 hx (y := ym4) hown (mvT hZ (wk29 hw)) (mvT hZ (wk30 hw)) (mvT hZ (wk31 hw)) (mvT hZ (wk32 hw)) (by decide) (backOf (W := 0) (rm5_9 l Z a0 hw w hW [] q1 q2 h0 n0 O0 c1 c2) hZ (wk32 hw) (wk31 hw) (by decide) (by decide)) (g := (mkF m 2 La [(.int q2), (.int q1)])) rfl (by rw [hml]; rfl) (argsL := [(.int q1), (.int q2)]) (rest := []) (lenOf pds_3 rfl) rfl (by show 2 * 0 + _ ≤ _; exact Nat.le_of_eq rfl) (hb hby d4_2) (fun _ _ => ⟨rfl, e0, (by decide : 0 + 0 ≤ _), (by decide : 0 + 0 ≤ _)⟩)
  dsimp only [Pt.U, Pt.locs, Pt.cells, Pt.slots] at X1 l1 y1 z1 st1 hQ1
  subst l1 y1 z1
  obtain ⟨rfl, N1q, e1⟩ := hQ1
  have N1 := Fr.app N0 N1q
  let Lb2 : Array Slot := #[.val (.ref (w 1)), .val (.int q1), .val (.int q2), .val (.int (0 : Int32))]
  obtain ⟨cq3, kq3, q3a, q3b, q3c⟩ := isOf hZ e1 ((wd3 hW).ext O0.2)
  obtain ⟨_, _, ⟨T3, L3, kk3, nn3⟩, -, X3, ⟨Lc3, hQ3, l3, y3, z3⟩, st3⟩ := X1.virtualBackUp hx (x := ym2) (y := ym1) hown (mvT hZ (wk13 hw)) (mvT hZ (wk14 hw)) (mvT hZ (wk15 hw)) (by decide) (mvT hZ (wk17 hw)) (mvT hZ (wk16 hw)) (backOf (W := 0) (rm3_5 l Z a0 hw w hW []  h0 n0 O0 ) hZ (wk19 hw) (wk18 hw) (by decide) (by decide)) q3a q3c (g := (mkF m 7 Lb2 [(.ref (w 1))])) rfl (by rw [hml]; rfl) (Steps.refl _) (argsL := []) (rest := []) (lenOf pds_1 rfl) rfl (by show 2 * 0 + _ ≤ _; exact Nat.le_of_eq rfl) (hb hby d4_7) (fun _ _ => ⟨rfl, e1, (by decide : 0 + 0 ≤ _), (by decide : 0 + 0 ≤ _)⟩)
  dsimp only [Pt.U, Pt.locs, Pt.cells, Pt.slots] at X3 l3 y3 z3 st3 hQ3
  subst l3 y3 z3
  obtain ⟨rfl, N3q, e3⟩ := hQ3
  have N3 := Fr.app N1 N3q
  obtain ⟨fs, hr, hrun, hended, hWm, hsame⟩ := X3.leave (v := some (.int (0 : Int32))) (fun h => by rw [Bd.returns] at h; cases h)
  refine ⟨_, _, pre0 _ ?_, hrun, hended, _, _, rfl, ?_, ⟨_, rfl⟩, hWm, hsame.mono (by decide) (by decide)⟩
  · show Steps p.tables e below (s₁.setTop (mkF m 0 La [])) _
    refine sI X0 hx hby d4_0 rfl ?_
    refine sI X0 hx hby d4_1 rfl ?_
    refine st1 _ ?_
    refine XS.istoreN X1.here hx rfl (hb hby d4_5) rfl (l' := Lb2) rfl ?_
    refine sA X1 hx hby d4_6 rfl rfl ?_
    refine st3.trans ?_
    refine XS.tswIn X3.here hx rfl (pc0 := 10) (pc' := 70) (o := 60) rfl (hb hby d4_10) rfl (by decide) (by decide) (by decide) (by decide) ?_
    refine sI X3 hx hby d4_70 rfl ?_
    refine XS.ifYes X3.here hx rfl (pc0 := 71) (pc' := 78) rfl (hb hby d4_71) rfl (by decide) (by decide) (by decide) ?_
    refine sc X3 hx hby d4_78 ?_
    refine sg (pc := 79) (pc' := 127) X3 hx hby d4_79 (by decide) (by decide) ?_
    show Steps p.tables e below (T3.setTop (mkF m 127 Lb2 [(.int (0 : Int32))])) _
    exact retN X3 hx (t := .boolean) Bd.returns (by simp) (hb hby d4_127) hr
  · show Q4_10 Z w q1 q2 h0 n0 _ T3.heap _
    rw [e3]
    exact ⟨rfl, N3, rfl⟩
theorem d4_62 : decode prog_75_method_7_code 62 = .ok (.iconst 1, 1) := by decide +kernel
theorem d4_63 : decode prog_75_method_7_code 63 = .ok (.goto 64, 3) := by decide +kernel
theorem ef_4_11 (m : MethodId) (w : Nat → Addr) (q1 : Int32) (q2 : Int32) : entryFrame m #[(.ref (w 0)), (.int q1), (.int q2)] 4 = mkF m 0 #[.val (.ref (w 0)), .val (.int q1), .val (.int q2), .unset] [] := by first | (simp [entryFrame, mkF, argsToLocals, Value.category]; done) | rfl
def Q4_11 (Z : State) (w : Nat → Addr) (q1 : Int32) (q2 : Int32) (h0 : Heap) (n0 : Nat) (v : Option Value) (h : Heap) (L : List Loc) : Prop := v = some (.int (1 : Int32)) ∧ Fr n0 L ∧ h = h0
set_option maxRecDepth 65536 in
set_option maxHeartbeats 40000000 in
theorem rm4_11 (l : Launch) (Z : State) (a0 : Array Value) (hw : ∀ d ∈ tables_1, d.before a0 Z = true) (w : Nat → Addr) (hW : Wd Z w) (ws : List Jvm.Cond) (q1 : Int32) (q2 : Int32) (h0 : Heap) (n0 : Nat) (O0 : Old Z n0 h0) (c1 : ¬ (q1 < q2)) (c2 : q1 = q2) :
    MetFree l ym5 (head1 (Jvm.Cond.code ym5 prog_75_method_7_code 4 (some .boolean) :: ws) ({ frames := 1, cells := 0, slots := 0, locals := 13 } : Room)) (fun a U => a = #[(.ref (w 0)), (.int q1), (.int q2)] ∧ Z.Warmed39 U.vm ∧ U.heap = h0) (fun _ _ _ _ _ => True) (fun _ U o U' => ∃ v L, o = .returned v ∧ Q4_11 Z w q1 q2 h0 n0 v U'.heap L ∧ FrameEnd U o U' L ({ frames := 1, cells := 0, slots := 0, locals := 13 } : Room).cells ({ frames := 1, cells := 0, slots := 0, locals := 13 } : Room).slots) := by
  refine MetFree.of_bodySF (plainFor_of_name pnc_2) hisR ?_
  intro p e s m args below meth c s₁ Bd hml0 hP hK
  obtain ⟨rfl, hZ, hh⟩ := hP
  have hx := Bd.exec
  have hby := Bd.bytes
  have hml : c.maxLocals = 4 := hml0
  have hown : s.vm.findClass "com/example/gofyn/gofyn/typed/Term$Operator" = some m.cls := findClass_of_methodNamed Bd.named
  have hnm := (name_of_methodNamed Bd.named Bd.method).1
  have X0 : Stand p l e ({ frames := 1, cells := 0, slots := 0, locals := 13 } : Room) s m #[(.ref (w 0)), (.int q1), (.int q2)] below meth c s₁ [] 0 0 := Stand.of_body Bd
  have e0 : s₁.heap = h0 := by rw [← hh, Bd.state]; rfl
  have N0 := Fr.nil n0
  let La : Array Slot := #[.val (.ref (w 0)), .val (.int q1), .val (.int q2), .unset]
  have pre0 : ∀ t, Steps p.tables e below (s₁.setTop (mkF m 0 #[.val (.ref (w 0)), .val (.int q1), .val (.int q2), .unset] [])) t → Steps p.tables e below (s₁.setTop (entryFrame m #[(.ref (w 0)), (.int q1), (.int q2)] 4)) t := fun t k => castTop (ef_4_11 m w q1 q2) k
  obtain ⟨_, _, ⟨T1, L1, kk1, nn1⟩, -, X1, ⟨Lc1, hQ1, l1, y1, z1⟩, st1⟩ := Jvm.LawKit.callS X0 hx (y := ym4) hown (mvT hZ (wk29 hw)) (mvT hZ (wk30 hw)) (mvT hZ (wk31 hw)) (mvT hZ (wk32 hw)) (by decide) (backOf (W := 0) (rm5_9 l Z a0 hw w hW [] q1 q2 h0 n0 O0 c1 c2) hZ (wk32 hw) (wk31 hw) (by decide) (by decide)) (g := (mkF m 2 La [(.int q2), (.int q1)])) rfl (by rw [hml]; rfl) (argsL := [(.int q1), (.int q2)]) (rest := []) (lenOf pds_3 rfl) rfl (by show 2 * 0 + _ ≤ _; exact Nat.le_of_eq rfl) (hb hby d4_2) (fun _ _ => ⟨rfl, e0, (by decide : 0 + 0 ≤ _), (by decide : 0 + 0 ≤ _)⟩)
  dsimp only [Pt.U, Pt.locs, Pt.cells, Pt.slots] at X1 l1 y1 z1 st1 hQ1
  subst l1 y1 z1
  obtain ⟨rfl, N1q, e1⟩ := hQ1
  have N1 := Fr.app N0 N1q
  let Lb2 : Array Slot := #[.val (.ref (w 0)), .val (.int q1), .val (.int q2), .val (.int (0 : Int32))]
  obtain ⟨cq3, kq3, q3a, q3b, q3c⟩ := isOf hZ e1 ((wd1 hW).ext O0.2)
  obtain ⟨_, _, ⟨T3, L3, kk3, nn3⟩, -, X3, ⟨Lc3, hQ3, l3, y3, z3⟩, st3⟩ := X1.virtualBackUp hx (x := ym2) (y := ym1) hown (mvT hZ (wk13 hw)) (mvT hZ (wk14 hw)) (mvT hZ (wk15 hw)) (by decide) (mvT hZ (wk17 hw)) (mvT hZ (wk16 hw)) (backOf (W := 0) (rm3_2 l Z a0 hw w hW []  h0 n0 O0 ) hZ (wk19 hw) (wk18 hw) (by decide) (by decide)) q3a q3c (g := (mkF m 7 Lb2 [(.ref (w 0))])) rfl (by rw [hml]; rfl) (Steps.refl _) (argsL := []) (rest := []) (lenOf pds_1 rfl) rfl (by show 2 * 0 + _ ≤ _; exact Nat.le_of_eq rfl) (hb hby d4_7) (fun _ _ => ⟨rfl, e1, (by decide : 0 + 0 ≤ _), (by decide : 0 + 0 ≤ _)⟩)
  dsimp only [Pt.U, Pt.locs, Pt.cells, Pt.slots] at X3 l3 y3 z3 st3 hQ3
  subst l3 y3 z3
  obtain ⟨rfl, N3q, e3⟩ := hQ3
  have N3 := Fr.app N1 N3q
  obtain ⟨fs, hr, hrun, hended, hWm, hsame⟩ := X3.leave (v := some (.int (1 : Int32))) (fun h => by rw [Bd.returns] at h; cases h)
  refine ⟨_, _, pre0 _ ?_, hrun, hended, _, _, rfl, ?_, ⟨_, rfl⟩, hWm, hsame.mono (by decide) (by decide)⟩
  · show Steps p.tables e below (s₁.setTop (mkF m 0 La [])) _
    refine sI X0 hx hby d4_0 rfl ?_
    refine sI X0 hx hby d4_1 rfl ?_
    refine st1 _ ?_
    refine XS.istoreN X1.here hx rfl (hb hby d4_5) rfl (l' := Lb2) rfl ?_
    refine sA X1 hx hby d4_6 rfl rfl ?_
    refine st3.trans ?_
    refine XS.tswIn X3.here hx rfl (pc0 := 10) (pc' := 58) (o := 48) rfl (hb hby d4_10) rfl (by decide) (by decide) (by decide) (by decide) ?_
    refine sI X3 hx hby d4_58 rfl ?_
    refine sN X3 hx hby d4_59 (by decide) ?_
    refine sc X3 hx hby d4_62 ?_
    refine sg (pc := 63) (pc' := 127) X3 hx hby d4_63 (by decide) (by decide) ?_
    show Steps p.tables e below (T3.setTop (mkF m 127 Lb2 [(.int (1 : Int32))])) _
    exact retN X3 hx (t := .boolean) Bd.returns (by simp) (hb hby d4_127) hr
  · show Q4_11 Z w q1 q2 h0 n0 _ T3.heap _
    rw [e3]
    exact ⟨rfl, N3, rfl⟩
theorem d5_18 : decode jdk_33_method_40_code 18 = .ok (.iconst 1, 1) := by decide +kernel
theorem ef_5_12 (m : MethodId) (q1 : Int32) (q2 : Int32) : entryFrame m #[(.int q1), (.int q2)] 2 = mkF m 0 #[.val (.int q1), .val (.int q2)] [] := by first | (simp [entryFrame, mkF, argsToLocals, Value.category]; done) | rfl
def Q5_12 (Z : State) (w : Nat → Addr) (q1 : Int32) (q2 : Int32) (h0 : Heap) (n0 : Nat) (v : Option Value) (h : Heap) (L : List Loc) : Prop := v = some (.int (1 : Int32)) ∧ Fr n0 L ∧ h = h0
set_option maxRecDepth 65536 in
set_option maxHeartbeats 40000000 in
theorem rm5_12 (l : Launch) (Z : State) (a0 : Array Value) (hw : ∀ d ∈ tables_1, d.before a0 Z = true) (w : Nat → Addr) (hW : Wd Z w) (ws : List Jvm.Cond) (q1 : Int32) (q2 : Int32) (h0 : Heap) (n0 : Nat) (O0 : Old Z n0 h0) (c1 : ¬ (q1 < q2)) (c2 : ¬ (q1 = q2)) :
    MetFree l ym4 (head1 (Jvm.Cond.code ym4 jdk_33_method_40_code 2 (some .int) :: ws) ({ frames := 0, cells := 0, slots := 0, locals := 0 } : Room)) (fun a U => a = #[(.int q1), (.int q2)] ∧ Z.Warmed39 U.vm ∧ U.heap = h0) (fun _ _ _ _ _ => True) (fun _ U o U' => ∃ v L, o = .returned v ∧ Q5_12 Z w q1 q2 h0 n0 v U'.heap L ∧ FrameEnd U o U' L ({ frames := 0, cells := 0, slots := 0, locals := 0 } : Room).cells ({ frames := 0, cells := 0, slots := 0, locals := 0 } : Room).slots) := by
  refine MetFree.of_bodySF (plainFor_of_name pnc_3) hisR ?_
  intro p e s m args below meth c s₁ Bd hml0 hP hK
  obtain ⟨rfl, hZ, hh⟩ := hP
  have hx := Bd.exec
  have hby := Bd.bytes
  have hml : c.maxLocals = 2 := hml0
  have hown : s.vm.findClass "java/lang/Integer" = some m.cls := findClass_of_methodNamed Bd.named
  have hnm := (name_of_methodNamed Bd.named Bd.method).1
  have X0 : Stand p l e ({ frames := 0, cells := 0, slots := 0, locals := 0 } : Room) s m #[(.int q1), (.int q2)] below meth c s₁ [] 0 0 := Stand.of_body Bd
  have e0 : s₁.heap = h0 := by rw [← hh, Bd.state]; rfl
  have N0 := Fr.nil n0
  skip
  have pre0 : ∀ t, Steps p.tables e below (s₁.setTop (mkF m 0 #[.val (.int q1), .val (.int q2)] [])) t → Steps p.tables e below (s₁.setTop (entryFrame m #[(.int q1), (.int q2)] 2)) t := fun t k => castTop (ef_5_12 m q1 q2) k
  obtain ⟨fs, hr, hrun, hended, hWm, hsame⟩ := X0.leave (v := some (.int (1 : Int32))) (fun h => by rw [Bd.returns] at h; cases h)
  refine ⟨_, _, pre0 _ ?_, hrun, hended, _, _, rfl, ?_, ⟨_, rfl⟩, hWm, hsame.mono (by decide) (by decide)⟩
  · show Steps p.tables e below (s₁.setTop (mkF m 0 #[.val (.int q1), .val (.int q2)] [])) _
    refine sI X0 hx hby d5_0 rfl ?_
    refine sI X0 hx hby d5_1 rfl ?_
    refine XS.icmpYes X0.here hx rfl (pc0 := 2) (pc' := 9) rfl (hb hby d5_2) rfl (flt (c1 : ¬ (q1 < q2))).2.1 (by decide) (by decide) ?_
    refine sI X0 hx hby d5_9 rfl ?_
    refine sI X0 hx hby d5_10 rfl ?_
    show Steps p.tables e below (s₁.setTop (mkF m 11 #[.val (.int q1), .val (.int q2)] [(.int q2), (.int q1)])) _
    refine XS.icmpYes X0.here hx rfl (pc0 := 11) (pc' := 18) rfl (hb hby d5_11) rfl (feq (c2 : ¬ (q1 = q2))).2 (by decide) (by decide) ?_
    refine sc X0 hx hby d5_18 ?_
    exact retI X0 hx Bd.returns (hb hby d5_19) hr
  · show Q5_12 Z w q1 q2 h0 n0 _ s₁.heap _
    rw [e0]
    exact ⟨rfl, N0, rfl⟩
theorem ef_4_13 (m : MethodId) (w : Nat → Addr) (q1 : Int32) (q2 : Int32) : entryFrame m #[(.ref (w 1)), (.int q1), (.int q2)] 4 = mkF m 0 #[.val (.ref (w 1)), .val (.int q1), .val (.int q2), .unset] [] := by first | (simp [entryFrame, mkF, argsToLocals, Value.category]; done) | rfl
def Q4_13 (Z : State) (w : Nat → Addr) (q1 : Int32) (q2 : Int32) (h0 : Heap) (n0 : Nat) (v : Option Value) (h : Heap) (L : List Loc) : Prop := v = some (.int (1 : Int32)) ∧ Fr n0 L ∧ h = h0
set_option maxRecDepth 65536 in
set_option maxHeartbeats 40000000 in
theorem rm4_13 (l : Launch) (Z : State) (a0 : Array Value) (hw : ∀ d ∈ tables_1, d.before a0 Z = true) (w : Nat → Addr) (hW : Wd Z w) (ws : List Jvm.Cond) (q1 : Int32) (q2 : Int32) (h0 : Heap) (n0 : Nat) (O0 : Old Z n0 h0) (c1 : ¬ (q1 < q2)) (c2 : ¬ (q1 = q2)) :
    MetFree l ym5 (head1 (Jvm.Cond.code ym5 prog_75_method_7_code 4 (some .boolean) :: ws) ({ frames := 1, cells := 0, slots := 0, locals := 13 } : Room)) (fun a U => a = #[(.ref (w 1)), (.int q1), (.int q2)] ∧ Z.Warmed39 U.vm ∧ U.heap = h0) (fun _ _ _ _ _ => True) (fun _ U o U' => ∃ v L, o = .returned v ∧ Q4_13 Z w q1 q2 h0 n0 v U'.heap L ∧ FrameEnd U o U' L ({ frames := 1, cells := 0, slots := 0, locals := 13 } : Room).cells ({ frames := 1, cells := 0, slots := 0, locals := 13 } : Room).slots) := by
  refine MetFree.of_bodySF (plainFor_of_name pnc_2) hisR ?_
  intro p e s m args below meth c s₁ Bd hml0 hP hK
  obtain ⟨rfl, hZ, hh⟩ := hP
  have hx := Bd.exec
  have hby := Bd.bytes
  have hml : c.maxLocals = 4 := hml0
  have hown : s.vm.findClass "com/example/gofyn/gofyn/typed/Term$Operator" = some m.cls := findClass_of_methodNamed Bd.named
  have hnm := (name_of_methodNamed Bd.named Bd.method).1
  have X0 : Stand p l e ({ frames := 1, cells := 0, slots := 0, locals := 13 } : Room) s m #[(.ref (w 1)), (.int q1), (.int q2)] below meth c s₁ [] 0 0 := Stand.of_body Bd
  have e0 : s₁.heap = h0 := by rw [← hh, Bd.state]; rfl
  have N0 := Fr.nil n0
  let La : Array Slot := #[.val (.ref (w 1)), .val (.int q1), .val (.int q2), .unset]
  have pre0 : ∀ t, Steps p.tables e below (s₁.setTop (mkF m 0 #[.val (.ref (w 1)), .val (.int q1), .val (.int q2), .unset] [])) t → Steps p.tables e below (s₁.setTop (entryFrame m #[(.ref (w 1)), (.int q1), (.int q2)] 4)) t := fun t k => castTop (ef_4_13 m w q1 q2) k
  obtain ⟨_, _, ⟨T1, L1, kk1, nn1⟩, -, X1, ⟨Lc1, hQ1, l1, y1, z1⟩, st1⟩ := Jvm.LawKit.callS X0 hx (y := ym4) hown (mvT hZ (wk29 hw)) (mvT hZ (wk30 hw)) (mvT hZ (wk31 hw)) (mvT hZ (wk32 hw)) (by decide) (backOf (W := 0) (rm5_12 l Z a0 hw w hW [] q1 q2 h0 n0 O0 c1 c2) hZ (wk32 hw) (wk31 hw) (by decide) (by decide)) (g := (mkF m 2 La [(.int q2), (.int q1)])) rfl (by rw [hml]; rfl) (argsL := [(.int q1), (.int q2)]) (rest := []) (lenOf pds_3 rfl) rfl (by show 2 * 0 + _ ≤ _; exact Nat.le_of_eq rfl) (hb hby d4_2) (fun _ _ => ⟨rfl, e0, (by decide : 0 + 0 ≤ _), (by decide : 0 + 0 ≤ _)⟩)
  dsimp only [Pt.U, Pt.locs, Pt.cells, Pt.slots] at X1 l1 y1 z1 st1 hQ1
  subst l1 y1 z1
  obtain ⟨rfl, N1q, e1⟩ := hQ1
  have N1 := Fr.app N0 N1q
  let Lb2 : Array Slot := #[.val (.ref (w 1)), .val (.int q1), .val (.int q2), .val (.int (1 : Int32))]
  obtain ⟨cq3, kq3, q3a, q3b, q3c⟩ := isOf hZ e1 ((wd3 hW).ext O0.2)
  obtain ⟨_, _, ⟨T3, L3, kk3, nn3⟩, -, X3, ⟨Lc3, hQ3, l3, y3, z3⟩, st3⟩ := X1.virtualBackUp hx (x := ym2) (y := ym1) hown (mvT hZ (wk13 hw)) (mvT hZ (wk14 hw)) (mvT hZ (wk15 hw)) (by decide) (mvT hZ (wk17 hw)) (mvT hZ (wk16 hw)) (backOf (W := 0) (rm3_5 l Z a0 hw w hW []  h0 n0 O0 ) hZ (wk19 hw) (wk18 hw) (by decide) (by decide)) q3a q3c (g := (mkF m 7 Lb2 [(.ref (w 1))])) rfl (by rw [hml]; rfl) (Steps.refl _) (argsL := []) (rest := []) (lenOf pds_1 rfl) rfl (by show 2 * 0 + _ ≤ _; exact Nat.le_of_eq rfl) (hb hby d4_7) (fun _ _ => ⟨rfl, e1, (by decide : 0 + 0 ≤ _), (by decide : 0 + 0 ≤ _)⟩)
  dsimp only [Pt.U, Pt.locs, Pt.cells, Pt.slots] at X3 l3 y3 z3 st3 hQ3
  subst l3 y3 z3
  obtain ⟨rfl, N3q, e3⟩ := hQ3
  have N3 := Fr.app N1 N3q
  obtain ⟨fs, hr, hrun, hended, hWm, hsame⟩ := X3.leave (v := some (.int (1 : Int32))) (fun h => by rw [Bd.returns] at h; cases h)
  refine ⟨_, _, pre0 _ ?_, hrun, hended, _, _, rfl, ?_, ⟨_, rfl⟩, hWm, hsame.mono (by decide) (by decide)⟩
  · show Steps p.tables e below (s₁.setTop (mkF m 0 La [])) _
    refine sI X0 hx hby d4_0 rfl ?_
    refine sI X0 hx hby d4_1 rfl ?_
    refine st1 _ ?_
    refine XS.istoreN X1.here hx rfl (hb hby d4_5) rfl (l' := Lb2) rfl ?_
    refine sA X1 hx hby d4_6 rfl rfl ?_
    refine st3.trans ?_
    refine XS.tswIn X3.here hx rfl (pc0 := 10) (pc' := 70) (o := 60) rfl (hb hby d4_10) rfl (by decide) (by decide) (by decide) (by decide) ?_
    refine sI X3 hx hby d4_70 rfl ?_
    refine sN X3 hx hby d4_71 (by decide) ?_
    refine sc X3 hx hby d4_74 ?_
    refine sg (pc := 75) (pc' := 127) X3 hx hby d4_75 (by decide) (by decide) ?_
    show Steps p.tables e below (T3.setTop (mkF m 127 Lb2 [(.int (1 : Int32))])) _
    exact retN X3 hx (t := .boolean) Bd.returns (by simp) (hb hby d4_127) hr
  · show Q4_13 Z w q1 q2 h0 n0 _ T3.heap _
    rw [e3]
    exact ⟨rfl, N3, rfl⟩
theorem ef_4_14 (m : MethodId) (w : Nat → Addr) (q1 : Int32) (q2 : Int32) : entryFrame m #[(.ref (w 0)), (.int q1), (.int q2)] 4 = mkF m 0 #[.val (.ref (w 0)), .val (.int q1), .val (.int q2), .unset] [] := by first | (simp [entryFrame, mkF, argsToLocals, Value.category]; done) | rfl
def Q4_14 (Z : State) (w : Nat → Addr) (q1 : Int32) (q2 : Int32) (h0 : Heap) (n0 : Nat) (v : Option Value) (h : Heap) (L : List Loc) : Prop := v = some (.int (0 : Int32)) ∧ Fr n0 L ∧ h = h0
set_option maxRecDepth 65536 in
set_option maxHeartbeats 40000000 in
theorem rm4_14 (l : Launch) (Z : State) (a0 : Array Value) (hw : ∀ d ∈ tables_1, d.before a0 Z = true) (w : Nat → Addr) (hW : Wd Z w) (ws : List Jvm.Cond) (q1 : Int32) (q2 : Int32) (h0 : Heap) (n0 : Nat) (O0 : Old Z n0 h0) (c1 : ¬ (q1 < q2)) (c2 : ¬ (q1 = q2)) :
    MetFree l ym5 (head1 (Jvm.Cond.code ym5 prog_75_method_7_code 4 (some .boolean) :: ws) ({ frames := 1, cells := 0, slots := 0, locals := 13 } : Room)) (fun a U => a = #[(.ref (w 0)), (.int q1), (.int q2)] ∧ Z.Warmed39 U.vm ∧ U.heap = h0) (fun _ _ _ _ _ => True) (fun _ U o U' => ∃ v L, o = .returned v ∧ Q4_14 Z w q1 q2 h0 n0 v U'.heap L ∧ FrameEnd U o U' L ({ frames := 1, cells := 0, slots := 0, locals := 13 } : Room).cells ({ frames := 1, cells := 0, slots := 0, locals := 13 } : Room).slots) := by
  refine MetFree.of_bodySF (plainFor_of_name pnc_2) hisR ?_
  intro p e s m args below meth c s₁ Bd hml0 hP hK
  obtain ⟨rfl, hZ, hh⟩ := hP
  have hx := Bd.exec
  have hby := Bd.bytes
  have hml : c.maxLocals = 4 := hml0
  have hown : s.vm.findClass "com/example/gofyn/gofyn/typed/Term$Operator" = some m.cls := findClass_of_methodNamed Bd.named
  have hnm := (name_of_methodNamed Bd.named Bd.method).1
  have X0 : Stand p l e ({ frames := 1, cells := 0, slots := 0, locals := 13 } : Room) s m #[(.ref (w 0)), (.int q1), (.int q2)] below meth c s₁ [] 0 0 := Stand.of_body Bd
  have e0 : s₁.heap = h0 := by rw [← hh, Bd.state]; rfl
  have N0 := Fr.nil n0
  let La : Array Slot := #[.val (.ref (w 0)), .val (.int q1), .val (.int q2), .unset]
  have pre0 : ∀ t, Steps p.tables e below (s₁.setTop (mkF m 0 #[.val (.ref (w 0)), .val (.int q1), .val (.int q2), .unset] [])) t → Steps p.tables e below (s₁.setTop (entryFrame m #[(.ref (w 0)), (.int q1), (.int q2)] 4)) t := fun t k => castTop (ef_4_14 m w q1 q2) k
  obtain ⟨_, _, ⟨T1, L1, kk1, nn1⟩, -, X1, ⟨Lc1, hQ1, l1, y1, z1⟩, st1⟩ := Jvm.LawKit.callS X0 hx (y := ym4) hown (mvT hZ (wk29 hw)) (mvT hZ (wk30 hw)) (mvT hZ (wk31 hw)) (mvT hZ (wk32 hw)) (by decide) (backOf (W := 0) (rm5_12 l Z a0 hw w hW [] q1 q2 h0 n0 O0 c1 c2) hZ (wk32 hw) (wk31 hw) (by decide) (by decide)) (g := (mkF m 2 La [(.int q2), (.int q1)])) rfl (by rw [hml]; rfl) (argsL := [(.int q1), (.int q2)]) (rest := []) (lenOf pds_3 rfl) rfl (by show 2 * 0 + _ ≤ _; exact Nat.le_of_eq rfl) (hb hby d4_2) (fun _ _ => ⟨rfl, e0, (by decide : 0 + 0 ≤ _), (by decide : 0 + 0 ≤ _)⟩)
  dsimp only [Pt.U, Pt.locs, Pt.cells, Pt.slots] at X1 l1 y1 z1 st1 hQ1
  subst l1 y1 z1
  obtain ⟨rfl, N1q, e1⟩ := hQ1
  have N1 := Fr.app N0 N1q
  let Lb2 : Array Slot := #[.val (.ref (w 0)), .val (.int q1), .val (.int q2), .val (.int (1 : Int32))]
  obtain ⟨cq3, kq3, q3a, q3b, q3c⟩ := isOf hZ e1 ((wd1 hW).ext O0.2)
  obtain ⟨_, _, ⟨T3, L3, kk3, nn3⟩, -, X3, ⟨Lc3, hQ3, l3, y3, z3⟩, st3⟩ := X1.virtualBackUp hx (x := ym2) (y := ym1) hown (mvT hZ (wk13 hw)) (mvT hZ (wk14 hw)) (mvT hZ (wk15 hw)) (by decide) (mvT hZ (wk17 hw)) (mvT hZ (wk16 hw)) (backOf (W := 0) (rm3_2 l Z a0 hw w hW []  h0 n0 O0 ) hZ (wk19 hw) (wk18 hw) (by decide) (by decide)) q3a q3c (g := (mkF m 7 Lb2 [(.ref (w 0))])) rfl (by rw [hml]; rfl) (Steps.refl _) (argsL := []) (rest := []) (lenOf pds_1 rfl) rfl (by show 2 * 0 + _ ≤ _; exact Nat.le_of_eq rfl) (hb hby d4_7) (fun _ _ => ⟨rfl, e1, (by decide : 0 + 0 ≤ _), (by decide : 0 + 0 ≤ _)⟩)
  dsimp only [Pt.U, Pt.locs, Pt.cells, Pt.slots] at X3 l3 y3 z3 st3 hQ3
  subst l3 y3 z3
  obtain ⟨rfl, N3q, e3⟩ := hQ3
  have N3 := Fr.app N1 N3q
  obtain ⟨fs, hr, hrun, hended, hWm, hsame⟩ := X3.leave (v := some (.int (0 : Int32))) (fun h => by rw [Bd.returns] at h; cases h)
  refine ⟨_, _, pre0 _ ?_, hrun, hended, _, _, rfl, ?_, ⟨_, rfl⟩, hWm, hsame.mono (by decide) (by decide)⟩
  · show Steps p.tables e below (s₁.setTop (mkF m 0 La [])) _
    refine sI X0 hx hby d4_0 rfl ?_
    refine sI X0 hx hby d4_1 rfl ?_
    refine st1 _ ?_
    refine XS.istoreN X1.here hx rfl (hb hby d4_5) rfl (l' := Lb2) rfl ?_
    refine sA X1 hx hby d4_6 rfl rfl ?_
    refine st3.trans ?_
    refine XS.tswIn X3.here hx rfl (pc0 := 10) (pc' := 58) (o := 48) rfl (hb hby d4_10) rfl (by decide) (by decide) (by decide) (by decide) ?_
    refine sI X3 hx hby d4_58 rfl ?_
    refine XS.ifYes X3.here hx rfl (pc0 := 59) (pc' := 66) rfl (hb hby d4_59) rfl (by decide) (by decide) (by decide) ?_
    refine sc X3 hx hby d4_66 ?_
    refine sg (pc := 67) (pc' := 127) X3 hx hby d4_67 (by decide) (by decide) ?_
    show Steps p.tables e below (T3.setTop (mkF m 127 Lb2 [(.int (0 : Int32))])) _
    exact retN X3 hx (t := .boolean) Bd.returns (by simp) (hb hby d4_127) hr
  · show Q4_14 Z w q1 q2 h0 n0 _ T3.heap _
    rw [e3]
    exact ⟨rfl, N3, rfl⟩
theorem d1_16 : decode method_2_code 16 = .ok (.iload_n 1, 1) := by decide +kernel
theorem d1_17 : decode method_2_code 17 = .ok (.iconst 1, 1) := by decide +kernel
theorem d1_18 : decode method_2_code 18 = .ok (.if_icmp .ne 7, 3) := by decide +kernel
theorem d1_21 : decode method_2_code 21 = .ok (.getstatic 14, 3) := by decide +kernel
theorem d1_24 : decode method_2_code 24 = .ok (.areturn, 1) := by decide +kernel
theorem ef_1_15 (m : MethodId) (q1 : Int32) : entryFrame m #[(.int q1)] 2 = mkF m 0 #[.val (.int q1), .unset] [] := by first | (simp [entryFrame, mkF, argsToLocals, Value.category]; done) | rfl
def Q1_15 (Z : State) (w : Nat → Addr) (q1 : Int32) (h0 : Heap) (n0 : Nat) (v : Option Value) (h : Heap) (L : List Loc) : Prop := v = some (.ref (w 1)) ∧ Fr n0 L ∧ h = h0
set_option maxRecDepth 65536 in
set_option maxHeartbeats 40000000 in
theorem rm1_15 (l : Launch) (Z : State) (a0 : Array Value) (hw : ∀ d ∈ tables_1, d.before a0 Z = true) (w : Nat → Addr) (hW : Wd Z w) (ws : List Jvm.Cond) (q1 : Int32) (h0 : Heap) (n0 : Nat) (O0 : Old Z n0 h0) (c1 : ¬ (((q1 &&& (2147483647 : Int32)) % (6 : Int32)) = (0 : Int32))) (c2 : ((q1 &&& (2147483647 : Int32)) % (6 : Int32)) = (1 : Int32)) :
    MetFree l ym0 (head1 (Jvm.Cond.code ym0 method_2_code 2 (some (.object "com/example/gofyn/gofyn/typed/Term$Operator")) :: ws) ({ frames := 0, cells := 0, slots := 0, locals := 0 } : Room)) (fun a U => a = #[(.int q1)] ∧ Z.Warmed39 U.vm ∧ U.heap = h0) (fun _ _ _ _ _ => True) (fun _ U o U' => ∃ v L, o = .returned v ∧ Q1_15 Z w q1 h0 n0 v U'.heap L ∧ FrameEnd U o U' L ({ frames := 0, cells := 0, slots := 0, locals := 0 } : Room).cells ({ frames := 0, cells := 0, slots := 0, locals := 0 } : Room).slots) := by
  refine MetFree.of_bodySF (plainFor_of_name pnc_0) hisR ?_
  intro p e s m args below meth c s₁ Bd hml0 hP hK
  obtain ⟨rfl, hZ, hh⟩ := hP
  have hx := Bd.exec
  have hby := Bd.bytes
  have hml : c.maxLocals = 2 := hml0
  have hown : s.vm.findClass "com/example/gofyn/gofyn/typed/OperatorComplementPinLaw" = some m.cls := findClass_of_methodNamed Bd.named
  have hnm := (name_of_methodNamed Bd.named Bd.method).1
  have X0 : Stand p l e ({ frames := 0, cells := 0, slots := 0, locals := 0 } : Room) s m #[(.int q1)] below meth c s₁ [] 0 0 := Stand.of_body Bd
  have e0 : s₁.heap = h0 := by rw [← hh, Bd.state]; rfl
  have N0 := Fr.nil n0
  skip
  have pre0 : ∀ t, Steps p.tables e below (s₁.setTop (mkF m 0 #[.val (.int q1), .unset] [])) t → Steps p.tables e below (s₁.setTop (entryFrame m #[(.int q1)] 2)) t := fun t k => castTop (ef_1_15 m q1) k
  let Lb1 : Array Slot := #[.val (.int q1), .val (.int ((q1 &&& (2147483647 : Int32)) % (6 : Int32)))]
  obtain ⟨T2, X2, e2, st2⟩ := getS2 X0 hx hZ hown (host := "") (Or.inl (wk34 hw)) Via.refl e0 ((wd2 hW).ext O0.2) (g := (mkF m 21 Lb1 [])) rfl (hb hby d1_21)
  obtain ⟨fs, hr, hrun, hended, hWm, hsame⟩ := X2.leave (v := some (.ref (w 1))) (fun h => by rw [Bd.returns] at h; cases h)
  refine ⟨_, _, pre0 _ ?_, hrun, hended, _, _, rfl, ?_, ⟨_, rfl⟩, hWm, hsame.mono (by decide) (by decide)⟩
  · show Steps p.tables e below (s₁.setTop (mkF m 0 #[.val (.int q1), .unset] [])) _
    refine sI X0 hx hby d1_0 rfl ?_
    refine X0.ldcInt hx hown (mvT hZ (wk4 hw)) (g := (mkF m 1 #[.val (.int q1), .unset] [(.int q1)])) rfl (hb hby d1_1) _ ?_
    refine XS.iand X0.here hx rfl (hb hby d1_3) rfl ?_
    refine XS.bipush X0.here hx rfl (hb hby d1_4) ?_
    refine iremM X0 hx rfl (hb hby d1_6) rfl (by decide) ?_
    show Steps p.tables e below (s₁.setTop (mkF m 7 #[.val (.int q1), .unset] [(.int ((q1 &&& (2147483647 : Int32)) % (6 : Int32)))])) _
    refine XS.istoreN X0.here hx rfl (hb hby d1_7) rfl (l' := Lb1) rfl ?_
    refine sI X0 hx hby d1_8 rfl ?_
    refine XS.ifYes X0.here hx rfl (pc0 := 9) (pc' := 16) rfl (hb hby d1_9) rfl ((if0 _ _).trans (feq (c1 : ¬ (((q1 &&& (2147483647 : Int32)) % (6 : Int32)) = (0 : Int32)))).2) (by decide) (by decide) ?_
    refine sI X0 hx hby d1_16 rfl ?_
    refine sc X0 hx hby d1_17 ?_
    show Steps p.tables e below (s₁.setTop (mkF m 18 Lb1 [(.int (1 : Int32)), (.int ((q1 &&& (2147483647 : Int32)) % (6 : Int32)))])) _
    refine sn X0 hx hby d1_18 (teq (c2 : ((q1 &&& (2147483647 : Int32)) % (6 : Int32)) = (1 : Int32))).2 ?_
    refine st2 _ ?_
    jvm_step X2.here [X2.here.top, hx, (hb hby d1_24), X2.method', Bd.returns, Value.isRef, FieldType.isReference]
    first | (intro acts; rw [hr _ acts rfl rfl rfl]) | rw [hr _ _ rfl rfl rfl]
    exact Steps.refl _
  · show Q1_15 Z w q1 h0 n0 _ T2.heap _
    rw [e2]
    exact ⟨rfl, N0, rfl⟩
theorem d1_25 : decode method_2_code 25 = .ok (.iload_n 1, 1) := by decide +kernel
theorem d1_26 : decode method_2_code 26 = .ok (.iconst 2, 1) := by decide +kernel
theorem d1_27 : decode method_2_code 27 = .ok (.if_icmp .ne 7, 3) := by decide +kernel
theorem d1_30 : decode method_2_code 30 = .ok (.getstatic 17, 3) := by decide +kernel
theorem d1_33 : decode method_2_code 33 = .ok (.areturn, 1) := by decide +kernel
theorem ef_1_16 (m : MethodId) (q1 : Int32) : entryFrame m #[(.int q1)] 2 = mkF m 0 #[.val (.int q1), .unset] [] := by first | (simp [entryFrame, mkF, argsToLocals, Value.category]; done) | rfl
def Q1_16 (Z : State) (w : Nat → Addr) (q1 : Int32) (h0 : Heap) (n0 : Nat) (v : Option Value) (h : Heap) (L : List Loc) : Prop := v = some (.ref (w 2)) ∧ Fr n0 L ∧ h = h0
set_option maxRecDepth 65536 in
set_option maxHeartbeats 40000000 in
theorem rm1_16 (l : Launch) (Z : State) (a0 : Array Value) (hw : ∀ d ∈ tables_1, d.before a0 Z = true) (w : Nat → Addr) (hW : Wd Z w) (ws : List Jvm.Cond) (q1 : Int32) (h0 : Heap) (n0 : Nat) (O0 : Old Z n0 h0) (c1 : ¬ (((q1 &&& (2147483647 : Int32)) % (6 : Int32)) = (0 : Int32))) (c2 : ¬ (((q1 &&& (2147483647 : Int32)) % (6 : Int32)) = (1 : Int32))) (c3 : ((q1 &&& (2147483647 : Int32)) % (6 : Int32)) = (2 : Int32)) :
    MetFree l ym0 (head1 (Jvm.Cond.code ym0 method_2_code 2 (some (.object "com/example/gofyn/gofyn/typed/Term$Operator")) :: ws) ({ frames := 0, cells := 0, slots := 0, locals := 0 } : Room)) (fun a U => a = #[(.int q1)] ∧ Z.Warmed39 U.vm ∧ U.heap = h0) (fun _ _ _ _ _ => True) (fun _ U o U' => ∃ v L, o = .returned v ∧ Q1_16 Z w q1 h0 n0 v U'.heap L ∧ FrameEnd U o U' L ({ frames := 0, cells := 0, slots := 0, locals := 0 } : Room).cells ({ frames := 0, cells := 0, slots := 0, locals := 0 } : Room).slots) := by
  refine MetFree.of_bodySF (plainFor_of_name pnc_0) hisR ?_
  intro p e s m args below meth c s₁ Bd hml0 hP hK
  obtain ⟨rfl, hZ, hh⟩ := hP
  have hx := Bd.exec
  have hby := Bd.bytes
  have hml : c.maxLocals = 2 := hml0
  have hown : s.vm.findClass "com/example/gofyn/gofyn/typed/OperatorComplementPinLaw" = some m.cls := findClass_of_methodNamed Bd.named
  have hnm := (name_of_methodNamed Bd.named Bd.method).1
  have X0 : Stand p l e ({ frames := 0, cells := 0, slots := 0, locals := 0 } : Room) s m #[(.int q1)] below meth c s₁ [] 0 0 := Stand.of_body Bd
  have e0 : s₁.heap = h0 := by rw [← hh, Bd.state]; rfl
  have N0 := Fr.nil n0
  skip
  have pre0 : ∀ t, Steps p.tables e below (s₁.setTop (mkF m 0 #[.val (.int q1), .unset] [])) t → Steps p.tables e below (s₁.setTop (entryFrame m #[(.int q1)] 2)) t := fun t k => castTop (ef_1_16 m q1) k
  let Lb1 : Array Slot := #[.val (.int q1), .val (.int ((q1 &&& (2147483647 : Int32)) % (6 : Int32)))]
  obtain ⟨T2, X2, e2, st2⟩ := getS2 X0 hx hZ hown (host := "") (Or.inl (wk35 hw)) Via.refl e0 ((wd4 hW).ext O0.2) (g := (mkF m 30 Lb1 [])) rfl (hb hby d1_30)
  obtain ⟨fs, hr, hrun, hended, hWm, hsame⟩ := X2.leave (v := some (.ref (w 2))) (fun h => by rw [Bd.returns] at h; cases h)
  refine ⟨_, _, pre0 _ ?_, hrun, hended, _, _, rfl, ?_, ⟨_, rfl⟩, hWm, hsame.mono (by decide) (by decide)⟩
  · show Steps p.tables e below (s₁.setTop (mkF m 0 #[.val (.int q1), .unset] [])) _
    refine sI X0 hx hby d1_0 rfl ?_
    refine X0.ldcInt hx hown (mvT hZ (wk4 hw)) (g := (mkF m 1 #[.val (.int q1), .unset] [(.int q1)])) rfl (hb hby d1_1) _ ?_
    refine XS.iand X0.here hx rfl (hb hby d1_3) rfl ?_
    refine XS.bipush X0.here hx rfl (hb hby d1_4) ?_
    refine iremM X0 hx rfl (hb hby d1_6) rfl (by decide) ?_
    show Steps p.tables e below (s₁.setTop (mkF m 7 #[.val (.int q1), .unset] [(.int ((q1 &&& (2147483647 : Int32)) % (6 : Int32)))])) _
    refine XS.istoreN X0.here hx rfl (hb hby d1_7) rfl (l' := Lb1) rfl ?_
    refine sI X0 hx hby d1_8 rfl ?_
    refine XS.ifYes X0.here hx rfl (pc0 := 9) (pc' := 16) rfl (hb hby d1_9) rfl ((if0 _ _).trans (feq (c1 : ¬ (((q1 &&& (2147483647 : Int32)) % (6 : Int32)) = (0 : Int32)))).2) (by decide) (by decide) ?_
    refine sI X0 hx hby d1_16 rfl ?_
    refine sc X0 hx hby d1_17 ?_
    show Steps p.tables e below (s₁.setTop (mkF m 18 Lb1 [(.int (1 : Int32)), (.int ((q1 &&& (2147483647 : Int32)) % (6 : Int32)))])) _
    refine XS.icmpYes X0.here hx rfl (pc0 := 18) (pc' := 25) rfl (hb hby d1_18) rfl (feq (c2 : ¬ (((q1 &&& (2147483647 : Int32)) % (6 : Int32)) = (1 : Int32)))).2 (by decide) (by decide) ?_
    refine sI X0 hx hby d1_25 rfl ?_
    refine sc X0 hx hby d1_26 ?_
    refine sn X0 hx hby d1_27 (teq (c3 : ((q1 &&& (2147483647 : Int32)) % (6 : Int32)) = (2 : Int32))).2 ?_
    refine st2 _ ?_
    jvm_step X2.here [X2.here.top, hx, (hb hby d1_33), X2.method', Bd.returns, Value.isRef, FieldType.isReference]
    first | (intro acts; rw [hr _ acts rfl rfl rfl]) | rw [hr _ _ rfl rfl rfl]
    exact Steps.refl _
  · show Q1_16 Z w q1 h0 n0 _ T2.heap _
    rw [e2]
    exact ⟨rfl, N0, rfl⟩
theorem ef_3_17 (m : MethodId) (w : Nat → Addr) : entryFrame m #[(.ref (w 2))] 1 = mkF m 0 #[.val (.ref (w 2))] [] := by first | (simp [entryFrame, mkF, argsToLocals, Value.category]; done) | rfl
def Q3_17 (Z : State) (w : Nat → Addr) (h0 : Heap) (n0 : Nat) (v : Option Value) (h : Heap) (L : List Loc) : Prop := v = some (.int (2 : Int32)) ∧ Fr n0 L ∧ h = h0
set_option maxRecDepth 65536 in
set_option maxHeartbeats 40000000 in
theorem rm3_17 (l : Launch) (Z : State) (a0 : Array Value) (hw : ∀ d ∈ tables_1, d.before a0 Z = true) (w : Nat → Addr) (hW : Wd Z w) (ws : List Jvm.Cond) (h0 : Heap) (n0 : Nat) (O0 : Old Z n0 h0) :
    MetFree l ym1 (head1 (Jvm.Cond.code ym1 jdk_37_method_2_code 1 (some .int) :: ws) ({ frames := 0, cells := 0, slots := 0, locals := 0 } : Room)) (fun a U => a = #[(.ref (w 2))] ∧ Z.Warmed39 U.vm ∧ U.heap = h0) (fun _ _ _ _ _ => True) (fun _ U o U' => ∃ v L, o = .returned v ∧ Q3_17 Z w h0 n0 v U'.heap L ∧ FrameEnd U o U' L ({ frames := 0, cells := 0, slots := 0, locals := 0 } : Room).cells ({ frames := 0, cells := 0, slots := 0, locals := 0 } : Room).slots) := by
  refine MetFree.of_bodySF (plainFor_of_name pnc_1) hisR ?_
  intro p e s m args below meth c s₁ Bd hml0 hP hK
  obtain ⟨rfl, hZ, hh⟩ := hP
  have hx := Bd.exec
  have hby := Bd.bytes
  have hml : c.maxLocals = 1 := hml0
  have hown : s.vm.findClass "java/lang/Enum" = some m.cls := findClass_of_methodNamed Bd.named
  have hnm := (name_of_methodNamed Bd.named Bd.method).1
  have X0 : Stand p l e ({ frames := 0, cells := 0, slots := 0, locals := 0 } : Room) s m #[(.ref (w 2))] below meth c s₁ [] 0 0 := Stand.of_body Bd
  have e0 : s₁.heap = h0 := by rw [← hh, Bd.state]; rfl
  have N0 := Fr.nil n0
  skip
  have pre0 : ∀ t, Steps p.tables e below (s₁.setTop (mkF m 0 #[.val (.ref (w 2))] [])) t → Steps p.tables e below (s₁.setTop (entryFrame m #[(.ref (w 2))] 1)) t := fun t k => castTop (ef_3_17 m w) k
  obtain ⟨T1, X1, e1, st1⟩ := getF X0 hx hZ hown (host := "") (Or.inl (wk20 hw)) Via.refl e0 ((wd14 hW).ext O0.2) (g := (mkF m 1 #[.val (.ref (w 2))] [(.ref (w 2))])) rfl rfl (hb hby d3_1)
  obtain ⟨fs, hr, hrun, hended, hWm, hsame⟩ := X1.leave (v := some (.int (2 : Int32))) (fun h => by rw [Bd.returns] at h; cases h)
  refine ⟨_, _, pre0 _ ?_, hrun, hended, _, _, rfl, ?_, ⟨_, rfl⟩, hWm, hsame.mono (by decide) (by decide)⟩
  · show Steps p.tables e below (s₁.setTop (mkF m 0 #[.val (.ref (w 2))] [])) _
    refine sA X0 hx hby d3_0 rfl rfl ?_
    refine st1 _ ?_
    exact retI X1 hx Bd.returns (hb hby d3_4) hr
  · show Q3_17 Z w h0 n0 _ T1.heap _
    rw [e1]
    exact ⟨rfl, N0, rfl⟩
theorem d2_66 : decode prog_75_method_5_code 66 = .ok (.getstatic 19, 3) := by decide +kernel
theorem d2_69 : decode prog_75_method_5_code 69 = .ok (.goto 18, 3) := by decide +kernel
theorem ef_2_18 (m : MethodId) (w : Nat → Addr) : entryFrame m #[(.ref (w 2))] 1 = mkF m 0 #[.val (.ref (w 2))] [] := by first | (simp [entryFrame, mkF, argsToLocals, Value.category]; done) | rfl
def Q2_18 (Z : State) (w : Nat → Addr) (h0 : Heap) (n0 : Nat) (v : Option Value) (h : Heap) (L : List Loc) : Prop := v = some (.ref (w 3)) ∧ Fr n0 L ∧ h = h0
set_option maxRecDepth 65536 in
set_option maxHeartbeats 40000000 in
theorem rm2_18 (l : Launch) (Z : State) (a0 : Array Value) (hw : ∀ d ∈ tables_1, d.before a0 Z = true) (w : Nat → Addr) (hW : Wd Z w) (ws : List Jvm.Cond) (h0 : Heap) (n0 : Nat) (O0 : Old Z n0 h0) :
    MetFree l ym3 (head1 (Jvm.Cond.code ym3 prog_75_method_5_code 1 (some (.object "com/example/gofyn/gofyn/typed/Term$Operator")) :: ws) ({ frames := 1, cells := 0, slots := 0, locals := 12 } : Room)) (fun a U => a = #[(.ref (w 2))] ∧ Z.Warmed39 U.vm ∧ U.heap = h0) (fun _ _ _ _ _ => True) (fun _ U o U' => ∃ v L, o = .returned v ∧ Q2_18 Z w h0 n0 v U'.heap L ∧ FrameEnd U o U' L ({ frames := 1, cells := 0, slots := 0, locals := 12 } : Room).cells ({ frames := 1, cells := 0, slots := 0, locals := 12 } : Room).slots) := by
  refine MetFree.of_bodySF (plainFor_of_name pnc_2) hisR ?_
  intro p e s m args below meth c s₁ Bd hml0 hP hK
  obtain ⟨rfl, hZ, hh⟩ := hP
  have hx := Bd.exec
  have hby := Bd.bytes
  have hml : c.maxLocals = 1 := hml0
  have hown : s.vm.findClass "com/example/gofyn/gofyn/typed/Term$Operator" = some m.cls := findClass_of_methodNamed Bd.named
  have hnm := (name_of_methodNamed Bd.named Bd.method).1
  have X0 : Stand p l e ({ frames := 1, cells := 0, slots := 0, locals := 12 } : Room) s m #[(.ref (w 2))] below meth c s₁ [] 0 0 := Stand.of_body Bd
  have e0 : s₁.heap = h0 := by rw [← hh, Bd.state]; rfl
  have N0 := Fr.nil n0
  skip
  have pre0 : ∀ t, Steps p.tables e below (s₁.setTop (mkF m 0 #[.val (.ref (w 2))] [])) t → Steps p.tables e below (s₁.setTop (entryFrame m #[(.ref (w 2))] 1)) t := fun t k => castTop (ef_2_18 m w) k
  obtain ⟨cq1, kq1, q1a, q1b, q1c⟩ := isOf hZ e0 ((wd5 hW).ext O0.2)
  obtain ⟨_, _, ⟨T1, L1, kk1, nn1⟩, -, X1, ⟨Lc1, hQ1, l1, y1, z1⟩, st1⟩ := X0.virtualBackUp hx (x := ym2) (y := ym1) hown (mvT hZ (wk13 hw)) (mvT hZ (wk14 hw)) (mvT hZ (wk15 hw)) (by decide) (mvT hZ (wk17 hw)) (mvT hZ (wk16 hw)) (backOf (W := 0) (rm3_17 l Z a0 hw w hW []  h0 n0 O0 ) hZ (wk19 hw) (wk18 hw) (by decide) (by decide)) q1a q1c (g := (mkF m 1 #[.val (.ref (w 2))] [(.ref (w 2))])) rfl (by rw [hml]; rfl) (Steps.refl _) (argsL := []) (rest := []) (lenOf pds_1 rfl) rfl (by show 2 * 0 + _ ≤ _; exact Nat.le_of_eq rfl) (hb hby d2_1) (fun _ _ => ⟨rfl, e0, (by decide : 0 + 0 ≤ _), (by decide : 0 + 0 ≤ _)⟩)
  dsimp only [Pt.U, Pt.locs, Pt.cells, Pt.slots] at X1 l1 y1 z1 st1 hQ1
  subst l1 y1 z1
  obtain ⟨rfl, N1q, e1⟩ := hQ1
  have N1 := Fr.app N0 N1q
  obtain ⟨T2, X2, e2, st2⟩ := getS2 X1 hx hZ hown (host := "") (Or.inl (wk37 hw)) Via.refl e1 ((wd6 hW).ext O0.2) (g := (mkF m 66 #[.val (.ref (w 2))] [])) rfl (hb hby d2_66)
  obtain ⟨fs, hr, hrun, hended, hWm, hsame⟩ := X2.leave (v := some (.ref (w 3))) (fun h => by rw [Bd.returns] at h; cases h)
  refine ⟨_, _, pre0 _ ?_, hrun, hended, _, _, rfl, ?_, ⟨_, rfl⟩, hWm, hsame.mono (by decide) (by decide)⟩
  · show Steps p.tables e below (s₁.setTop (mkF m 0 #[.val (.ref (w 2))] [])) _
    refine sA X0 hx hby d2_0 rfl rfl ?_
    refine st1.trans ?_
    refine XS.tswIn X1.here hx rfl (pc0 := 4) (pc' := 66) (o := 62) rfl (hb hby d2_4) rfl (by decide) (by decide) (by decide) (by decide) ?_
    refine st2 _ ?_
    refine sg (pc := 69) (pc' := 87) X2 hx hby d2_69 (by decide) (by decide) ?_
    jvm_step X2.here [X2.here.top, hx, (hb hby d2_87), X2.method', Bd.returns, Value.isRef, FieldType.isReference]
    first | (intro acts; rw [hr _ acts rfl rfl rfl]) | rw [hr _ _ rfl rfl rfl]
    exact Steps.refl _
  · show Q2_18 Z w h0 n0 _ T2.heap _
    rw [e2]
    exact ⟨rfl, N1, rfl⟩
theorem ef_3_19 (m : MethodId) (w : Nat → Addr) : entryFrame m #[(.ref (w 3))] 1 = mkF m 0 #[.val (.ref (w 3))] [] := by first | (simp [entryFrame, mkF, argsToLocals, Value.category]; done) | rfl
def Q3_19 (Z : State) (w : Nat → Addr) (h0 : Heap) (n0 : Nat) (v : Option Value) (h : Heap) (L : List Loc) : Prop := v = some (.int (5 : Int32)) ∧ Fr n0 L ∧ h = h0
set_option maxRecDepth 65536 in
set_option maxHeartbeats 40000000 in
theorem rm3_19 (l : Launch) (Z : State) (a0 : Array Value) (hw : ∀ d ∈ tables_1, d.before a0 Z = true) (w : Nat → Addr) (hW : Wd Z w) (ws : List Jvm.Cond) (h0 : Heap) (n0 : Nat) (O0 : Old Z n0 h0) :
    MetFree l ym1 (head1 (Jvm.Cond.code ym1 jdk_37_method_2_code 1 (some .int) :: ws) ({ frames := 0, cells := 0, slots := 0, locals := 0 } : Room)) (fun a U => a = #[(.ref (w 3))] ∧ Z.Warmed39 U.vm ∧ U.heap = h0) (fun _ _ _ _ _ => True) (fun _ U o U' => ∃ v L, o = .returned v ∧ Q3_19 Z w h0 n0 v U'.heap L ∧ FrameEnd U o U' L ({ frames := 0, cells := 0, slots := 0, locals := 0 } : Room).cells ({ frames := 0, cells := 0, slots := 0, locals := 0 } : Room).slots) := by
  refine MetFree.of_bodySF (plainFor_of_name pnc_1) hisR ?_
  intro p e s m args below meth c s₁ Bd hml0 hP hK
  obtain ⟨rfl, hZ, hh⟩ := hP
  have hx := Bd.exec
  have hby := Bd.bytes
  have hml : c.maxLocals = 1 := hml0
  have hown : s.vm.findClass "java/lang/Enum" = some m.cls := findClass_of_methodNamed Bd.named
  have hnm := (name_of_methodNamed Bd.named Bd.method).1
  have X0 : Stand p l e ({ frames := 0, cells := 0, slots := 0, locals := 0 } : Room) s m #[(.ref (w 3))] below meth c s₁ [] 0 0 := Stand.of_body Bd
  have e0 : s₁.heap = h0 := by rw [← hh, Bd.state]; rfl
  have N0 := Fr.nil n0
  skip
  have pre0 : ∀ t, Steps p.tables e below (s₁.setTop (mkF m 0 #[.val (.ref (w 3))] [])) t → Steps p.tables e below (s₁.setTop (entryFrame m #[(.ref (w 3))] 1)) t := fun t k => castTop (ef_3_19 m w) k
  obtain ⟨T1, X1, e1, st1⟩ := getF X0 hx hZ hown (host := "") (Or.inl (wk20 hw)) Via.refl e0 ((wd15 hW).ext O0.2) (g := (mkF m 1 #[.val (.ref (w 3))] [(.ref (w 3))])) rfl rfl (hb hby d3_1)
  obtain ⟨fs, hr, hrun, hended, hWm, hsame⟩ := X1.leave (v := some (.int (5 : Int32))) (fun h => by rw [Bd.returns] at h; cases h)
  refine ⟨_, _, pre0 _ ?_, hrun, hended, _, _, rfl, ?_, ⟨_, rfl⟩, hWm, hsame.mono (by decide) (by decide)⟩
  · show Steps p.tables e below (s₁.setTop (mkF m 0 #[.val (.ref (w 3))] [])) _
    refine sA X0 hx hby d3_0 rfl rfl ?_
    refine st1 _ ?_
    exact retI X1 hx Bd.returns (hb hby d3_4) hr
  · show Q3_19 Z w h0 n0 _ T1.heap _
    rw [e1]
    exact ⟨rfl, N0, rfl⟩
theorem d4_118 : decode prog_75_method_7_code 118 = .ok (.iload_n 3, 1) := by decide +kernel
theorem d4_119 : decode prog_75_method_7_code 119 = .ok (.ifCond .lt 7, 3) := by decide +kernel
theorem d4_126 : decode prog_75_method_7_code 126 = .ok (.iconst 0, 1) := by decide +kernel
theorem ef_4_20 (m : MethodId) (w : Nat → Addr) (q1 : Int32) (q2 : Int32) : entryFrame m #[(.ref (w 3)), (.int q1), (.int q2)] 4 = mkF m 0 #[.val (.ref (w 3)), .val (.int q1), .val (.int q2), .unset] [] := by first | (simp [entryFrame, mkF, argsToLocals, Value.category]; done) | rfl
def Q4_20 (Z : State) (w : Nat → Addr) (q1 : Int32) (q2 : Int32) (h0 : Heap) (n0 : Nat) (v : Option Value) (h : Heap) (L : List Loc) : Prop := v = some (.int (0 : Int32)) ∧ Fr n0 L ∧ h = h0
set_option maxRecDepth 65536 in
set_option maxHeartbeats 40000000 in
theorem rm4_20 (l : Launch) (Z : State) (a0 : Array Value) (hw : ∀ d ∈ tables_1, d.before a0 Z = true) (w : Nat → Addr) (hW : Wd Z w) (ws : List Jvm.Cond) (q1 : Int32) (q2 : Int32) (h0 : Heap) (n0 : Nat) (O0 : Old Z n0 h0) (c1 : q1 < q2) :
    MetFree l ym5 (head1 (Jvm.Cond.code ym5 prog_75_method_7_code 4 (some .boolean) :: ws) ({ frames := 1, cells := 0, slots := 0, locals := 13 } : Room)) (fun a U => a = #[(.ref (w 3)), (.int q1), (.int q2)] ∧ Z.Warmed39 U.vm ∧ U.heap = h0) (fun _ _ _ _ _ => True) (fun _ U o U' => ∃ v L, o = .returned v ∧ Q4_20 Z w q1 q2 h0 n0 v U'.heap L ∧ FrameEnd U o U' L ({ frames := 1, cells := 0, slots := 0, locals := 13 } : Room).cells ({ frames := 1, cells := 0, slots := 0, locals := 13 } : Room).slots) := by
  refine MetFree.of_bodySF (plainFor_of_name pnc_2) hisR ?_
  intro p e s m args below meth c s₁ Bd hml0 hP hK
  obtain ⟨rfl, hZ, hh⟩ := hP
  have hx := Bd.exec
  have hby := Bd.bytes
  have hml : c.maxLocals = 4 := hml0
  have hown : s.vm.findClass "com/example/gofyn/gofyn/typed/Term$Operator" = some m.cls := findClass_of_methodNamed Bd.named
  have hnm := (name_of_methodNamed Bd.named Bd.method).1
  have X0 : Stand p l e ({ frames := 1, cells := 0, slots := 0, locals := 13 } : Room) s m #[(.ref (w 3)), (.int q1), (.int q2)] below meth c s₁ [] 0 0 := Stand.of_body Bd
  have e0 : s₁.heap = h0 := by rw [← hh, Bd.state]; rfl
  have N0 := Fr.nil n0
  let La : Array Slot := #[.val (.ref (w 3)), .val (.int q1), .val (.int q2), .unset]
  have pre0 : ∀ t, Steps p.tables e below (s₁.setTop (mkF m 0 #[.val (.ref (w 3)), .val (.int q1), .val (.int q2), .unset] [])) t → Steps p.tables e below (s₁.setTop (entryFrame m #[(.ref (w 3)), (.int q1), (.int q2)] 4)) t := fun t k => castTop (ef_4_20 m w q1 q2) k
  obtain ⟨_, _, ⟨T1, L1, kk1, nn1⟩, -, X1, ⟨Lc1, hQ1, l1, y1, z1⟩, st1⟩ := Jvm.LawKit.callS X0 hx (y := ym4) hown (mvT hZ (wk29 hw)) (mvT hZ (wk30 hw)) (mvT hZ (wk31 hw)) (mvT hZ (wk32 hw)) (by decide) (backOf (W := 0) (rm5_4 l Z a0 hw w hW [] q1 q2 h0 n0 O0 c1) hZ (wk32 hw) (wk31 hw) (by decide) (by decide)) (g := (mkF m 2 La [(.int q2), (.int q1)])) rfl (by rw [hml]; rfl) (argsL := [(.int q1), (.int q2)]) (rest := []) (lenOf pds_3 rfl) rfl (by show 2 * 0 + _ ≤ _; exact Nat.le_of_eq rfl) (hb hby d4_2) (fun _ _ => ⟨rfl, e0, (by decide : 0 + 0 ≤ _), (by decide : 0 + 0 ≤ _)⟩)
  dsimp only [Pt.U, Pt.locs, Pt.cells, Pt.slots] at X1 l1 y1 z1 st1 hQ1
  subst l1 y1 z1
  obtain ⟨rfl, N1q, e1⟩ := hQ1
  have N1 := Fr.app N0 N1q
  let Lb2 : Array Slot := #[.val (.ref (w 3)), .val (.int q1), .val (.int q2), .val (.int (-1 : Int32))]
  obtain ⟨cq3, kq3, q3a, q3b, q3c⟩ := isOf hZ e1 ((wd7 hW).ext O0.2)
  obtain ⟨_, _, ⟨T3, L3, kk3, nn3⟩, -, X3, ⟨Lc3, hQ3, l3, y3, z3⟩, st3⟩ := X1.virtualBackUp hx (x := ym2) (y := ym1) hown (mvT hZ (wk13 hw)) (mvT hZ (wk14 hw)) (mvT hZ (wk15 hw)) (by decide) (mvT hZ (wk17 hw)) (mvT hZ (wk16 hw)) (backOf (W := 0) (rm3_19 l Z a0 hw w hW []  h0 n0 O0 ) hZ (wk19 hw) (wk18 hw) (by decide) (by decide)) q3a q3c (g := (mkF m 7 Lb2 [(.ref (w 3))])) rfl (by rw [hml]; rfl) (Steps.refl _) (argsL := []) (rest := []) (lenOf pds_1 rfl) rfl (by show 2 * 0 + _ ≤ _; exact Nat.le_of_eq rfl) (hb hby d4_7) (fun _ _ => ⟨rfl, e1, (by decide : 0 + 0 ≤ _), (by decide : 0 + 0 ≤ _)⟩)
  dsimp only [Pt.U, Pt.locs, Pt.cells, Pt.slots] at X3 l3 y3 z3 st3 hQ3
  subst l3 y3 z3
  obtain ⟨rfl, N3q, e3⟩ := hQ3
  have N3 := Fr.app N1 N3q
  obtain ⟨fs, hr, hrun, hended, hWm, hsame⟩ := X3.leave (v := some (.int (0 : Int32))) (fun h => by rw [Bd.returns] at h; cases h)
  refine ⟨_, _, pre0 _ ?_, hrun, hended, _, _, rfl, ?_, ⟨_, rfl⟩, hWm, hsame.mono (by decide) (by decide)⟩
  · show Steps p.tables e below (s₁.setTop (mkF m 0 La [])) _
    refine sI X0 hx hby d4_0 rfl ?_
    refine sI X0 hx hby d4_1 rfl ?_
    refine st1 _ ?_
    refine XS.istoreN X1.here hx rfl (hb hby d4_5) rfl (l' := Lb2) rfl ?_
    refine sA X1 hx hby d4_6 rfl rfl ?_
    refine st3.trans ?_
    refine XS.tswIn X3.here hx rfl (pc0 := 10) (pc' := 118) (o := 108) rfl (hb hby d4_10) rfl (by decide) (by decide) (by decide) (by decide) ?_
    refine sI X3 hx hby d4_118 rfl ?_
    refine XS.ifYes X3.here hx rfl (pc0 := 119) (pc' := 126) rfl (hb hby d4_119) rfl (by decide) (by decide) (by decide) ?_
    refine sc X3 hx hby d4_126 ?_
    exact retN X3 hx (t := .boolean) Bd.returns (by simp) (hb hby d4_127) hr
  · show Q4_20 Z w q1 q2 h0 n0 _ T3.heap _
    rw [e3]
    exact ⟨rfl, N3, rfl⟩
theorem d4_82 : decode prog_75_method_7_code 82 = .ok (.iload_n 3, 1) := by decide +kernel
theorem d4_83 : decode prog_75_method_7_code 83 = .ok (.ifCond .ge 7, 3) := by decide +kernel
theorem d4_86 : decode prog_75_method_7_code 86 = .ok (.iconst 1, 1) := by decide +kernel
theorem d4_87 : decode prog_75_method_7_code 87 = .ok (.goto 40, 3) := by decide +kernel
theorem ef_4_21 (m : MethodId) (w : Nat → Addr) (q1 : Int32) (q2 : Int32) : entryFrame m #[(.ref (w 2)), (.int q1), (.int q2)] 4 = mkF m 0 #[.val (.ref (w 2)), .val (.int q1), .val (.int q2), .unset] [] := by first | (simp [entryFrame, mkF, argsToLocals, Value.category]; done) | rfl
def Q4_21 (Z : State) (w : Nat → Addr) (q1 : Int32) (q2 : Int32) (h0 : Heap) (n0 : Nat) (v : Option Value) (h : Heap) (L : List Loc) : Prop := v = some (.int (1 : Int32)) ∧ Fr n0 L ∧ h = h0
set_option maxRecDepth 65536 in
set_option maxHeartbeats 40000000 in
theorem rm4_21 (l : Launch) (Z : State) (a0 : Array Value) (hw : ∀ d ∈ tables_1, d.before a0 Z = true) (w : Nat → Addr) (hW : Wd Z w) (ws : List Jvm.Cond) (q1 : Int32) (q2 : Int32) (h0 : Heap) (n0 : Nat) (O0 : Old Z n0 h0) (c1 : q1 < q2) :
    MetFree l ym5 (head1 (Jvm.Cond.code ym5 prog_75_method_7_code 4 (some .boolean) :: ws) ({ frames := 1, cells := 0, slots := 0, locals := 13 } : Room)) (fun a U => a = #[(.ref (w 2)), (.int q1), (.int q2)] ∧ Z.Warmed39 U.vm ∧ U.heap = h0) (fun _ _ _ _ _ => True) (fun _ U o U' => ∃ v L, o = .returned v ∧ Q4_21 Z w q1 q2 h0 n0 v U'.heap L ∧ FrameEnd U o U' L ({ frames := 1, cells := 0, slots := 0, locals := 13 } : Room).cells ({ frames := 1, cells := 0, slots := 0, locals := 13 } : Room).slots) := by
  refine MetFree.of_bodySF (plainFor_of_name pnc_2) hisR ?_
  intro p e s m args below meth c s₁ Bd hml0 hP hK
  obtain ⟨rfl, hZ, hh⟩ := hP
  have hx := Bd.exec
  have hby := Bd.bytes
  have hml : c.maxLocals = 4 := hml0
  have hown : s.vm.findClass "com/example/gofyn/gofyn/typed/Term$Operator" = some m.cls := findClass_of_methodNamed Bd.named
  have hnm := (name_of_methodNamed Bd.named Bd.method).1
  have X0 : Stand p l e ({ frames := 1, cells := 0, slots := 0, locals := 13 } : Room) s m #[(.ref (w 2)), (.int q1), (.int q2)] below meth c s₁ [] 0 0 := Stand.of_body Bd
  have e0 : s₁.heap = h0 := by rw [← hh, Bd.state]; rfl
  have N0 := Fr.nil n0
  let La : Array Slot := #[.val (.ref (w 2)), .val (.int q1), .val (.int q2), .unset]
  have pre0 : ∀ t, Steps p.tables e below (s₁.setTop (mkF m 0 #[.val (.ref (w 2)), .val (.int q1), .val (.int q2), .unset] [])) t → Steps p.tables e below (s₁.setTop (entryFrame m #[(.ref (w 2)), (.int q1), (.int q2)] 4)) t := fun t k => castTop (ef_4_21 m w q1 q2) k
  obtain ⟨_, _, ⟨T1, L1, kk1, nn1⟩, -, X1, ⟨Lc1, hQ1, l1, y1, z1⟩, st1⟩ := Jvm.LawKit.callS X0 hx (y := ym4) hown (mvT hZ (wk29 hw)) (mvT hZ (wk30 hw)) (mvT hZ (wk31 hw)) (mvT hZ (wk32 hw)) (by decide) (backOf (W := 0) (rm5_4 l Z a0 hw w hW [] q1 q2 h0 n0 O0 c1) hZ (wk32 hw) (wk31 hw) (by decide) (by decide)) (g := (mkF m 2 La [(.int q2), (.int q1)])) rfl (by rw [hml]; rfl) (argsL := [(.int q1), (.int q2)]) (rest := []) (lenOf pds_3 rfl) rfl (by show 2 * 0 + _ ≤ _; exact Nat.le_of_eq rfl) (hb hby d4_2) (fun _ _ => ⟨rfl, e0, (by decide : 0 + 0 ≤ _), (by decide : 0 + 0 ≤ _)⟩)
  dsimp only [Pt.U, Pt.locs, Pt.cells, Pt.slots] at X1 l1 y1 z1 st1 hQ1
  subst l1 y1 z1
  obtain ⟨rfl, N1q, e1⟩ := hQ1
  have N1 := Fr.app N0 N1q
  let Lb2 : Array Slot := #[.val (.ref (w 2)), .val (.int q1), .val (.int q2), .val (.int (-1 : Int32))]
  obtain ⟨cq3, kq3, q3a, q3b, q3c⟩ := isOf hZ e1 ((wd5 hW).ext O0.2)
  obtain ⟨_, _, ⟨T3, L3, kk3, nn3⟩, -, X3, ⟨Lc3, hQ3, l3, y3, z3⟩, st3⟩ := X1.virtualBackUp hx (x := ym2) (y := ym1) hown (mvT hZ (wk13 hw)) (mvT hZ (wk14 hw)) (mvT hZ (wk15 hw)) (by decide) (mvT hZ (wk17 hw)) (mvT hZ (wk16 hw)) (backOf (W := 0) (rm3_17 l Z a0 hw w hW []  h0 n0 O0 ) hZ (wk19 hw) (wk18 hw) (by decide) (by decide)) q3a q3c (g := (mkF m 7 Lb2 [(.ref (w 2))])) rfl (by rw [hml]; rfl) (Steps.refl _) (argsL := []) (rest := []) (lenOf pds_1 rfl) rfl (by show 2 * 0 + _ ≤ _; exact Nat.le_of_eq rfl) (hb hby d4_7) (fun _ _ => ⟨rfl, e1, (by decide : 0 + 0 ≤ _), (by decide : 0 + 0 ≤ _)⟩)
  dsimp only [Pt.U, Pt.locs, Pt.cells, Pt.slots] at X3 l3 y3 z3 st3 hQ3
  subst l3 y3 z3
  obtain ⟨rfl, N3q, e3⟩ := hQ3
  have N3 := Fr.app N1 N3q
  obtain ⟨fs, hr, hrun, hended, hWm, hsame⟩ := X3.leave (v := some (.int (1 : Int32))) (fun h => by rw [Bd.returns] at h; cases h)
  refine ⟨_, _, pre0 _ ?_, hrun, hended, _, _, rfl, ?_, ⟨_, rfl⟩, hWm, hsame.mono (by decide) (by decide)⟩
  · show Steps p.tables e below (s₁.setTop (mkF m 0 La [])) _
    refine sI X0 hx hby d4_0 rfl ?_
    refine sI X0 hx hby d4_1 rfl ?_
    refine st1 _ ?_
    refine XS.istoreN X1.here hx rfl (hb hby d4_5) rfl (l' := Lb2) rfl ?_
    refine sA X1 hx hby d4_6 rfl rfl ?_
    refine st3.trans ?_
    refine XS.tswIn X3.here hx rfl (pc0 := 10) (pc' := 82) (o := 72) rfl (hb hby d4_10) rfl (by decide) (by decide) (by decide) (by decide) ?_
    refine sI X3 hx hby d4_82 rfl ?_
    refine sN X3 hx hby d4_83 (by decide) ?_
    refine sc X3 hx hby d4_86 ?_
    refine sg (pc := 87) (pc' := 127) X3 hx hby d4_87 (by decide) (by decide) ?_
    show Steps p.tables e below (T3.setTop (mkF m 127 Lb2 [(.int (1 : Int32))])) _
    exact retN X3 hx (t := .boolean) Bd.returns (by simp) (hb hby d4_127) hr
  · show Q4_21 Z w q1 q2 h0 n0 _ T3.heap _
    rw [e3]
    exact ⟨rfl, N3, rfl⟩
theorem d2_84 : decode prog_75_method_5_code 84 = .ok (.getstatic 10, 3) := by decide +kernel
theorem ef_2_22 (m : MethodId) (w : Nat → Addr) : entryFrame m #[(.ref (w 3))] 1 = mkF m 0 #[.val (.ref (w 3))] [] := by first | (simp [entryFrame, mkF, argsToLocals, Value.category]; done) | rfl
def Q2_22 (Z : State) (w : Nat → Addr) (h0 : Heap) (n0 : Nat) (v : Option Value) (h : Heap) (L : List Loc) : Prop := v = some (.ref (w 2)) ∧ Fr n0 L ∧ h = h0
set_option maxRecDepth 65536 in
set_option maxHeartbeats 40000000 in
theorem rm2_22 (l : Launch) (Z : State) (a0 : Array Value) (hw : ∀ d ∈ tables_1, d.before a0 Z = true) (w : Nat → Addr) (hW : Wd Z w) (ws : List Jvm.Cond) (h0 : Heap) (n0 : Nat) (O0 : Old Z n0 h0) :
    MetFree l ym3 (head1 (Jvm.Cond.code ym3 prog_75_method_5_code 1 (some (.object "com/example/gofyn/gofyn/typed/Term$Operator")) :: ws) ({ frames := 1, cells := 0, slots := 0, locals := 12 } : Room)) (fun a U => a = #[(.ref (w 3))] ∧ Z.Warmed39 U.vm ∧ U.heap = h0) (fun _ _ _ _ _ => True) (fun _ U o U' => ∃ v L, o = .returned v ∧ Q2_22 Z w h0 n0 v U'.heap L ∧ FrameEnd U o U' L ({ frames := 1, cells := 0, slots := 0, locals := 12 } : Room).cells ({ frames := 1, cells := 0, slots := 0, locals := 12 } : Room).slots) := by
  refine MetFree.of_bodySF (plainFor_of_name pnc_2) hisR ?_
  intro p e s m args below meth c s₁ Bd hml0 hP hK
  obtain ⟨rfl, hZ, hh⟩ := hP
  have hx := Bd.exec
  have hby := Bd.bytes
  have hml : c.maxLocals = 1 := hml0
  have hown : s.vm.findClass "com/example/gofyn/gofyn/typed/Term$Operator" = some m.cls := findClass_of_methodNamed Bd.named
  have hnm := (name_of_methodNamed Bd.named Bd.method).1
  have X0 : Stand p l e ({ frames := 1, cells := 0, slots := 0, locals := 12 } : Room) s m #[(.ref (w 3))] below meth c s₁ [] 0 0 := Stand.of_body Bd
  have e0 : s₁.heap = h0 := by rw [← hh, Bd.state]; rfl
  have N0 := Fr.nil n0
  skip
  have pre0 : ∀ t, Steps p.tables e below (s₁.setTop (mkF m 0 #[.val (.ref (w 3))] [])) t → Steps p.tables e below (s₁.setTop (entryFrame m #[(.ref (w 3))] 1)) t := fun t k => castTop (ef_2_22 m w) k
  obtain ⟨cq1, kq1, q1a, q1b, q1c⟩ := isOf hZ e0 ((wd7 hW).ext O0.2)
  obtain ⟨_, _, ⟨T1, L1, kk1, nn1⟩, -, X1, ⟨Lc1, hQ1, l1, y1, z1⟩, st1⟩ := X0.virtualBackUp hx (x := ym2) (y := ym1) hown (mvT hZ (wk13 hw)) (mvT hZ (wk14 hw)) (mvT hZ (wk15 hw)) (by decide) (mvT hZ (wk17 hw)) (mvT hZ (wk16 hw)) (backOf (W := 0) (rm3_19 l Z a0 hw w hW []  h0 n0 O0 ) hZ (wk19 hw) (wk18 hw) (by decide) (by decide)) q1a q1c (g := (mkF m 1 #[.val (.ref (w 3))] [(.ref (w 3))])) rfl (by rw [hml]; rfl) (Steps.refl _) (argsL := []) (rest := []) (lenOf pds_1 rfl) rfl (by show 2 * 0 + _ ≤ _; exact Nat.le_of_eq rfl) (hb hby d2_1) (fun _ _ => ⟨rfl, e0, (by decide : 0 + 0 ≤ _), (by decide : 0 + 0 ≤ _)⟩)
  dsimp only [Pt.U, Pt.locs, Pt.cells, Pt.slots] at X1 l1 y1 z1 st1 hQ1
  subst l1 y1 z1
  obtain ⟨rfl, N1q, e1⟩ := hQ1
  have N1 := Fr.app N0 N1q
  obtain ⟨T2, X2, e2, st2⟩ := getS2 X1 hx hZ hown (host := "") (Or.inl (wk39 hw)) Via.refl e1 ((wd4 hW).ext O0.2) (g := (mkF m 84 #[.val (.ref (w 3))] [])) rfl (hb hby d2_84)
  obtain ⟨fs, hr, hrun, hended, hWm, hsame⟩ := X2.leave (v := some (.ref (w 2))) (fun h => by rw [Bd.returns] at h; cases h)
  refine ⟨_, _, pre0 _ ?_, hrun, hended, _, _, rfl, ?_, ⟨_, rfl⟩, hWm, hsame.mono (by decide) (by decide)⟩
  · show Steps p.tables e below (s₁.setTop (mkF m 0 #[.val (.ref (w 3))] [])) _
    refine sA X0 hx hby d2_0 rfl rfl ?_
    refine st1.trans ?_
    refine XS.tswIn X1.here hx rfl (pc0 := 4) (pc' := 84) (o := 80) rfl (hb hby d2_4) rfl (by decide) (by decide) (by decide) (by decide) ?_
    refine st2 _ ?_
    jvm_step X2.here [X2.here.top, hx, (hb hby d2_87), X2.method', Bd.returns, Value.isRef, FieldType.isReference]
    first | (intro acts; rw [hr _ acts rfl rfl rfl]) | rw [hr _ _ rfl rfl rfl]
    exact Steps.refl _
  · show Q2_22 Z w h0 n0 _ T2.heap _
    rw [e2]
    exact ⟨rfl, N1, rfl⟩
theorem d4_122 : decode prog_75_method_7_code 122 = .ok (.iconst 1, 1) := by decide +kernel
theorem d4_123 : decode prog_75_method_7_code 123 = .ok (.goto 4, 3) := by decide +kernel
theorem ef_4_23 (m : MethodId) (w : Nat → Addr) (q1 : Int32) (q2 : Int32) : entryFrame m #[(.ref (w 3)), (.int q1), (.int q2)] 4 = mkF m 0 #[.val (.ref (w 3)), .val (.int q1), .val (.int q2), .unset] [] := by first | (simp [entryFrame, mkF, argsToLocals, Value.category]; done) | rfl
def Q4_23 (Z : State) (w : Nat → Addr) (q1 : Int32) (q2 : Int32) (h0 : Heap) (n0 : Nat) (v : Option Value) (h : Heap) (L : List Loc) : Prop := v = some (.int (1 : Int32)) ∧ Fr n0 L ∧ h = h0
set_option maxRecDepth 65536 in
set_option maxHeartbeats 40000000 in
theorem rm4_23 (l : Launch) (Z : State) (a0 : Array Value) (hw : ∀ d ∈ tables_1, d.before a0 Z = true) (w : Nat → Addr) (hW : Wd Z w) (ws : List Jvm.Cond) (q1 : Int32) (q2 : Int32) (h0 : Heap) (n0 : Nat) (O0 : Old Z n0 h0) (c1 : ¬ (q1 < q2)) (c2 : q1 = q2) :
    MetFree l ym5 (head1 (Jvm.Cond.code ym5 prog_75_method_7_code 4 (some .boolean) :: ws) ({ frames := 1, cells := 0, slots := 0, locals := 13 } : Room)) (fun a U => a = #[(.ref (w 3)), (.int q1), (.int q2)] ∧ Z.Warmed39 U.vm ∧ U.heap = h0) (fun _ _ _ _ _ => True) (fun _ U o U' => ∃ v L, o = .returned v ∧ Q4_23 Z w q1 q2 h0 n0 v U'.heap L ∧ FrameEnd U o U' L ({ frames := 1, cells := 0, slots := 0, locals := 13 } : Room).cells ({ frames := 1, cells := 0, slots := 0, locals := 13 } : Room).slots) := by
  refine MetFree.of_bodySF (plainFor_of_name pnc_2) hisR ?_
  intro p e s m args below meth c s₁ Bd hml0 hP hK
  obtain ⟨rfl, hZ, hh⟩ := hP
  have hx := Bd.exec
  have hby := Bd.bytes
  have hml : c.maxLocals = 4 := hml0
  have hown : s.vm.findClass "com/example/gofyn/gofyn/typed/Term$Operator" = some m.cls := findClass_of_methodNamed Bd.named
  have hnm := (name_of_methodNamed Bd.named Bd.method).1
  have X0 : Stand p l e ({ frames := 1, cells := 0, slots := 0, locals := 13 } : Room) s m #[(.ref (w 3)), (.int q1), (.int q2)] below meth c s₁ [] 0 0 := Stand.of_body Bd
  have e0 : s₁.heap = h0 := by rw [← hh, Bd.state]; rfl
  have N0 := Fr.nil n0
  let La : Array Slot := #[.val (.ref (w 3)), .val (.int q1), .val (.int q2), .unset]
  have pre0 : ∀ t, Steps p.tables e below (s₁.setTop (mkF m 0 #[.val (.ref (w 3)), .val (.int q1), .val (.int q2), .unset] [])) t → Steps p.tables e below (s₁.setTop (entryFrame m #[(.ref (w 3)), (.int q1), (.int q2)] 4)) t := fun t k => castTop (ef_4_23 m w q1 q2) k
  obtain ⟨_, _, ⟨T1, L1, kk1, nn1⟩, -, X1, ⟨Lc1, hQ1, l1, y1, z1⟩, st1⟩ := Jvm.LawKit.callS X0 hx (y := ym4) hown (mvT hZ (wk29 hw)) (mvT hZ (wk30 hw)) (mvT hZ (wk31 hw)) (mvT hZ (wk32 hw)) (by decide) (backOf (W := 0) (rm5_9 l Z a0 hw w hW [] q1 q2 h0 n0 O0 c1 c2) hZ (wk32 hw) (wk31 hw) (by decide) (by decide)) (g := (mkF m 2 La [(.int q2), (.int q1)])) rfl (by rw [hml]; rfl) (argsL := [(.int q1), (.int q2)]) (rest := []) (lenOf pds_3 rfl) rfl (by show 2 * 0 + _ ≤ _; exact Nat.le_of_eq rfl) (hb hby d4_2) (fun _ _ => ⟨rfl, e0, (by decide : 0 + 0 ≤ _), (by decide : 0 + 0 ≤ _)⟩)
  dsimp only [Pt.U, Pt.locs, Pt.cells, Pt.slots] at X1 l1 y1 z1 st1 hQ1
  subst l1 y1 z1
  obtain ⟨rfl, N1q, e1⟩ := hQ1
  have N1 := Fr.app N0 N1q
  let Lb2 : Array Slot := #[.val (.ref (w 3)), .val (.int q1), .val (.int q2), .val (.int (0 : Int32))]
  obtain ⟨cq3, kq3, q3a, q3b, q3c⟩ := isOf hZ e1 ((wd7 hW).ext O0.2)
  obtain ⟨_, _, ⟨T3, L3, kk3, nn3⟩, -, X3, ⟨Lc3, hQ3, l3, y3, z3⟩, st3⟩ := X1.virtualBackUp hx (x := ym2) (y := ym1) hown (mvT hZ (wk13 hw)) (mvT hZ (wk14 hw)) (mvT hZ (wk15 hw)) (by decide) (mvT hZ (wk17 hw)) (mvT hZ (wk16 hw)) (backOf (W := 0) (rm3_19 l Z a0 hw w hW []  h0 n0 O0 ) hZ (wk19 hw) (wk18 hw) (by decide) (by decide)) q3a q3c (g := (mkF m 7 Lb2 [(.ref (w 3))])) rfl (by rw [hml]; rfl) (Steps.refl _) (argsL := []) (rest := []) (lenOf pds_1 rfl) rfl (by show 2 * 0 + _ ≤ _; exact Nat.le_of_eq rfl) (hb hby d4_7) (fun _ _ => ⟨rfl, e1, (by decide : 0 + 0 ≤ _), (by decide : 0 + 0 ≤ _)⟩)
  dsimp only [Pt.U, Pt.locs, Pt.cells, Pt.slots] at X3 l3 y3 z3 st3 hQ3
  subst l3 y3 z3
  obtain ⟨rfl, N3q, e3⟩ := hQ3
  have N3 := Fr.app N1 N3q
  obtain ⟨fs, hr, hrun, hended, hWm, hsame⟩ := X3.leave (v := some (.int (1 : Int32))) (fun h => by rw [Bd.returns] at h; cases h)
  refine ⟨_, _, pre0 _ ?_, hrun, hended, _, _, rfl, ?_, ⟨_, rfl⟩, hWm, hsame.mono (by decide) (by decide)⟩
  · show Steps p.tables e below (s₁.setTop (mkF m 0 La [])) _
    refine sI X0 hx hby d4_0 rfl ?_
    refine sI X0 hx hby d4_1 rfl ?_
    refine st1 _ ?_
    refine XS.istoreN X1.here hx rfl (hb hby d4_5) rfl (l' := Lb2) rfl ?_
    refine sA X1 hx hby d4_6 rfl rfl ?_
    refine st3.trans ?_
    refine XS.tswIn X3.here hx rfl (pc0 := 10) (pc' := 118) (o := 108) rfl (hb hby d4_10) rfl (by decide) (by decide) (by decide) (by decide) ?_
    refine sI X3 hx hby d4_118 rfl ?_
    refine sN X3 hx hby d4_119 (by decide) ?_
    refine sc X3 hx hby d4_122 ?_
    refine sg (pc := 123) (pc' := 127) X3 hx hby d4_123 (by decide) (by decide) ?_
    show Steps p.tables e below (T3.setTop (mkF m 127 Lb2 [(.int (1 : Int32))])) _
    exact retN X3 hx (t := .boolean) Bd.returns (by simp) (hb hby d4_127) hr
  · show Q4_23 Z w q1 q2 h0 n0 _ T3.heap _
    rw [e3]
    exact ⟨rfl, N3, rfl⟩
theorem d4_90 : decode prog_75_method_7_code 90 = .ok (.iconst 0, 1) := by decide +kernel
theorem d4_91 : decode prog_75_method_7_code 91 = .ok (.goto 36, 3) := by decide +kernel
theorem ef_4_24 (m : MethodId) (w : Nat → Addr) (q1 : Int32) (q2 : Int32) : entryFrame m #[(.ref (w 2)), (.int q1), (.int q2)] 4 = mkF m 0 #[.val (.ref (w 2)), .val (.int q1), .val (.int q2), .unset] [] := by first | (simp [entryFrame, mkF, argsToLocals, Value.category]; done) | rfl
def Q4_24 (Z : State) (w : Nat → Addr) (q1 : Int32) (q2 : Int32) (h0 : Heap) (n0 : Nat) (v : Option Value) (h : Heap) (L : List Loc) : Prop := v = some (.int (0 : Int32)) ∧ Fr n0 L ∧ h = h0
set_option maxRecDepth 65536 in
set_option maxHeartbeats 40000000 in
theorem rm4_24 (l : Launch) (Z : State) (a0 : Array Value) (hw : ∀ d ∈ tables_1, d.before a0 Z = true) (w : Nat → Addr) (hW : Wd Z w) (ws : List Jvm.Cond) (q1 : Int32) (q2 : Int32) (h0 : Heap) (n0 : Nat) (O0 : Old Z n0 h0) (c1 : ¬ (q1 < q2)) (c2 : q1 = q2) :
    MetFree l ym5 (head1 (Jvm.Cond.code ym5 prog_75_method_7_code 4 (some .boolean) :: ws) ({ frames := 1, cells := 0, slots := 0, locals := 13 } : Room)) (fun a U => a = #[(.ref (w 2)), (.int q1), (.int q2)] ∧ Z.Warmed39 U.vm ∧ U.heap = h0) (fun _ _ _ _ _ => True) (fun _ U o U' => ∃ v L, o = .returned v ∧ Q4_24 Z w q1 q2 h0 n0 v U'.heap L ∧ FrameEnd U o U' L ({ frames := 1, cells := 0, slots := 0, locals := 13 } : Room).cells ({ frames := 1, cells := 0, slots := 0, locals := 13 } : Room).slots) := by
  refine MetFree.of_bodySF (plainFor_of_name pnc_2) hisR ?_
  intro p e s m args below meth c s₁ Bd hml0 hP hK
  obtain ⟨rfl, hZ, hh⟩ := hP
  have hx := Bd.exec
  have hby := Bd.bytes
  have hml : c.maxLocals = 4 := hml0
  have hown : s.vm.findClass "com/example/gofyn/gofyn/typed/Term$Operator" = some m.cls := findClass_of_methodNamed Bd.named
  have hnm := (name_of_methodNamed Bd.named Bd.method).1
  have X0 : Stand p l e ({ frames := 1, cells := 0, slots := 0, locals := 13 } : Room) s m #[(.ref (w 2)), (.int q1), (.int q2)] below meth c s₁ [] 0 0 := Stand.of_body Bd
  have e0 : s₁.heap = h0 := by rw [← hh, Bd.state]; rfl
  have N0 := Fr.nil n0
  let La : Array Slot := #[.val (.ref (w 2)), .val (.int q1), .val (.int q2), .unset]
  have pre0 : ∀ t, Steps p.tables e below (s₁.setTop (mkF m 0 #[.val (.ref (w 2)), .val (.int q1), .val (.int q2), .unset] [])) t → Steps p.tables e below (s₁.setTop (entryFrame m #[(.ref (w 2)), (.int q1), (.int q2)] 4)) t := fun t k => castTop (ef_4_24 m w q1 q2) k
  obtain ⟨_, _, ⟨T1, L1, kk1, nn1⟩, -, X1, ⟨Lc1, hQ1, l1, y1, z1⟩, st1⟩ := Jvm.LawKit.callS X0 hx (y := ym4) hown (mvT hZ (wk29 hw)) (mvT hZ (wk30 hw)) (mvT hZ (wk31 hw)) (mvT hZ (wk32 hw)) (by decide) (backOf (W := 0) (rm5_9 l Z a0 hw w hW [] q1 q2 h0 n0 O0 c1 c2) hZ (wk32 hw) (wk31 hw) (by decide) (by decide)) (g := (mkF m 2 La [(.int q2), (.int q1)])) rfl (by rw [hml]; rfl) (argsL := [(.int q1), (.int q2)]) (rest := []) (lenOf pds_3 rfl) rfl (by show 2 * 0 + _ ≤ _; exact Nat.le_of_eq rfl) (hb hby d4_2) (fun _ _ => ⟨rfl, e0, (by decide : 0 + 0 ≤ _), (by decide : 0 + 0 ≤ _)⟩)
  dsimp only [Pt.U, Pt.locs, Pt.cells, Pt.slots] at X1 l1 y1 z1 st1 hQ1
  subst l1 y1 z1
  obtain ⟨rfl, N1q, e1⟩ := hQ1
  have N1 := Fr.app N0 N1q
  let Lb2 : Array Slot := #[.val (.ref (w 2)), .val (.int q1), .val (.int q2), .val (.int (0 : Int32))]
  obtain ⟨cq3, kq3, q3a, q3b, q3c⟩ := isOf hZ e1 ((wd5 hW).ext O0.2)
  obtain ⟨_, _, ⟨T3, L3, kk3, nn3⟩, -, X3, ⟨Lc3, hQ3, l3, y3, z3⟩, st3⟩ := X1.virtualBackUp hx (x := ym2) (y := ym1) hown (mvT hZ (wk13 hw)) (mvT hZ (wk14 hw)) (mvT hZ (wk15 hw)) (by decide) (mvT hZ (wk17 hw)) (mvT hZ (wk16 hw)) (backOf (W := 0) (rm3_17 l Z a0 hw w hW []  h0 n0 O0 ) hZ (wk19 hw) (wk18 hw) (by decide) (by decide)) q3a q3c (g := (mkF m 7 Lb2 [(.ref (w 2))])) rfl (by rw [hml]; rfl) (Steps.refl _) (argsL := []) (rest := []) (lenOf pds_1 rfl) rfl (by show 2 * 0 + _ ≤ _; exact Nat.le_of_eq rfl) (hb hby d4_7) (fun _ _ => ⟨rfl, e1, (by decide : 0 + 0 ≤ _), (by decide : 0 + 0 ≤ _)⟩)
  dsimp only [Pt.U, Pt.locs, Pt.cells, Pt.slots] at X3 l3 y3 z3 st3 hQ3
  subst l3 y3 z3
  obtain ⟨rfl, N3q, e3⟩ := hQ3
  have N3 := Fr.app N1 N3q
  obtain ⟨fs, hr, hrun, hended, hWm, hsame⟩ := X3.leave (v := some (.int (0 : Int32))) (fun h => by rw [Bd.returns] at h; cases h)
  refine ⟨_, _, pre0 _ ?_, hrun, hended, _, _, rfl, ?_, ⟨_, rfl⟩, hWm, hsame.mono (by decide) (by decide)⟩
  · show Steps p.tables e below (s₁.setTop (mkF m 0 La [])) _
    refine sI X0 hx hby d4_0 rfl ?_
    refine sI X0 hx hby d4_1 rfl ?_
    refine st1 _ ?_
    refine XS.istoreN X1.here hx rfl (hb hby d4_5) rfl (l' := Lb2) rfl ?_
    refine sA X1 hx hby d4_6 rfl rfl ?_
    refine st3.trans ?_
    refine XS.tswIn X3.here hx rfl (pc0 := 10) (pc' := 82) (o := 72) rfl (hb hby d4_10) rfl (by decide) (by decide) (by decide) (by decide) ?_
    refine sI X3 hx hby d4_82 rfl ?_
    refine XS.ifYes X3.here hx rfl (pc0 := 83) (pc' := 90) rfl (hb hby d4_83) rfl (by decide) (by decide) (by decide) ?_
    refine sc X3 hx hby d4_90 ?_
    refine sg (pc := 91) (pc' := 127) X3 hx hby d4_91 (by decide) (by decide) ?_
    show Steps p.tables e below (T3.setTop (mkF m 127 Lb2 [(.int (0 : Int32))])) _
    exact retN X3 hx (t := .boolean) Bd.returns (by simp) (hb hby d4_127) hr
  · show Q4_24 Z w q1 q2 h0 n0 _ T3.heap _
    rw [e3]
    exact ⟨rfl, N3, rfl⟩
theorem ef_4_25 (m : MethodId) (w : Nat → Addr) (q1 : Int32) (q2 : Int32) : entryFrame m #[(.ref (w 3)), (.int q1), (.int q2)] 4 = mkF m 0 #[.val (.ref (w 3)), .val (.int q1), .val (.int q2), .unset] [] := by first | (simp [entryFrame, mkF, argsToLocals, Value.category]; done) | rfl
def Q4_25 (Z : State) (w : Nat → Addr) (q1 : Int32) (q2 : Int32) (h0 : Heap) (n0 : Nat) (v : Option Value) (h : Heap) (L : List Loc) : Prop := v = some (.int (1 : Int32)) ∧ Fr n0 L ∧ h = h0
set_option maxRecDepth 65536 in
set_option maxHeartbeats 40000000 in
theorem rm4_25 (l : Launch) (Z : State) (a0 : Array Value) (hw : ∀ d ∈ tables_1, d.before a0 Z = true) (w : Nat → Addr) (hW : Wd Z w) (ws : List Jvm.Cond) (q1 : Int32) (q2 : Int32) (h0 : Heap) (n0 : Nat) (O0 : Old Z n0 h0) (c1 : ¬ (q1 < q2)) (c2 : ¬ (q1 = q2)) :
    MetFree l ym5 (head1 (Jvm.Cond.code ym5 prog_75_method_7_code 4 (some .boolean) :: ws) ({ frames := 1, cells := 0, slots := 0, locals := 13 } : Room)) (fun a U => a = #[(.ref (w 3)), (.int q1), (.int q2)] ∧ Z.Warmed39 U.vm ∧ U.heap = h0) (fun _ _ _ _ _ => True) (fun _ U o U' => ∃ v L, o = .returned v ∧ Q4_25 Z w q1 q2 h0 n0 v U'.heap L ∧ FrameEnd U o U' L ({ frames := 1, cells := 0, slots := 0, locals := 13 } : Room).cells ({ frames := 1, cells := 0, slots := 0, locals := 13 } : Room).slots) := by
  refine MetFree.of_bodySF (plainFor_of_name pnc_2) hisR ?_
  intro p e s m args below meth c s₁ Bd hml0 hP hK
  obtain ⟨rfl, hZ, hh⟩ := hP
  have hx := Bd.exec
  have hby := Bd.bytes
  have hml : c.maxLocals = 4 := hml0
  have hown : s.vm.findClass "com/example/gofyn/gofyn/typed/Term$Operator" = some m.cls := findClass_of_methodNamed Bd.named
  have hnm := (name_of_methodNamed Bd.named Bd.method).1
  have X0 : Stand p l e ({ frames := 1, cells := 0, slots := 0, locals := 13 } : Room) s m #[(.ref (w 3)), (.int q1), (.int q2)] below meth c s₁ [] 0 0 := Stand.of_body Bd
  have e0 : s₁.heap = h0 := by rw [← hh, Bd.state]; rfl
  have N0 := Fr.nil n0
  let La : Array Slot := #[.val (.ref (w 3)), .val (.int q1), .val (.int q2), .unset]
  have pre0 : ∀ t, Steps p.tables e below (s₁.setTop (mkF m 0 #[.val (.ref (w 3)), .val (.int q1), .val (.int q2), .unset] [])) t → Steps p.tables e below (s₁.setTop (entryFrame m #[(.ref (w 3)), (.int q1), (.int q2)] 4)) t := fun t k => castTop (ef_4_25 m w q1 q2) k
  obtain ⟨_, _, ⟨T1, L1, kk1, nn1⟩, -, X1, ⟨Lc1, hQ1, l1, y1, z1⟩, st1⟩ := Jvm.LawKit.callS X0 hx (y := ym4) hown (mvT hZ (wk29 hw)) (mvT hZ (wk30 hw)) (mvT hZ (wk31 hw)) (mvT hZ (wk32 hw)) (by decide) (backOf (W := 0) (rm5_12 l Z a0 hw w hW [] q1 q2 h0 n0 O0 c1 c2) hZ (wk32 hw) (wk31 hw) (by decide) (by decide)) (g := (mkF m 2 La [(.int q2), (.int q1)])) rfl (by rw [hml]; rfl) (argsL := [(.int q1), (.int q2)]) (rest := []) (lenOf pds_3 rfl) rfl (by show 2 * 0 + _ ≤ _; exact Nat.le_of_eq rfl) (hb hby d4_2) (fun _ _ => ⟨rfl, e0, (by decide : 0 + 0 ≤ _), (by decide : 0 + 0 ≤ _)⟩)
  dsimp only [Pt.U, Pt.locs, Pt.cells, Pt.slots] at X1 l1 y1 z1 st1 hQ1
  subst l1 y1 z1
  obtain ⟨rfl, N1q, e1⟩ := hQ1
  have N1 := Fr.app N0 N1q
  let Lb2 : Array Slot := #[.val (.ref (w 3)), .val (.int q1), .val (.int q2), .val (.int (1 : Int32))]
  obtain ⟨cq3, kq3, q3a, q3b, q3c⟩ := isOf hZ e1 ((wd7 hW).ext O0.2)
  obtain ⟨_, _, ⟨T3, L3, kk3, nn3⟩, -, X3, ⟨Lc3, hQ3, l3, y3, z3⟩, st3⟩ := X1.virtualBackUp hx (x := ym2) (y := ym1) hown (mvT hZ (wk13 hw)) (mvT hZ (wk14 hw)) (mvT hZ (wk15 hw)) (by decide) (mvT hZ (wk17 hw)) (mvT hZ (wk16 hw)) (backOf (W := 0) (rm3_19 l Z a0 hw w hW []  h0 n0 O0 ) hZ (wk19 hw) (wk18 hw) (by decide) (by decide)) q3a q3c (g := (mkF m 7 Lb2 [(.ref (w 3))])) rfl (by rw [hml]; rfl) (Steps.refl _) (argsL := []) (rest := []) (lenOf pds_1 rfl) rfl (by show 2 * 0 + _ ≤ _; exact Nat.le_of_eq rfl) (hb hby d4_7) (fun _ _ => ⟨rfl, e1, (by decide : 0 + 0 ≤ _), (by decide : 0 + 0 ≤ _)⟩)
  dsimp only [Pt.U, Pt.locs, Pt.cells, Pt.slots] at X3 l3 y3 z3 st3 hQ3
  subst l3 y3 z3
  obtain ⟨rfl, N3q, e3⟩ := hQ3
  have N3 := Fr.app N1 N3q
  obtain ⟨fs, hr, hrun, hended, hWm, hsame⟩ := X3.leave (v := some (.int (1 : Int32))) (fun h => by rw [Bd.returns] at h; cases h)
  refine ⟨_, _, pre0 _ ?_, hrun, hended, _, _, rfl, ?_, ⟨_, rfl⟩, hWm, hsame.mono (by decide) (by decide)⟩
  · show Steps p.tables e below (s₁.setTop (mkF m 0 La [])) _
    refine sI X0 hx hby d4_0 rfl ?_
    refine sI X0 hx hby d4_1 rfl ?_
    refine st1 _ ?_
    refine XS.istoreN X1.here hx rfl (hb hby d4_5) rfl (l' := Lb2) rfl ?_
    refine sA X1 hx hby d4_6 rfl rfl ?_
    refine st3.trans ?_
    refine XS.tswIn X3.here hx rfl (pc0 := 10) (pc' := 118) (o := 108) rfl (hb hby d4_10) rfl (by decide) (by decide) (by decide) (by decide) ?_
    refine sI X3 hx hby d4_118 rfl ?_
    refine sN X3 hx hby d4_119 (by decide) ?_
    refine sc X3 hx hby d4_122 ?_
    refine sg (pc := 123) (pc' := 127) X3 hx hby d4_123 (by decide) (by decide) ?_
    show Steps p.tables e below (T3.setTop (mkF m 127 Lb2 [(.int (1 : Int32))])) _
    exact retN X3 hx (t := .boolean) Bd.returns (by simp) (hb hby d4_127) hr
  · show Q4_25 Z w q1 q2 h0 n0 _ T3.heap _
    rw [e3]
    exact ⟨rfl, N3, rfl⟩
theorem ef_4_26 (m : MethodId) (w : Nat → Addr) (q1 : Int32) (q2 : Int32) : entryFrame m #[(.ref (w 2)), (.int q1), (.int q2)] 4 = mkF m 0 #[.val (.ref (w 2)), .val (.int q1), .val (.int q2), .unset] [] := by first | (simp [entryFrame, mkF, argsToLocals, Value.category]; done) | rfl
def Q4_26 (Z : State) (w : Nat → Addr) (q1 : Int32) (q2 : Int32) (h0 : Heap) (n0 : Nat) (v : Option Value) (h : Heap) (L : List Loc) : Prop := v = some (.int (0 : Int32)) ∧ Fr n0 L ∧ h = h0
set_option maxRecDepth 65536 in
set_option maxHeartbeats 40000000 in
theorem rm4_26 (l : Launch) (Z : State) (a0 : Array Value) (hw : ∀ d ∈ tables_1, d.before a0 Z = true) (w : Nat → Addr) (hW : Wd Z w) (ws : List Jvm.Cond) (q1 : Int32) (q2 : Int32) (h0 : Heap) (n0 : Nat) (O0 : Old Z n0 h0) (c1 : ¬ (q1 < q2)) (c2 : ¬ (q1 = q2)) :
    MetFree l ym5 (head1 (Jvm.Cond.code ym5 prog_75_method_7_code 4 (some .boolean) :: ws) ({ frames := 1, cells := 0, slots := 0, locals := 13 } : Room)) (fun a U => a = #[(.ref (w 2)), (.int q1), (.int q2)] ∧ Z.Warmed39 U.vm ∧ U.heap = h0) (fun _ _ _ _ _ => True) (fun _ U o U' => ∃ v L, o = .returned v ∧ Q4_26 Z w q1 q2 h0 n0 v U'.heap L ∧ FrameEnd U o U' L ({ frames := 1, cells := 0, slots := 0, locals := 13 } : Room).cells ({ frames := 1, cells := 0, slots := 0, locals := 13 } : Room).slots) := by
  refine MetFree.of_bodySF (plainFor_of_name pnc_2) hisR ?_
  intro p e s m args below meth c s₁ Bd hml0 hP hK
  obtain ⟨rfl, hZ, hh⟩ := hP
  have hx := Bd.exec
  have hby := Bd.bytes
  have hml : c.maxLocals = 4 := hml0
  have hown : s.vm.findClass "com/example/gofyn/gofyn/typed/Term$Operator" = some m.cls := findClass_of_methodNamed Bd.named
  have hnm := (name_of_methodNamed Bd.named Bd.method).1
  have X0 : Stand p l e ({ frames := 1, cells := 0, slots := 0, locals := 13 } : Room) s m #[(.ref (w 2)), (.int q1), (.int q2)] below meth c s₁ [] 0 0 := Stand.of_body Bd
  have e0 : s₁.heap = h0 := by rw [← hh, Bd.state]; rfl
  have N0 := Fr.nil n0
  let La : Array Slot := #[.val (.ref (w 2)), .val (.int q1), .val (.int q2), .unset]
  have pre0 : ∀ t, Steps p.tables e below (s₁.setTop (mkF m 0 #[.val (.ref (w 2)), .val (.int q1), .val (.int q2), .unset] [])) t → Steps p.tables e below (s₁.setTop (entryFrame m #[(.ref (w 2)), (.int q1), (.int q2)] 4)) t := fun t k => castTop (ef_4_26 m w q1 q2) k
  obtain ⟨_, _, ⟨T1, L1, kk1, nn1⟩, -, X1, ⟨Lc1, hQ1, l1, y1, z1⟩, st1⟩ := Jvm.LawKit.callS X0 hx (y := ym4) hown (mvT hZ (wk29 hw)) (mvT hZ (wk30 hw)) (mvT hZ (wk31 hw)) (mvT hZ (wk32 hw)) (by decide) (backOf (W := 0) (rm5_12 l Z a0 hw w hW [] q1 q2 h0 n0 O0 c1 c2) hZ (wk32 hw) (wk31 hw) (by decide) (by decide)) (g := (mkF m 2 La [(.int q2), (.int q1)])) rfl (by rw [hml]; rfl) (argsL := [(.int q1), (.int q2)]) (rest := []) (lenOf pds_3 rfl) rfl (by show 2 * 0 + _ ≤ _; exact Nat.le_of_eq rfl) (hb hby d4_2) (fun _ _ => ⟨rfl, e0, (by decide : 0 + 0 ≤ _), (by decide : 0 + 0 ≤ _)⟩)
  dsimp only [Pt.U, Pt.locs, Pt.cells, Pt.slots] at X1 l1 y1 z1 st1 hQ1
  subst l1 y1 z1
  obtain ⟨rfl, N1q, e1⟩ := hQ1
  have N1 := Fr.app N0 N1q
  let Lb2 : Array Slot := #[.val (.ref (w 2)), .val (.int q1), .val (.int q2), .val (.int (1 : Int32))]
  obtain ⟨cq3, kq3, q3a, q3b, q3c⟩ := isOf hZ e1 ((wd5 hW).ext O0.2)
  obtain ⟨_, _, ⟨T3, L3, kk3, nn3⟩, -, X3, ⟨Lc3, hQ3, l3, y3, z3⟩, st3⟩ := X1.virtualBackUp hx (x := ym2) (y := ym1) hown (mvT hZ (wk13 hw)) (mvT hZ (wk14 hw)) (mvT hZ (wk15 hw)) (by decide) (mvT hZ (wk17 hw)) (mvT hZ (wk16 hw)) (backOf (W := 0) (rm3_17 l Z a0 hw w hW []  h0 n0 O0 ) hZ (wk19 hw) (wk18 hw) (by decide) (by decide)) q3a q3c (g := (mkF m 7 Lb2 [(.ref (w 2))])) rfl (by rw [hml]; rfl) (Steps.refl _) (argsL := []) (rest := []) (lenOf pds_1 rfl) rfl (by show 2 * 0 + _ ≤ _; exact Nat.le_of_eq rfl) (hb hby d4_7) (fun _ _ => ⟨rfl, e1, (by decide : 0 + 0 ≤ _), (by decide : 0 + 0 ≤ _)⟩)
  dsimp only [Pt.U, Pt.locs, Pt.cells, Pt.slots] at X3 l3 y3 z3 st3 hQ3
  subst l3 y3 z3
  obtain ⟨rfl, N3q, e3⟩ := hQ3
  have N3 := Fr.app N1 N3q
  obtain ⟨fs, hr, hrun, hended, hWm, hsame⟩ := X3.leave (v := some (.int (0 : Int32))) (fun h => by rw [Bd.returns] at h; cases h)
  refine ⟨_, _, pre0 _ ?_, hrun, hended, _, _, rfl, ?_, ⟨_, rfl⟩, hWm, hsame.mono (by decide) (by decide)⟩
  · show Steps p.tables e below (s₁.setTop (mkF m 0 La [])) _
    refine sI X0 hx hby d4_0 rfl ?_
    refine sI X0 hx hby d4_1 rfl ?_
    refine st1 _ ?_
    refine XS.istoreN X1.here hx rfl (hb hby d4_5) rfl (l' := Lb2) rfl ?_
    refine sA X1 hx hby d4_6 rfl rfl ?_
    refine st3.trans ?_
    refine XS.tswIn X3.here hx rfl (pc0 := 10) (pc' := 82) (o := 72) rfl (hb hby d4_10) rfl (by decide) (by decide) (by decide) (by decide) ?_
    refine sI X3 hx hby d4_82 rfl ?_
    refine XS.ifYes X3.here hx rfl (pc0 := 83) (pc' := 90) rfl (hb hby d4_83) rfl (by decide) (by decide) (by decide) ?_
    refine sc X3 hx hby d4_90 ?_
    refine sg (pc := 91) (pc' := 127) X3 hx hby d4_91 (by decide) (by decide) ?_
    show Steps p.tables e below (T3.setTop (mkF m 127 Lb2 [(.int (0 : Int32))])) _
    exact retN X3 hx (t := .boolean) Bd.returns (by simp) (hb hby d4_127) hr
  · show Q4_26 Z w q1 q2 h0 n0 _ T3.heap _
    rw [e3]
    exact ⟨rfl, N3, rfl⟩
theorem d1_34 : decode method_2_code 34 = .ok (.iload_n 1, 1) := by decide +kernel
theorem d1_35 : decode method_2_code 35 = .ok (.iconst 3, 1) := by decide +kernel
theorem d1_36 : decode method_2_code 36 = .ok (.if_icmp .ne 7, 3) := by decide +kernel
theorem d1_39 : decode method_2_code 39 = .ok (.getstatic 20, 3) := by decide +kernel
theorem d1_42 : decode method_2_code 42 = .ok (.areturn, 1) := by decide +kernel
theorem ef_1_27 (m : MethodId) (q1 : Int32) : entryFrame m #[(.int q1)] 2 = mkF m 0 #[.val (.int q1), .unset] [] := by first | (simp [entryFrame, mkF, argsToLocals, Value.category]; done) | rfl
def Q1_27 (Z : State) (w : Nat → Addr) (q1 : Int32) (h0 : Heap) (n0 : Nat) (v : Option Value) (h : Heap) (L : List Loc) : Prop := v = some (.ref (w 4)) ∧ Fr n0 L ∧ h = h0
set_option maxRecDepth 65536 in
set_option maxHeartbeats 40000000 in
theorem rm1_27 (l : Launch) (Z : State) (a0 : Array Value) (hw : ∀ d ∈ tables_1, d.before a0 Z = true) (w : Nat → Addr) (hW : Wd Z w) (ws : List Jvm.Cond) (q1 : Int32) (h0 : Heap) (n0 : Nat) (O0 : Old Z n0 h0) (c1 : ¬ (((q1 &&& (2147483647 : Int32)) % (6 : Int32)) = (0 : Int32))) (c2 : ¬ (((q1 &&& (2147483647 : Int32)) % (6 : Int32)) = (1 : Int32))) (c3 : ¬ (((q1 &&& (2147483647 : Int32)) % (6 : Int32)) = (2 : Int32))) (c4 : ((q1 &&& (2147483647 : Int32)) % (6 : Int32)) = (3 : Int32)) :
    MetFree l ym0 (head1 (Jvm.Cond.code ym0 method_2_code 2 (some (.object "com/example/gofyn/gofyn/typed/Term$Operator")) :: ws) ({ frames := 0, cells := 0, slots := 0, locals := 0 } : Room)) (fun a U => a = #[(.int q1)] ∧ Z.Warmed39 U.vm ∧ U.heap = h0) (fun _ _ _ _ _ => True) (fun _ U o U' => ∃ v L, o = .returned v ∧ Q1_27 Z w q1 h0 n0 v U'.heap L ∧ FrameEnd U o U' L ({ frames := 0, cells := 0, slots := 0, locals := 0 } : Room).cells ({ frames := 0, cells := 0, slots := 0, locals := 0 } : Room).slots) := by
  refine MetFree.of_bodySF (plainFor_of_name pnc_0) hisR ?_
  intro p e s m args below meth c s₁ Bd hml0 hP hK
  obtain ⟨rfl, hZ, hh⟩ := hP
  have hx := Bd.exec
  have hby := Bd.bytes
  have hml : c.maxLocals = 2 := hml0
  have hown : s.vm.findClass "com/example/gofyn/gofyn/typed/OperatorComplementPinLaw" = some m.cls := findClass_of_methodNamed Bd.named
  have hnm := (name_of_methodNamed Bd.named Bd.method).1
  have X0 : Stand p l e ({ frames := 0, cells := 0, slots := 0, locals := 0 } : Room) s m #[(.int q1)] below meth c s₁ [] 0 0 := Stand.of_body Bd
  have e0 : s₁.heap = h0 := by rw [← hh, Bd.state]; rfl
  have N0 := Fr.nil n0
  skip
  have pre0 : ∀ t, Steps p.tables e below (s₁.setTop (mkF m 0 #[.val (.int q1), .unset] [])) t → Steps p.tables e below (s₁.setTop (entryFrame m #[(.int q1)] 2)) t := fun t k => castTop (ef_1_27 m q1) k
  let Lb1 : Array Slot := #[.val (.int q1), .val (.int ((q1 &&& (2147483647 : Int32)) % (6 : Int32)))]
  obtain ⟨T2, X2, e2, st2⟩ := getS2 X0 hx hZ hown (host := "") (Or.inl (wk41 hw)) Via.refl e0 ((wd8 hW).ext O0.2) (g := (mkF m 39 Lb1 [])) rfl (hb hby d1_39)
  obtain ⟨fs, hr, hrun, hended, hWm, hsame⟩ := X2.leave (v := some (.ref (w 4))) (fun h => by rw [Bd.returns] at h; cases h)
  refine ⟨_, _, pre0 _ ?_, hrun, hended, _, _, rfl, ?_, ⟨_, rfl⟩, hWm, hsame.mono (by decide) (by decide)⟩
  · show Steps p.tables e below (s₁.setTop (mkF m 0 #[.val (.int q1), .unset] [])) _
    refine sI X0 hx hby d1_0 rfl ?_
    refine X0.ldcInt hx hown (mvT hZ (wk4 hw)) (g := (mkF m 1 #[.val (.int q1), .unset] [(.int q1)])) rfl (hb hby d1_1) _ ?_
    refine XS.iand X0.here hx rfl (hb hby d1_3) rfl ?_
    refine XS.bipush X0.here hx rfl (hb hby d1_4) ?_
    refine iremM X0 hx rfl (hb hby d1_6) rfl (by decide) ?_
    show Steps p.tables e below (s₁.setTop (mkF m 7 #[.val (.int q1), .unset] [(.int ((q1 &&& (2147483647 : Int32)) % (6 : Int32)))])) _
    refine XS.istoreN X0.here hx rfl (hb hby d1_7) rfl (l' := Lb1) rfl ?_
    refine sI X0 hx hby d1_8 rfl ?_
    refine XS.ifYes X0.here hx rfl (pc0 := 9) (pc' := 16) rfl (hb hby d1_9) rfl ((if0 _ _).trans (feq (c1 : ¬ (((q1 &&& (2147483647 : Int32)) % (6 : Int32)) = (0 : Int32)))).2) (by decide) (by decide) ?_
    refine sI X0 hx hby d1_16 rfl ?_
    refine sc X0 hx hby d1_17 ?_
    show Steps p.tables e below (s₁.setTop (mkF m 18 Lb1 [(.int (1 : Int32)), (.int ((q1 &&& (2147483647 : Int32)) % (6 : Int32)))])) _
    refine XS.icmpYes X0.here hx rfl (pc0 := 18) (pc' := 25) rfl (hb hby d1_18) rfl (feq (c2 : ¬ (((q1 &&& (2147483647 : Int32)) % (6 : Int32)) = (1 : Int32)))).2 (by decide) (by decide) ?_
    refine sI X0 hx hby d1_25 rfl ?_
    refine sc X0 hx hby d1_26 ?_
    refine XS.icmpYes X0.here hx rfl (pc0 := 27) (pc' := 34) rfl (hb hby d1_27) rfl (feq (c3 : ¬ (((q1 &&& (2147483647 : Int32)) % (6 : Int32)) = (2 : Int32)))).2 (by decide) (by decide) ?_
    refine sI X0 hx hby d1_34 rfl ?_
    show Steps p.tables e below (s₁.setTop (mkF m 35 Lb1 [(.int ((q1 &&& (2147483647 : Int32)) % (6 : Int32)))])) _
    refine sc X0 hx hby d1_35 ?_
    refine sn X0 hx hby d1_36 (teq (c4 : ((q1 &&& (2147483647 : Int32)) % (6 : Int32)) = (3 : Int32))).2 ?_
    refine st2 _ ?_
    jvm_step X2.here [X2.here.top, hx, (hb hby d1_42), X2.method', Bd.returns, Value.isRef, FieldType.isReference]
    first | (intro acts; rw [hr _ acts rfl rfl rfl]) | rw [hr _ _ rfl rfl rfl]
    exact Steps.refl _
  · show Q1_27 Z w q1 h0 n0 _ T2.heap _
    rw [e2]
    exact ⟨rfl, N0, rfl⟩
theorem ef_3_28 (m : MethodId) (w : Nat → Addr) : entryFrame m #[(.ref (w 4))] 1 = mkF m 0 #[.val (.ref (w 4))] [] := by first | (simp [entryFrame, mkF, argsToLocals, Value.category]; done) | rfl
def Q3_28 (Z : State) (w : Nat → Addr) (h0 : Heap) (n0 : Nat) (v : Option Value) (h : Heap) (L : List Loc) : Prop := v = some (.int (3 : Int32)) ∧ Fr n0 L ∧ h = h0
set_option maxRecDepth 65536 in
set_option maxHeartbeats 40000000 in
theorem rm3_28 (l : Launch) (Z : State) (a0 : Array Value) (hw : ∀ d ∈ tables_1, d.before a0 Z = true) (w : Nat → Addr) (hW : Wd Z w) (ws : List Jvm.Cond) (h0 : Heap) (n0 : Nat) (O0 : Old Z n0 h0) :
    MetFree l ym1 (head1 (Jvm.Cond.code ym1 jdk_37_method_2_code 1 (some .int) :: ws) ({ frames := 0, cells := 0, slots := 0, locals := 0 } : Room)) (fun a U => a = #[(.ref (w 4))] ∧ Z.Warmed39 U.vm ∧ U.heap = h0) (fun _ _ _ _ _ => True) (fun _ U o U' => ∃ v L, o = .returned v ∧ Q3_28 Z w h0 n0 v U'.heap L ∧ FrameEnd U o U' L ({ frames := 0, cells := 0, slots := 0, locals := 0 } : Room).cells ({ frames := 0, cells := 0, slots := 0, locals := 0 } : Room).slots) := by
  refine MetFree.of_bodySF (plainFor_of_name pnc_1) hisR ?_
  intro p e s m args below meth c s₁ Bd hml0 hP hK
  obtain ⟨rfl, hZ, hh⟩ := hP
  have hx := Bd.exec
  have hby := Bd.bytes
  have hml : c.maxLocals = 1 := hml0
  have hown : s.vm.findClass "java/lang/Enum" = some m.cls := findClass_of_methodNamed Bd.named
  have hnm := (name_of_methodNamed Bd.named Bd.method).1
  have X0 : Stand p l e ({ frames := 0, cells := 0, slots := 0, locals := 0 } : Room) s m #[(.ref (w 4))] below meth c s₁ [] 0 0 := Stand.of_body Bd
  have e0 : s₁.heap = h0 := by rw [← hh, Bd.state]; rfl
  have N0 := Fr.nil n0
  skip
  have pre0 : ∀ t, Steps p.tables e below (s₁.setTop (mkF m 0 #[.val (.ref (w 4))] [])) t → Steps p.tables e below (s₁.setTop (entryFrame m #[(.ref (w 4))] 1)) t := fun t k => castTop (ef_3_28 m w) k
  obtain ⟨T1, X1, e1, st1⟩ := getF X0 hx hZ hown (host := "") (Or.inl (wk20 hw)) Via.refl e0 ((wd16 hW).ext O0.2) (g := (mkF m 1 #[.val (.ref (w 4))] [(.ref (w 4))])) rfl rfl (hb hby d3_1)
  obtain ⟨fs, hr, hrun, hended, hWm, hsame⟩ := X1.leave (v := some (.int (3 : Int32))) (fun h => by rw [Bd.returns] at h; cases h)
  refine ⟨_, _, pre0 _ ?_, hrun, hended, _, _, rfl, ?_, ⟨_, rfl⟩, hWm, hsame.mono (by decide) (by decide)⟩
  · show Steps p.tables e below (s₁.setTop (mkF m 0 #[.val (.ref (w 4))] [])) _
    refine sA X0 hx hby d3_0 rfl rfl ?_
    refine st1 _ ?_
    exact retI X1 hx Bd.returns (hb hby d3_4) hr
  · show Q3_28 Z w h0 n0 _ T1.heap _
    rw [e1]
    exact ⟨rfl, N0, rfl⟩
theorem d2_72 : decode prog_75_method_5_code 72 = .ok (.getstatic 16, 3) := by decide +kernel
theorem d2_75 : decode prog_75_method_5_code 75 = .ok (.goto 12, 3) := by decide +kernel
theorem ef_2_29 (m : MethodId) (w : Nat → Addr) : entryFrame m #[(.ref (w 4))] 1 = mkF m 0 #[.val (.ref (w 4))] [] := by first | (simp [entryFrame, mkF, argsToLocals, Value.category]; done) | rfl
def Q2_29 (Z : State) (w : Nat → Addr) (h0 : Heap) (n0 : Nat) (v : Option Value) (h : Heap) (L : List Loc) : Prop := v = some (.ref (w 5)) ∧ Fr n0 L ∧ h = h0
set_option maxRecDepth 65536 in
set_option maxHeartbeats 40000000 in
theorem rm2_29 (l : Launch) (Z : State) (a0 : Array Value) (hw : ∀ d ∈ tables_1, d.before a0 Z = true) (w : Nat → Addr) (hW : Wd Z w) (ws : List Jvm.Cond) (h0 : Heap) (n0 : Nat) (O0 : Old Z n0 h0) :
    MetFree l ym3 (head1 (Jvm.Cond.code ym3 prog_75_method_5_code 1 (some (.object "com/example/gofyn/gofyn/typed/Term$Operator")) :: ws) ({ frames := 1, cells := 0, slots := 0, locals := 12 } : Room)) (fun a U => a = #[(.ref (w 4))] ∧ Z.Warmed39 U.vm ∧ U.heap = h0) (fun _ _ _ _ _ => True) (fun _ U o U' => ∃ v L, o = .returned v ∧ Q2_29 Z w h0 n0 v U'.heap L ∧ FrameEnd U o U' L ({ frames := 1, cells := 0, slots := 0, locals := 12 } : Room).cells ({ frames := 1, cells := 0, slots := 0, locals := 12 } : Room).slots) := by
  refine MetFree.of_bodySF (plainFor_of_name pnc_2) hisR ?_
  intro p e s m args below meth c s₁ Bd hml0 hP hK
  obtain ⟨rfl, hZ, hh⟩ := hP
  have hx := Bd.exec
  have hby := Bd.bytes
  have hml : c.maxLocals = 1 := hml0
  have hown : s.vm.findClass "com/example/gofyn/gofyn/typed/Term$Operator" = some m.cls := findClass_of_methodNamed Bd.named
  have hnm := (name_of_methodNamed Bd.named Bd.method).1
  have X0 : Stand p l e ({ frames := 1, cells := 0, slots := 0, locals := 12 } : Room) s m #[(.ref (w 4))] below meth c s₁ [] 0 0 := Stand.of_body Bd
  have e0 : s₁.heap = h0 := by rw [← hh, Bd.state]; rfl
  have N0 := Fr.nil n0
  skip
  have pre0 : ∀ t, Steps p.tables e below (s₁.setTop (mkF m 0 #[.val (.ref (w 4))] [])) t → Steps p.tables e below (s₁.setTop (entryFrame m #[(.ref (w 4))] 1)) t := fun t k => castTop (ef_2_29 m w) k
  obtain ⟨cq1, kq1, q1a, q1b, q1c⟩ := isOf hZ e0 ((wd9 hW).ext O0.2)
  obtain ⟨_, _, ⟨T1, L1, kk1, nn1⟩, -, X1, ⟨Lc1, hQ1, l1, y1, z1⟩, st1⟩ := X0.virtualBackUp hx (x := ym2) (y := ym1) hown (mvT hZ (wk13 hw)) (mvT hZ (wk14 hw)) (mvT hZ (wk15 hw)) (by decide) (mvT hZ (wk17 hw)) (mvT hZ (wk16 hw)) (backOf (W := 0) (rm3_28 l Z a0 hw w hW []  h0 n0 O0 ) hZ (wk19 hw) (wk18 hw) (by decide) (by decide)) q1a q1c (g := (mkF m 1 #[.val (.ref (w 4))] [(.ref (w 4))])) rfl (by rw [hml]; rfl) (Steps.refl _) (argsL := []) (rest := []) (lenOf pds_1 rfl) rfl (by show 2 * 0 + _ ≤ _; exact Nat.le_of_eq rfl) (hb hby d2_1) (fun _ _ => ⟨rfl, e0, (by decide : 0 + 0 ≤ _), (by decide : 0 + 0 ≤ _)⟩)
  dsimp only [Pt.U, Pt.locs, Pt.cells, Pt.slots] at X1 l1 y1 z1 st1 hQ1
  subst l1 y1 z1
  obtain ⟨rfl, N1q, e1⟩ := hQ1
  have N1 := Fr.app N0 N1q
  obtain ⟨T2, X2, e2, st2⟩ := getS2 X1 hx hZ hown (host := "") (Or.inl (wk43 hw)) Via.refl e1 ((wd10 hW).ext O0.2) (g := (mkF m 72 #[.val (.ref (w 4))] [])) rfl (hb hby d2_72)
  obtain ⟨fs, hr, hrun, hended, hWm, hsame⟩ := X2.leave (v := some (.ref (w 5))) (fun h => by rw [Bd.returns] at h; cases h)
  refine ⟨_, _, pre0 _ ?_, hrun, hended, _, _, rfl, ?_, ⟨_, rfl⟩, hWm, hsame.mono (by decide) (by decide)⟩
  · show Steps p.tables e below (s₁.setTop (mkF m 0 #[.val (.ref (w 4))] [])) _
    refine sA X0 hx hby d2_0 rfl rfl ?_
    refine st1.trans ?_
    refine XS.tswIn X1.here hx rfl (pc0 := 4) (pc' := 72) (o := 68) rfl (hb hby d2_4) rfl (by decide) (by decide) (by decide) (by decide) ?_
    refine st2 _ ?_
    refine sg (pc := 75) (pc' := 87) X2 hx hby d2_75 (by decide) (by decide) ?_
    jvm_step X2.here [X2.here.top, hx, (hb hby d2_87), X2.method', Bd.returns, Value.isRef, FieldType.isReference]
    first | (intro acts; rw [hr _ acts rfl rfl rfl]) | rw [hr _ _ rfl rfl rfl]
    exact Steps.refl _
  · show Q2_29 Z w h0 n0 _ T2.heap _
    rw [e2]
    exact ⟨rfl, N1, rfl⟩
theorem ef_3_30 (m : MethodId) (w : Nat → Addr) : entryFrame m #[(.ref (w 5))] 1 = mkF m 0 #[.val (.ref (w 5))] [] := by first | (simp [entryFrame, mkF, argsToLocals, Value.category]; done) | rfl
def Q3_30 (Z : State) (w : Nat → Addr) (h0 : Heap) (n0 : Nat) (v : Option Value) (h : Heap) (L : List Loc) : Prop := v = some (.int (4 : Int32)) ∧ Fr n0 L ∧ h = h0
set_option maxRecDepth 65536 in
set_option maxHeartbeats 40000000 in
theorem rm3_30 (l : Launch) (Z : State) (a0 : Array Value) (hw : ∀ d ∈ tables_1, d.before a0 Z = true) (w : Nat → Addr) (hW : Wd Z w) (ws : List Jvm.Cond) (h0 : Heap) (n0 : Nat) (O0 : Old Z n0 h0) :
    MetFree l ym1 (head1 (Jvm.Cond.code ym1 jdk_37_method_2_code 1 (some .int) :: ws) ({ frames := 0, cells := 0, slots := 0, locals := 0 } : Room)) (fun a U => a = #[(.ref (w 5))] ∧ Z.Warmed39 U.vm ∧ U.heap = h0) (fun _ _ _ _ _ => True) (fun _ U o U' => ∃ v L, o = .returned v ∧ Q3_30 Z w h0 n0 v U'.heap L ∧ FrameEnd U o U' L ({ frames := 0, cells := 0, slots := 0, locals := 0 } : Room).cells ({ frames := 0, cells := 0, slots := 0, locals := 0 } : Room).slots) := by
  refine MetFree.of_bodySF (plainFor_of_name pnc_1) hisR ?_
  intro p e s m args below meth c s₁ Bd hml0 hP hK
  obtain ⟨rfl, hZ, hh⟩ := hP
  have hx := Bd.exec
  have hby := Bd.bytes
  have hml : c.maxLocals = 1 := hml0
  have hown : s.vm.findClass "java/lang/Enum" = some m.cls := findClass_of_methodNamed Bd.named
  have hnm := (name_of_methodNamed Bd.named Bd.method).1
  have X0 : Stand p l e ({ frames := 0, cells := 0, slots := 0, locals := 0 } : Room) s m #[(.ref (w 5))] below meth c s₁ [] 0 0 := Stand.of_body Bd
  have e0 : s₁.heap = h0 := by rw [← hh, Bd.state]; rfl
  have N0 := Fr.nil n0
  skip
  have pre0 : ∀ t, Steps p.tables e below (s₁.setTop (mkF m 0 #[.val (.ref (w 5))] [])) t → Steps p.tables e below (s₁.setTop (entryFrame m #[(.ref (w 5))] 1)) t := fun t k => castTop (ef_3_30 m w) k
  obtain ⟨T1, X1, e1, st1⟩ := getF X0 hx hZ hown (host := "") (Or.inl (wk20 hw)) Via.refl e0 ((wd17 hW).ext O0.2) (g := (mkF m 1 #[.val (.ref (w 5))] [(.ref (w 5))])) rfl rfl (hb hby d3_1)
  obtain ⟨fs, hr, hrun, hended, hWm, hsame⟩ := X1.leave (v := some (.int (4 : Int32))) (fun h => by rw [Bd.returns] at h; cases h)
  refine ⟨_, _, pre0 _ ?_, hrun, hended, _, _, rfl, ?_, ⟨_, rfl⟩, hWm, hsame.mono (by decide) (by decide)⟩
  · show Steps p.tables e below (s₁.setTop (mkF m 0 #[.val (.ref (w 5))] [])) _
    refine sA X0 hx hby d3_0 rfl rfl ?_
    refine st1 _ ?_
    exact retI X1 hx Bd.returns (hb hby d3_4) hr
  · show Q3_30 Z w h0 n0 _ T1.heap _
    rw [e1]
    exact ⟨rfl, N0, rfl⟩
theorem d4_106 : decode prog_75_method_7_code 106 = .ok (.iload_n 3, 1) := by decide +kernel
theorem d4_107 : decode prog_75_method_7_code 107 = .ok (.ifCond .le 7, 3) := by decide +kernel
theorem d4_114 : decode prog_75_method_7_code 114 = .ok (.iconst 0, 1) := by decide +kernel
theorem d4_115 : decode prog_75_method_7_code 115 = .ok (.goto 12, 3) := by decide +kernel
theorem ef_4_31 (m : MethodId) (w : Nat → Addr) (q1 : Int32) (q2 : Int32) : entryFrame m #[(.ref (w 5)), (.int q1), (.int q2)] 4 = mkF m 0 #[.val (.ref (w 5)), .val (.int q1), .val (.int q2), .unset] [] := by first | (simp [entryFrame, mkF, argsToLocals, Value.category]; done) | rfl
def Q4_31 (Z : State) (w : Nat → Addr) (q1 : Int32) (q2 : Int32) (h0 : Heap) (n0 : Nat) (v : Option Value) (h : Heap) (L : List Loc) : Prop := v = some (.int (0 : Int32)) ∧ Fr n0 L ∧ h = h0
set_option maxRecDepth 65536 in
set_option maxHeartbeats 40000000 in
theorem rm4_31 (l : Launch) (Z : State) (a0 : Array Value) (hw : ∀ d ∈ tables_1, d.before a0 Z = true) (w : Nat → Addr) (hW : Wd Z w) (ws : List Jvm.Cond) (q1 : Int32) (q2 : Int32) (h0 : Heap) (n0 : Nat) (O0 : Old Z n0 h0) (c1 : q1 < q2) :
    MetFree l ym5 (head1 (Jvm.Cond.code ym5 prog_75_method_7_code 4 (some .boolean) :: ws) ({ frames := 1, cells := 0, slots := 0, locals := 13 } : Room)) (fun a U => a = #[(.ref (w 5)), (.int q1), (.int q2)] ∧ Z.Warmed39 U.vm ∧ U.heap = h0) (fun _ _ _ _ _ => True) (fun _ U o U' => ∃ v L, o = .returned v ∧ Q4_31 Z w q1 q2 h0 n0 v U'.heap L ∧ FrameEnd U o U' L ({ frames := 1, cells := 0, slots := 0, locals := 13 } : Room).cells ({ frames := 1, cells := 0, slots := 0, locals := 13 } : Room).slots) := by
  refine MetFree.of_bodySF (plainFor_of_name pnc_2) hisR ?_
  intro p e s m args below meth c s₁ Bd hml0 hP hK
  obtain ⟨rfl, hZ, hh⟩ := hP
  have hx := Bd.exec
  have hby := Bd.bytes
  have hml : c.maxLocals = 4 := hml0
  have hown : s.vm.findClass "com/example/gofyn/gofyn/typed/Term$Operator" = some m.cls := findClass_of_methodNamed Bd.named
  have hnm := (name_of_methodNamed Bd.named Bd.method).1
  have X0 : Stand p l e ({ frames := 1, cells := 0, slots := 0, locals := 13 } : Room) s m #[(.ref (w 5)), (.int q1), (.int q2)] below meth c s₁ [] 0 0 := Stand.of_body Bd
  have e0 : s₁.heap = h0 := by rw [← hh, Bd.state]; rfl
  have N0 := Fr.nil n0
  let La : Array Slot := #[.val (.ref (w 5)), .val (.int q1), .val (.int q2), .unset]
  have pre0 : ∀ t, Steps p.tables e below (s₁.setTop (mkF m 0 #[.val (.ref (w 5)), .val (.int q1), .val (.int q2), .unset] [])) t → Steps p.tables e below (s₁.setTop (entryFrame m #[(.ref (w 5)), (.int q1), (.int q2)] 4)) t := fun t k => castTop (ef_4_31 m w q1 q2) k
  obtain ⟨_, _, ⟨T1, L1, kk1, nn1⟩, -, X1, ⟨Lc1, hQ1, l1, y1, z1⟩, st1⟩ := Jvm.LawKit.callS X0 hx (y := ym4) hown (mvT hZ (wk29 hw)) (mvT hZ (wk30 hw)) (mvT hZ (wk31 hw)) (mvT hZ (wk32 hw)) (by decide) (backOf (W := 0) (rm5_4 l Z a0 hw w hW [] q1 q2 h0 n0 O0 c1) hZ (wk32 hw) (wk31 hw) (by decide) (by decide)) (g := (mkF m 2 La [(.int q2), (.int q1)])) rfl (by rw [hml]; rfl) (argsL := [(.int q1), (.int q2)]) (rest := []) (lenOf pds_3 rfl) rfl (by show 2 * 0 + _ ≤ _; exact Nat.le_of_eq rfl) (hb hby d4_2) (fun _ _ => ⟨rfl, e0, (by decide : 0 + 0 ≤ _), (by decide : 0 + 0 ≤ _)⟩)
  dsimp only [Pt.U, Pt.locs, Pt.cells, Pt.slots] at X1 l1 y1 z1 st1 hQ1
  subst l1 y1 z1
  obtain ⟨rfl, N1q, e1⟩ := hQ1
  have N1 := Fr.app N0 N1q
  let Lb2 : Array Slot := #[.val (.ref (w 5)), .val (.int q1), .val (.int q2), .val (.int (-1 : Int32))]
  obtain ⟨cq3, kq3, q3a, q3b, q3c⟩ := isOf hZ e1 ((wd11 hW).ext O0.2)
  obtain ⟨_, _, ⟨T3, L3, kk3, nn3⟩, -, X3, ⟨Lc3, hQ3, l3, y3, z3⟩, st3⟩ := X1.virtualBackUp hx (x := ym2) (y := ym1) hown (mvT hZ (wk13 hw)) (mvT hZ (wk14 hw)) (mvT hZ (wk15 hw)) (by decide) (mvT hZ (wk17 hw)) (mvT hZ (wk16 hw)) (backOf (W := 0) (rm3_30 l Z a0 hw w hW []  h0 n0 O0 ) hZ (wk19 hw) (wk18 hw) (by decide) (by decide)) q3a q3c (g := (mkF m 7 Lb2 [(.ref (w 5))])) rfl (by rw [hml]; rfl) (Steps.refl _) (argsL := []) (rest := []) (lenOf pds_1 rfl) rfl (by show 2 * 0 + _ ≤ _; exact Nat.le_of_eq rfl) (hb hby d4_7) (fun _ _ => ⟨rfl, e1, (by decide : 0 + 0 ≤ _), (by decide : 0 + 0 ≤ _)⟩)
  dsimp only [Pt.U, Pt.locs, Pt.cells, Pt.slots] at X3 l3 y3 z3 st3 hQ3
  subst l3 y3 z3
  obtain ⟨rfl, N3q, e3⟩ := hQ3
  have N3 := Fr.app N1 N3q
  obtain ⟨fs, hr, hrun, hended, hWm, hsame⟩ := X3.leave (v := some (.int (0 : Int32))) (fun h => by rw [Bd.returns] at h; cases h)
  refine ⟨_, _, pre0 _ ?_, hrun, hended, _, _, rfl, ?_, ⟨_, rfl⟩, hWm, hsame.mono (by decide) (by decide)⟩
  · show Steps p.tables e below (s₁.setTop (mkF m 0 La [])) _
    refine sI X0 hx hby d4_0 rfl ?_
    refine sI X0 hx hby d4_1 rfl ?_
    refine st1 _ ?_
    refine XS.istoreN X1.here hx rfl (hb hby d4_5) rfl (l' := Lb2) rfl ?_
    refine sA X1 hx hby d4_6 rfl rfl ?_
    refine st3.trans ?_
    refine XS.tswIn X3.here hx rfl (pc0 := 10) (pc' := 106) (o := 96) rfl (hb hby d4_10) rfl (by decide) (by decide) (by decide) (by decide) ?_
    refine sI X3 hx hby d4_106 rfl ?_
    refine XS.ifYes X3.here hx rfl (pc0 := 107) (pc' := 114) rfl (hb hby d4_107) rfl (by decide) (by decide) (by decide) ?_
    refine sc X3 hx hby d4_114 ?_
    refine sg (pc := 115) (pc' := 127) X3 hx hby d4_115 (by decide) (by decide) ?_
    show Steps p.tables e below (T3.setTop (mkF m 127 Lb2 [(.int (0 : Int32))])) _
    exact retN X3 hx (t := .boolean) Bd.returns (by simp) (hb hby d4_127) hr
  · show Q4_31 Z w q1 q2 h0 n0 _ T3.heap _
    rw [e3]
    exact ⟨rfl, N3, rfl⟩
theorem d4_94 : decode prog_75_method_7_code 94 = .ok (.iload_n 3, 1) := by decide +kernel
theorem d4_95 : decode prog_75_method_7_code 95 = .ok (.ifCond .gt 7, 3) := by decide +kernel
theorem d4_98 : decode prog_75_method_7_code 98 = .ok (.iconst 1, 1) := by decide +kernel
theorem d4_99 : decode prog_75_method_7_code 99 = .ok (.goto 28, 3) := by decide +kernel
theorem ef_4_32 (m : MethodId) (w : Nat → Addr) (q1 : Int32) (q2 : Int32) : entryFrame m #[(.ref (w 4)), (.int q1), (.int q2)] 4 = mkF m 0 #[.val (.ref (w 4)), .val (.int q1), .val (.int q2), .unset] [] := by first | (simp [entryFrame, mkF, argsToLocals, Value.category]; done) | rfl
def Q4_32 (Z : State) (w : Nat → Addr) (q1 : Int32) (q2 : Int32) (h0 : Heap) (n0 : Nat) (v : Option Value) (h : Heap) (L : List Loc) : Prop := v = some (.int (1 : Int32)) ∧ Fr n0 L ∧ h = h0
set_option maxRecDepth 65536 in
set_option maxHeartbeats 40000000 in
theorem rm4_32 (l : Launch) (Z : State) (a0 : Array Value) (hw : ∀ d ∈ tables_1, d.before a0 Z = true) (w : Nat → Addr) (hW : Wd Z w) (ws : List Jvm.Cond) (q1 : Int32) (q2 : Int32) (h0 : Heap) (n0 : Nat) (O0 : Old Z n0 h0) (c1 : q1 < q2) :
    MetFree l ym5 (head1 (Jvm.Cond.code ym5 prog_75_method_7_code 4 (some .boolean) :: ws) ({ frames := 1, cells := 0, slots := 0, locals := 13 } : Room)) (fun a U => a = #[(.ref (w 4)), (.int q1), (.int q2)] ∧ Z.Warmed39 U.vm ∧ U.heap = h0) (fun _ _ _ _ _ => True) (fun _ U o U' => ∃ v L, o = .returned v ∧ Q4_32 Z w q1 q2 h0 n0 v U'.heap L ∧ FrameEnd U o U' L ({ frames := 1, cells := 0, slots := 0, locals := 13 } : Room).cells ({ frames := 1, cells := 0, slots := 0, locals := 13 } : Room).slots) := by
  refine MetFree.of_bodySF (plainFor_of_name pnc_2) hisR ?_
  intro p e s m args below meth c s₁ Bd hml0 hP hK
  obtain ⟨rfl, hZ, hh⟩ := hP
  have hx := Bd.exec
  have hby := Bd.bytes
  have hml : c.maxLocals = 4 := hml0
  have hown : s.vm.findClass "com/example/gofyn/gofyn/typed/Term$Operator" = some m.cls := findClass_of_methodNamed Bd.named
  have hnm := (name_of_methodNamed Bd.named Bd.method).1
  have X0 : Stand p l e ({ frames := 1, cells := 0, slots := 0, locals := 13 } : Room) s m #[(.ref (w 4)), (.int q1), (.int q2)] below meth c s₁ [] 0 0 := Stand.of_body Bd
  have e0 : s₁.heap = h0 := by rw [← hh, Bd.state]; rfl
  have N0 := Fr.nil n0
  let La : Array Slot := #[.val (.ref (w 4)), .val (.int q1), .val (.int q2), .unset]
  have pre0 : ∀ t, Steps p.tables e below (s₁.setTop (mkF m 0 #[.val (.ref (w 4)), .val (.int q1), .val (.int q2), .unset] [])) t → Steps p.tables e below (s₁.setTop (entryFrame m #[(.ref (w 4)), (.int q1), (.int q2)] 4)) t := fun t k => castTop (ef_4_32 m w q1 q2) k
  obtain ⟨_, _, ⟨T1, L1, kk1, nn1⟩, -, X1, ⟨Lc1, hQ1, l1, y1, z1⟩, st1⟩ := Jvm.LawKit.callS X0 hx (y := ym4) hown (mvT hZ (wk29 hw)) (mvT hZ (wk30 hw)) (mvT hZ (wk31 hw)) (mvT hZ (wk32 hw)) (by decide) (backOf (W := 0) (rm5_4 l Z a0 hw w hW [] q1 q2 h0 n0 O0 c1) hZ (wk32 hw) (wk31 hw) (by decide) (by decide)) (g := (mkF m 2 La [(.int q2), (.int q1)])) rfl (by rw [hml]; rfl) (argsL := [(.int q1), (.int q2)]) (rest := []) (lenOf pds_3 rfl) rfl (by show 2 * 0 + _ ≤ _; exact Nat.le_of_eq rfl) (hb hby d4_2) (fun _ _ => ⟨rfl, e0, (by decide : 0 + 0 ≤ _), (by decide : 0 + 0 ≤ _)⟩)
  dsimp only [Pt.U, Pt.locs, Pt.cells, Pt.slots] at X1 l1 y1 z1 st1 hQ1
  subst l1 y1 z1
  obtain ⟨rfl, N1q, e1⟩ := hQ1
  have N1 := Fr.app N0 N1q
  let Lb2 : Array Slot := #[.val (.ref (w 4)), .val (.int q1), .val (.int q2), .val (.int (-1 : Int32))]
  obtain ⟨cq3, kq3, q3a, q3b, q3c⟩ := isOf hZ e1 ((wd9 hW).ext O0.2)
  obtain ⟨_, _, ⟨T3, L3, kk3, nn3⟩, -, X3, ⟨Lc3, hQ3, l3, y3, z3⟩, st3⟩ := X1.virtualBackUp hx (x := ym2) (y := ym1) hown (mvT hZ (wk13 hw)) (mvT hZ (wk14 hw)) (mvT hZ (wk15 hw)) (by decide) (mvT hZ (wk17 hw)) (mvT hZ (wk16 hw)) (backOf (W := 0) (rm3_28 l Z a0 hw w hW []  h0 n0 O0 ) hZ (wk19 hw) (wk18 hw) (by decide) (by decide)) q3a q3c (g := (mkF m 7 Lb2 [(.ref (w 4))])) rfl (by rw [hml]; rfl) (Steps.refl _) (argsL := []) (rest := []) (lenOf pds_1 rfl) rfl (by show 2 * 0 + _ ≤ _; exact Nat.le_of_eq rfl) (hb hby d4_7) (fun _ _ => ⟨rfl, e1, (by decide : 0 + 0 ≤ _), (by decide : 0 + 0 ≤ _)⟩)
  dsimp only [Pt.U, Pt.locs, Pt.cells, Pt.slots] at X3 l3 y3 z3 st3 hQ3
  subst l3 y3 z3
  obtain ⟨rfl, N3q, e3⟩ := hQ3
  have N3 := Fr.app N1 N3q
  obtain ⟨fs, hr, hrun, hended, hWm, hsame⟩ := X3.leave (v := some (.int (1 : Int32))) (fun h => by rw [Bd.returns] at h; cases h)
  refine ⟨_, _, pre0 _ ?_, hrun, hended, _, _, rfl, ?_, ⟨_, rfl⟩, hWm, hsame.mono (by decide) (by decide)⟩
  · show Steps p.tables e below (s₁.setTop (mkF m 0 La [])) _
    refine sI X0 hx hby d4_0 rfl ?_
    refine sI X0 hx hby d4_1 rfl ?_
    refine st1 _ ?_
    refine XS.istoreN X1.here hx rfl (hb hby d4_5) rfl (l' := Lb2) rfl ?_
    refine sA X1 hx hby d4_6 rfl rfl ?_
    refine st3.trans ?_
    refine XS.tswIn X3.here hx rfl (pc0 := 10) (pc' := 94) (o := 84) rfl (hb hby d4_10) rfl (by decide) (by decide) (by decide) (by decide) ?_
    refine sI X3 hx hby d4_94 rfl ?_
    refine sN X3 hx hby d4_95 (by decide) ?_
    refine sc X3 hx hby d4_98 ?_
    refine sg (pc := 99) (pc' := 127) X3 hx hby d4_99 (by decide) (by decide) ?_
    show Steps p.tables e below (T3.setTop (mkF m 127 Lb2 [(.int (1 : Int32))])) _
    exact retN X3 hx (t := .boolean) Bd.returns (by simp) (hb hby d4_127) hr
  · show Q4_32 Z w q1 q2 h0 n0 _ T3.heap _
    rw [e3]
    exact ⟨rfl, N3, rfl⟩
theorem d2_78 : decode prog_75_method_5_code 78 = .ok (.getstatic 13, 3) := by decide +kernel
theorem d2_81 : decode prog_75_method_5_code 81 = .ok (.goto 6, 3) := by decide +kernel
theorem ef_2_33 (m : MethodId) (w : Nat → Addr) : entryFrame m #[(.ref (w 5))] 1 = mkF m 0 #[.val (.ref (w 5))] [] := by first | (simp [entryFrame, mkF, argsToLocals, Value.category]; done) | rfl
def Q2_33 (Z : State) (w : Nat → Addr) (h0 : Heap) (n0 : Nat) (v : Option Value) (h : Heap) (L : List Loc) : Prop := v = some (.ref (w 4)) ∧ Fr n0 L ∧ h = h0
set_option maxRecDepth 65536 in
set_option maxHeartbeats 40000000 in
theorem rm2_33 (l : Launch) (Z : State) (a0 : Array Value) (hw : ∀ d ∈ tables_1, d.before a0 Z = true) (w : Nat → Addr) (hW : Wd Z w) (ws : List Jvm.Cond) (h0 : Heap) (n0 : Nat) (O0 : Old Z n0 h0) :
    MetFree l ym3 (head1 (Jvm.Cond.code ym3 prog_75_method_5_code 1 (some (.object "com/example/gofyn/gofyn/typed/Term$Operator")) :: ws) ({ frames := 1, cells := 0, slots := 0, locals := 12 } : Room)) (fun a U => a = #[(.ref (w 5))] ∧ Z.Warmed39 U.vm ∧ U.heap = h0) (fun _ _ _ _ _ => True) (fun _ U o U' => ∃ v L, o = .returned v ∧ Q2_33 Z w h0 n0 v U'.heap L ∧ FrameEnd U o U' L ({ frames := 1, cells := 0, slots := 0, locals := 12 } : Room).cells ({ frames := 1, cells := 0, slots := 0, locals := 12 } : Room).slots) := by
  refine MetFree.of_bodySF (plainFor_of_name pnc_2) hisR ?_
  intro p e s m args below meth c s₁ Bd hml0 hP hK
  obtain ⟨rfl, hZ, hh⟩ := hP
  have hx := Bd.exec
  have hby := Bd.bytes
  have hml : c.maxLocals = 1 := hml0
  have hown : s.vm.findClass "com/example/gofyn/gofyn/typed/Term$Operator" = some m.cls := findClass_of_methodNamed Bd.named
  have hnm := (name_of_methodNamed Bd.named Bd.method).1
  have X0 : Stand p l e ({ frames := 1, cells := 0, slots := 0, locals := 12 } : Room) s m #[(.ref (w 5))] below meth c s₁ [] 0 0 := Stand.of_body Bd
  have e0 : s₁.heap = h0 := by rw [← hh, Bd.state]; rfl
  have N0 := Fr.nil n0
  skip
  have pre0 : ∀ t, Steps p.tables e below (s₁.setTop (mkF m 0 #[.val (.ref (w 5))] [])) t → Steps p.tables e below (s₁.setTop (entryFrame m #[(.ref (w 5))] 1)) t := fun t k => castTop (ef_2_33 m w) k
  obtain ⟨cq1, kq1, q1a, q1b, q1c⟩ := isOf hZ e0 ((wd11 hW).ext O0.2)
  obtain ⟨_, _, ⟨T1, L1, kk1, nn1⟩, -, X1, ⟨Lc1, hQ1, l1, y1, z1⟩, st1⟩ := X0.virtualBackUp hx (x := ym2) (y := ym1) hown (mvT hZ (wk13 hw)) (mvT hZ (wk14 hw)) (mvT hZ (wk15 hw)) (by decide) (mvT hZ (wk17 hw)) (mvT hZ (wk16 hw)) (backOf (W := 0) (rm3_30 l Z a0 hw w hW []  h0 n0 O0 ) hZ (wk19 hw) (wk18 hw) (by decide) (by decide)) q1a q1c (g := (mkF m 1 #[.val (.ref (w 5))] [(.ref (w 5))])) rfl (by rw [hml]; rfl) (Steps.refl _) (argsL := []) (rest := []) (lenOf pds_1 rfl) rfl (by show 2 * 0 + _ ≤ _; exact Nat.le_of_eq rfl) (hb hby d2_1) (fun _ _ => ⟨rfl, e0, (by decide : 0 + 0 ≤ _), (by decide : 0 + 0 ≤ _)⟩)
  dsimp only [Pt.U, Pt.locs, Pt.cells, Pt.slots] at X1 l1 y1 z1 st1 hQ1
  subst l1 y1 z1
  obtain ⟨rfl, N1q, e1⟩ := hQ1
  have N1 := Fr.app N0 N1q
  obtain ⟨T2, X2, e2, st2⟩ := getS2 X1 hx hZ hown (host := "") (Or.inl (wk45 hw)) Via.refl e1 ((wd8 hW).ext O0.2) (g := (mkF m 78 #[.val (.ref (w 5))] [])) rfl (hb hby d2_78)
  obtain ⟨fs, hr, hrun, hended, hWm, hsame⟩ := X2.leave (v := some (.ref (w 4))) (fun h => by rw [Bd.returns] at h; cases h)
  refine ⟨_, _, pre0 _ ?_, hrun, hended, _, _, rfl, ?_, ⟨_, rfl⟩, hWm, hsame.mono (by decide) (by decide)⟩
  · show Steps p.tables e below (s₁.setTop (mkF m 0 #[.val (.ref (w 5))] [])) _
    refine sA X0 hx hby d2_0 rfl rfl ?_
    refine st1.trans ?_
    refine XS.tswIn X1.here hx rfl (pc0 := 4) (pc' := 78) (o := 74) rfl (hb hby d2_4) rfl (by decide) (by decide) (by decide) (by decide) ?_
    refine st2 _ ?_
    refine sg (pc := 81) (pc' := 87) X2 hx hby d2_81 (by decide) (by decide) ?_
    jvm_step X2.here [X2.here.top, hx, (hb hby d2_87), X2.method', Bd.returns, Value.isRef, FieldType.isReference]
    first | (intro acts; rw [hr _ acts rfl rfl rfl]) | rw [hr _ _ rfl rfl rfl]
    exact Steps.refl _
  · show Q2_33 Z w h0 n0 _ T2.heap _
    rw [e2]
    exact ⟨rfl, N1, rfl⟩
theorem ef_4_34 (m : MethodId) (w : Nat → Addr) (q1 : Int32) (q2 : Int32) : entryFrame m #[(.ref (w 5)), (.int q1), (.int q2)] 4 = mkF m 0 #[.val (.ref (w 5)), .val (.int q1), .val (.int q2), .unset] [] := by first | (simp [entryFrame, mkF, argsToLocals, Value.category]; done) | rfl
def Q4_34 (Z : State) (w : Nat → Addr) (q1 : Int32) (q2 : Int32) (h0 : Heap) (n0 : Nat) (v : Option Value) (h : Heap) (L : List Loc) : Prop := v = some (.int (0 : Int32)) ∧ Fr n0 L ∧ h = h0
set_option maxRecDepth 65536 in
set_option maxHeartbeats 40000000 in
theorem rm4_34 (l : Launch) (Z : State) (a0 : Array Value) (hw : ∀ d ∈ tables_1, d.before a0 Z = true) (w : Nat → Addr) (hW : Wd Z w) (ws : List Jvm.Cond) (q1 : Int32) (q2 : Int32) (h0 : Heap) (n0 : Nat) (O0 : Old Z n0 h0) (c1 : ¬ (q1 < q2)) (c2 : q1 = q2) :
    MetFree l ym5 (head1 (Jvm.Cond.code ym5 prog_75_method_7_code 4 (some .boolean) :: ws) ({ frames := 1, cells := 0, slots := 0, locals := 13 } : Room)) (fun a U => a = #[(.ref (w 5)), (.int q1), (.int q2)] ∧ Z.Warmed39 U.vm ∧ U.heap = h0) (fun _ _ _ _ _ => True) (fun _ U o U' => ∃ v L, o = .returned v ∧ Q4_34 Z w q1 q2 h0 n0 v U'.heap L ∧ FrameEnd U o U' L ({ frames := 1, cells := 0, slots := 0, locals := 13 } : Room).cells ({ frames := 1, cells := 0, slots := 0, locals := 13 } : Room).slots) := by
  refine MetFree.of_bodySF (plainFor_of_name pnc_2) hisR ?_
  intro p e s m args below meth c s₁ Bd hml0 hP hK
  obtain ⟨rfl, hZ, hh⟩ := hP
  have hx := Bd.exec
  have hby := Bd.bytes
  have hml : c.maxLocals = 4 := hml0
  have hown : s.vm.findClass "com/example/gofyn/gofyn/typed/Term$Operator" = some m.cls := findClass_of_methodNamed Bd.named
  have hnm := (name_of_methodNamed Bd.named Bd.method).1
  have X0 : Stand p l e ({ frames := 1, cells := 0, slots := 0, locals := 13 } : Room) s m #[(.ref (w 5)), (.int q1), (.int q2)] below meth c s₁ [] 0 0 := Stand.of_body Bd
  have e0 : s₁.heap = h0 := by rw [← hh, Bd.state]; rfl
  have N0 := Fr.nil n0
  let La : Array Slot := #[.val (.ref (w 5)), .val (.int q1), .val (.int q2), .unset]
  have pre0 : ∀ t, Steps p.tables e below (s₁.setTop (mkF m 0 #[.val (.ref (w 5)), .val (.int q1), .val (.int q2), .unset] [])) t → Steps p.tables e below (s₁.setTop (entryFrame m #[(.ref (w 5)), (.int q1), (.int q2)] 4)) t := fun t k => castTop (ef_4_34 m w q1 q2) k
  obtain ⟨_, _, ⟨T1, L1, kk1, nn1⟩, -, X1, ⟨Lc1, hQ1, l1, y1, z1⟩, st1⟩ := Jvm.LawKit.callS X0 hx (y := ym4) hown (mvT hZ (wk29 hw)) (mvT hZ (wk30 hw)) (mvT hZ (wk31 hw)) (mvT hZ (wk32 hw)) (by decide) (backOf (W := 0) (rm5_9 l Z a0 hw w hW [] q1 q2 h0 n0 O0 c1 c2) hZ (wk32 hw) (wk31 hw) (by decide) (by decide)) (g := (mkF m 2 La [(.int q2), (.int q1)])) rfl (by rw [hml]; rfl) (argsL := [(.int q1), (.int q2)]) (rest := []) (lenOf pds_3 rfl) rfl (by show 2 * 0 + _ ≤ _; exact Nat.le_of_eq rfl) (hb hby d4_2) (fun _ _ => ⟨rfl, e0, (by decide : 0 + 0 ≤ _), (by decide : 0 + 0 ≤ _)⟩)
  dsimp only [Pt.U, Pt.locs, Pt.cells, Pt.slots] at X1 l1 y1 z1 st1 hQ1
  subst l1 y1 z1
  obtain ⟨rfl, N1q, e1⟩ := hQ1
  have N1 := Fr.app N0 N1q
  let Lb2 : Array Slot := #[.val (.ref (w 5)), .val (.int q1), .val (.int q2), .val (.int (0 : Int32))]
  obtain ⟨cq3, kq3, q3a, q3b, q3c⟩ := isOf hZ e1 ((wd11 hW).ext O0.2)
  obtain ⟨_, _, ⟨T3, L3, kk3, nn3⟩, -, X3, ⟨Lc3, hQ3, l3, y3, z3⟩, st3⟩ := X1.virtualBackUp hx (x := ym2) (y := ym1) hown (mvT hZ (wk13 hw)) (mvT hZ (wk14 hw)) (mvT hZ (wk15 hw)) (by decide) (mvT hZ (wk17 hw)) (mvT hZ (wk16 hw)) (backOf (W := 0) (rm3_30 l Z a0 hw w hW []  h0 n0 O0 ) hZ (wk19 hw) (wk18 hw) (by decide) (by decide)) q3a q3c (g := (mkF m 7 Lb2 [(.ref (w 5))])) rfl (by rw [hml]; rfl) (Steps.refl _) (argsL := []) (rest := []) (lenOf pds_1 rfl) rfl (by show 2 * 0 + _ ≤ _; exact Nat.le_of_eq rfl) (hb hby d4_7) (fun _ _ => ⟨rfl, e1, (by decide : 0 + 0 ≤ _), (by decide : 0 + 0 ≤ _)⟩)
  dsimp only [Pt.U, Pt.locs, Pt.cells, Pt.slots] at X3 l3 y3 z3 st3 hQ3
  subst l3 y3 z3
  obtain ⟨rfl, N3q, e3⟩ := hQ3
  have N3 := Fr.app N1 N3q
  obtain ⟨fs, hr, hrun, hended, hWm, hsame⟩ := X3.leave (v := some (.int (0 : Int32))) (fun h => by rw [Bd.returns] at h; cases h)
  refine ⟨_, _, pre0 _ ?_, hrun, hended, _, _, rfl, ?_, ⟨_, rfl⟩, hWm, hsame.mono (by decide) (by decide)⟩
  · show Steps p.tables e below (s₁.setTop (mkF m 0 La [])) _
    refine sI X0 hx hby d4_0 rfl ?_
    refine sI X0 hx hby d4_1 rfl ?_
    refine st1 _ ?_
    refine XS.istoreN X1.here hx rfl (hb hby d4_5) rfl (l' := Lb2) rfl ?_
    refine sA X1 hx hby d4_6 rfl rfl ?_
    refine st3.trans ?_
    refine XS.tswIn X3.here hx rfl (pc0 := 10) (pc' := 106) (o := 96) rfl (hb hby d4_10) rfl (by decide) (by decide) (by decide) (by decide) ?_
    refine sI X3 hx hby d4_106 rfl ?_
    refine XS.ifYes X3.here hx rfl (pc0 := 107) (pc' := 114) rfl (hb hby d4_107) rfl (by decide) (by decide) (by decide) ?_
    refine sc X3 hx hby d4_114 ?_
    refine sg (pc := 115) (pc' := 127) X3 hx hby d4_115 (by decide) (by decide) ?_
    show Steps p.tables e below (T3.setTop (mkF m 127 Lb2 [(.int (0 : Int32))])) _
    exact retN X3 hx (t := .boolean) Bd.returns (by simp) (hb hby d4_127) hr
  · show Q4_34 Z w q1 q2 h0 n0 _ T3.heap _
    rw [e3]
    exact ⟨rfl, N3, rfl⟩
theorem ef_4_35 (m : MethodId) (w : Nat → Addr) (q1 : Int32) (q2 : Int32) : entryFrame m #[(.ref (w 4)), (.int q1), (.int q2)] 4 = mkF m 0 #[.val (.ref (w 4)), .val (.int q1), .val (.int q2), .unset] [] := by first | (simp [entryFrame, mkF, argsToLocals, Value.category]; done) | rfl
def Q4_35 (Z : State) (w : Nat → Addr) (q1 : Int32) (q2 : Int32) (h0 : Heap) (n0 : Nat) (v : Option Value) (h : Heap) (L : List Loc) : Prop := v = some (.int (1 : Int32)) ∧ Fr n0 L ∧ h = h0
set_option maxRecDepth 65536 in
set_option maxHeartbeats 40000000 in
theorem rm4_35 (l : Launch) (Z : State) (a0 : Array Value) (hw : ∀ d ∈ tables_1, d.before a0 Z = true) (w : Nat → Addr) (hW : Wd Z w) (ws : List Jvm.Cond) (q1 : Int32) (q2 : Int32) (h0 : Heap) (n0 : Nat) (O0 : Old Z n0 h0) (c1 : ¬ (q1 < q2)) (c2 : q1 = q2) :
    MetFree l ym5 (head1 (Jvm.Cond.code ym5 prog_75_method_7_code 4 (some .boolean) :: ws) ({ frames := 1, cells := 0, slots := 0, locals := 13 } : Room)) (fun a U => a = #[(.ref (w 4)), (.int q1), (.int q2)] ∧ Z.Warmed39 U.vm ∧ U.heap = h0) (fun _ _ _ _ _ => True) (fun _ U o U' => ∃ v L, o = .returned v ∧ Q4_35 Z w q1 q2 h0 n0 v U'.heap L ∧ FrameEnd U o U' L ({ frames := 1, cells := 0, slots := 0, locals := 13 } : Room).cells ({ frames := 1, cells := 0, slots := 0, locals := 13 } : Room).slots) := by
  refine MetFree.of_bodySF (plainFor_of_name pnc_2) hisR ?_
  intro p e s m args below meth c s₁ Bd hml0 hP hK
  obtain ⟨rfl, hZ, hh⟩ := hP
  have hx := Bd.exec
  have hby := Bd.bytes
  have hml : c.maxLocals = 4 := hml0
  have hown : s.vm.findClass "com/example/gofyn/gofyn/typed/Term$Operator" = some m.cls := findClass_of_methodNamed Bd.named
  have hnm := (name_of_methodNamed Bd.named Bd.method).1
  have X0 : Stand p l e ({ frames := 1, cells := 0, slots := 0, locals := 13 } : Room) s m #[(.ref (w 4)), (.int q1), (.int q2)] below meth c s₁ [] 0 0 := Stand.of_body Bd
  have e0 : s₁.heap = h0 := by rw [← hh, Bd.state]; rfl
  have N0 := Fr.nil n0
  let La : Array Slot := #[.val (.ref (w 4)), .val (.int q1), .val (.int q2), .unset]
  have pre0 : ∀ t, Steps p.tables e below (s₁.setTop (mkF m 0 #[.val (.ref (w 4)), .val (.int q1), .val (.int q2), .unset] [])) t → Steps p.tables e below (s₁.setTop (entryFrame m #[(.ref (w 4)), (.int q1), (.int q2)] 4)) t := fun t k => castTop (ef_4_35 m w q1 q2) k
  obtain ⟨_, _, ⟨T1, L1, kk1, nn1⟩, -, X1, ⟨Lc1, hQ1, l1, y1, z1⟩, st1⟩ := Jvm.LawKit.callS X0 hx (y := ym4) hown (mvT hZ (wk29 hw)) (mvT hZ (wk30 hw)) (mvT hZ (wk31 hw)) (mvT hZ (wk32 hw)) (by decide) (backOf (W := 0) (rm5_9 l Z a0 hw w hW [] q1 q2 h0 n0 O0 c1 c2) hZ (wk32 hw) (wk31 hw) (by decide) (by decide)) (g := (mkF m 2 La [(.int q2), (.int q1)])) rfl (by rw [hml]; rfl) (argsL := [(.int q1), (.int q2)]) (rest := []) (lenOf pds_3 rfl) rfl (by show 2 * 0 + _ ≤ _; exact Nat.le_of_eq rfl) (hb hby d4_2) (fun _ _ => ⟨rfl, e0, (by decide : 0 + 0 ≤ _), (by decide : 0 + 0 ≤ _)⟩)
  dsimp only [Pt.U, Pt.locs, Pt.cells, Pt.slots] at X1 l1 y1 z1 st1 hQ1
  subst l1 y1 z1
  obtain ⟨rfl, N1q, e1⟩ := hQ1
  have N1 := Fr.app N0 N1q
  let Lb2 : Array Slot := #[.val (.ref (w 4)), .val (.int q1), .val (.int q2), .val (.int (0 : Int32))]
  obtain ⟨cq3, kq3, q3a, q3b, q3c⟩ := isOf hZ e1 ((wd9 hW).ext O0.2)
  obtain ⟨_, _, ⟨T3, L3, kk3, nn3⟩, -, X3, ⟨Lc3, hQ3, l3, y3, z3⟩, st3⟩ := X1.virtualBackUp hx (x := ym2) (y := ym1) hown (mvT hZ (wk13 hw)) (mvT hZ (wk14 hw)) (mvT hZ (wk15 hw)) (by decide) (mvT hZ (wk17 hw)) (mvT hZ (wk16 hw)) (backOf (W := 0) (rm3_28 l Z a0 hw w hW []  h0 n0 O0 ) hZ (wk19 hw) (wk18 hw) (by decide) (by decide)) q3a q3c (g := (mkF m 7 Lb2 [(.ref (w 4))])) rfl (by rw [hml]; rfl) (Steps.refl _) (argsL := []) (rest := []) (lenOf pds_1 rfl) rfl (by show 2 * 0 + _ ≤ _; exact Nat.le_of_eq rfl) (hb hby d4_7) (fun _ _ => ⟨rfl, e1, (by decide : 0 + 0 ≤ _), (by decide : 0 + 0 ≤ _)⟩)
  dsimp only [Pt.U, Pt.locs, Pt.cells, Pt.slots] at X3 l3 y3 z3 st3 hQ3
  subst l3 y3 z3
  obtain ⟨rfl, N3q, e3⟩ := hQ3
  have N3 := Fr.app N1 N3q
  obtain ⟨fs, hr, hrun, hended, hWm, hsame⟩ := X3.leave (v := some (.int (1 : Int32))) (fun h => by rw [Bd.returns] at h; cases h)
  refine ⟨_, _, pre0 _ ?_, hrun, hended, _, _, rfl, ?_, ⟨_, rfl⟩, hWm, hsame.mono (by decide) (by decide)⟩
  · show Steps p.tables e below (s₁.setTop (mkF m 0 La [])) _
    refine sI X0 hx hby d4_0 rfl ?_
    refine sI X0 hx hby d4_1 rfl ?_
    refine st1 _ ?_
    refine XS.istoreN X1.here hx rfl (hb hby d4_5) rfl (l' := Lb2) rfl ?_
    refine sA X1 hx hby d4_6 rfl rfl ?_
    refine st3.trans ?_
    refine XS.tswIn X3.here hx rfl (pc0 := 10) (pc' := 94) (o := 84) rfl (hb hby d4_10) rfl (by decide) (by decide) (by decide) (by decide) ?_
    refine sI X3 hx hby d4_94 rfl ?_
    refine sN X3 hx hby d4_95 (by decide) ?_
    refine sc X3 hx hby d4_98 ?_
    refine sg (pc := 99) (pc' := 127) X3 hx hby d4_99 (by decide) (by decide) ?_
    show Steps p.tables e below (T3.setTop (mkF m 127 Lb2 [(.int (1 : Int32))])) _
    exact retN X3 hx (t := .boolean) Bd.returns (by simp) (hb hby d4_127) hr
  · show Q4_35 Z w q1 q2 h0 n0 _ T3.heap _
    rw [e3]
    exact ⟨rfl, N3, rfl⟩
theorem d4_110 : decode prog_75_method_7_code 110 = .ok (.iconst 1, 1) := by decide +kernel
theorem d4_111 : decode prog_75_method_7_code 111 = .ok (.goto 16, 3) := by decide +kernel
theorem ef_4_36 (m : MethodId) (w : Nat → Addr) (q1 : Int32) (q2 : Int32) : entryFrame m #[(.ref (w 5)), (.int q1), (.int q2)] 4 = mkF m 0 #[.val (.ref (w 5)), .val (.int q1), .val (.int q2), .unset] [] := by first | (simp [entryFrame, mkF, argsToLocals, Value.category]; done) | rfl
def Q4_36 (Z : State) (w : Nat → Addr) (q1 : Int32) (q2 : Int32) (h0 : Heap) (n0 : Nat) (v : Option Value) (h : Heap) (L : List Loc) : Prop := v = some (.int (1 : Int32)) ∧ Fr n0 L ∧ h = h0
set_option maxRecDepth 65536 in
set_option maxHeartbeats 40000000 in
theorem rm4_36 (l : Launch) (Z : State) (a0 : Array Value) (hw : ∀ d ∈ tables_1, d.before a0 Z = true) (w : Nat → Addr) (hW : Wd Z w) (ws : List Jvm.Cond) (q1 : Int32) (q2 : Int32) (h0 : Heap) (n0 : Nat) (O0 : Old Z n0 h0) (c1 : ¬ (q1 < q2)) (c2 : ¬ (q1 = q2)) :
    MetFree l ym5 (head1 (Jvm.Cond.code ym5 prog_75_method_7_code 4 (some .boolean) :: ws) ({ frames := 1, cells := 0, slots := 0, locals := 13 } : Room)) (fun a U => a = #[(.ref (w 5)), (.int q1), (.int q2)] ∧ Z.Warmed39 U.vm ∧ U.heap = h0) (fun _ _ _ _ _ => True) (fun _ U o U' => ∃ v L, o = .returned v ∧ Q4_36 Z w q1 q2 h0 n0 v U'.heap L ∧ FrameEnd U o U' L ({ frames := 1, cells := 0, slots := 0, locals := 13 } : Room).cells ({ frames := 1, cells := 0, slots := 0, locals := 13 } : Room).slots) := by
  refine MetFree.of_bodySF (plainFor_of_name pnc_2) hisR ?_
  intro p e s m args below meth c s₁ Bd hml0 hP hK
  obtain ⟨rfl, hZ, hh⟩ := hP
  have hx := Bd.exec
  have hby := Bd.bytes
  have hml : c.maxLocals = 4 := hml0
  have hown : s.vm.findClass "com/example/gofyn/gofyn/typed/Term$Operator" = some m.cls := findClass_of_methodNamed Bd.named
  have hnm := (name_of_methodNamed Bd.named Bd.method).1
  have X0 : Stand p l e ({ frames := 1, cells := 0, slots := 0, locals := 13 } : Room) s m #[(.ref (w 5)), (.int q1), (.int q2)] below meth c s₁ [] 0 0 := Stand.of_body Bd
  have e0 : s₁.heap = h0 := by rw [← hh, Bd.state]; rfl
  have N0 := Fr.nil n0
  let La : Array Slot := #[.val (.ref (w 5)), .val (.int q1), .val (.int q2), .unset]
  have pre0 : ∀ t, Steps p.tables e below (s₁.setTop (mkF m 0 #[.val (.ref (w 5)), .val (.int q1), .val (.int q2), .unset] [])) t → Steps p.tables e below (s₁.setTop (entryFrame m #[(.ref (w 5)), (.int q1), (.int q2)] 4)) t := fun t k => castTop (ef_4_36 m w q1 q2) k
  obtain ⟨_, _, ⟨T1, L1, kk1, nn1⟩, -, X1, ⟨Lc1, hQ1, l1, y1, z1⟩, st1⟩ := Jvm.LawKit.callS X0 hx (y := ym4) hown (mvT hZ (wk29 hw)) (mvT hZ (wk30 hw)) (mvT hZ (wk31 hw)) (mvT hZ (wk32 hw)) (by decide) (backOf (W := 0) (rm5_12 l Z a0 hw w hW [] q1 q2 h0 n0 O0 c1 c2) hZ (wk32 hw) (wk31 hw) (by decide) (by decide)) (g := (mkF m 2 La [(.int q2), (.int q1)])) rfl (by rw [hml]; rfl) (argsL := [(.int q1), (.int q2)]) (rest := []) (lenOf pds_3 rfl) rfl (by show 2 * 0 + _ ≤ _; exact Nat.le_of_eq rfl) (hb hby d4_2) (fun _ _ => ⟨rfl, e0, (by decide : 0 + 0 ≤ _), (by decide : 0 + 0 ≤ _)⟩)
  dsimp only [Pt.U, Pt.locs, Pt.cells, Pt.slots] at X1 l1 y1 z1 st1 hQ1
  subst l1 y1 z1
  obtain ⟨rfl, N1q, e1⟩ := hQ1
  have N1 := Fr.app N0 N1q
  let Lb2 : Array Slot := #[.val (.ref (w 5)), .val (.int q1), .val (.int q2), .val (.int (1 : Int32))]
  obtain ⟨cq3, kq3, q3a, q3b, q3c⟩ := isOf hZ e1 ((wd11 hW).ext O0.2)
  obtain ⟨_, _, ⟨T3, L3, kk3, nn3⟩, -, X3, ⟨Lc3, hQ3, l3, y3, z3⟩, st3⟩ := X1.virtualBackUp hx (x := ym2) (y := ym1) hown (mvT hZ (wk13 hw)) (mvT hZ (wk14 hw)) (mvT hZ (wk15 hw)) (by decide) (mvT hZ (wk17 hw)) (mvT hZ (wk16 hw)) (backOf (W := 0) (rm3_30 l Z a0 hw w hW []  h0 n0 O0 ) hZ (wk19 hw) (wk18 hw) (by decide) (by decide)) q3a q3c (g := (mkF m 7 Lb2 [(.ref (w 5))])) rfl (by rw [hml]; rfl) (Steps.refl _) (argsL := []) (rest := []) (lenOf pds_1 rfl) rfl (by show 2 * 0 + _ ≤ _; exact Nat.le_of_eq rfl) (hb hby d4_7) (fun _ _ => ⟨rfl, e1, (by decide : 0 + 0 ≤ _), (by decide : 0 + 0 ≤ _)⟩)
  dsimp only [Pt.U, Pt.locs, Pt.cells, Pt.slots] at X3 l3 y3 z3 st3 hQ3
  subst l3 y3 z3
  obtain ⟨rfl, N3q, e3⟩ := hQ3
  have N3 := Fr.app N1 N3q
  obtain ⟨fs, hr, hrun, hended, hWm, hsame⟩ := X3.leave (v := some (.int (1 : Int32))) (fun h => by rw [Bd.returns] at h; cases h)
  refine ⟨_, _, pre0 _ ?_, hrun, hended, _, _, rfl, ?_, ⟨_, rfl⟩, hWm, hsame.mono (by decide) (by decide)⟩
  · show Steps p.tables e below (s₁.setTop (mkF m 0 La [])) _
    refine sI X0 hx hby d4_0 rfl ?_
    refine sI X0 hx hby d4_1 rfl ?_
    refine st1 _ ?_
    refine XS.istoreN X1.here hx rfl (hb hby d4_5) rfl (l' := Lb2) rfl ?_
    refine sA X1 hx hby d4_6 rfl rfl ?_
    refine st3.trans ?_
    refine XS.tswIn X3.here hx rfl (pc0 := 10) (pc' := 106) (o := 96) rfl (hb hby d4_10) rfl (by decide) (by decide) (by decide) (by decide) ?_
    refine sI X3 hx hby d4_106 rfl ?_
    refine sN X3 hx hby d4_107 (by decide) ?_
    refine sc X3 hx hby d4_110 ?_
    refine sg (pc := 111) (pc' := 127) X3 hx hby d4_111 (by decide) (by decide) ?_
    show Steps p.tables e below (T3.setTop (mkF m 127 Lb2 [(.int (1 : Int32))])) _
    exact retN X3 hx (t := .boolean) Bd.returns (by simp) (hb hby d4_127) hr
  · show Q4_36 Z w q1 q2 h0 n0 _ T3.heap _
    rw [e3]
    exact ⟨rfl, N3, rfl⟩
theorem d4_102 : decode prog_75_method_7_code 102 = .ok (.iconst 0, 1) := by decide +kernel
theorem d4_103 : decode prog_75_method_7_code 103 = .ok (.goto 24, 3) := by decide +kernel
theorem ef_4_37 (m : MethodId) (w : Nat → Addr) (q1 : Int32) (q2 : Int32) : entryFrame m #[(.ref (w 4)), (.int q1), (.int q2)] 4 = mkF m 0 #[.val (.ref (w 4)), .val (.int q1), .val (.int q2), .unset] [] := by first | (simp [entryFrame, mkF, argsToLocals, Value.category]; done) | rfl
def Q4_37 (Z : State) (w : Nat → Addr) (q1 : Int32) (q2 : Int32) (h0 : Heap) (n0 : Nat) (v : Option Value) (h : Heap) (L : List Loc) : Prop := v = some (.int (0 : Int32)) ∧ Fr n0 L ∧ h = h0
set_option maxRecDepth 65536 in
set_option maxHeartbeats 40000000 in
theorem rm4_37 (l : Launch) (Z : State) (a0 : Array Value) (hw : ∀ d ∈ tables_1, d.before a0 Z = true) (w : Nat → Addr) (hW : Wd Z w) (ws : List Jvm.Cond) (q1 : Int32) (q2 : Int32) (h0 : Heap) (n0 : Nat) (O0 : Old Z n0 h0) (c1 : ¬ (q1 < q2)) (c2 : ¬ (q1 = q2)) :
    MetFree l ym5 (head1 (Jvm.Cond.code ym5 prog_75_method_7_code 4 (some .boolean) :: ws) ({ frames := 1, cells := 0, slots := 0, locals := 13 } : Room)) (fun a U => a = #[(.ref (w 4)), (.int q1), (.int q2)] ∧ Z.Warmed39 U.vm ∧ U.heap = h0) (fun _ _ _ _ _ => True) (fun _ U o U' => ∃ v L, o = .returned v ∧ Q4_37 Z w q1 q2 h0 n0 v U'.heap L ∧ FrameEnd U o U' L ({ frames := 1, cells := 0, slots := 0, locals := 13 } : Room).cells ({ frames := 1, cells := 0, slots := 0, locals := 13 } : Room).slots) := by
  refine MetFree.of_bodySF (plainFor_of_name pnc_2) hisR ?_
  intro p e s m args below meth c s₁ Bd hml0 hP hK
  obtain ⟨rfl, hZ, hh⟩ := hP
  have hx := Bd.exec
  have hby := Bd.bytes
  have hml : c.maxLocals = 4 := hml0
  have hown : s.vm.findClass "com/example/gofyn/gofyn/typed/Term$Operator" = some m.cls := findClass_of_methodNamed Bd.named
  have hnm := (name_of_methodNamed Bd.named Bd.method).1
  have X0 : Stand p l e ({ frames := 1, cells := 0, slots := 0, locals := 13 } : Room) s m #[(.ref (w 4)), (.int q1), (.int q2)] below meth c s₁ [] 0 0 := Stand.of_body Bd
  have e0 : s₁.heap = h0 := by rw [← hh, Bd.state]; rfl
  have N0 := Fr.nil n0
  let La : Array Slot := #[.val (.ref (w 4)), .val (.int q1), .val (.int q2), .unset]
  have pre0 : ∀ t, Steps p.tables e below (s₁.setTop (mkF m 0 #[.val (.ref (w 4)), .val (.int q1), .val (.int q2), .unset] [])) t → Steps p.tables e below (s₁.setTop (entryFrame m #[(.ref (w 4)), (.int q1), (.int q2)] 4)) t := fun t k => castTop (ef_4_37 m w q1 q2) k
  obtain ⟨_, _, ⟨T1, L1, kk1, nn1⟩, -, X1, ⟨Lc1, hQ1, l1, y1, z1⟩, st1⟩ := Jvm.LawKit.callS X0 hx (y := ym4) hown (mvT hZ (wk29 hw)) (mvT hZ (wk30 hw)) (mvT hZ (wk31 hw)) (mvT hZ (wk32 hw)) (by decide) (backOf (W := 0) (rm5_12 l Z a0 hw w hW [] q1 q2 h0 n0 O0 c1 c2) hZ (wk32 hw) (wk31 hw) (by decide) (by decide)) (g := (mkF m 2 La [(.int q2), (.int q1)])) rfl (by rw [hml]; rfl) (argsL := [(.int q1), (.int q2)]) (rest := []) (lenOf pds_3 rfl) rfl (by show 2 * 0 + _ ≤ _; exact Nat.le_of_eq rfl) (hb hby d4_2) (fun _ _ => ⟨rfl, e0, (by decide : 0 + 0 ≤ _), (by decide : 0 + 0 ≤ _)⟩)
  dsimp only [Pt.U, Pt.locs, Pt.cells, Pt.slots] at X1 l1 y1 z1 st1 hQ1
  subst l1 y1 z1
  obtain ⟨rfl, N1q, e1⟩ := hQ1
  have N1 := Fr.app N0 N1q
  let Lb2 : Array Slot := #[.val (.ref (w 4)), .val (.int q1), .val (.int q2), .val (.int (1 : Int32))]
  obtain ⟨cq3, kq3, q3a, q3b, q3c⟩ := isOf hZ e1 ((wd9 hW).ext O0.2)
  obtain ⟨_, _, ⟨T3, L3, kk3, nn3⟩, -, X3, ⟨Lc3, hQ3, l3, y3, z3⟩, st3⟩ := X1.virtualBackUp hx (x := ym2) (y := ym1) hown (mvT hZ (wk13 hw)) (mvT hZ (wk14 hw)) (mvT hZ (wk15 hw)) (by decide) (mvT hZ (wk17 hw)) (mvT hZ (wk16 hw)) (backOf (W := 0) (rm3_28 l Z a0 hw w hW []  h0 n0 O0 ) hZ (wk19 hw) (wk18 hw) (by decide) (by decide)) q3a q3c (g := (mkF m 7 Lb2 [(.ref (w 4))])) rfl (by rw [hml]; rfl) (Steps.refl _) (argsL := []) (rest := []) (lenOf pds_1 rfl) rfl (by show 2 * 0 + _ ≤ _; exact Nat.le_of_eq rfl) (hb hby d4_7) (fun _ _ => ⟨rfl, e1, (by decide : 0 + 0 ≤ _), (by decide : 0 + 0 ≤ _)⟩)
  dsimp only [Pt.U, Pt.locs, Pt.cells, Pt.slots] at X3 l3 y3 z3 st3 hQ3
  subst l3 y3 z3
  obtain ⟨rfl, N3q, e3⟩ := hQ3
  have N3 := Fr.app N1 N3q
  obtain ⟨fs, hr, hrun, hended, hWm, hsame⟩ := X3.leave (v := some (.int (0 : Int32))) (fun h => by rw [Bd.returns] at h; cases h)
  refine ⟨_, _, pre0 _ ?_, hrun, hended, _, _, rfl, ?_, ⟨_, rfl⟩, hWm, hsame.mono (by decide) (by decide)⟩
  · show Steps p.tables e below (s₁.setTop (mkF m 0 La [])) _
    refine sI X0 hx hby d4_0 rfl ?_
    refine sI X0 hx hby d4_1 rfl ?_
    refine st1 _ ?_
    refine XS.istoreN X1.here hx rfl (hb hby d4_5) rfl (l' := Lb2) rfl ?_
    refine sA X1 hx hby d4_6 rfl rfl ?_
    refine st3.trans ?_
    refine XS.tswIn X3.here hx rfl (pc0 := 10) (pc' := 94) (o := 84) rfl (hb hby d4_10) rfl (by decide) (by decide) (by decide) (by decide) ?_
    refine sI X3 hx hby d4_94 rfl ?_
    refine XS.ifYes X3.here hx rfl (pc0 := 95) (pc' := 102) rfl (hb hby d4_95) rfl (by decide) (by decide) (by decide) ?_
    refine sc X3 hx hby d4_102 ?_
    refine sg (pc := 103) (pc' := 127) X3 hx hby d4_103 (by decide) (by decide) ?_
    show Steps p.tables e below (T3.setTop (mkF m 127 Lb2 [(.int (0 : Int32))])) _
    exact retN X3 hx (t := .boolean) Bd.returns (by simp) (hb hby d4_127) hr
  · show Q4_37 Z w q1 q2 h0 n0 _ T3.heap _
    rw [e3]
    exact ⟨rfl, N3, rfl⟩
theorem d1_43 : decode method_2_code 43 = .ok (.iload_n 1, 1) := by decide +kernel
theorem d1_44 : decode method_2_code 44 = .ok (.iconst 4, 1) := by decide +kernel
theorem d1_45 : decode method_2_code 45 = .ok (.if_icmp .ne 7, 3) := by decide +kernel
theorem d1_48 : decode method_2_code 48 = .ok (.getstatic 23, 3) := by decide +kernel
theorem d1_51 : decode method_2_code 51 = .ok (.areturn, 1) := by decide +kernel
theorem ef_1_38 (m : MethodId) (q1 : Int32) : entryFrame m #[(.int q1)] 2 = mkF m 0 #[.val (.int q1), .unset] [] := by first | (simp [entryFrame, mkF, argsToLocals, Value.category]; done) | rfl
def Q1_38 (Z : State) (w : Nat → Addr) (q1 : Int32) (h0 : Heap) (n0 : Nat) (v : Option Value) (h : Heap) (L : List Loc) : Prop := v = some (.ref (w 5)) ∧ Fr n0 L ∧ h = h0
set_option maxRecDepth 65536 in
set_option maxHeartbeats 40000000 in
theorem rm1_38 (l : Launch) (Z : State) (a0 : Array Value) (hw : ∀ d ∈ tables_1, d.before a0 Z = true) (w : Nat → Addr) (hW : Wd Z w) (ws : List Jvm.Cond) (q1 : Int32) (h0 : Heap) (n0 : Nat) (O0 : Old Z n0 h0) (c1 : ¬ (((q1 &&& (2147483647 : Int32)) % (6 : Int32)) = (0 : Int32))) (c2 : ¬ (((q1 &&& (2147483647 : Int32)) % (6 : Int32)) = (1 : Int32))) (c3 : ¬ (((q1 &&& (2147483647 : Int32)) % (6 : Int32)) = (2 : Int32))) (c4 : ¬ (((q1 &&& (2147483647 : Int32)) % (6 : Int32)) = (3 : Int32))) (c5 : ((q1 &&& (2147483647 : Int32)) % (6 : Int32)) = (4 : Int32)) :
    MetFree l ym0 (head1 (Jvm.Cond.code ym0 method_2_code 2 (some (.object "com/example/gofyn/gofyn/typed/Term$Operator")) :: ws) ({ frames := 0, cells := 0, slots := 0, locals := 0 } : Room)) (fun a U => a = #[(.int q1)] ∧ Z.Warmed39 U.vm ∧ U.heap = h0) (fun _ _ _ _ _ => True) (fun _ U o U' => ∃ v L, o = .returned v ∧ Q1_38 Z w q1 h0 n0 v U'.heap L ∧ FrameEnd U o U' L ({ frames := 0, cells := 0, slots := 0, locals := 0 } : Room).cells ({ frames := 0, cells := 0, slots := 0, locals := 0 } : Room).slots) := by
  refine MetFree.of_bodySF (plainFor_of_name pnc_0) hisR ?_
  intro p e s m args below meth c s₁ Bd hml0 hP hK
  obtain ⟨rfl, hZ, hh⟩ := hP
  have hx := Bd.exec
  have hby := Bd.bytes
  have hml : c.maxLocals = 2 := hml0
  have hown : s.vm.findClass "com/example/gofyn/gofyn/typed/OperatorComplementPinLaw" = some m.cls := findClass_of_methodNamed Bd.named
  have hnm := (name_of_methodNamed Bd.named Bd.method).1
  have X0 : Stand p l e ({ frames := 0, cells := 0, slots := 0, locals := 0 } : Room) s m #[(.int q1)] below meth c s₁ [] 0 0 := Stand.of_body Bd
  have e0 : s₁.heap = h0 := by rw [← hh, Bd.state]; rfl
  have N0 := Fr.nil n0
  skip
  have pre0 : ∀ t, Steps p.tables e below (s₁.setTop (mkF m 0 #[.val (.int q1), .unset] [])) t → Steps p.tables e below (s₁.setTop (entryFrame m #[(.int q1)] 2)) t := fun t k => castTop (ef_1_38 m q1) k
  let Lb1 : Array Slot := #[.val (.int q1), .val (.int ((q1 &&& (2147483647 : Int32)) % (6 : Int32)))]
  obtain ⟨T2, X2, e2, st2⟩ := getS2 X0 hx hZ hown (host := "") (Or.inl (wk46 hw)) Via.refl e0 ((wd10 hW).ext O0.2) (g := (mkF m 48 Lb1 [])) rfl (hb hby d1_48)
  obtain ⟨fs, hr, hrun, hended, hWm, hsame⟩ := X2.leave (v := some (.ref (w 5))) (fun h => by rw [Bd.returns] at h; cases h)
  refine ⟨_, _, pre0 _ ?_, hrun, hended, _, _, rfl, ?_, ⟨_, rfl⟩, hWm, hsame.mono (by decide) (by decide)⟩
  · show Steps p.tables e below (s₁.setTop (mkF m 0 #[.val (.int q1), .unset] [])) _
    refine sI X0 hx hby d1_0 rfl ?_
    refine X0.ldcInt hx hown (mvT hZ (wk4 hw)) (g := (mkF m 1 #[.val (.int q1), .unset] [(.int q1)])) rfl (hb hby d1_1) _ ?_
    refine XS.iand X0.here hx rfl (hb hby d1_3) rfl ?_
    refine XS.bipush X0.here hx rfl (hb hby d1_4) ?_
    refine iremM X0 hx rfl (hb hby d1_6) rfl (by decide) ?_
    show Steps p.tables e below (s₁.setTop (mkF m 7 #[.val (.int q1), .unset] [(.int ((q1 &&& (2147483647 : Int32)) % (6 : Int32)))])) _
    refine XS.istoreN X0.here hx rfl (hb hby d1_7) rfl (l' := Lb1) rfl ?_
    refine sI X0 hx hby d1_8 rfl ?_
    refine XS.ifYes X0.here hx rfl (pc0 := 9) (pc' := 16) rfl (hb hby d1_9) rfl ((if0 _ _).trans (feq (c1 : ¬ (((q1 &&& (2147483647 : Int32)) % (6 : Int32)) = (0 : Int32)))).2) (by decide) (by decide) ?_
    refine sI X0 hx hby d1_16 rfl ?_
    refine sc X0 hx hby d1_17 ?_
    show Steps p.tables e below (s₁.setTop (mkF m 18 Lb1 [(.int (1 : Int32)), (.int ((q1 &&& (2147483647 : Int32)) % (6 : Int32)))])) _
    refine XS.icmpYes X0.here hx rfl (pc0 := 18) (pc' := 25) rfl (hb hby d1_18) rfl (feq (c2 : ¬ (((q1 &&& (2147483647 : Int32)) % (6 : Int32)) = (1 : Int32)))).2 (by decide) (by decide) ?_
    refine sI X0 hx hby d1_25 rfl ?_
    refine sc X0 hx hby d1_26 ?_
    refine XS.icmpYes X0.here hx rfl (pc0 := 27) (pc' := 34) rfl (hb hby d1_27) rfl (feq (c3 : ¬ (((q1 &&& (2147483647 : Int32)) % (6 : Int32)) = (2 : Int32)))).2 (by decide) (by decide) ?_
    refine sI X0 hx hby d1_34 rfl ?_
    show Steps p.tables e below (s₁.setTop (mkF m 35 Lb1 [(.int ((q1 &&& (2147483647 : Int32)) % (6 : Int32)))])) _
    refine sc X0 hx hby d1_35 ?_
    refine XS.icmpYes X0.here hx rfl (pc0 := 36) (pc' := 43) rfl (hb hby d1_36) rfl (feq (c4 : ¬ (((q1 &&& (2147483647 : Int32)) % (6 : Int32)) = (3 : Int32)))).2 (by decide) (by decide) ?_
    refine sI X0 hx hby d1_43 rfl ?_
    refine sc X0 hx hby d1_44 ?_
    refine sn X0 hx hby d1_45 (teq (c5 : ((q1 &&& (2147483647 : Int32)) % (6 : Int32)) = (4 : Int32))).2 ?_
    show Steps p.tables e below (s₁.setTop (mkF m 48 Lb1 [])) _
    refine st2 _ ?_
    jvm_step X2.here [X2.here.top, hx, (hb hby d1_51), X2.method', Bd.returns, Value.isRef, FieldType.isReference]
    first | (intro acts; rw [hr _ acts rfl rfl rfl]) | rw [hr _ _ rfl rfl rfl]
    exact Steps.refl _
  · show Q1_38 Z w q1 h0 n0 _ T2.heap _
    rw [e2]
    exact ⟨rfl, N0, rfl⟩
theorem d1_52 : decode method_2_code 52 = .ok (.getstatic 26, 3) := by decide +kernel
theorem d1_55 : decode method_2_code 55 = .ok (.areturn, 1) := by decide +kernel
theorem ef_1_39 (m : MethodId) (q1 : Int32) : entryFrame m #[(.int q1)] 2 = mkF m 0 #[.val (.int q1), .unset] [] := by first | (simp [entryFrame, mkF, argsToLocals, Value.category]; done) | rfl
def Q1_39 (Z : State) (w : Nat → Addr) (q1 : Int32) (h0 : Heap) (n0 : Nat) (v : Option Value) (h : Heap) (L : List Loc) : Prop := v = some (.ref (w 3)) ∧ Fr n0 L ∧ h = h0
set_option maxRecDepth 65536 in
set_option maxHeartbeats 40000000 in
theorem rm1_39 (l : Launch) (Z : State) (a0 : Array Value) (hw : ∀ d ∈ tables_1, d.before a0 Z = true) (w : Nat → Addr) (hW : Wd Z w) (ws : List Jvm.Cond) (q1 : Int32) (h0 : Heap) (n0 : Nat) (O0 : Old Z n0 h0) (c1 : ¬ (((q1 &&& (2147483647 : Int32)) % (6 : Int32)) = (0 : Int32))) (c2 : ¬ (((q1 &&& (2147483647 : Int32)) % (6 : Int32)) = (1 : Int32))) (c3 : ¬ (((q1 &&& (2147483647 : Int32)) % (6 : Int32)) = (2 : Int32))) (c4 : ¬ (((q1 &&& (2147483647 : Int32)) % (6 : Int32)) = (3 : Int32))) (c5 : ¬ (((q1 &&& (2147483647 : Int32)) % (6 : Int32)) = (4 : Int32))) :
    MetFree l ym0 (head1 (Jvm.Cond.code ym0 method_2_code 2 (some (.object "com/example/gofyn/gofyn/typed/Term$Operator")) :: ws) ({ frames := 0, cells := 0, slots := 0, locals := 0 } : Room)) (fun a U => a = #[(.int q1)] ∧ Z.Warmed39 U.vm ∧ U.heap = h0) (fun _ _ _ _ _ => True) (fun _ U o U' => ∃ v L, o = .returned v ∧ Q1_39 Z w q1 h0 n0 v U'.heap L ∧ FrameEnd U o U' L ({ frames := 0, cells := 0, slots := 0, locals := 0 } : Room).cells ({ frames := 0, cells := 0, slots := 0, locals := 0 } : Room).slots) := by
  refine MetFree.of_bodySF (plainFor_of_name pnc_0) hisR ?_
  intro p e s m args below meth c s₁ Bd hml0 hP hK
  obtain ⟨rfl, hZ, hh⟩ := hP
  have hx := Bd.exec
  have hby := Bd.bytes
  have hml : c.maxLocals = 2 := hml0
  have hown : s.vm.findClass "com/example/gofyn/gofyn/typed/OperatorComplementPinLaw" = some m.cls := findClass_of_methodNamed Bd.named
  have hnm := (name_of_methodNamed Bd.named Bd.method).1
  have X0 : Stand p l e ({ frames := 0, cells := 0, slots := 0, locals := 0 } : Room) s m #[(.int q1)] below meth c s₁ [] 0 0 := Stand.of_body Bd
  have e0 : s₁.heap = h0 := by rw [← hh, Bd.state]; rfl
  have N0 := Fr.nil n0
  skip
  have pre0 : ∀ t, Steps p.tables e below (s₁.setTop (mkF m 0 #[.val (.int q1), .unset] [])) t → Steps p.tables e below (s₁.setTop (entryFrame m #[(.int q1)] 2)) t := fun t k => castTop (ef_1_39 m q1) k
  let Lb1 : Array Slot := #[.val (.int q1), .val (.int ((q1 &&& (2147483647 : Int32)) % (6 : Int32)))]
  obtain ⟨T2, X2, e2, st2⟩ := getS2 X0 hx hZ hown (host := "") (Or.inl (wk40 hw)) Via.refl e0 ((wd6 hW).ext O0.2) (g := (mkF m 52 Lb1 [])) rfl (hb hby d1_52)
  obtain ⟨fs, hr, hrun, hended, hWm, hsame⟩ := X2.leave (v := some (.ref (w 3))) (fun h => by rw [Bd.returns] at h; cases h)
  refine ⟨_, _, pre0 _ ?_, hrun, hended, _, _, rfl, ?_, ⟨_, rfl⟩, hWm, hsame.mono (by decide) (by decide)⟩
  · show Steps p.tables e below (s₁.setTop (mkF m 0 #[.val (.int q1), .unset] [])) _
    refine sI X0 hx hby d1_0 rfl ?_
    refine X0.ldcInt hx hown (mvT hZ (wk4 hw)) (g := (mkF m 1 #[.val (.int q1), .unset] [(.int q1)])) rfl (hb hby d1_1) _ ?_
    refine XS.iand X0.here hx rfl (hb hby d1_3) rfl ?_
    refine XS.bipush X0.here hx rfl (hb hby d1_4) ?_
    refine iremM X0 hx rfl (hb hby d1_6) rfl (by decide) ?_
    show Steps p.tables e below (s₁.setTop (mkF m 7 #[.val (.int q1), .unset] [(.int ((q1 &&& (2147483647 : Int32)) % (6 : Int32)))])) _
    refine XS.istoreN X0.here hx rfl (hb hby d1_7) rfl (l' := Lb1) rfl ?_
    refine sI X0 hx hby d1_8 rfl ?_
    refine XS.ifYes X0.here hx rfl (pc0 := 9) (pc' := 16) rfl (hb hby d1_9) rfl ((if0 _ _).trans (feq (c1 : ¬ (((q1 &&& (2147483647 : Int32)) % (6 : Int32)) = (0 : Int32)))).2) (by decide) (by decide) ?_
    refine sI X0 hx hby d1_16 rfl ?_
    refine sc X0 hx hby d1_17 ?_
    show Steps p.tables e below (s₁.setTop (mkF m 18 Lb1 [(.int (1 : Int32)), (.int ((q1 &&& (2147483647 : Int32)) % (6 : Int32)))])) _
    refine XS.icmpYes X0.here hx rfl (pc0 := 18) (pc' := 25) rfl (hb hby d1_18) rfl (feq (c2 : ¬ (((q1 &&& (2147483647 : Int32)) % (6 : Int32)) = (1 : Int32)))).2 (by decide) (by decide) ?_
    refine sI X0 hx hby d1_25 rfl ?_
    refine sc X0 hx hby d1_26 ?_
    refine XS.icmpYes X0.here hx rfl (pc0 := 27) (pc' := 34) rfl (hb hby d1_27) rfl (feq (c3 : ¬ (((q1 &&& (2147483647 : Int32)) % (6 : Int32)) = (2 : Int32)))).2 (by decide) (by decide) ?_
    refine sI X0 hx hby d1_34 rfl ?_
    show Steps p.tables e below (s₁.setTop (mkF m 35 Lb1 [(.int ((q1 &&& (2147483647 : Int32)) % (6 : Int32)))])) _
    refine sc X0 hx hby d1_35 ?_
    refine XS.icmpYes X0.here hx rfl (pc0 := 36) (pc' := 43) rfl (hb hby d1_36) rfl (feq (c4 : ¬ (((q1 &&& (2147483647 : Int32)) % (6 : Int32)) = (3 : Int32)))).2 (by decide) (by decide) ?_
    refine sI X0 hx hby d1_43 rfl ?_
    refine sc X0 hx hby d1_44 ?_
    refine XS.icmpYes X0.here hx rfl (pc0 := 45) (pc' := 52) rfl (hb hby d1_45) rfl (feq (c5 : ¬ (((q1 &&& (2147483647 : Int32)) % (6 : Int32)) = (4 : Int32)))).2 (by decide) (by decide) ?_
    show Steps p.tables e below (s₁.setTop (mkF m 52 Lb1 [])) _
    refine st2 _ ?_
    jvm_step X2.here [X2.here.top, hx, (hb hby d1_55), X2.method', Bd.returns, Value.isRef, FieldType.isReference]
    first | (intro acts; rw [hr _ acts rfl rfl rfl]) | rw [hr _ _ rfl rfl rfl]
    exact Steps.refl _
  · show Q1_39 Z w q1 h0 n0 _ T2.heap _
    rw [e2]
    exact ⟨rfl, N0, rfl⟩
theorem ef_0_40 (m : MethodId) (p0 : Int32) (p1 : Int32) (p2 : Int32) : entryFrame m #[(.int p0), (.int p1), (.int p2)] maxLocals = mkF m 0 #[.val (.int p0), .val (.int p1), .val (.int p2), .unset, .unset, .unset, .unset] [] := by first | (simp [entryFrame, mkF, argsToLocals, Value.category, maxLocals]; done) | rfl
def Q0 (n0 : Nat) (v : Option Value) (h : Heap) (L : List Loc) : Prop := v = some (.int (1 : Int32)) ∧ Fr n0 L
set_option maxRecDepth 65536 in
set_option maxHeartbeats 400000000 in
theorem rm0 (l : Launch) (Z : State) (a0 : Array Value) (hw : ∀ d ∈ tables_1, d.before a0 Z = true) (w : Nat → Addr) (hW : Wd Z w) (ws : List Jvm.Cond) (p0 : Int32) (p1 : Int32) (p2 : Int32) (h0 : Heap) (n0 : Nat) (O0 : Old Z n0 h0) :
    MetFree l x (head1 (Jvm.Cond.code x code maxLocals ret :: ws) room_1) (fun a U => a = #[(.int p0), (.int p1), (.int p2)] ∧ Z.Warmed39 U.vm ∧ U.heap = h0) (fun _ _ _ _ _ => True) (fun _ U o U' => ∃ v L, o = .returned v ∧ Q0 n0 v U'.heap L ∧ FrameEnd U o U' L room_1.cells room_1.slots) := by
  refine MetFree.of_bodySF (plainFor_of_name pnc_0) hisR ?_
  intro p e s m args below meth c s₁ Bd hml0 hP hK
  obtain ⟨rfl, hZ, hh⟩ := hP
  have hx := Bd.exec
  have hby := Bd.bytes
  have hml : c.maxLocals = 7 := hml0
  have hown : s.vm.findClass "com/example/gofyn/gofyn/typed/OperatorComplementPinLaw" = some m.cls := findClass_of_methodNamed Bd.named
  have hnm := (name_of_methodNamed Bd.named Bd.method).1
  have X0 : Stand p l e room_1 s m #[(.int p0), (.int p1), (.int p2)] below meth c s₁ [] 0 0 := Stand.of_body Bd
  have e0 : s₁.heap = h0 := by rw [← hh, Bd.state]; rfl
  have N0 := Fr.nil n0
  let La : Array Slot := #[.val (.int p0), .val (.int p1), .val (.int p2), .unset, .unset, .unset, .unset]
  have pre0 : ∀ t, Steps p.tables e below (s₁.setTop (mkF m 0 #[.val (.int p0), .val (.int p1), .val (.int p2), .unset, .unset, .unset, .unset] [])) t → Steps p.tables e below (s₁.setTop (entryFrame m #[(.int p0), (.int p1), (.int p2)] maxLocals)) t := fun t k => castTop (ef_0_40 m p0 p1 p2) k
  have pre1 : ∀ t, Steps p.tables e below (s₁.setTop (mkF m 1 #[.val (.int p0), .val (.int p1), .val (.int p2), .unset, .unset, .unset, .unset] [(.int p0)])) t → Steps p.tables e below (s₁.setTop (entryFrame m #[(.int p0), (.int p1), (.int p2)] maxLocals)) t := fun t k => pre0 t (by
   show Steps p.tables e below (s₁.setTop (mkF m 0 La [])) _
   refine sI X0 hx hby at_0 rfl ?_
   exact k)
  rcases (own_rem6 p0) with hs2 | hs2 | hs2 | hs2 | hs2 | hs2
  ·
   obtain ⟨_, _, ⟨T3, L3, kk3, nn3⟩, -, X3, ⟨Lc3, hQ3, l3, y3, z3⟩, st3⟩ := Jvm.LawKit.callS X0 hx (y := ym0) hown (mvT hZ (wk0 hw)) (mvT hZ (wk1 hw)) (mvT hZ (wk2 hw)) (mvT hZ (wk3 hw)) (by decide) (backOf (W := 0) (rm1_1 l Z a0 hw w hW [] p0 h0 n0 O0 (by rw [hs2] <;> decide)) hZ (wk3 hw) (wk2 hw) (by decide) (by decide)) (g := (mkF m 1 La [(.int p0)])) rfl (by rw [hml]; rfl) (argsL := [(.int p0)]) (rest := []) (lenOf pds_0 rfl) rfl (by show 2 * 0 + _ ≤ _; exact Nat.le_of_eq rfl) (hb hby at_1) (fun _ _ => ⟨rfl, e0, (by decide : 0 + 0 ≤ _), (by decide : 0 + 0 ≤ _)⟩)
   dsimp only [Pt.U, Pt.locs, Pt.cells, Pt.slots] at X3 l3 y3 z3 st3 hQ3
   subst l3 y3 z3
   obtain ⟨rfl, N3q, e3⟩ := hQ3
   have N3 := Fr.app N0 N3q
   let Lb4 : Array Slot := #[.val (.int p0), .val (.int p1), .val (.int p2), .val (.ref (w 0)), .unset, .unset, .unset]
   obtain ⟨cq5, kq5, q5a, q5b, q5c⟩ := isOf hZ e3 ((wd1 hW).ext O0.2)
   obtain ⟨_, _, ⟨T5, L5, kk5, nn5⟩, -, X5, ⟨Lc5, hQ5, l5, y5, z5⟩, st5⟩ := X3.virtualBack hx (y := ym3) (z := ym3) hown (mvT hZ (wk8 hw)) (mvT hZ (wk9 hw)) (notFace_of_selects (args := #[]) (mvT hZ (wk11 hw))) (mvT hZ (wk11 hw)) (mvT hZ (wk10 hw)) (by decide) (backOf (W := 0) (rm2_3 l Z a0 hw w hW []  h0 n0 O0 ) hZ (wk12 hw) (wk6 hw) (by decide) (by decide)) q5a q5c (g := (mkF m 6 Lb4 [(.ref (w 0))])) rfl (by rw [hml]; rfl) (Steps.refl _) (argsL := []) (rest := []) (lenOf pds_2 rfl) rfl (by show 2 * 0 + _ ≤ _; exact Nat.le_of_eq rfl) (hb hby at_6) (fun _ _ => ⟨rfl, e3, (by decide : 0 + 0 ≤ _), (by decide : 0 + 0 ≤ _)⟩)
   dsimp only [Pt.U, Pt.locs, Pt.cells, Pt.slots] at X5 l5 y5 z5 st5 hQ5
   subst l5 y5 z5
   obtain ⟨rfl, N5q, e5⟩ := hQ5
   have N5 := Fr.app N3 N5q
   let Lb6 : Array Slot := #[.val (.int p0), .val (.int p1), .val (.int p2), .val (.ref (w 0)), .val (.ref (w 1)), .unset, .unset]
   have pre7 : ∀ t, Steps p.tables e below (T5.setTop (mkF m 22 Lb6 [(.int p2), (.int p1), (.ref (w 1))])) t → Steps p.tables e below (s₁.setTop (entryFrame m #[(.int p0), (.int p1), (.int p2)] maxLocals)) t := fun t k => pre1 t (by
    show Steps p.tables e below (s₁.setTop (mkF m 1 La [(.int p0)])) _
    refine st3 _ ?_
    refine XS.astoreN X3.here hx rfl (hb hby at_4) rfl rfl (l' := Lb4) rfl ?_
    refine sA X3 hx hby at_5 rfl rfl ?_
    refine st5.trans ?_
    refine XS.astore X5.here hx rfl (hb hby at_9) rfl rfl (l' := Lb6) rfl ?_
    refine sa X5 hx hby at_11 rfl rfl ?_
    refine XS.ifnonnullYes X5.here hx rfl (pc0 := 13) (pc' := 18) rfl (hb hby at_13) rfl (by decide) (by decide) ?_
    refine sa X5 hx hby at_18 rfl rfl ?_
    refine sI X5 hx hby at_20 rfl ?_
    show Steps p.tables e below (T5.setTop (mkF m 21 Lb6 [(.int p1), (.ref (w 1))])) _
    refine sI X5 hx hby at_21 rfl ?_
    exact k)
   by_cases hc8 : p1 < p2
   ·
    obtain ⟨cq9, kq9, q9a, q9b, q9c⟩ := isOf hZ e5 ((wd3 hW).ext O0.2)
    obtain ⟨_, _, ⟨T9, L9, kk9, nn9⟩, -, X9, ⟨Lc9, hQ9, l9, y9, z9⟩, st9⟩ := X5.virtualBack hx (y := ym5) (z := ym5) hown (mvT hZ (wk24 hw)) (mvT hZ (wk25 hw)) (notFace_of_selects (args := #[]) (mvT hZ (wk27 hw))) (mvT hZ (wk27 hw)) (mvT hZ (wk26 hw)) (by decide) (backOf (W := 0) (rm4_6 l Z a0 hw w hW [] p1 p2 h0 n0 O0 hc8) hZ (wk28 hw) (wk6 hw) (by decide) (by decide)) q9a q9c (g := (mkF m 22 Lb6 [(.int p2), (.int p1), (.ref (w 1))])) rfl (by rw [hml]; rfl) (Steps.refl _) (argsL := [(.int p1), (.int p2)]) (rest := []) (lenOf pds_4 rfl) rfl (by show 2 * 0 + _ ≤ _; exact Nat.le_of_eq rfl) (hb hby at_22) (fun _ _ => ⟨rfl, e5, (by decide : 0 + 0 ≤ _), (by decide : 0 + 0 ≤ _)⟩)
    dsimp only [Pt.U, Pt.locs, Pt.cells, Pt.slots] at X9 l9 y9 z9 st9 hQ9
    subst l9 y9 z9
    obtain ⟨rfl, N9q, e9⟩ := hQ9
    have N9 := Fr.app N5 N9q
    obtain ⟨cq10, kq10, q10a, q10b, q10c⟩ := isOf hZ e9 ((wd1 hW).ext O0.2)
    obtain ⟨_, _, ⟨T10, L10, kk10, nn10⟩, -, X10, ⟨Lc10, hQ10, l10, y10, z10⟩, st10⟩ := X9.virtualBack hx (y := ym5) (z := ym5) hown (mvT hZ (wk24 hw)) (mvT hZ (wk25 hw)) (notFace_of_selects (args := #[]) (mvT hZ (wk27 hw))) (mvT hZ (wk27 hw)) (mvT hZ (wk26 hw)) (by decide) (backOf (W := 1) (rm4_7 l Z a0 hw w hW [] p1 p2 h0 n0 O0 hc8) hZ (wk28 hw) (wk6 hw) (by decide) (by decide)) q10a q10c (g := (mkF m 28 Lb6 [(.int p2), (.int p1), (.ref (w 0)), (.int (1 : Int32))])) rfl (by rw [hml]; rfl) (Steps.refl _) (argsL := [(.int p1), (.int p2)]) (rest := [(.int (1 : Int32))]) (lenOf pds_4 rfl) rfl (by show 2 * 0 + _ ≤ _; exact Nat.le_of_eq rfl) (hb hby at_28) (fun _ _ => ⟨rfl, e9, (by decide : 0 + 0 ≤ _), (by decide : 0 + 0 ≤ _)⟩)
    dsimp only [Pt.U, Pt.locs, Pt.cells, Pt.slots] at X10 l10 y10 z10 st10 hQ10
    subst l10 y10 z10
    obtain ⟨rfl, N10q, e10⟩ := hQ10
    have N10 := Fr.app N9 N10q
    let Lb11 : Array Slot := #[.val (.int p0), .val (.int p1), .val (.int p2), .val (.ref (w 0)), .val (.ref (w 1)), .val (.int (1 : Int32)), .unset]
    obtain ⟨cq12, kq12, q12a, q12b, q12c⟩ := isOf hZ e10 ((wd3 hW).ext O0.2)
    obtain ⟨_, _, ⟨T12, L12, kk12, nn12⟩, -, X12, ⟨Lc12, hQ12, l12, y12, z12⟩, st12⟩ := X10.virtualBack hx (y := ym3) (z := ym3) hown (mvT hZ (wk8 hw)) (mvT hZ (wk9 hw)) (notFace_of_selects (args := #[]) (mvT hZ (wk11 hw))) (mvT hZ (wk11 hw)) (mvT hZ (wk10 hw)) (by decide) (backOf (W := 0) (rm2_8 l Z a0 hw w hW []  h0 n0 O0 ) hZ (wk12 hw) (wk6 hw) (by decide) (by decide)) q12a q12c (g := (mkF m 43 Lb11 [(.ref (w 1))])) rfl (by rw [hml]; rfl) (Steps.refl _) (argsL := []) (rest := []) (lenOf pds_2 rfl) rfl (by show 2 * 0 + _ ≤ _; exact Nat.le_of_eq rfl) (hb hby at_43) (fun _ _ => ⟨rfl, e10, (by decide : 0 + 0 ≤ _), (by decide : 0 + 0 ≤ _)⟩)
    dsimp only [Pt.U, Pt.locs, Pt.cells, Pt.slots] at X12 l12 y12 z12 st12 hQ12
    subst l12 y12 z12
    obtain ⟨rfl, N12q, e12⟩ := hQ12
    have N12 := Fr.app N10 N12q
    let Lb13 : Array Slot := #[.val (.int p0), .val (.int p1), .val (.int p2), .val (.ref (w 0)), .val (.ref (w 1)), .val (.int (1 : Int32)), .val (.int (1 : Int32))]
    obtain ⟨fs, hr, hrun, hended, hWm, hsame⟩ := X12.leave (v := some (.int (1 : Int32))) (fun h => by rw [Bd.returns] at h; cases h)
    refine ⟨_, _, pre7 _ ?_, hrun, hended, _, _, rfl, ?_, ⟨_, rfl⟩, hWm, hsame.mono (by decide) (by decide)⟩
    · show Steps p.tables e below (T5.setTop (mkF m 22 Lb6 [(.int p2), (.int p1), (.ref (w 1))])) _
      refine st9.trans ?_
      refine sA X9 hx hby at_25 rfl rfl ?_
      refine sI X9 hx hby at_26 rfl ?_
      refine sI X9 hx hby at_27 rfl ?_
      refine st10.trans ?_
      refine sn X10 hx hby at_31 (by decide) ?_
      refine sc X10 hx hby at_34 ?_
      refine sg (pc := 35) (pc' := 39) X10 hx hby at_35 (by decide) (by decide) ?_
      refine XS.istore X10.here hx rfl (hb hby at_39) rfl (l' := Lb11) rfl ?_
      refine sa X10 hx hby at_41 rfl rfl ?_
      show Steps p.tables e below (T10.setTop (mkF m 43 Lb11 [(.ref (w 1))])) _
      refine st12.trans ?_
      refine sA X12 hx hby at_46 rfl rfl ?_
      refine Jvm.RoadKit.acmp (g := (mkF m 47 Lb11 [(.ref (w 0)), (.ref (w 0))])) X12 hx rfl rfl rfl (pc0 := 47) (pc' := 50) (same := true) rfl (hb hby at_47) rfl (decide_eq_true rfl) (by decide) (by decide) ?_
      refine sc X12 hx hby at_50 ?_
      refine sg (pc := 51) (pc' := 55) X12 hx hby at_51 (by decide) (by decide) ?_
      refine XS.istore X12.here hx rfl (hb hby at_55) rfl (l' := Lb13) rfl ?_
      show Steps p.tables e below (T12.setTop (mkF m 57 Lb13 [])) _
      refine si X12 hx hby at_57 rfl ?_
      refine sN X12 hx hby at_59 (by decide) ?_
      refine si X12 hx hby at_62 rfl ?_
      refine sN X12 hx hby at_64 (by decide) ?_
      refine sc X12 hx hby at_67 ?_
      show Steps p.tables e below (T12.setTop (mkF m 68 Lb13 [(.int (1 : Int32))])) _
      refine sg (pc := 68) (pc' := 72) X12 hx hby at_68 (by decide) (by decide) ?_
      exact retN X12 hx (t := .boolean) Bd.returns (by simp) (hb hby at_72) hr
    · show Q0 n0 _ T12.heap _
      rw [e12]
      exact ⟨rfl, N12⟩
   ·
    by_cases hc14 : p1 = p2
    ·
     obtain ⟨cq15, kq15, q15a, q15b, q15c⟩ := isOf hZ e5 ((wd3 hW).ext O0.2)
     obtain ⟨_, _, ⟨T15, L15, kk15, nn15⟩, -, X15, ⟨Lc15, hQ15, l15, y15, z15⟩, st15⟩ := X5.virtualBack hx (y := ym5) (z := ym5) hown (mvT hZ (wk24 hw)) (mvT hZ (wk25 hw)) (notFace_of_selects (args := #[]) (mvT hZ (wk27 hw))) (mvT hZ (wk27 hw)) (mvT hZ (wk26 hw)) (by decide) (backOf (W := 0) (rm4_10 l Z a0 hw w hW [] p1 p2 h0 n0 O0 hc8 hc14) hZ (wk28 hw) (wk6 hw) (by decide) (by decide)) q15a q15c (g := (mkF m 22 Lb6 [(.int p2), (.int p1), (.ref (w 1))])) rfl (by rw [hml]; rfl) (Steps.refl _) (argsL := [(.int p1), (.int p2)]) (rest := []) (lenOf pds_4 rfl) rfl (by show 2 * 0 + _ ≤ _; exact Nat.le_of_eq rfl) (hb hby at_22) (fun _ _ => ⟨rfl, e5, (by decide : 0 + 0 ≤ _), (by decide : 0 + 0 ≤ _)⟩)
     dsimp only [Pt.U, Pt.locs, Pt.cells, Pt.slots] at X15 l15 y15 z15 st15 hQ15
     subst l15 y15 z15
     obtain ⟨rfl, N15q, e15⟩ := hQ15
     have N15 := Fr.app N5 N15q
     obtain ⟨cq16, kq16, q16a, q16b, q16c⟩ := isOf hZ e15 ((wd1 hW).ext O0.2)
     obtain ⟨_, _, ⟨T16, L16, kk16, nn16⟩, -, X16, ⟨Lc16, hQ16, l16, y16, z16⟩, st16⟩ := X15.virtualBack hx (y := ym5) (z := ym5) hown (mvT hZ (wk24 hw)) (mvT hZ (wk25 hw)) (notFace_of_selects (args := #[]) (mvT hZ (wk27 hw))) (mvT hZ (wk27 hw)) (mvT hZ (wk26 hw)) (by decide) (backOf (W := 1) (rm4_11 l Z a0 hw w hW [] p1 p2 h0 n0 O0 hc8 hc14) hZ (wk28 hw) (wk6 hw) (by decide) (by decide)) q16a q16c (g := (mkF m 28 Lb6 [(.int p2), (.int p1), (.ref (w 0)), (.int (0 : Int32))])) rfl (by rw [hml]; rfl) (Steps.refl _) (argsL := [(.int p1), (.int p2)]) (rest := [(.int (0 : Int32))]) (lenOf pds_4 rfl) rfl (by show 2 * 0 + _ ≤ _; exact Nat.le_of_eq rfl) (hb hby at_28) (fun _ _ => ⟨rfl, e15, (by decide : 0 + 0 ≤ _), (by decide : 0 + 0 ≤ _)⟩)
     dsimp only [Pt.U, Pt.locs, Pt.cells, Pt.slots] at X16 l16 y16 z16 st16 hQ16
     subst l16 y16 z16
     obtain ⟨rfl, N16q, e16⟩ := hQ16
     have N16 := Fr.app N15 N16q
     let Lb17 : Array Slot := #[.val (.int p0), .val (.int p1), .val (.int p2), .val (.ref (w 0)), .val (.ref (w 1)), .val (.int (1 : Int32)), .unset]
     obtain ⟨cq18, kq18, q18a, q18b, q18c⟩ := isOf hZ e16 ((wd3 hW).ext O0.2)
     obtain ⟨_, _, ⟨T18, L18, kk18, nn18⟩, -, X18, ⟨Lc18, hQ18, l18, y18, z18⟩, st18⟩ := X16.virtualBack hx (y := ym3) (z := ym3) hown (mvT hZ (wk8 hw)) (mvT hZ (wk9 hw)) (notFace_of_selects (args := #[]) (mvT hZ (wk11 hw))) (mvT hZ (wk11 hw)) (mvT hZ (wk10 hw)) (by decide) (backOf (W := 0) (rm2_8 l Z a0 hw w hW []  h0 n0 O0 ) hZ (wk12 hw) (wk6 hw) (by decide) (by decide)) q18a q18c (g := (mkF m 43 Lb17 [(.ref (w 1))])) rfl (by rw [hml]; rfl) (Steps.refl _) (argsL := []) (rest := []) (lenOf pds_2 rfl) rfl (by show 2 * 0 + _ ≤ _; exact Nat.le_of_eq rfl) (hb hby at_43) (fun _ _ => ⟨rfl, e16, (by decide : 0 + 0 ≤ _), (by decide : 0 + 0 ≤ _)⟩)
     dsimp only [Pt.U, Pt.locs, Pt.cells, Pt.slots] at X18 l18 y18 z18 st18 hQ18
     subst l18 y18 z18
     obtain ⟨rfl, N18q, e18⟩ := hQ18
     have N18 := Fr.app N16 N18q
     let Lb19 : Array Slot := #[.val (.int p0), .val (.int p1), .val (.int p2), .val (.ref (w 0)), .val (.ref (w 1)), .val (.int (1 : Int32)), .val (.int (1 : Int32))]
     obtain ⟨fs, hr, hrun, hended, hWm, hsame⟩ := X18.leave (v := some (.int (1 : Int32))) (fun h => by rw [Bd.returns] at h; cases h)
     refine ⟨_, _, pre7 _ ?_, hrun, hended, _, _, rfl, ?_, ⟨_, rfl⟩, hWm, hsame.mono (by decide) (by decide)⟩
     · show Steps p.tables e below (T5.setTop (mkF m 22 Lb6 [(.int p2), (.int p1), (.ref (w 1))])) _
       refine st15.trans ?_
       refine sA X15 hx hby at_25 rfl rfl ?_
       refine sI X15 hx hby at_26 rfl ?_
       refine sI X15 hx hby at_27 rfl ?_
       refine st16.trans ?_
       refine sn X16 hx hby at_31 (by decide) ?_
       refine sc X16 hx hby at_34 ?_
       refine sg (pc := 35) (pc' := 39) X16 hx hby at_35 (by decide) (by decide) ?_
       refine XS.istore X16.here hx rfl (hb hby at_39) rfl (l' := Lb17) rfl ?_
       refine sa X16 hx hby at_41 rfl rfl ?_
       show Steps p.tables e below (T16.setTop (mkF m 43 Lb17 [(.ref (w 1))])) _
       refine st18.trans ?_
       refine sA X18 hx hby at_46 rfl rfl ?_
       refine Jvm.RoadKit.acmp (g := (mkF m 47 Lb17 [(.ref (w 0)), (.ref (w 0))])) X18 hx rfl rfl rfl (pc0 := 47) (pc' := 50) (same := true) rfl (hb hby at_47) rfl (decide_eq_true rfl) (by decide) (by decide) ?_
       refine sc X18 hx hby at_50 ?_
       refine sg (pc := 51) (pc' := 55) X18 hx hby at_51 (by decide) (by decide) ?_
       refine XS.istore X18.here hx rfl (hb hby at_55) rfl (l' := Lb19) rfl ?_
       show Steps p.tables e below (T18.setTop (mkF m 57 Lb19 [])) _
       refine si X18 hx hby at_57 rfl ?_
       refine sN X18 hx hby at_59 (by decide) ?_
       refine si X18 hx hby at_62 rfl ?_
       refine sN X18 hx hby at_64 (by decide) ?_
       refine sc X18 hx hby at_67 ?_
       show Steps p.tables e below (T18.setTop (mkF m 68 Lb19 [(.int (1 : Int32))])) _
       refine sg (pc := 68) (pc' := 72) X18 hx hby at_68 (by decide) (by decide) ?_
       exact retN X18 hx (t := .boolean) Bd.returns (by simp) (hb hby at_72) hr
     · show Q0 n0 _ T18.heap _
       rw [e18]
       exact ⟨rfl, N18⟩
    ·
     obtain ⟨cq20, kq20, q20a, q20b, q20c⟩ := isOf hZ e5 ((wd3 hW).ext O0.2)
     obtain ⟨_, _, ⟨T20, L20, kk20, nn20⟩, -, X20, ⟨Lc20, hQ20, l20, y20, z20⟩, st20⟩ := X5.virtualBack hx (y := ym5) (z := ym5) hown (mvT hZ (wk24 hw)) (mvT hZ (wk25 hw)) (notFace_of_selects (args := #[]) (mvT hZ (wk27 hw))) (mvT hZ (wk27 hw)) (mvT hZ (wk26 hw)) (by decide) (backOf (W := 0) (rm4_13 l Z a0 hw w hW [] p1 p2 h0 n0 O0 hc8 hc14) hZ (wk28 hw) (wk6 hw) (by decide) (by decide)) q20a q20c (g := (mkF m 22 Lb6 [(.int p2), (.int p1), (.ref (w 1))])) rfl (by rw [hml]; rfl) (Steps.refl _) (argsL := [(.int p1), (.int p2)]) (rest := []) (lenOf pds_4 rfl) rfl (by show 2 * 0 + _ ≤ _; exact Nat.le_of_eq rfl) (hb hby at_22) (fun _ _ => ⟨rfl, e5, (by decide : 0 + 0 ≤ _), (by decide : 0 + 0 ≤ _)⟩)
     dsimp only [Pt.U, Pt.locs, Pt.cells, Pt.slots] at X20 l20 y20 z20 st20 hQ20
     subst l20 y20 z20
     obtain ⟨rfl, N20q, e20⟩ := hQ20
     have N20 := Fr.app N5 N20q
     obtain ⟨cq21, kq21, q21a, q21b, q21c⟩ := isOf hZ e20 ((wd1 hW).ext O0.2)
     obtain ⟨_, _, ⟨T21, L21, kk21, nn21⟩, -, X21, ⟨Lc21, hQ21, l21, y21, z21⟩, st21⟩ := X20.virtualBack hx (y := ym5) (z := ym5) hown (mvT hZ (wk24 hw)) (mvT hZ (wk25 hw)) (notFace_of_selects (args := #[]) (mvT hZ (wk27 hw))) (mvT hZ (wk27 hw)) (mvT hZ (wk26 hw)) (by decide) (backOf (W := 1) (rm4_14 l Z a0 hw w hW [] p1 p2 h0 n0 O0 hc8 hc14) hZ (wk28 hw) (wk6 hw) (by decide) (by decide)) q21a q21c (g := (mkF m 28 Lb6 [(.int p2), (.int p1), (.ref (w 0)), (.int (1 : Int32))])) rfl (by rw [hml]; rfl) (Steps.refl _) (argsL := [(.int p1), (.int p2)]) (rest := [(.int (1 : Int32))]) (lenOf pds_4 rfl) rfl (by show 2 * 0 + _ ≤ _; exact Nat.le_of_eq rfl) (hb hby at_28) (fun _ _ => ⟨rfl, e20, (by decide : 0 + 0 ≤ _), (by decide : 0 + 0 ≤ _)⟩)
     dsimp only [Pt.U, Pt.locs, Pt.cells, Pt.slots] at X21 l21 y21 z21 st21 hQ21
     subst l21 y21 z21
     obtain ⟨rfl, N21q, e21⟩ := hQ21
     have N21 := Fr.app N20 N21q
     let Lb22 : Array Slot := #[.val (.int p0), .val (.int p1), .val (.int p2), .val (.ref (w 0)), .val (.ref (w 1)), .val (.int (1 : Int32)), .unset]
     obtain ⟨cq23, kq23, q23a, q23b, q23c⟩ := isOf hZ e21 ((wd3 hW).ext O0.2)
     obtain ⟨_, _, ⟨T23, L23, kk23, nn23⟩, -, X23, ⟨Lc23, hQ23, l23, y23, z23⟩, st23⟩ := X21.virtualBack hx (y := ym3) (z := ym3) hown (mvT hZ (wk8 hw)) (mvT hZ (wk9 hw)) (notFace_of_selects (args := #[]) (mvT hZ (wk11 hw))) (mvT hZ (wk11 hw)) (mvT hZ (wk10 hw)) (by decide) (backOf (W := 0) (rm2_8 l Z a0 hw w hW []  h0 n0 O0 ) hZ (wk12 hw) (wk6 hw) (by decide) (by decide)) q23a q23c (g := (mkF m 43 Lb22 [(.ref (w 1))])) rfl (by rw [hml]; rfl) (Steps.refl _) (argsL := []) (rest := []) (lenOf pds_2 rfl) rfl (by show 2 * 0 + _ ≤ _; exact Nat.le_of_eq rfl) (hb hby at_43) (fun _ _ => ⟨rfl, e21, (by decide : 0 + 0 ≤ _), (by decide : 0 + 0 ≤ _)⟩)
     dsimp only [Pt.U, Pt.locs, Pt.cells, Pt.slots] at X23 l23 y23 z23 st23 hQ23
     subst l23 y23 z23
     obtain ⟨rfl, N23q, e23⟩ := hQ23
     have N23 := Fr.app N21 N23q
     let Lb24 : Array Slot := #[.val (.int p0), .val (.int p1), .val (.int p2), .val (.ref (w 0)), .val (.ref (w 1)), .val (.int (1 : Int32)), .val (.int (1 : Int32))]
     obtain ⟨fs, hr, hrun, hended, hWm, hsame⟩ := X23.leave (v := some (.int (1 : Int32))) (fun h => by rw [Bd.returns] at h; cases h)
     refine ⟨_, _, pre7 _ ?_, hrun, hended, _, _, rfl, ?_, ⟨_, rfl⟩, hWm, hsame.mono (by decide) (by decide)⟩
     · show Steps p.tables e below (T5.setTop (mkF m 22 Lb6 [(.int p2), (.int p1), (.ref (w 1))])) _
       refine st20.trans ?_
       refine sA X20 hx hby at_25 rfl rfl ?_
       refine sI X20 hx hby at_26 rfl ?_
       refine sI X20 hx hby at_27 rfl ?_
       refine st21.trans ?_
       refine sn X21 hx hby at_31 (by decide) ?_
       refine sc X21 hx hby at_34 ?_
       refine sg (pc := 35) (pc' := 39) X21 hx hby at_35 (by decide) (by decide) ?_
       refine XS.istore X21.here hx rfl (hb hby at_39) rfl (l' := Lb22) rfl ?_
       refine sa X21 hx hby at_41 rfl rfl ?_
       show Steps p.tables e below (T21.setTop (mkF m 43 Lb22 [(.ref (w 1))])) _
       refine st23.trans ?_
       refine sA X23 hx hby at_46 rfl rfl ?_
       refine Jvm.RoadKit.acmp (g := (mkF m 47 Lb22 [(.ref (w 0)), (.ref (w 0))])) X23 hx rfl rfl rfl (pc0 := 47) (pc' := 50) (same := true) rfl (hb hby at_47) rfl (decide_eq_true rfl) (by decide) (by decide) ?_
       refine sc X23 hx hby at_50 ?_
       refine sg (pc := 51) (pc' := 55) X23 hx hby at_51 (by decide) (by decide) ?_
       refine XS.istore X23.here hx rfl (hb hby at_55) rfl (l' := Lb24) rfl ?_
       show Steps p.tables e below (T23.setTop (mkF m 57 Lb24 [])) _
       refine si X23 hx hby at_57 rfl ?_
       refine sN X23 hx hby at_59 (by decide) ?_
       refine si X23 hx hby at_62 rfl ?_
       refine sN X23 hx hby at_64 (by decide) ?_
       refine sc X23 hx hby at_67 ?_
       show Steps p.tables e below (T23.setTop (mkF m 68 Lb24 [(.int (1 : Int32))])) _
       refine sg (pc := 68) (pc' := 72) X23 hx hby at_68 (by decide) (by decide) ?_
       exact retN X23 hx (t := .boolean) Bd.returns (by simp) (hb hby at_72) hr
     · show Q0 n0 _ T23.heap _
       rw [e23]
       exact ⟨rfl, N23⟩
  ·
   obtain ⟨_, _, ⟨T25, L25, kk25, nn25⟩, -, X25, ⟨Lc25, hQ25, l25, y25, z25⟩, st25⟩ := Jvm.LawKit.callS X0 hx (y := ym0) hown (mvT hZ (wk0 hw)) (mvT hZ (wk1 hw)) (mvT hZ (wk2 hw)) (mvT hZ (wk3 hw)) (by decide) (backOf (W := 0) (rm1_15 l Z a0 hw w hW [] p0 h0 n0 O0 (by rw [hs2] <;> decide) (by rw [hs2] <;> decide)) hZ (wk3 hw) (wk2 hw) (by decide) (by decide)) (g := (mkF m 1 La [(.int p0)])) rfl (by rw [hml]; rfl) (argsL := [(.int p0)]) (rest := []) (lenOf pds_0 rfl) rfl (by show 2 * 0 + _ ≤ _; exact Nat.le_of_eq rfl) (hb hby at_1) (fun _ _ => ⟨rfl, e0, (by decide : 0 + 0 ≤ _), (by decide : 0 + 0 ≤ _)⟩)
   dsimp only [Pt.U, Pt.locs, Pt.cells, Pt.slots] at X25 l25 y25 z25 st25 hQ25
   subst l25 y25 z25
   obtain ⟨rfl, N25q, e25⟩ := hQ25
   have N25 := Fr.app N0 N25q
   let Lb26 : Array Slot := #[.val (.int p0), .val (.int p1), .val (.int p2), .val (.ref (w 1)), .unset, .unset, .unset]
   obtain ⟨cq27, kq27, q27a, q27b, q27c⟩ := isOf hZ e25 ((wd3 hW).ext O0.2)
   obtain ⟨_, _, ⟨T27, L27, kk27, nn27⟩, -, X27, ⟨Lc27, hQ27, l27, y27, z27⟩, st27⟩ := X25.virtualBack hx (y := ym3) (z := ym3) hown (mvT hZ (wk8 hw)) (mvT hZ (wk9 hw)) (notFace_of_selects (args := #[]) (mvT hZ (wk11 hw))) (mvT hZ (wk11 hw)) (mvT hZ (wk10 hw)) (by decide) (backOf (W := 0) (rm2_8 l Z a0 hw w hW []  h0 n0 O0 ) hZ (wk12 hw) (wk6 hw) (by decide) (by decide)) q27a q27c (g := (mkF m 6 Lb26 [(.ref (w 1))])) rfl (by rw [hml]; rfl) (Steps.refl _) (argsL := []) (rest := []) (lenOf pds_2 rfl) rfl (by show 2 * 0 + _ ≤ _; exact Nat.le_of_eq rfl) (hb hby at_6) (fun _ _ => ⟨rfl, e25, (by decide : 0 + 0 ≤ _), (by decide : 0 + 0 ≤ _)⟩)
   dsimp only [Pt.U, Pt.locs, Pt.cells, Pt.slots] at X27 l27 y27 z27 st27 hQ27
   subst l27 y27 z27
   obtain ⟨rfl, N27q, e27⟩ := hQ27
   have N27 := Fr.app N25 N27q
   let Lb28 : Array Slot := #[.val (.int p0), .val (.int p1), .val (.int p2), .val (.ref (w 1)), .val (.ref (w 0)), .unset, .unset]
   have pre29 : ∀ t, Steps p.tables e below (T27.setTop (mkF m 22 Lb28 [(.int p2), (.int p1), (.ref (w 0))])) t → Steps p.tables e below (s₁.setTop (entryFrame m #[(.int p0), (.int p1), (.int p2)] maxLocals)) t := fun t k => pre1 t (by
    show Steps p.tables e below (s₁.setTop (mkF m 1 La [(.int p0)])) _
    refine st25 _ ?_
    refine XS.astoreN X25.here hx rfl (hb hby at_4) rfl rfl (l' := Lb26) rfl ?_
    refine sA X25 hx hby at_5 rfl rfl ?_
    refine st27.trans ?_
    refine XS.astore X27.here hx rfl (hb hby at_9) rfl rfl (l' := Lb28) rfl ?_
    refine sa X27 hx hby at_11 rfl rfl ?_
    refine XS.ifnonnullYes X27.here hx rfl (pc0 := 13) (pc' := 18) rfl (hb hby at_13) rfl (by decide) (by decide) ?_
    refine sa X27 hx hby at_18 rfl rfl ?_
    refine sI X27 hx hby at_20 rfl ?_
    show Steps p.tables e below (T27.setTop (mkF m 21 Lb28 [(.int p1), (.ref (w 0))])) _
    refine sI X27 hx hby at_21 rfl ?_
    exact k)
   by_cases hc30 : p1 < p2
   ·
    obtain ⟨cq31, kq31, q31a, q31b, q31c⟩ := isOf hZ e27 ((wd1 hW).ext O0.2)
    obtain ⟨_, _, ⟨T31, L31, kk31, nn31⟩, -, X31, ⟨Lc31, hQ31, l31, y31, z31⟩, st31⟩ := X27.virtualBack hx (y := ym5) (z := ym5) hown (mvT hZ (wk24 hw)) (mvT hZ (wk25 hw)) (notFace_of_selects (args := #[]) (mvT hZ (wk27 hw))) (mvT hZ (wk27 hw)) (mvT hZ (wk26 hw)) (by decide) (backOf (W := 0) (rm4_7 l Z a0 hw w hW [] p1 p2 h0 n0 O0 hc30) hZ (wk28 hw) (wk6 hw) (by decide) (by decide)) q31a q31c (g := (mkF m 22 Lb28 [(.int p2), (.int p1), (.ref (w 0))])) rfl (by rw [hml]; rfl) (Steps.refl _) (argsL := [(.int p1), (.int p2)]) (rest := []) (lenOf pds_4 rfl) rfl (by show 2 * 0 + _ ≤ _; exact Nat.le_of_eq rfl) (hb hby at_22) (fun _ _ => ⟨rfl, e27, (by decide : 0 + 0 ≤ _), (by decide : 0 + 0 ≤ _)⟩)
    dsimp only [Pt.U, Pt.locs, Pt.cells, Pt.slots] at X31 l31 y31 z31 st31 hQ31
    subst l31 y31 z31
    obtain ⟨rfl, N31q, e31⟩ := hQ31
    have N31 := Fr.app N27 N31q
    obtain ⟨cq32, kq32, q32a, q32b, q32c⟩ := isOf hZ e31 ((wd3 hW).ext O0.2)
    obtain ⟨_, _, ⟨T32, L32, kk32, nn32⟩, -, X32, ⟨Lc32, hQ32, l32, y32, z32⟩, st32⟩ := X31.virtualBack hx (y := ym5) (z := ym5) hown (mvT hZ (wk24 hw)) (mvT hZ (wk25 hw)) (notFace_of_selects (args := #[]) (mvT hZ (wk27 hw))) (mvT hZ (wk27 hw)) (mvT hZ (wk26 hw)) (by decide) (backOf (W := 1) (rm4_6 l Z a0 hw w hW [] p1 p2 h0 n0 O0 hc30) hZ (wk28 hw) (wk6 hw) (by decide) (by decide)) q32a q32c (g := (mkF m 28 Lb28 [(.int p2), (.int p1), (.ref (w 1)), (.int (0 : Int32))])) rfl (by rw [hml]; rfl) (Steps.refl _) (argsL := [(.int p1), (.int p2)]) (rest := [(.int (0 : Int32))]) (lenOf pds_4 rfl) rfl (by show 2 * 0 + _ ≤ _; exact Nat.le_of_eq rfl) (hb hby at_28) (fun _ _ => ⟨rfl, e31, (by decide : 0 + 0 ≤ _), (by decide : 0 + 0 ≤ _)⟩)
    dsimp only [Pt.U, Pt.locs, Pt.cells, Pt.slots] at X32 l32 y32 z32 st32 hQ32
    subst l32 y32 z32
    obtain ⟨rfl, N32q, e32⟩ := hQ32
    have N32 := Fr.app N31 N32q
    let Lb33 : Array Slot := #[.val (.int p0), .val (.int p1), .val (.int p2), .val (.ref (w 1)), .val (.ref (w 0)), .val (.int (1 : Int32)), .unset]
    obtain ⟨cq34, kq34, q34a, q34b, q34c⟩ := isOf hZ e32 ((wd1 hW).ext O0.2)
    obtain ⟨_, _, ⟨T34, L34, kk34, nn34⟩, -, X34, ⟨Lc34, hQ34, l34, y34, z34⟩, st34⟩ := X32.virtualBack hx (y := ym3) (z := ym3) hown (mvT hZ (wk8 hw)) (mvT hZ (wk9 hw)) (notFace_of_selects (args := #[]) (mvT hZ (wk11 hw))) (mvT hZ (wk11 hw)) (mvT hZ (wk10 hw)) (by decide) (backOf (W := 0) (rm2_3 l Z a0 hw w hW []  h0 n0 O0 ) hZ (wk12 hw) (wk6 hw) (by decide) (by decide)) q34a q34c (g := (mkF m 43 Lb33 [(.ref (w 0))])) rfl (by rw [hml]; rfl) (Steps.refl _) (argsL := []) (rest := []) (lenOf pds_2 rfl) rfl (by show 2 * 0 + _ ≤ _; exact Nat.le_of_eq rfl) (hb hby at_43) (fun _ _ => ⟨rfl, e32, (by decide : 0 + 0 ≤ _), (by decide : 0 + 0 ≤ _)⟩)
    dsimp only [Pt.U, Pt.locs, Pt.cells, Pt.slots] at X34 l34 y34 z34 st34 hQ34
    subst l34 y34 z34
    obtain ⟨rfl, N34q, e34⟩ := hQ34
    have N34 := Fr.app N32 N34q
    let Lb35 : Array Slot := #[.val (.int p0), .val (.int p1), .val (.int p2), .val (.ref (w 1)), .val (.ref (w 0)), .val (.int (1 : Int32)), .val (.int (1 : Int32))]
    obtain ⟨fs, hr, hrun, hended, hWm, hsame⟩ := X34.leave (v := some (.int (1 : Int32))) (fun h => by rw [Bd.returns] at h; cases h)
    refine ⟨_, _, pre29 _ ?_, hrun, hended, _, _, rfl, ?_, ⟨_, rfl⟩, hWm, hsame.mono (by decide) (by decide)⟩
    · show Steps p.tables e below (T27.setTop (mkF m 22 Lb28 [(.int p2), (.int p1), (.ref (w 0))])) _
      refine st31.trans ?_
      refine sA X31 hx hby at_25 rfl rfl ?_
      refine sI X31 hx hby at_26 rfl ?_
      refine sI X31 hx hby at_27 rfl ?_
      refine st32.trans ?_
      refine sn X32 hx hby at_31 (by decide) ?_
      refine sc X32 hx hby at_34 ?_
      refine sg (pc := 35) (pc' := 39) X32 hx hby at_35 (by decide) (by decide) ?_
      refine XS.istore X32.here hx rfl (hb hby at_39) rfl (l' := Lb33) rfl ?_
      refine sa X32 hx hby at_41 rfl rfl ?_
      show Steps p.tables e below (T32.setTop (mkF m 43 Lb33 [(.ref (w 0))])) _
      refine st34.trans ?_
      refine sA X34 hx hby at_46 rfl rfl ?_
      refine Jvm.RoadKit.acmp (g := (mkF m 47 Lb33 [(.ref (w 1)), (.ref (w 1))])) X34 hx rfl rfl rfl (pc0 := 47) (pc' := 50) (same := true) rfl (hb hby at_47) rfl (decide_eq_true rfl) (by decide) (by decide) ?_
      refine sc X34 hx hby at_50 ?_
      refine sg (pc := 51) (pc' := 55) X34 hx hby at_51 (by decide) (by decide) ?_
      refine XS.istore X34.here hx rfl (hb hby at_55) rfl (l' := Lb35) rfl ?_
      show Steps p.tables e below (T34.setTop (mkF m 57 Lb35 [])) _
      refine si X34 hx hby at_57 rfl ?_
      refine sN X34 hx hby at_59 (by decide) ?_
      refine si X34 hx hby at_62 rfl ?_
      refine sN X34 hx hby at_64 (by decide) ?_
      refine sc X34 hx hby at_67 ?_
      show Steps p.tables e below (T34.setTop (mkF m 68 Lb35 [(.int (1 : Int32))])) _
      refine sg (pc := 68) (pc' := 72) X34 hx hby at_68 (by decide) (by decide) ?_
      exact retN X34 hx (t := .boolean) Bd.returns (by simp) (hb hby at_72) hr
    · show Q0 n0 _ T34.heap _
      rw [e34]
      exact ⟨rfl, N34⟩
   ·
    by_cases hc36 : p1 = p2
    ·
     obtain ⟨cq37, kq37, q37a, q37b, q37c⟩ := isOf hZ e27 ((wd1 hW).ext O0.2)
     obtain ⟨_, _, ⟨T37, L37, kk37, nn37⟩, -, X37, ⟨Lc37, hQ37, l37, y37, z37⟩, st37⟩ := X27.virtualBack hx (y := ym5) (z := ym5) hown (mvT hZ (wk24 hw)) (mvT hZ (wk25 hw)) (notFace_of_selects (args := #[]) (mvT hZ (wk27 hw))) (mvT hZ (wk27 hw)) (mvT hZ (wk26 hw)) (by decide) (backOf (W := 0) (rm4_11 l Z a0 hw w hW [] p1 p2 h0 n0 O0 hc30 hc36) hZ (wk28 hw) (wk6 hw) (by decide) (by decide)) q37a q37c (g := (mkF m 22 Lb28 [(.int p2), (.int p1), (.ref (w 0))])) rfl (by rw [hml]; rfl) (Steps.refl _) (argsL := [(.int p1), (.int p2)]) (rest := []) (lenOf pds_4 rfl) rfl (by show 2 * 0 + _ ≤ _; exact Nat.le_of_eq rfl) (hb hby at_22) (fun _ _ => ⟨rfl, e27, (by decide : 0 + 0 ≤ _), (by decide : 0 + 0 ≤ _)⟩)
     dsimp only [Pt.U, Pt.locs, Pt.cells, Pt.slots] at X37 l37 y37 z37 st37 hQ37
     subst l37 y37 z37
     obtain ⟨rfl, N37q, e37⟩ := hQ37
     have N37 := Fr.app N27 N37q
     obtain ⟨cq38, kq38, q38a, q38b, q38c⟩ := isOf hZ e37 ((wd3 hW).ext O0.2)
     obtain ⟨_, _, ⟨T38, L38, kk38, nn38⟩, -, X38, ⟨Lc38, hQ38, l38, y38, z38⟩, st38⟩ := X37.virtualBack hx (y := ym5) (z := ym5) hown (mvT hZ (wk24 hw)) (mvT hZ (wk25 hw)) (notFace_of_selects (args := #[]) (mvT hZ (wk27 hw))) (mvT hZ (wk27 hw)) (mvT hZ (wk26 hw)) (by decide) (backOf (W := 1) (rm4_10 l Z a0 hw w hW [] p1 p2 h0 n0 O0 hc30 hc36) hZ (wk28 hw) (wk6 hw) (by decide) (by decide)) q38a q38c (g := (mkF m 28 Lb28 [(.int p2), (.int p1), (.ref (w 1)), (.int (1 : Int32))])) rfl (by rw [hml]; rfl) (Steps.refl _) (argsL := [(.int p1), (.int p2)]) (rest := [(.int (1 : Int32))]) (lenOf pds_4 rfl) rfl (by show 2 * 0 + _ ≤ _; exact Nat.le_of_eq rfl) (hb hby at_28) (fun _ _ => ⟨rfl, e37, (by decide : 0 + 0 ≤ _), (by decide : 0 + 0 ≤ _)⟩)
     dsimp only [Pt.U, Pt.locs, Pt.cells, Pt.slots] at X38 l38 y38 z38 st38 hQ38
     subst l38 y38 z38
     obtain ⟨rfl, N38q, e38⟩ := hQ38
     have N38 := Fr.app N37 N38q
     let Lb39 : Array Slot := #[.val (.int p0), .val (.int p1), .val (.int p2), .val (.ref (w 1)), .val (.ref (w 0)), .val (.int (1 : Int32)), .unset]
     obtain ⟨cq40, kq40, q40a, q40b, q40c⟩ := isOf hZ e38 ((wd1 hW).ext O0.2)
     obtain ⟨_, _, ⟨T40, L40, kk40, nn40⟩, -, X40, ⟨Lc40, hQ40, l40, y40, z40⟩, st40⟩ := X38.virtualBack hx (y := ym3) (z := ym3) hown (mvT hZ (wk8 hw)) (mvT hZ (wk9 hw)) (notFace_of_selects (args := #[]) (mvT hZ (wk11 hw))) (mvT hZ (wk11 hw)) (mvT hZ (wk10 hw)) (by decide) (backOf (W := 0) (rm2_3 l Z a0 hw w hW []  h0 n0 O0 ) hZ (wk12 hw) (wk6 hw) (by decide) (by decide)) q40a q40c (g := (mkF m 43 Lb39 [(.ref (w 0))])) rfl (by rw [hml]; rfl) (Steps.refl _) (argsL := []) (rest := []) (lenOf pds_2 rfl) rfl (by show 2 * 0 + _ ≤ _; exact Nat.le_of_eq rfl) (hb hby at_43) (fun _ _ => ⟨rfl, e38, (by decide : 0 + 0 ≤ _), (by decide : 0 + 0 ≤ _)⟩)
     dsimp only [Pt.U, Pt.locs, Pt.cells, Pt.slots] at X40 l40 y40 z40 st40 hQ40
     subst l40 y40 z40
     obtain ⟨rfl, N40q, e40⟩ := hQ40
     have N40 := Fr.app N38 N40q
     let Lb41 : Array Slot := #[.val (.int p0), .val (.int p1), .val (.int p2), .val (.ref (w 1)), .val (.ref (w 0)), .val (.int (1 : Int32)), .val (.int (1 : Int32))]
     obtain ⟨fs, hr, hrun, hended, hWm, hsame⟩ := X40.leave (v := some (.int (1 : Int32))) (fun h => by rw [Bd.returns] at h; cases h)
     refine ⟨_, _, pre29 _ ?_, hrun, hended, _, _, rfl, ?_, ⟨_, rfl⟩, hWm, hsame.mono (by decide) (by decide)⟩
     · show Steps p.tables e below (T27.setTop (mkF m 22 Lb28 [(.int p2), (.int p1), (.ref (w 0))])) _
       refine st37.trans ?_
       refine sA X37 hx hby at_25 rfl rfl ?_
       refine sI X37 hx hby at_26 rfl ?_
       refine sI X37 hx hby at_27 rfl ?_
       refine st38.trans ?_
       refine sn X38 hx hby at_31 (by decide) ?_
       refine sc X38 hx hby at_34 ?_
       refine sg (pc := 35) (pc' := 39) X38 hx hby at_35 (by decide) (by decide) ?_
       refine XS.istore X38.here hx rfl (hb hby at_39) rfl (l' := Lb39) rfl ?_
       refine sa X38 hx hby at_41 rfl rfl ?_
       show Steps p.tables e below (T38.setTop (mkF m 43 Lb39 [(.ref (w 0))])) _
       refine st40.trans ?_
       refine sA X40 hx hby at_46 rfl rfl ?_
       refine Jvm.RoadKit.acmp (g := (mkF m 47 Lb39 [(.ref (w 1)), (.ref (w 1))])) X40 hx rfl rfl rfl (pc0 := 47) (pc' := 50) (same := true) rfl (hb hby at_47) rfl (decide_eq_true rfl) (by decide) (by decide) ?_
       refine sc X40 hx hby at_50 ?_
       refine sg (pc := 51) (pc' := 55) X40 hx hby at_51 (by decide) (by decide) ?_
       refine XS.istore X40.here hx rfl (hb hby at_55) rfl (l' := Lb41) rfl ?_
       show Steps p.tables e below (T40.setTop (mkF m 57 Lb41 [])) _
       refine si X40 hx hby at_57 rfl ?_
       refine sN X40 hx hby at_59 (by decide) ?_
       refine si X40 hx hby at_62 rfl ?_
       refine sN X40 hx hby at_64 (by decide) ?_
       refine sc X40 hx hby at_67 ?_
       show Steps p.tables e below (T40.setTop (mkF m 68 Lb41 [(.int (1 : Int32))])) _
       refine sg (pc := 68) (pc' := 72) X40 hx hby at_68 (by decide) (by decide) ?_
       exact retN X40 hx (t := .boolean) Bd.returns (by simp) (hb hby at_72) hr
     · show Q0 n0 _ T40.heap _
       rw [e40]
       exact ⟨rfl, N40⟩
    ·
     obtain ⟨cq42, kq42, q42a, q42b, q42c⟩ := isOf hZ e27 ((wd1 hW).ext O0.2)
     obtain ⟨_, _, ⟨T42, L42, kk42, nn42⟩, -, X42, ⟨Lc42, hQ42, l42, y42, z42⟩, st42⟩ := X27.virtualBack hx (y := ym5) (z := ym5) hown (mvT hZ (wk24 hw)) (mvT hZ (wk25 hw)) (notFace_of_selects (args := #[]) (mvT hZ (wk27 hw))) (mvT hZ (wk27 hw)) (mvT hZ (wk26 hw)) (by decide) (backOf (W := 0) (rm4_14 l Z a0 hw w hW [] p1 p2 h0 n0 O0 hc30 hc36) hZ (wk28 hw) (wk6 hw) (by decide) (by decide)) q42a q42c (g := (mkF m 22 Lb28 [(.int p2), (.int p1), (.ref (w 0))])) rfl (by rw [hml]; rfl) (Steps.refl _) (argsL := [(.int p1), (.int p2)]) (rest := []) (lenOf pds_4 rfl) rfl (by show 2 * 0 + _ ≤ _; exact Nat.le_of_eq rfl) (hb hby at_22) (fun _ _ => ⟨rfl, e27, (by decide : 0 + 0 ≤ _), (by decide : 0 + 0 ≤ _)⟩)
     dsimp only [Pt.U, Pt.locs, Pt.cells, Pt.slots] at X42 l42 y42 z42 st42 hQ42
     subst l42 y42 z42
     obtain ⟨rfl, N42q, e42⟩ := hQ42
     have N42 := Fr.app N27 N42q
     obtain ⟨cq43, kq43, q43a, q43b, q43c⟩ := isOf hZ e42 ((wd3 hW).ext O0.2)
     obtain ⟨_, _, ⟨T43, L43, kk43, nn43⟩, -, X43, ⟨Lc43, hQ43, l43, y43, z43⟩, st43⟩ := X42.virtualBack hx (y := ym5) (z := ym5) hown (mvT hZ (wk24 hw)) (mvT hZ (wk25 hw)) (notFace_of_selects (args := #[]) (mvT hZ (wk27 hw))) (mvT hZ (wk27 hw)) (mvT hZ (wk26 hw)) (by decide) (backOf (W := 1) (rm4_13 l Z a0 hw w hW [] p1 p2 h0 n0 O0 hc30 hc36) hZ (wk28 hw) (wk6 hw) (by decide) (by decide)) q43a q43c (g := (mkF m 28 Lb28 [(.int p2), (.int p1), (.ref (w 1)), (.int (0 : Int32))])) rfl (by rw [hml]; rfl) (Steps.refl _) (argsL := [(.int p1), (.int p2)]) (rest := [(.int (0 : Int32))]) (lenOf pds_4 rfl) rfl (by show 2 * 0 + _ ≤ _; exact Nat.le_of_eq rfl) (hb hby at_28) (fun _ _ => ⟨rfl, e42, (by decide : 0 + 0 ≤ _), (by decide : 0 + 0 ≤ _)⟩)
     dsimp only [Pt.U, Pt.locs, Pt.cells, Pt.slots] at X43 l43 y43 z43 st43 hQ43
     subst l43 y43 z43
     obtain ⟨rfl, N43q, e43⟩ := hQ43
     have N43 := Fr.app N42 N43q
     let Lb44 : Array Slot := #[.val (.int p0), .val (.int p1), .val (.int p2), .val (.ref (w 1)), .val (.ref (w 0)), .val (.int (1 : Int32)), .unset]
     obtain ⟨cq45, kq45, q45a, q45b, q45c⟩ := isOf hZ e43 ((wd1 hW).ext O0.2)
     obtain ⟨_, _, ⟨T45, L45, kk45, nn45⟩, -, X45, ⟨Lc45, hQ45, l45, y45, z45⟩, st45⟩ := X43.virtualBack hx (y := ym3) (z := ym3) hown (mvT hZ (wk8 hw)) (mvT hZ (wk9 hw)) (notFace_of_selects (args := #[]) (mvT hZ (wk11 hw))) (mvT hZ (wk11 hw)) (mvT hZ (wk10 hw)) (by decide) (backOf (W := 0) (rm2_3 l Z a0 hw w hW []  h0 n0 O0 ) hZ (wk12 hw) (wk6 hw) (by decide) (by decide)) q45a q45c (g := (mkF m 43 Lb44 [(.ref (w 0))])) rfl (by rw [hml]; rfl) (Steps.refl _) (argsL := []) (rest := []) (lenOf pds_2 rfl) rfl (by show 2 * 0 + _ ≤ _; exact Nat.le_of_eq rfl) (hb hby at_43) (fun _ _ => ⟨rfl, e43, (by decide : 0 + 0 ≤ _), (by decide : 0 + 0 ≤ _)⟩)
     dsimp only [Pt.U, Pt.locs, Pt.cells, Pt.slots] at X45 l45 y45 z45 st45 hQ45
     subst l45 y45 z45
     obtain ⟨rfl, N45q, e45⟩ := hQ45
     have N45 := Fr.app N43 N45q
     let Lb46 : Array Slot := #[.val (.int p0), .val (.int p1), .val (.int p2), .val (.ref (w 1)), .val (.ref (w 0)), .val (.int (1 : Int32)), .val (.int (1 : Int32))]
     obtain ⟨fs, hr, hrun, hended, hWm, hsame⟩ := X45.leave (v := some (.int (1 : Int32))) (fun h => by rw [Bd.returns] at h; cases h)
     refine ⟨_, _, pre29 _ ?_, hrun, hended, _, _, rfl, ?_, ⟨_, rfl⟩, hWm, hsame.mono (by decide) (by decide)⟩
     · show Steps p.tables e below (T27.setTop (mkF m 22 Lb28 [(.int p2), (.int p1), (.ref (w 0))])) _
       refine st42.trans ?_
       refine sA X42 hx hby at_25 rfl rfl ?_
       refine sI X42 hx hby at_26 rfl ?_
       refine sI X42 hx hby at_27 rfl ?_
       refine st43.trans ?_
       refine sn X43 hx hby at_31 (by decide) ?_
       refine sc X43 hx hby at_34 ?_
       refine sg (pc := 35) (pc' := 39) X43 hx hby at_35 (by decide) (by decide) ?_
       refine XS.istore X43.here hx rfl (hb hby at_39) rfl (l' := Lb44) rfl ?_
       refine sa X43 hx hby at_41 rfl rfl ?_
       show Steps p.tables e below (T43.setTop (mkF m 43 Lb44 [(.ref (w 0))])) _
       refine st45.trans ?_
       refine sA X45 hx hby at_46 rfl rfl ?_
       refine Jvm.RoadKit.acmp (g := (mkF m 47 Lb44 [(.ref (w 1)), (.ref (w 1))])) X45 hx rfl rfl rfl (pc0 := 47) (pc' := 50) (same := true) rfl (hb hby at_47) rfl (decide_eq_true rfl) (by decide) (by decide) ?_
       refine sc X45 hx hby at_50 ?_
       refine sg (pc := 51) (pc' := 55) X45 hx hby at_51 (by decide) (by decide) ?_
       refine XS.istore X45.here hx rfl (hb hby at_55) rfl (l' := Lb46) rfl ?_
       show Steps p.tables e below (T45.setTop (mkF m 57 Lb46 [])) _
       refine si X45 hx hby at_57 rfl ?_
       refine sN X45 hx hby at_59 (by decide) ?_
       refine si X45 hx hby at_62 rfl ?_
       refine sN X45 hx hby at_64 (by decide) ?_
       refine sc X45 hx hby at_67 ?_
       show Steps p.tables e below (T45.setTop (mkF m 68 Lb46 [(.int (1 : Int32))])) _
       refine sg (pc := 68) (pc' := 72) X45 hx hby at_68 (by decide) (by decide) ?_
       exact retN X45 hx (t := .boolean) Bd.returns (by simp) (hb hby at_72) hr
     · show Q0 n0 _ T45.heap _
       rw [e45]
       exact ⟨rfl, N45⟩
  ·
   obtain ⟨_, _, ⟨T47, L47, kk47, nn47⟩, -, X47, ⟨Lc47, hQ47, l47, y47, z47⟩, st47⟩ := Jvm.LawKit.callS X0 hx (y := ym0) hown (mvT hZ (wk0 hw)) (mvT hZ (wk1 hw)) (mvT hZ (wk2 hw)) (mvT hZ (wk3 hw)) (by decide) (backOf (W := 0) (rm1_16 l Z a0 hw w hW [] p0 h0 n0 O0 (by rw [hs2] <;> decide) (by rw [hs2] <;> decide) (by rw [hs2] <;> decide)) hZ (wk3 hw) (wk2 hw) (by decide) (by decide)) (g := (mkF m 1 La [(.int p0)])) rfl (by rw [hml]; rfl) (argsL := [(.int p0)]) (rest := []) (lenOf pds_0 rfl) rfl (by show 2 * 0 + _ ≤ _; exact Nat.le_of_eq rfl) (hb hby at_1) (fun _ _ => ⟨rfl, e0, (by decide : 0 + 0 ≤ _), (by decide : 0 + 0 ≤ _)⟩)
   dsimp only [Pt.U, Pt.locs, Pt.cells, Pt.slots] at X47 l47 y47 z47 st47 hQ47
   subst l47 y47 z47
   obtain ⟨rfl, N47q, e47⟩ := hQ47
   have N47 := Fr.app N0 N47q
   let Lb48 : Array Slot := #[.val (.int p0), .val (.int p1), .val (.int p2), .val (.ref (w 2)), .unset, .unset, .unset]
   obtain ⟨cq49, kq49, q49a, q49b, q49c⟩ := isOf hZ e47 ((wd5 hW).ext O0.2)
   obtain ⟨_, _, ⟨T49, L49, kk49, nn49⟩, -, X49, ⟨Lc49, hQ49, l49, y49, z49⟩, st49⟩ := X47.virtualBack hx (y := ym3) (z := ym3) hown (mvT hZ (wk8 hw)) (mvT hZ (wk9 hw)) (notFace_of_selects (args := #[]) (mvT hZ (wk11 hw))) (mvT hZ (wk11 hw)) (mvT hZ (wk10 hw)) (by decide) (backOf (W := 0) (rm2_18 l Z a0 hw w hW []  h0 n0 O0 ) hZ (wk12 hw) (wk6 hw) (by decide) (by decide)) q49a q49c (g := (mkF m 6 Lb48 [(.ref (w 2))])) rfl (by rw [hml]; rfl) (Steps.refl _) (argsL := []) (rest := []) (lenOf pds_2 rfl) rfl (by show 2 * 0 + _ ≤ _; exact Nat.le_of_eq rfl) (hb hby at_6) (fun _ _ => ⟨rfl, e47, (by decide : 0 + 0 ≤ _), (by decide : 0 + 0 ≤ _)⟩)
   dsimp only [Pt.U, Pt.locs, Pt.cells, Pt.slots] at X49 l49 y49 z49 st49 hQ49
   subst l49 y49 z49
   obtain ⟨rfl, N49q, e49⟩ := hQ49
   have N49 := Fr.app N47 N49q
   let Lb50 : Array Slot := #[.val (.int p0), .val (.int p1), .val (.int p2), .val (.ref (w 2)), .val (.ref (w 3)), .unset, .unset]
   have pre51 : ∀ t, Steps p.tables e below (T49.setTop (mkF m 22 Lb50 [(.int p2), (.int p1), (.ref (w 3))])) t → Steps p.tables e below (s₁.setTop (entryFrame m #[(.int p0), (.int p1), (.int p2)] maxLocals)) t := fun t k => pre1 t (by
    show Steps p.tables e below (s₁.setTop (mkF m 1 La [(.int p0)])) _
    refine st47 _ ?_
    refine XS.astoreN X47.here hx rfl (hb hby at_4) rfl rfl (l' := Lb48) rfl ?_
    refine sA X47 hx hby at_5 rfl rfl ?_
    refine st49.trans ?_
    refine XS.astore X49.here hx rfl (hb hby at_9) rfl rfl (l' := Lb50) rfl ?_
    refine sa X49 hx hby at_11 rfl rfl ?_
    refine XS.ifnonnullYes X49.here hx rfl (pc0 := 13) (pc' := 18) rfl (hb hby at_13) rfl (by decide) (by decide) ?_
    refine sa X49 hx hby at_18 rfl rfl ?_
    refine sI X49 hx hby at_20 rfl ?_
    show Steps p.tables e below (T49.setTop (mkF m 21 Lb50 [(.int p1), (.ref (w 3))])) _
    refine sI X49 hx hby at_21 rfl ?_
    exact k)
   by_cases hc52 : p1 < p2
   ·
    obtain ⟨cq53, kq53, q53a, q53b, q53c⟩ := isOf hZ e49 ((wd7 hW).ext O0.2)
    obtain ⟨_, _, ⟨T53, L53, kk53, nn53⟩, -, X53, ⟨Lc53, hQ53, l53, y53, z53⟩, st53⟩ := X49.virtualBack hx (y := ym5) (z := ym5) hown (mvT hZ (wk24 hw)) (mvT hZ (wk25 hw)) (notFace_of_selects (args := #[]) (mvT hZ (wk27 hw))) (mvT hZ (wk27 hw)) (mvT hZ (wk26 hw)) (by decide) (backOf (W := 0) (rm4_20 l Z a0 hw w hW [] p1 p2 h0 n0 O0 hc52) hZ (wk28 hw) (wk6 hw) (by decide) (by decide)) q53a q53c (g := (mkF m 22 Lb50 [(.int p2), (.int p1), (.ref (w 3))])) rfl (by rw [hml]; rfl) (Steps.refl _) (argsL := [(.int p1), (.int p2)]) (rest := []) (lenOf pds_4 rfl) rfl (by show 2 * 0 + _ ≤ _; exact Nat.le_of_eq rfl) (hb hby at_22) (fun _ _ => ⟨rfl, e49, (by decide : 0 + 0 ≤ _), (by decide : 0 + 0 ≤ _)⟩)
    dsimp only [Pt.U, Pt.locs, Pt.cells, Pt.slots] at X53 l53 y53 z53 st53 hQ53
    subst l53 y53 z53
    obtain ⟨rfl, N53q, e53⟩ := hQ53
    have N53 := Fr.app N49 N53q
    obtain ⟨cq54, kq54, q54a, q54b, q54c⟩ := isOf hZ e53 ((wd5 hW).ext O0.2)
    obtain ⟨_, _, ⟨T54, L54, kk54, nn54⟩, -, X54, ⟨Lc54, hQ54, l54, y54, z54⟩, st54⟩ := X53.virtualBack hx (y := ym5) (z := ym5) hown (mvT hZ (wk24 hw)) (mvT hZ (wk25 hw)) (notFace_of_selects (args := #[]) (mvT hZ (wk27 hw))) (mvT hZ (wk27 hw)) (mvT hZ (wk26 hw)) (by decide) (backOf (W := 1) (rm4_21 l Z a0 hw w hW [] p1 p2 h0 n0 O0 hc52) hZ (wk28 hw) (wk6 hw) (by decide) (by decide)) q54a q54c (g := (mkF m 28 Lb50 [(.int p2), (.int p1), (.ref (w 2)), (.int (0 : Int32))])) rfl (by rw [hml]; rfl) (Steps.refl _) (argsL := [(.int p1), (.int p2)]) (rest := [(.int (0 : Int32))]) (lenOf pds_4 rfl) rfl (by show 2 * 0 + _ ≤ _; exact Nat.le_of_eq rfl) (hb hby at_28) (fun _ _ => ⟨rfl, e53, (by decide : 0 + 0 ≤ _), (by decide : 0 + 0 ≤ _)⟩)
    dsimp only [Pt.U, Pt.locs, Pt.cells, Pt.slots] at X54 l54 y54 z54 st54 hQ54
    subst l54 y54 z54
    obtain ⟨rfl, N54q, e54⟩ := hQ54
    have N54 := Fr.app N53 N54q
    let Lb55 : Array Slot := #[.val (.int p0), .val (.int p1), .val (.int p2), .val (.ref (w 2)), .val (.ref (w 3)), .val (.int (1 : Int32)), .unset]
    obtain ⟨cq56, kq56, q56a, q56b, q56c⟩ := isOf hZ e54 ((wd7 hW).ext O0.2)
    obtain ⟨_, _, ⟨T56, L56, kk56, nn56⟩, -, X56, ⟨Lc56, hQ56, l56, y56, z56⟩, st56⟩ := X54.virtualBack hx (y := ym3) (z := ym3) hown (mvT hZ (wk8 hw)) (mvT hZ (wk9 hw)) (notFace_of_selects (args := #[]) (mvT hZ (wk11 hw))) (mvT hZ (wk11 hw)) (mvT hZ (wk10 hw)) (by decide) (backOf (W := 0) (rm2_22 l Z a0 hw w hW []  h0 n0 O0 ) hZ (wk12 hw) (wk6 hw) (by decide) (by decide)) q56a q56c (g := (mkF m 43 Lb55 [(.ref (w 3))])) rfl (by rw [hml]; rfl) (Steps.refl _) (argsL := []) (rest := []) (lenOf pds_2 rfl) rfl (by show 2 * 0 + _ ≤ _; exact Nat.le_of_eq rfl) (hb hby at_43) (fun _ _ => ⟨rfl, e54, (by decide : 0 + 0 ≤ _), (by decide : 0 + 0 ≤ _)⟩)
    dsimp only [Pt.U, Pt.locs, Pt.cells, Pt.slots] at X56 l56 y56 z56 st56 hQ56
    subst l56 y56 z56
    obtain ⟨rfl, N56q, e56⟩ := hQ56
    have N56 := Fr.app N54 N56q
    let Lb57 : Array Slot := #[.val (.int p0), .val (.int p1), .val (.int p2), .val (.ref (w 2)), .val (.ref (w 3)), .val (.int (1 : Int32)), .val (.int (1 : Int32))]
    obtain ⟨fs, hr, hrun, hended, hWm, hsame⟩ := X56.leave (v := some (.int (1 : Int32))) (fun h => by rw [Bd.returns] at h; cases h)
    refine ⟨_, _, pre51 _ ?_, hrun, hended, _, _, rfl, ?_, ⟨_, rfl⟩, hWm, hsame.mono (by decide) (by decide)⟩
    · show Steps p.tables e below (T49.setTop (mkF m 22 Lb50 [(.int p2), (.int p1), (.ref (w 3))])) _
      refine st53.trans ?_
      refine sA X53 hx hby at_25 rfl rfl ?_
      refine sI X53 hx hby at_26 rfl ?_
      refine sI X53 hx hby at_27 rfl ?_
      refine st54.trans ?_
      refine sn X54 hx hby at_31 (by decide) ?_
      refine sc X54 hx hby at_34 ?_
      refine sg (pc := 35) (pc' := 39) X54 hx hby at_35 (by decide) (by decide) ?_
      refine XS.istore X54.here hx rfl (hb hby at_39) rfl (l' := Lb55) rfl ?_
      refine sa X54 hx hby at_41 rfl rfl ?_
      show Steps p.tables e below (T54.setTop (mkF m 43 Lb55 [(.ref (w 3))])) _
      refine st56.trans ?_
      refine sA X56 hx hby at_46 rfl rfl ?_
      refine Jvm.RoadKit.acmp (g := (mkF m 47 Lb55 [(.ref (w 2)), (.ref (w 2))])) X56 hx rfl rfl rfl (pc0 := 47) (pc' := 50) (same := true) rfl (hb hby at_47) rfl (decide_eq_true rfl) (by decide) (by decide) ?_
      refine sc X56 hx hby at_50 ?_
      refine sg (pc := 51) (pc' := 55) X56 hx hby at_51 (by decide) (by decide) ?_
      refine XS.istore X56.here hx rfl (hb hby at_55) rfl (l' := Lb57) rfl ?_
      show Steps p.tables e below (T56.setTop (mkF m 57 Lb57 [])) _
      refine si X56 hx hby at_57 rfl ?_
      refine sN X56 hx hby at_59 (by decide) ?_
      refine si X56 hx hby at_62 rfl ?_
      refine sN X56 hx hby at_64 (by decide) ?_
      refine sc X56 hx hby at_67 ?_
      show Steps p.tables e below (T56.setTop (mkF m 68 Lb57 [(.int (1 : Int32))])) _
      refine sg (pc := 68) (pc' := 72) X56 hx hby at_68 (by decide) (by decide) ?_
      exact retN X56 hx (t := .boolean) Bd.returns (by simp) (hb hby at_72) hr
    · show Q0 n0 _ T56.heap _
      rw [e56]
      exact ⟨rfl, N56⟩
   ·
    by_cases hc58 : p1 = p2
    ·
     obtain ⟨cq59, kq59, q59a, q59b, q59c⟩ := isOf hZ e49 ((wd7 hW).ext O0.2)
     obtain ⟨_, _, ⟨T59, L59, kk59, nn59⟩, -, X59, ⟨Lc59, hQ59, l59, y59, z59⟩, st59⟩ := X49.virtualBack hx (y := ym5) (z := ym5) hown (mvT hZ (wk24 hw)) (mvT hZ (wk25 hw)) (notFace_of_selects (args := #[]) (mvT hZ (wk27 hw))) (mvT hZ (wk27 hw)) (mvT hZ (wk26 hw)) (by decide) (backOf (W := 0) (rm4_23 l Z a0 hw w hW [] p1 p2 h0 n0 O0 hc52 hc58) hZ (wk28 hw) (wk6 hw) (by decide) (by decide)) q59a q59c (g := (mkF m 22 Lb50 [(.int p2), (.int p1), (.ref (w 3))])) rfl (by rw [hml]; rfl) (Steps.refl _) (argsL := [(.int p1), (.int p2)]) (rest := []) (lenOf pds_4 rfl) rfl (by show 2 * 0 + _ ≤ _; exact Nat.le_of_eq rfl) (hb hby at_22) (fun _ _ => ⟨rfl, e49, (by decide : 0 + 0 ≤ _), (by decide : 0 + 0 ≤ _)⟩)
     dsimp only [Pt.U, Pt.locs, Pt.cells, Pt.slots] at X59 l59 y59 z59 st59 hQ59
     subst l59 y59 z59
     obtain ⟨rfl, N59q, e59⟩ := hQ59
     have N59 := Fr.app N49 N59q
     obtain ⟨cq60, kq60, q60a, q60b, q60c⟩ := isOf hZ e59 ((wd5 hW).ext O0.2)
     obtain ⟨_, _, ⟨T60, L60, kk60, nn60⟩, -, X60, ⟨Lc60, hQ60, l60, y60, z60⟩, st60⟩ := X59.virtualBack hx (y := ym5) (z := ym5) hown (mvT hZ (wk24 hw)) (mvT hZ (wk25 hw)) (notFace_of_selects (args := #[]) (mvT hZ (wk27 hw))) (mvT hZ (wk27 hw)) (mvT hZ (wk26 hw)) (by decide) (backOf (W := 1) (rm4_24 l Z a0 hw w hW [] p1 p2 h0 n0 O0 hc52 hc58) hZ (wk28 hw) (wk6 hw) (by decide) (by decide)) q60a q60c (g := (mkF m 28 Lb50 [(.int p2), (.int p1), (.ref (w 2)), (.int (1 : Int32))])) rfl (by rw [hml]; rfl) (Steps.refl _) (argsL := [(.int p1), (.int p2)]) (rest := [(.int (1 : Int32))]) (lenOf pds_4 rfl) rfl (by show 2 * 0 + _ ≤ _; exact Nat.le_of_eq rfl) (hb hby at_28) (fun _ _ => ⟨rfl, e59, (by decide : 0 + 0 ≤ _), (by decide : 0 + 0 ≤ _)⟩)
     dsimp only [Pt.U, Pt.locs, Pt.cells, Pt.slots] at X60 l60 y60 z60 st60 hQ60
     subst l60 y60 z60
     obtain ⟨rfl, N60q, e60⟩ := hQ60
     have N60 := Fr.app N59 N60q
     let Lb61 : Array Slot := #[.val (.int p0), .val (.int p1), .val (.int p2), .val (.ref (w 2)), .val (.ref (w 3)), .val (.int (1 : Int32)), .unset]
     obtain ⟨cq62, kq62, q62a, q62b, q62c⟩ := isOf hZ e60 ((wd7 hW).ext O0.2)
     obtain ⟨_, _, ⟨T62, L62, kk62, nn62⟩, -, X62, ⟨Lc62, hQ62, l62, y62, z62⟩, st62⟩ := X60.virtualBack hx (y := ym3) (z := ym3) hown (mvT hZ (wk8 hw)) (mvT hZ (wk9 hw)) (notFace_of_selects (args := #[]) (mvT hZ (wk11 hw))) (mvT hZ (wk11 hw)) (mvT hZ (wk10 hw)) (by decide) (backOf (W := 0) (rm2_22 l Z a0 hw w hW []  h0 n0 O0 ) hZ (wk12 hw) (wk6 hw) (by decide) (by decide)) q62a q62c (g := (mkF m 43 Lb61 [(.ref (w 3))])) rfl (by rw [hml]; rfl) (Steps.refl _) (argsL := []) (rest := []) (lenOf pds_2 rfl) rfl (by show 2 * 0 + _ ≤ _; exact Nat.le_of_eq rfl) (hb hby at_43) (fun _ _ => ⟨rfl, e60, (by decide : 0 + 0 ≤ _), (by decide : 0 + 0 ≤ _)⟩)
     dsimp only [Pt.U, Pt.locs, Pt.cells, Pt.slots] at X62 l62 y62 z62 st62 hQ62
     subst l62 y62 z62
     obtain ⟨rfl, N62q, e62⟩ := hQ62
     have N62 := Fr.app N60 N62q
     let Lb63 : Array Slot := #[.val (.int p0), .val (.int p1), .val (.int p2), .val (.ref (w 2)), .val (.ref (w 3)), .val (.int (1 : Int32)), .val (.int (1 : Int32))]
     obtain ⟨fs, hr, hrun, hended, hWm, hsame⟩ := X62.leave (v := some (.int (1 : Int32))) (fun h => by rw [Bd.returns] at h; cases h)
     refine ⟨_, _, pre51 _ ?_, hrun, hended, _, _, rfl, ?_, ⟨_, rfl⟩, hWm, hsame.mono (by decide) (by decide)⟩
     · show Steps p.tables e below (T49.setTop (mkF m 22 Lb50 [(.int p2), (.int p1), (.ref (w 3))])) _
       refine st59.trans ?_
       refine sA X59 hx hby at_25 rfl rfl ?_
       refine sI X59 hx hby at_26 rfl ?_
       refine sI X59 hx hby at_27 rfl ?_
       refine st60.trans ?_
       refine sn X60 hx hby at_31 (by decide) ?_
       refine sc X60 hx hby at_34 ?_
       refine sg (pc := 35) (pc' := 39) X60 hx hby at_35 (by decide) (by decide) ?_
       refine XS.istore X60.here hx rfl (hb hby at_39) rfl (l' := Lb61) rfl ?_
       refine sa X60 hx hby at_41 rfl rfl ?_
       show Steps p.tables e below (T60.setTop (mkF m 43 Lb61 [(.ref (w 3))])) _
       refine st62.trans ?_
       refine sA X62 hx hby at_46 rfl rfl ?_
       refine Jvm.RoadKit.acmp (g := (mkF m 47 Lb61 [(.ref (w 2)), (.ref (w 2))])) X62 hx rfl rfl rfl (pc0 := 47) (pc' := 50) (same := true) rfl (hb hby at_47) rfl (decide_eq_true rfl) (by decide) (by decide) ?_
       refine sc X62 hx hby at_50 ?_
       refine sg (pc := 51) (pc' := 55) X62 hx hby at_51 (by decide) (by decide) ?_
       refine XS.istore X62.here hx rfl (hb hby at_55) rfl (l' := Lb63) rfl ?_
       show Steps p.tables e below (T62.setTop (mkF m 57 Lb63 [])) _
       refine si X62 hx hby at_57 rfl ?_
       refine sN X62 hx hby at_59 (by decide) ?_
       refine si X62 hx hby at_62 rfl ?_
       refine sN X62 hx hby at_64 (by decide) ?_
       refine sc X62 hx hby at_67 ?_
       show Steps p.tables e below (T62.setTop (mkF m 68 Lb63 [(.int (1 : Int32))])) _
       refine sg (pc := 68) (pc' := 72) X62 hx hby at_68 (by decide) (by decide) ?_
       exact retN X62 hx (t := .boolean) Bd.returns (by simp) (hb hby at_72) hr
     · show Q0 n0 _ T62.heap _
       rw [e62]
       exact ⟨rfl, N62⟩
    ·
     obtain ⟨cq64, kq64, q64a, q64b, q64c⟩ := isOf hZ e49 ((wd7 hW).ext O0.2)
     obtain ⟨_, _, ⟨T64, L64, kk64, nn64⟩, -, X64, ⟨Lc64, hQ64, l64, y64, z64⟩, st64⟩ := X49.virtualBack hx (y := ym5) (z := ym5) hown (mvT hZ (wk24 hw)) (mvT hZ (wk25 hw)) (notFace_of_selects (args := #[]) (mvT hZ (wk27 hw))) (mvT hZ (wk27 hw)) (mvT hZ (wk26 hw)) (by decide) (backOf (W := 0) (rm4_25 l Z a0 hw w hW [] p1 p2 h0 n0 O0 hc52 hc58) hZ (wk28 hw) (wk6 hw) (by decide) (by decide)) q64a q64c (g := (mkF m 22 Lb50 [(.int p2), (.int p1), (.ref (w 3))])) rfl (by rw [hml]; rfl) (Steps.refl _) (argsL := [(.int p1), (.int p2)]) (rest := []) (lenOf pds_4 rfl) rfl (by show 2 * 0 + _ ≤ _; exact Nat.le_of_eq rfl) (hb hby at_22) (fun _ _ => ⟨rfl, e49, (by decide : 0 + 0 ≤ _), (by decide : 0 + 0 ≤ _)⟩)
     dsimp only [Pt.U, Pt.locs, Pt.cells, Pt.slots] at X64 l64 y64 z64 st64 hQ64
     subst l64 y64 z64
     obtain ⟨rfl, N64q, e64⟩ := hQ64
     have N64 := Fr.app N49 N64q
     obtain ⟨cq65, kq65, q65a, q65b, q65c⟩ := isOf hZ e64 ((wd5 hW).ext O0.2)
     obtain ⟨_, _, ⟨T65, L65, kk65, nn65⟩, -, X65, ⟨Lc65, hQ65, l65, y65, z65⟩, st65⟩ := X64.virtualBack hx (y := ym5) (z := ym5) hown (mvT hZ (wk24 hw)) (mvT hZ (wk25 hw)) (notFace_of_selects (args := #[]) (mvT hZ (wk27 hw))) (mvT hZ (wk27 hw)) (mvT hZ (wk26 hw)) (by decide) (backOf (W := 1) (rm4_26 l Z a0 hw w hW [] p1 p2 h0 n0 O0 hc52 hc58) hZ (wk28 hw) (wk6 hw) (by decide) (by decide)) q65a q65c (g := (mkF m 28 Lb50 [(.int p2), (.int p1), (.ref (w 2)), (.int (1 : Int32))])) rfl (by rw [hml]; rfl) (Steps.refl _) (argsL := [(.int p1), (.int p2)]) (rest := [(.int (1 : Int32))]) (lenOf pds_4 rfl) rfl (by show 2 * 0 + _ ≤ _; exact Nat.le_of_eq rfl) (hb hby at_28) (fun _ _ => ⟨rfl, e64, (by decide : 0 + 0 ≤ _), (by decide : 0 + 0 ≤ _)⟩)
     dsimp only [Pt.U, Pt.locs, Pt.cells, Pt.slots] at X65 l65 y65 z65 st65 hQ65
     subst l65 y65 z65
     obtain ⟨rfl, N65q, e65⟩ := hQ65
     have N65 := Fr.app N64 N65q
     let Lb66 : Array Slot := #[.val (.int p0), .val (.int p1), .val (.int p2), .val (.ref (w 2)), .val (.ref (w 3)), .val (.int (1 : Int32)), .unset]
     obtain ⟨cq67, kq67, q67a, q67b, q67c⟩ := isOf hZ e65 ((wd7 hW).ext O0.2)
     obtain ⟨_, _, ⟨T67, L67, kk67, nn67⟩, -, X67, ⟨Lc67, hQ67, l67, y67, z67⟩, st67⟩ := X65.virtualBack hx (y := ym3) (z := ym3) hown (mvT hZ (wk8 hw)) (mvT hZ (wk9 hw)) (notFace_of_selects (args := #[]) (mvT hZ (wk11 hw))) (mvT hZ (wk11 hw)) (mvT hZ (wk10 hw)) (by decide) (backOf (W := 0) (rm2_22 l Z a0 hw w hW []  h0 n0 O0 ) hZ (wk12 hw) (wk6 hw) (by decide) (by decide)) q67a q67c (g := (mkF m 43 Lb66 [(.ref (w 3))])) rfl (by rw [hml]; rfl) (Steps.refl _) (argsL := []) (rest := []) (lenOf pds_2 rfl) rfl (by show 2 * 0 + _ ≤ _; exact Nat.le_of_eq rfl) (hb hby at_43) (fun _ _ => ⟨rfl, e65, (by decide : 0 + 0 ≤ _), (by decide : 0 + 0 ≤ _)⟩)
     dsimp only [Pt.U, Pt.locs, Pt.cells, Pt.slots] at X67 l67 y67 z67 st67 hQ67
     subst l67 y67 z67
     obtain ⟨rfl, N67q, e67⟩ := hQ67
     have N67 := Fr.app N65 N67q
     let Lb68 : Array Slot := #[.val (.int p0), .val (.int p1), .val (.int p2), .val (.ref (w 2)), .val (.ref (w 3)), .val (.int (1 : Int32)), .val (.int (1 : Int32))]
     obtain ⟨fs, hr, hrun, hended, hWm, hsame⟩ := X67.leave (v := some (.int (1 : Int32))) (fun h => by rw [Bd.returns] at h; cases h)
     refine ⟨_, _, pre51 _ ?_, hrun, hended, _, _, rfl, ?_, ⟨_, rfl⟩, hWm, hsame.mono (by decide) (by decide)⟩
     · show Steps p.tables e below (T49.setTop (mkF m 22 Lb50 [(.int p2), (.int p1), (.ref (w 3))])) _
       refine st64.trans ?_
       refine sA X64 hx hby at_25 rfl rfl ?_
       refine sI X64 hx hby at_26 rfl ?_
       refine sI X64 hx hby at_27 rfl ?_
       refine st65.trans ?_
       refine sn X65 hx hby at_31 (by decide) ?_
       refine sc X65 hx hby at_34 ?_
       refine sg (pc := 35) (pc' := 39) X65 hx hby at_35 (by decide) (by decide) ?_
       refine XS.istore X65.here hx rfl (hb hby at_39) rfl (l' := Lb66) rfl ?_
       refine sa X65 hx hby at_41 rfl rfl ?_
       show Steps p.tables e below (T65.setTop (mkF m 43 Lb66 [(.ref (w 3))])) _
       refine st67.trans ?_
       refine sA X67 hx hby at_46 rfl rfl ?_
       refine Jvm.RoadKit.acmp (g := (mkF m 47 Lb66 [(.ref (w 2)), (.ref (w 2))])) X67 hx rfl rfl rfl (pc0 := 47) (pc' := 50) (same := true) rfl (hb hby at_47) rfl (decide_eq_true rfl) (by decide) (by decide) ?_
       refine sc X67 hx hby at_50 ?_
       refine sg (pc := 51) (pc' := 55) X67 hx hby at_51 (by decide) (by decide) ?_
       refine XS.istore X67.here hx rfl (hb hby at_55) rfl (l' := Lb68) rfl ?_
       show Steps p.tables e below (T67.setTop (mkF m 57 Lb68 [])) _
       refine si X67 hx hby at_57 rfl ?_
       refine sN X67 hx hby at_59 (by decide) ?_
       refine si X67 hx hby at_62 rfl ?_
       refine sN X67 hx hby at_64 (by decide) ?_
       refine sc X67 hx hby at_67 ?_
       show Steps p.tables e below (T67.setTop (mkF m 68 Lb68 [(.int (1 : Int32))])) _
       refine sg (pc := 68) (pc' := 72) X67 hx hby at_68 (by decide) (by decide) ?_
       exact retN X67 hx (t := .boolean) Bd.returns (by simp) (hb hby at_72) hr
     · show Q0 n0 _ T67.heap _
       rw [e67]
       exact ⟨rfl, N67⟩
  ·
   obtain ⟨_, _, ⟨T69, L69, kk69, nn69⟩, -, X69, ⟨Lc69, hQ69, l69, y69, z69⟩, st69⟩ := Jvm.LawKit.callS X0 hx (y := ym0) hown (mvT hZ (wk0 hw)) (mvT hZ (wk1 hw)) (mvT hZ (wk2 hw)) (mvT hZ (wk3 hw)) (by decide) (backOf (W := 0) (rm1_27 l Z a0 hw w hW [] p0 h0 n0 O0 (by rw [hs2] <;> decide) (by rw [hs2] <;> decide) (by rw [hs2] <;> decide) (by rw [hs2] <;> decide)) hZ (wk3 hw) (wk2 hw) (by decide) (by decide)) (g := (mkF m 1 La [(.int p0)])) rfl (by rw [hml]; rfl) (argsL := [(.int p0)]) (rest := []) (lenOf pds_0 rfl) rfl (by show 2 * 0 + _ ≤ _; exact Nat.le_of_eq rfl) (hb hby at_1) (fun _ _ => ⟨rfl, e0, (by decide : 0 + 0 ≤ _), (by decide : 0 + 0 ≤ _)⟩)
   dsimp only [Pt.U, Pt.locs, Pt.cells, Pt.slots] at X69 l69 y69 z69 st69 hQ69
   subst l69 y69 z69
   obtain ⟨rfl, N69q, e69⟩ := hQ69
   have N69 := Fr.app N0 N69q
   let Lb70 : Array Slot := #[.val (.int p0), .val (.int p1), .val (.int p2), .val (.ref (w 4)), .unset, .unset, .unset]
   obtain ⟨cq71, kq71, q71a, q71b, q71c⟩ := isOf hZ e69 ((wd9 hW).ext O0.2)
   obtain ⟨_, _, ⟨T71, L71, kk71, nn71⟩, -, X71, ⟨Lc71, hQ71, l71, y71, z71⟩, st71⟩ := X69.virtualBack hx (y := ym3) (z := ym3) hown (mvT hZ (wk8 hw)) (mvT hZ (wk9 hw)) (notFace_of_selects (args := #[]) (mvT hZ (wk11 hw))) (mvT hZ (wk11 hw)) (mvT hZ (wk10 hw)) (by decide) (backOf (W := 0) (rm2_29 l Z a0 hw w hW []  h0 n0 O0 ) hZ (wk12 hw) (wk6 hw) (by decide) (by decide)) q71a q71c (g := (mkF m 6 Lb70 [(.ref (w 4))])) rfl (by rw [hml]; rfl) (Steps.refl _) (argsL := []) (rest := []) (lenOf pds_2 rfl) rfl (by show 2 * 0 + _ ≤ _; exact Nat.le_of_eq rfl) (hb hby at_6) (fun _ _ => ⟨rfl, e69, (by decide : 0 + 0 ≤ _), (by decide : 0 + 0 ≤ _)⟩)
   dsimp only [Pt.U, Pt.locs, Pt.cells, Pt.slots] at X71 l71 y71 z71 st71 hQ71
   subst l71 y71 z71
   obtain ⟨rfl, N71q, e71⟩ := hQ71
   have N71 := Fr.app N69 N71q
   let Lb72 : Array Slot := #[.val (.int p0), .val (.int p1), .val (.int p2), .val (.ref (w 4)), .val (.ref (w 5)), .unset, .unset]
   have pre73 : ∀ t, Steps p.tables e below (T71.setTop (mkF m 22 Lb72 [(.int p2), (.int p1), (.ref (w 5))])) t → Steps p.tables e below (s₁.setTop (entryFrame m #[(.int p0), (.int p1), (.int p2)] maxLocals)) t := fun t k => pre1 t (by
    show Steps p.tables e below (s₁.setTop (mkF m 1 La [(.int p0)])) _
    refine st69 _ ?_
    refine XS.astoreN X69.here hx rfl (hb hby at_4) rfl rfl (l' := Lb70) rfl ?_
    refine sA X69 hx hby at_5 rfl rfl ?_
    refine st71.trans ?_
    refine XS.astore X71.here hx rfl (hb hby at_9) rfl rfl (l' := Lb72) rfl ?_
    refine sa X71 hx hby at_11 rfl rfl ?_
    refine XS.ifnonnullYes X71.here hx rfl (pc0 := 13) (pc' := 18) rfl (hb hby at_13) rfl (by decide) (by decide) ?_
    refine sa X71 hx hby at_18 rfl rfl ?_
    refine sI X71 hx hby at_20 rfl ?_
    show Steps p.tables e below (T71.setTop (mkF m 21 Lb72 [(.int p1), (.ref (w 5))])) _
    refine sI X71 hx hby at_21 rfl ?_
    exact k)
   by_cases hc74 : p1 < p2
   ·
    obtain ⟨cq75, kq75, q75a, q75b, q75c⟩ := isOf hZ e71 ((wd11 hW).ext O0.2)
    obtain ⟨_, _, ⟨T75, L75, kk75, nn75⟩, -, X75, ⟨Lc75, hQ75, l75, y75, z75⟩, st75⟩ := X71.virtualBack hx (y := ym5) (z := ym5) hown (mvT hZ (wk24 hw)) (mvT hZ (wk25 hw)) (notFace_of_selects (args := #[]) (mvT hZ (wk27 hw))) (mvT hZ (wk27 hw)) (mvT hZ (wk26 hw)) (by decide) (backOf (W := 0) (rm4_31 l Z a0 hw w hW [] p1 p2 h0 n0 O0 hc74) hZ (wk28 hw) (wk6 hw) (by decide) (by decide)) q75a q75c (g := (mkF m 22 Lb72 [(.int p2), (.int p1), (.ref (w 5))])) rfl (by rw [hml]; rfl) (Steps.refl _) (argsL := [(.int p1), (.int p2)]) (rest := []) (lenOf pds_4 rfl) rfl (by show 2 * 0 + _ ≤ _; exact Nat.le_of_eq rfl) (hb hby at_22) (fun _ _ => ⟨rfl, e71, (by decide : 0 + 0 ≤ _), (by decide : 0 + 0 ≤ _)⟩)
    dsimp only [Pt.U, Pt.locs, Pt.cells, Pt.slots] at X75 l75 y75 z75 st75 hQ75
    subst l75 y75 z75
    obtain ⟨rfl, N75q, e75⟩ := hQ75
    have N75 := Fr.app N71 N75q
    obtain ⟨cq76, kq76, q76a, q76b, q76c⟩ := isOf hZ e75 ((wd9 hW).ext O0.2)
    obtain ⟨_, _, ⟨T76, L76, kk76, nn76⟩, -, X76, ⟨Lc76, hQ76, l76, y76, z76⟩, st76⟩ := X75.virtualBack hx (y := ym5) (z := ym5) hown (mvT hZ (wk24 hw)) (mvT hZ (wk25 hw)) (notFace_of_selects (args := #[]) (mvT hZ (wk27 hw))) (mvT hZ (wk27 hw)) (mvT hZ (wk26 hw)) (by decide) (backOf (W := 1) (rm4_32 l Z a0 hw w hW [] p1 p2 h0 n0 O0 hc74) hZ (wk28 hw) (wk6 hw) (by decide) (by decide)) q76a q76c (g := (mkF m 28 Lb72 [(.int p2), (.int p1), (.ref (w 4)), (.int (0 : Int32))])) rfl (by rw [hml]; rfl) (Steps.refl _) (argsL := [(.int p1), (.int p2)]) (rest := [(.int (0 : Int32))]) (lenOf pds_4 rfl) rfl (by show 2 * 0 + _ ≤ _; exact Nat.le_of_eq rfl) (hb hby at_28) (fun _ _ => ⟨rfl, e75, (by decide : 0 + 0 ≤ _), (by decide : 0 + 0 ≤ _)⟩)
    dsimp only [Pt.U, Pt.locs, Pt.cells, Pt.slots] at X76 l76 y76 z76 st76 hQ76
    subst l76 y76 z76
    obtain ⟨rfl, N76q, e76⟩ := hQ76
    have N76 := Fr.app N75 N76q
    let Lb77 : Array Slot := #[.val (.int p0), .val (.int p1), .val (.int p2), .val (.ref (w 4)), .val (.ref (w 5)), .val (.int (1 : Int32)), .unset]
    obtain ⟨cq78, kq78, q78a, q78b, q78c⟩ := isOf hZ e76 ((wd11 hW).ext O0.2)
    obtain ⟨_, _, ⟨T78, L78, kk78, nn78⟩, -, X78, ⟨Lc78, hQ78, l78, y78, z78⟩, st78⟩ := X76.virtualBack hx (y := ym3) (z := ym3) hown (mvT hZ (wk8 hw)) (mvT hZ (wk9 hw)) (notFace_of_selects (args := #[]) (mvT hZ (wk11 hw))) (mvT hZ (wk11 hw)) (mvT hZ (wk10 hw)) (by decide) (backOf (W := 0) (rm2_33 l Z a0 hw w hW []  h0 n0 O0 ) hZ (wk12 hw) (wk6 hw) (by decide) (by decide)) q78a q78c (g := (mkF m 43 Lb77 [(.ref (w 5))])) rfl (by rw [hml]; rfl) (Steps.refl _) (argsL := []) (rest := []) (lenOf pds_2 rfl) rfl (by show 2 * 0 + _ ≤ _; exact Nat.le_of_eq rfl) (hb hby at_43) (fun _ _ => ⟨rfl, e76, (by decide : 0 + 0 ≤ _), (by decide : 0 + 0 ≤ _)⟩)
    dsimp only [Pt.U, Pt.locs, Pt.cells, Pt.slots] at X78 l78 y78 z78 st78 hQ78
    subst l78 y78 z78
    obtain ⟨rfl, N78q, e78⟩ := hQ78
    have N78 := Fr.app N76 N78q
    let Lb79 : Array Slot := #[.val (.int p0), .val (.int p1), .val (.int p2), .val (.ref (w 4)), .val (.ref (w 5)), .val (.int (1 : Int32)), .val (.int (1 : Int32))]
    obtain ⟨fs, hr, hrun, hended, hWm, hsame⟩ := X78.leave (v := some (.int (1 : Int32))) (fun h => by rw [Bd.returns] at h; cases h)
    refine ⟨_, _, pre73 _ ?_, hrun, hended, _, _, rfl, ?_, ⟨_, rfl⟩, hWm, hsame.mono (by decide) (by decide)⟩
    · show Steps p.tables e below (T71.setTop (mkF m 22 Lb72 [(.int p2), (.int p1), (.ref (w 5))])) _
      refine st75.trans ?_
      refine sA X75 hx hby at_25 rfl rfl ?_
      refine sI X75 hx hby at_26 rfl ?_
      refine sI X75 hx hby at_27 rfl ?_
      refine st76.trans ?_
      refine sn X76 hx hby at_31 (by decide) ?_
      refine sc X76 hx hby at_34 ?_
      refine sg (pc := 35) (pc' := 39) X76 hx hby at_35 (by decide) (by decide) ?_
      refine XS.istore X76.here hx rfl (hb hby at_39) rfl (l' := Lb77) rfl ?_
      refine sa X76 hx hby at_41 rfl rfl ?_
      show Steps p.tables e below (T76.setTop (mkF m 43 Lb77 [(.ref (w 5))])) _
      refine st78.trans ?_
      refine sA X78 hx hby at_46 rfl rfl ?_
      refine Jvm.RoadKit.acmp (g := (mkF m 47 Lb77 [(.ref (w 4)), (.ref (w 4))])) X78 hx rfl rfl rfl (pc0 := 47) (pc' := 50) (same := true) rfl (hb hby at_47) rfl (decide_eq_true rfl) (by decide) (by decide) ?_
      refine sc X78 hx hby at_50 ?_
      refine sg (pc := 51) (pc' := 55) X78 hx hby at_51 (by decide) (by decide) ?_
      refine XS.istore X78.here hx rfl (hb hby at_55) rfl (l' := Lb79) rfl ?_
      show Steps p.tables e below (T78.setTop (mkF m 57 Lb79 [])) _
      refine si X78 hx hby at_57 rfl ?_
      refine sN X78 hx hby at_59 (by decide) ?_
      refine si X78 hx hby at_62 rfl ?_
      refine sN X78 hx hby at_64 (by decide) ?_
      refine sc X78 hx hby at_67 ?_
      show Steps p.tables e below (T78.setTop (mkF m 68 Lb79 [(.int (1 : Int32))])) _
      refine sg (pc := 68) (pc' := 72) X78 hx hby at_68 (by decide) (by decide) ?_
      exact retN X78 hx (t := .boolean) Bd.returns (by simp) (hb hby at_72) hr
    · show Q0 n0 _ T78.heap _
      rw [e78]
      exact ⟨rfl, N78⟩
   ·
    by_cases hc80 : p1 = p2
    ·
     obtain ⟨cq81, kq81, q81a, q81b, q81c⟩ := isOf hZ e71 ((wd11 hW).ext O0.2)
     obtain ⟨_, _, ⟨T81, L81, kk81, nn81⟩, -, X81, ⟨Lc81, hQ81, l81, y81, z81⟩, st81⟩ := X71.virtualBack hx (y := ym5) (z := ym5) hown (mvT hZ (wk24 hw)) (mvT hZ (wk25 hw)) (notFace_of_selects (args := #[]) (mvT hZ (wk27 hw))) (mvT hZ (wk27 hw)) (mvT hZ (wk26 hw)) (by decide) (backOf (W := 0) (rm4_34 l Z a0 hw w hW [] p1 p2 h0 n0 O0 hc74 hc80) hZ (wk28 hw) (wk6 hw) (by decide) (by decide)) q81a q81c (g := (mkF m 22 Lb72 [(.int p2), (.int p1), (.ref (w 5))])) rfl (by rw [hml]; rfl) (Steps.refl _) (argsL := [(.int p1), (.int p2)]) (rest := []) (lenOf pds_4 rfl) rfl (by show 2 * 0 + _ ≤ _; exact Nat.le_of_eq rfl) (hb hby at_22) (fun _ _ => ⟨rfl, e71, (by decide : 0 + 0 ≤ _), (by decide : 0 + 0 ≤ _)⟩)
     dsimp only [Pt.U, Pt.locs, Pt.cells, Pt.slots] at X81 l81 y81 z81 st81 hQ81
     subst l81 y81 z81
     obtain ⟨rfl, N81q, e81⟩ := hQ81
     have N81 := Fr.app N71 N81q
     obtain ⟨cq82, kq82, q82a, q82b, q82c⟩ := isOf hZ e81 ((wd9 hW).ext O0.2)
     obtain ⟨_, _, ⟨T82, L82, kk82, nn82⟩, -, X82, ⟨Lc82, hQ82, l82, y82, z82⟩, st82⟩ := X81.virtualBack hx (y := ym5) (z := ym5) hown (mvT hZ (wk24 hw)) (mvT hZ (wk25 hw)) (notFace_of_selects (args := #[]) (mvT hZ (wk27 hw))) (mvT hZ (wk27 hw)) (mvT hZ (wk26 hw)) (by decide) (backOf (W := 1) (rm4_35 l Z a0 hw w hW [] p1 p2 h0 n0 O0 hc74 hc80) hZ (wk28 hw) (wk6 hw) (by decide) (by decide)) q82a q82c (g := (mkF m 28 Lb72 [(.int p2), (.int p1), (.ref (w 4)), (.int (0 : Int32))])) rfl (by rw [hml]; rfl) (Steps.refl _) (argsL := [(.int p1), (.int p2)]) (rest := [(.int (0 : Int32))]) (lenOf pds_4 rfl) rfl (by show 2 * 0 + _ ≤ _; exact Nat.le_of_eq rfl) (hb hby at_28) (fun _ _ => ⟨rfl, e81, (by decide : 0 + 0 ≤ _), (by decide : 0 + 0 ≤ _)⟩)
     dsimp only [Pt.U, Pt.locs, Pt.cells, Pt.slots] at X82 l82 y82 z82 st82 hQ82
     subst l82 y82 z82
     obtain ⟨rfl, N82q, e82⟩ := hQ82
     have N82 := Fr.app N81 N82q
     let Lb83 : Array Slot := #[.val (.int p0), .val (.int p1), .val (.int p2), .val (.ref (w 4)), .val (.ref (w 5)), .val (.int (1 : Int32)), .unset]
     obtain ⟨cq84, kq84, q84a, q84b, q84c⟩ := isOf hZ e82 ((wd11 hW).ext O0.2)
     obtain ⟨_, _, ⟨T84, L84, kk84, nn84⟩, -, X84, ⟨Lc84, hQ84, l84, y84, z84⟩, st84⟩ := X82.virtualBack hx (y := ym3) (z := ym3) hown (mvT hZ (wk8 hw)) (mvT hZ (wk9 hw)) (notFace_of_selects (args := #[]) (mvT hZ (wk11 hw))) (mvT hZ (wk11 hw)) (mvT hZ (wk10 hw)) (by decide) (backOf (W := 0) (rm2_33 l Z a0 hw w hW []  h0 n0 O0 ) hZ (wk12 hw) (wk6 hw) (by decide) (by decide)) q84a q84c (g := (mkF m 43 Lb83 [(.ref (w 5))])) rfl (by rw [hml]; rfl) (Steps.refl _) (argsL := []) (rest := []) (lenOf pds_2 rfl) rfl (by show 2 * 0 + _ ≤ _; exact Nat.le_of_eq rfl) (hb hby at_43) (fun _ _ => ⟨rfl, e82, (by decide : 0 + 0 ≤ _), (by decide : 0 + 0 ≤ _)⟩)
     dsimp only [Pt.U, Pt.locs, Pt.cells, Pt.slots] at X84 l84 y84 z84 st84 hQ84
     subst l84 y84 z84
     obtain ⟨rfl, N84q, e84⟩ := hQ84
     have N84 := Fr.app N82 N84q
     let Lb85 : Array Slot := #[.val (.int p0), .val (.int p1), .val (.int p2), .val (.ref (w 4)), .val (.ref (w 5)), .val (.int (1 : Int32)), .val (.int (1 : Int32))]
     obtain ⟨fs, hr, hrun, hended, hWm, hsame⟩ := X84.leave (v := some (.int (1 : Int32))) (fun h => by rw [Bd.returns] at h; cases h)
     refine ⟨_, _, pre73 _ ?_, hrun, hended, _, _, rfl, ?_, ⟨_, rfl⟩, hWm, hsame.mono (by decide) (by decide)⟩
     · show Steps p.tables e below (T71.setTop (mkF m 22 Lb72 [(.int p2), (.int p1), (.ref (w 5))])) _
       refine st81.trans ?_
       refine sA X81 hx hby at_25 rfl rfl ?_
       refine sI X81 hx hby at_26 rfl ?_
       refine sI X81 hx hby at_27 rfl ?_
       refine st82.trans ?_
       refine sn X82 hx hby at_31 (by decide) ?_
       refine sc X82 hx hby at_34 ?_
       refine sg (pc := 35) (pc' := 39) X82 hx hby at_35 (by decide) (by decide) ?_
       refine XS.istore X82.here hx rfl (hb hby at_39) rfl (l' := Lb83) rfl ?_
       refine sa X82 hx hby at_41 rfl rfl ?_
       show Steps p.tables e below (T82.setTop (mkF m 43 Lb83 [(.ref (w 5))])) _
       refine st84.trans ?_
       refine sA X84 hx hby at_46 rfl rfl ?_
       refine Jvm.RoadKit.acmp (g := (mkF m 47 Lb83 [(.ref (w 4)), (.ref (w 4))])) X84 hx rfl rfl rfl (pc0 := 47) (pc' := 50) (same := true) rfl (hb hby at_47) rfl (decide_eq_true rfl) (by decide) (by decide) ?_
       refine sc X84 hx hby at_50 ?_
       refine sg (pc := 51) (pc' := 55) X84 hx hby at_51 (by decide) (by decide) ?_
       refine XS.istore X84.here hx rfl (hb hby at_55) rfl (l' := Lb85) rfl ?_
       show Steps p.tables e below (T84.setTop (mkF m 57 Lb85 [])) _
       refine si X84 hx hby at_57 rfl ?_
       refine sN X84 hx hby at_59 (by decide) ?_
       refine si X84 hx hby at_62 rfl ?_
       refine sN X84 hx hby at_64 (by decide) ?_
       refine sc X84 hx hby at_67 ?_
       show Steps p.tables e below (T84.setTop (mkF m 68 Lb85 [(.int (1 : Int32))])) _
       refine sg (pc := 68) (pc' := 72) X84 hx hby at_68 (by decide) (by decide) ?_
       exact retN X84 hx (t := .boolean) Bd.returns (by simp) (hb hby at_72) hr
     · show Q0 n0 _ T84.heap _
       rw [e84]
       exact ⟨rfl, N84⟩
    ·
     obtain ⟨cq86, kq86, q86a, q86b, q86c⟩ := isOf hZ e71 ((wd11 hW).ext O0.2)
     obtain ⟨_, _, ⟨T86, L86, kk86, nn86⟩, -, X86, ⟨Lc86, hQ86, l86, y86, z86⟩, st86⟩ := X71.virtualBack hx (y := ym5) (z := ym5) hown (mvT hZ (wk24 hw)) (mvT hZ (wk25 hw)) (notFace_of_selects (args := #[]) (mvT hZ (wk27 hw))) (mvT hZ (wk27 hw)) (mvT hZ (wk26 hw)) (by decide) (backOf (W := 0) (rm4_36 l Z a0 hw w hW [] p1 p2 h0 n0 O0 hc74 hc80) hZ (wk28 hw) (wk6 hw) (by decide) (by decide)) q86a q86c (g := (mkF m 22 Lb72 [(.int p2), (.int p1), (.ref (w 5))])) rfl (by rw [hml]; rfl) (Steps.refl _) (argsL := [(.int p1), (.int p2)]) (rest := []) (lenOf pds_4 rfl) rfl (by show 2 * 0 + _ ≤ _; exact Nat.le_of_eq rfl) (hb hby at_22) (fun _ _ => ⟨rfl, e71, (by decide : 0 + 0 ≤ _), (by decide : 0 + 0 ≤ _)⟩)
     dsimp only [Pt.U, Pt.locs, Pt.cells, Pt.slots] at X86 l86 y86 z86 st86 hQ86
     subst l86 y86 z86
     obtain ⟨rfl, N86q, e86⟩ := hQ86
     have N86 := Fr.app N71 N86q
     obtain ⟨cq87, kq87, q87a, q87b, q87c⟩ := isOf hZ e86 ((wd9 hW).ext O0.2)
     obtain ⟨_, _, ⟨T87, L87, kk87, nn87⟩, -, X87, ⟨Lc87, hQ87, l87, y87, z87⟩, st87⟩ := X86.virtualBack hx (y := ym5) (z := ym5) hown (mvT hZ (wk24 hw)) (mvT hZ (wk25 hw)) (notFace_of_selects (args := #[]) (mvT hZ (wk27 hw))) (mvT hZ (wk27 hw)) (mvT hZ (wk26 hw)) (by decide) (backOf (W := 1) (rm4_37 l Z a0 hw w hW [] p1 p2 h0 n0 O0 hc74 hc80) hZ (wk28 hw) (wk6 hw) (by decide) (by decide)) q87a q87c (g := (mkF m 28 Lb72 [(.int p2), (.int p1), (.ref (w 4)), (.int (1 : Int32))])) rfl (by rw [hml]; rfl) (Steps.refl _) (argsL := [(.int p1), (.int p2)]) (rest := [(.int (1 : Int32))]) (lenOf pds_4 rfl) rfl (by show 2 * 0 + _ ≤ _; exact Nat.le_of_eq rfl) (hb hby at_28) (fun _ _ => ⟨rfl, e86, (by decide : 0 + 0 ≤ _), (by decide : 0 + 0 ≤ _)⟩)
     dsimp only [Pt.U, Pt.locs, Pt.cells, Pt.slots] at X87 l87 y87 z87 st87 hQ87
     subst l87 y87 z87
     obtain ⟨rfl, N87q, e87⟩ := hQ87
     have N87 := Fr.app N86 N87q
     let Lb88 : Array Slot := #[.val (.int p0), .val (.int p1), .val (.int p2), .val (.ref (w 4)), .val (.ref (w 5)), .val (.int (1 : Int32)), .unset]
     obtain ⟨cq89, kq89, q89a, q89b, q89c⟩ := isOf hZ e87 ((wd11 hW).ext O0.2)
     obtain ⟨_, _, ⟨T89, L89, kk89, nn89⟩, -, X89, ⟨Lc89, hQ89, l89, y89, z89⟩, st89⟩ := X87.virtualBack hx (y := ym3) (z := ym3) hown (mvT hZ (wk8 hw)) (mvT hZ (wk9 hw)) (notFace_of_selects (args := #[]) (mvT hZ (wk11 hw))) (mvT hZ (wk11 hw)) (mvT hZ (wk10 hw)) (by decide) (backOf (W := 0) (rm2_33 l Z a0 hw w hW []  h0 n0 O0 ) hZ (wk12 hw) (wk6 hw) (by decide) (by decide)) q89a q89c (g := (mkF m 43 Lb88 [(.ref (w 5))])) rfl (by rw [hml]; rfl) (Steps.refl _) (argsL := []) (rest := []) (lenOf pds_2 rfl) rfl (by show 2 * 0 + _ ≤ _; exact Nat.le_of_eq rfl) (hb hby at_43) (fun _ _ => ⟨rfl, e87, (by decide : 0 + 0 ≤ _), (by decide : 0 + 0 ≤ _)⟩)
     dsimp only [Pt.U, Pt.locs, Pt.cells, Pt.slots] at X89 l89 y89 z89 st89 hQ89
     subst l89 y89 z89
     obtain ⟨rfl, N89q, e89⟩ := hQ89
     have N89 := Fr.app N87 N89q
     let Lb90 : Array Slot := #[.val (.int p0), .val (.int p1), .val (.int p2), .val (.ref (w 4)), .val (.ref (w 5)), .val (.int (1 : Int32)), .val (.int (1 : Int32))]
     obtain ⟨fs, hr, hrun, hended, hWm, hsame⟩ := X89.leave (v := some (.int (1 : Int32))) (fun h => by rw [Bd.returns] at h; cases h)
     refine ⟨_, _, pre73 _ ?_, hrun, hended, _, _, rfl, ?_, ⟨_, rfl⟩, hWm, hsame.mono (by decide) (by decide)⟩
     · show Steps p.tables e below (T71.setTop (mkF m 22 Lb72 [(.int p2), (.int p1), (.ref (w 5))])) _
       refine st86.trans ?_
       refine sA X86 hx hby at_25 rfl rfl ?_
       refine sI X86 hx hby at_26 rfl ?_
       refine sI X86 hx hby at_27 rfl ?_
       refine st87.trans ?_
       refine sn X87 hx hby at_31 (by decide) ?_
       refine sc X87 hx hby at_34 ?_
       refine sg (pc := 35) (pc' := 39) X87 hx hby at_35 (by decide) (by decide) ?_
       refine XS.istore X87.here hx rfl (hb hby at_39) rfl (l' := Lb88) rfl ?_
       refine sa X87 hx hby at_41 rfl rfl ?_
       show Steps p.tables e below (T87.setTop (mkF m 43 Lb88 [(.ref (w 5))])) _
       refine st89.trans ?_
       refine sA X89 hx hby at_46 rfl rfl ?_
       refine Jvm.RoadKit.acmp (g := (mkF m 47 Lb88 [(.ref (w 4)), (.ref (w 4))])) X89 hx rfl rfl rfl (pc0 := 47) (pc' := 50) (same := true) rfl (hb hby at_47) rfl (decide_eq_true rfl) (by decide) (by decide) ?_
       refine sc X89 hx hby at_50 ?_
       refine sg (pc := 51) (pc' := 55) X89 hx hby at_51 (by decide) (by decide) ?_
       refine XS.istore X89.here hx rfl (hb hby at_55) rfl (l' := Lb90) rfl ?_
       show Steps p.tables e below (T89.setTop (mkF m 57 Lb90 [])) _
       refine si X89 hx hby at_57 rfl ?_
       refine sN X89 hx hby at_59 (by decide) ?_
       refine si X89 hx hby at_62 rfl ?_
       refine sN X89 hx hby at_64 (by decide) ?_
       refine sc X89 hx hby at_67 ?_
       show Steps p.tables e below (T89.setTop (mkF m 68 Lb90 [(.int (1 : Int32))])) _
       refine sg (pc := 68) (pc' := 72) X89 hx hby at_68 (by decide) (by decide) ?_
       exact retN X89 hx (t := .boolean) Bd.returns (by simp) (hb hby at_72) hr
     · show Q0 n0 _ T89.heap _
       rw [e89]
       exact ⟨rfl, N89⟩
  ·
   obtain ⟨_, _, ⟨T91, L91, kk91, nn91⟩, -, X91, ⟨Lc91, hQ91, l91, y91, z91⟩, st91⟩ := Jvm.LawKit.callS X0 hx (y := ym0) hown (mvT hZ (wk0 hw)) (mvT hZ (wk1 hw)) (mvT hZ (wk2 hw)) (mvT hZ (wk3 hw)) (by decide) (backOf (W := 0) (rm1_38 l Z a0 hw w hW [] p0 h0 n0 O0 (by rw [hs2] <;> decide) (by rw [hs2] <;> decide) (by rw [hs2] <;> decide) (by rw [hs2] <;> decide) (by rw [hs2] <;> decide)) hZ (wk3 hw) (wk2 hw) (by decide) (by decide)) (g := (mkF m 1 La [(.int p0)])) rfl (by rw [hml]; rfl) (argsL := [(.int p0)]) (rest := []) (lenOf pds_0 rfl) rfl (by show 2 * 0 + _ ≤ _; exact Nat.le_of_eq rfl) (hb hby at_1) (fun _ _ => ⟨rfl, e0, (by decide : 0 + 0 ≤ _), (by decide : 0 + 0 ≤ _)⟩)
   dsimp only [Pt.U, Pt.locs, Pt.cells, Pt.slots] at X91 l91 y91 z91 st91 hQ91
   subst l91 y91 z91
   obtain ⟨rfl, N91q, e91⟩ := hQ91
   have N91 := Fr.app N0 N91q
   let Lb92 : Array Slot := #[.val (.int p0), .val (.int p1), .val (.int p2), .val (.ref (w 5)), .unset, .unset, .unset]
   obtain ⟨cq93, kq93, q93a, q93b, q93c⟩ := isOf hZ e91 ((wd11 hW).ext O0.2)
   obtain ⟨_, _, ⟨T93, L93, kk93, nn93⟩, -, X93, ⟨Lc93, hQ93, l93, y93, z93⟩, st93⟩ := X91.virtualBack hx (y := ym3) (z := ym3) hown (mvT hZ (wk8 hw)) (mvT hZ (wk9 hw)) (notFace_of_selects (args := #[]) (mvT hZ (wk11 hw))) (mvT hZ (wk11 hw)) (mvT hZ (wk10 hw)) (by decide) (backOf (W := 0) (rm2_33 l Z a0 hw w hW []  h0 n0 O0 ) hZ (wk12 hw) (wk6 hw) (by decide) (by decide)) q93a q93c (g := (mkF m 6 Lb92 [(.ref (w 5))])) rfl (by rw [hml]; rfl) (Steps.refl _) (argsL := []) (rest := []) (lenOf pds_2 rfl) rfl (by show 2 * 0 + _ ≤ _; exact Nat.le_of_eq rfl) (hb hby at_6) (fun _ _ => ⟨rfl, e91, (by decide : 0 + 0 ≤ _), (by decide : 0 + 0 ≤ _)⟩)
   dsimp only [Pt.U, Pt.locs, Pt.cells, Pt.slots] at X93 l93 y93 z93 st93 hQ93
   subst l93 y93 z93
   obtain ⟨rfl, N93q, e93⟩ := hQ93
   have N93 := Fr.app N91 N93q
   let Lb94 : Array Slot := #[.val (.int p0), .val (.int p1), .val (.int p2), .val (.ref (w 5)), .val (.ref (w 4)), .unset, .unset]
   have pre95 : ∀ t, Steps p.tables e below (T93.setTop (mkF m 22 Lb94 [(.int p2), (.int p1), (.ref (w 4))])) t → Steps p.tables e below (s₁.setTop (entryFrame m #[(.int p0), (.int p1), (.int p2)] maxLocals)) t := fun t k => pre1 t (by
    show Steps p.tables e below (s₁.setTop (mkF m 1 La [(.int p0)])) _
    refine st91 _ ?_
    refine XS.astoreN X91.here hx rfl (hb hby at_4) rfl rfl (l' := Lb92) rfl ?_
    refine sA X91 hx hby at_5 rfl rfl ?_
    refine st93.trans ?_
    refine XS.astore X93.here hx rfl (hb hby at_9) rfl rfl (l' := Lb94) rfl ?_
    refine sa X93 hx hby at_11 rfl rfl ?_
    refine XS.ifnonnullYes X93.here hx rfl (pc0 := 13) (pc' := 18) rfl (hb hby at_13) rfl (by decide) (by decide) ?_
    refine sa X93 hx hby at_18 rfl rfl ?_
    refine sI X93 hx hby at_20 rfl ?_
    show Steps p.tables e below (T93.setTop (mkF m 21 Lb94 [(.int p1), (.ref (w 4))])) _
    refine sI X93 hx hby at_21 rfl ?_
    exact k)
   by_cases hc96 : p1 < p2
   ·
    obtain ⟨cq97, kq97, q97a, q97b, q97c⟩ := isOf hZ e93 ((wd9 hW).ext O0.2)
    obtain ⟨_, _, ⟨T97, L97, kk97, nn97⟩, -, X97, ⟨Lc97, hQ97, l97, y97, z97⟩, st97⟩ := X93.virtualBack hx (y := ym5) (z := ym5) hown (mvT hZ (wk24 hw)) (mvT hZ (wk25 hw)) (notFace_of_selects (args := #[]) (mvT hZ (wk27 hw))) (mvT hZ (wk27 hw)) (mvT hZ (wk26 hw)) (by decide) (backOf (W := 0) (rm4_32 l Z a0 hw w hW [] p1 p2 h0 n0 O0 hc96) hZ (wk28 hw) (wk6 hw) (by decide) (by decide)) q97a q97c (g := (mkF m 22 Lb94 [(.int p2), (.int p1), (.ref (w 4))])) rfl (by rw [hml]; rfl) (Steps.refl _) (argsL := [(.int p1), (.int p2)]) (rest := []) (lenOf pds_4 rfl) rfl (by show 2 * 0 + _ ≤ _; exact Nat.le_of_eq rfl) (hb hby at_22) (fun _ _ => ⟨rfl, e93, (by decide : 0 + 0 ≤ _), (by decide : 0 + 0 ≤ _)⟩)
    dsimp only [Pt.U, Pt.locs, Pt.cells, Pt.slots] at X97 l97 y97 z97 st97 hQ97
    subst l97 y97 z97
    obtain ⟨rfl, N97q, e97⟩ := hQ97
    have N97 := Fr.app N93 N97q
    obtain ⟨cq98, kq98, q98a, q98b, q98c⟩ := isOf hZ e97 ((wd11 hW).ext O0.2)
    obtain ⟨_, _, ⟨T98, L98, kk98, nn98⟩, -, X98, ⟨Lc98, hQ98, l98, y98, z98⟩, st98⟩ := X97.virtualBack hx (y := ym5) (z := ym5) hown (mvT hZ (wk24 hw)) (mvT hZ (wk25 hw)) (notFace_of_selects (args := #[]) (mvT hZ (wk27 hw))) (mvT hZ (wk27 hw)) (mvT hZ (wk26 hw)) (by decide) (backOf (W := 1) (rm4_31 l Z a0 hw w hW [] p1 p2 h0 n0 O0 hc96) hZ (wk28 hw) (wk6 hw) (by decide) (by decide)) q98a q98c (g := (mkF m 28 Lb94 [(.int p2), (.int p1), (.ref (w 5)), (.int (1 : Int32))])) rfl (by rw [hml]; rfl) (Steps.refl _) (argsL := [(.int p1), (.int p2)]) (rest := [(.int (1 : Int32))]) (lenOf pds_4 rfl) rfl (by show 2 * 0 + _ ≤ _; exact Nat.le_of_eq rfl) (hb hby at_28) (fun _ _ => ⟨rfl, e97, (by decide : 0 + 0 ≤ _), (by decide : 0 + 0 ≤ _)⟩)
    dsimp only [Pt.U, Pt.locs, Pt.cells, Pt.slots] at X98 l98 y98 z98 st98 hQ98
    subst l98 y98 z98
    obtain ⟨rfl, N98q, e98⟩ := hQ98
    have N98 := Fr.app N97 N98q
    let Lb99 : Array Slot := #[.val (.int p0), .val (.int p1), .val (.int p2), .val (.ref (w 5)), .val (.ref (w 4)), .val (.int (1 : Int32)), .unset]
    obtain ⟨cq100, kq100, q100a, q100b, q100c⟩ := isOf hZ e98 ((wd9 hW).ext O0.2)
    obtain ⟨_, _, ⟨T100, L100, kk100, nn100⟩, -, X100, ⟨Lc100, hQ100, l100, y100, z100⟩, st100⟩ := X98.virtualBack hx (y := ym3) (z := ym3) hown (mvT hZ (wk8 hw)) (mvT hZ (wk9 hw)) (notFace_of_selects (args := #[]) (mvT hZ (wk11 hw))) (mvT hZ (wk11 hw)) (mvT hZ (wk10 hw)) (by decide) (backOf (W := 0) (rm2_29 l Z a0 hw w hW []  h0 n0 O0 ) hZ (wk12 hw) (wk6 hw) (by decide) (by decide)) q100a q100c (g := (mkF m 43 Lb99 [(.ref (w 4))])) rfl (by rw [hml]; rfl) (Steps.refl _) (argsL := []) (rest := []) (lenOf pds_2 rfl) rfl (by show 2 * 0 + _ ≤ _; exact Nat.le_of_eq rfl) (hb hby at_43) (fun _ _ => ⟨rfl, e98, (by decide : 0 + 0 ≤ _), (by decide : 0 + 0 ≤ _)⟩)
    dsimp only [Pt.U, Pt.locs, Pt.cells, Pt.slots] at X100 l100 y100 z100 st100 hQ100
    subst l100 y100 z100
    obtain ⟨rfl, N100q, e100⟩ := hQ100
    have N100 := Fr.app N98 N100q
    let Lb101 : Array Slot := #[.val (.int p0), .val (.int p1), .val (.int p2), .val (.ref (w 5)), .val (.ref (w 4)), .val (.int (1 : Int32)), .val (.int (1 : Int32))]
    obtain ⟨fs, hr, hrun, hended, hWm, hsame⟩ := X100.leave (v := some (.int (1 : Int32))) (fun h => by rw [Bd.returns] at h; cases h)
    refine ⟨_, _, pre95 _ ?_, hrun, hended, _, _, rfl, ?_, ⟨_, rfl⟩, hWm, hsame.mono (by decide) (by decide)⟩
    · show Steps p.tables e below (T93.setTop (mkF m 22 Lb94 [(.int p2), (.int p1), (.ref (w 4))])) _
      refine st97.trans ?_
      refine sA X97 hx hby at_25 rfl rfl ?_
      refine sI X97 hx hby at_26 rfl ?_
      refine sI X97 hx hby at_27 rfl ?_
      refine st98.trans ?_
      refine sn X98 hx hby at_31 (by decide) ?_
      refine sc X98 hx hby at_34 ?_
      refine sg (pc := 35) (pc' := 39) X98 hx hby at_35 (by decide) (by decide) ?_
      refine XS.istore X98.here hx rfl (hb hby at_39) rfl (l' := Lb99) rfl ?_
      refine sa X98 hx hby at_41 rfl rfl ?_
      show Steps p.tables e below (T98.setTop (mkF m 43 Lb99 [(.ref (w 4))])) _
      refine st100.trans ?_
      refine sA X100 hx hby at_46 rfl rfl ?_
      refine Jvm.RoadKit.acmp (g := (mkF m 47 Lb99 [(.ref (w 5)), (.ref (w 5))])) X100 hx rfl rfl rfl (pc0 := 47) (pc' := 50) (same := true) rfl (hb hby at_47) rfl (decide_eq_true rfl) (by decide) (by decide) ?_
      refine sc X100 hx hby at_50 ?_
      refine sg (pc := 51) (pc' := 55) X100 hx hby at_51 (by decide) (by decide) ?_
      refine XS.istore X100.here hx rfl (hb hby at_55) rfl (l' := Lb101) rfl ?_
      show Steps p.tables e below (T100.setTop (mkF m 57 Lb101 [])) _
      refine si X100 hx hby at_57 rfl ?_
      refine sN X100 hx hby at_59 (by decide) ?_
      refine si X100 hx hby at_62 rfl ?_
      refine sN X100 hx hby at_64 (by decide) ?_
      refine sc X100 hx hby at_67 ?_
      show Steps p.tables e below (T100.setTop (mkF m 68 Lb101 [(.int (1 : Int32))])) _
      refine sg (pc := 68) (pc' := 72) X100 hx hby at_68 (by decide) (by decide) ?_
      exact retN X100 hx (t := .boolean) Bd.returns (by simp) (hb hby at_72) hr
    · show Q0 n0 _ T100.heap _
      rw [e100]
      exact ⟨rfl, N100⟩
   ·
    by_cases hc102 : p1 = p2
    ·
     obtain ⟨cq103, kq103, q103a, q103b, q103c⟩ := isOf hZ e93 ((wd9 hW).ext O0.2)
     obtain ⟨_, _, ⟨T103, L103, kk103, nn103⟩, -, X103, ⟨Lc103, hQ103, l103, y103, z103⟩, st103⟩ := X93.virtualBack hx (y := ym5) (z := ym5) hown (mvT hZ (wk24 hw)) (mvT hZ (wk25 hw)) (notFace_of_selects (args := #[]) (mvT hZ (wk27 hw))) (mvT hZ (wk27 hw)) (mvT hZ (wk26 hw)) (by decide) (backOf (W := 0) (rm4_35 l Z a0 hw w hW [] p1 p2 h0 n0 O0 hc96 hc102) hZ (wk28 hw) (wk6 hw) (by decide) (by decide)) q103a q103c (g := (mkF m 22 Lb94 [(.int p2), (.int p1), (.ref (w 4))])) rfl (by rw [hml]; rfl) (Steps.refl _) (argsL := [(.int p1), (.int p2)]) (rest := []) (lenOf pds_4 rfl) rfl (by show 2 * 0 + _ ≤ _; exact Nat.le_of_eq rfl) (hb hby at_22) (fun _ _ => ⟨rfl, e93, (by decide : 0 + 0 ≤ _), (by decide : 0 + 0 ≤ _)⟩)
     dsimp only [Pt.U, Pt.locs, Pt.cells, Pt.slots] at X103 l103 y103 z103 st103 hQ103
     subst l103 y103 z103
     obtain ⟨rfl, N103q, e103⟩ := hQ103
     have N103 := Fr.app N93 N103q
     obtain ⟨cq104, kq104, q104a, q104b, q104c⟩ := isOf hZ e103 ((wd11 hW).ext O0.2)
     obtain ⟨_, _, ⟨T104, L104, kk104, nn104⟩, -, X104, ⟨Lc104, hQ104, l104, y104, z104⟩, st104⟩ := X103.virtualBack hx (y := ym5) (z := ym5) hown (mvT hZ (wk24 hw)) (mvT hZ (wk25 hw)) (notFace_of_selects (args := #[]) (mvT hZ (wk27 hw))) (mvT hZ (wk27 hw)) (mvT hZ (wk26 hw)) (by decide) (backOf (W := 1) (rm4_34 l Z a0 hw w hW [] p1 p2 h0 n0 O0 hc96 hc102) hZ (wk28 hw) (wk6 hw) (by decide) (by decide)) q104a q104c (g := (mkF m 28 Lb94 [(.int p2), (.int p1), (.ref (w 5)), (.int (1 : Int32))])) rfl (by rw [hml]; rfl) (Steps.refl _) (argsL := [(.int p1), (.int p2)]) (rest := [(.int (1 : Int32))]) (lenOf pds_4 rfl) rfl (by show 2 * 0 + _ ≤ _; exact Nat.le_of_eq rfl) (hb hby at_28) (fun _ _ => ⟨rfl, e103, (by decide : 0 + 0 ≤ _), (by decide : 0 + 0 ≤ _)⟩)
     dsimp only [Pt.U, Pt.locs, Pt.cells, Pt.slots] at X104 l104 y104 z104 st104 hQ104
     subst l104 y104 z104
     obtain ⟨rfl, N104q, e104⟩ := hQ104
     have N104 := Fr.app N103 N104q
     let Lb105 : Array Slot := #[.val (.int p0), .val (.int p1), .val (.int p2), .val (.ref (w 5)), .val (.ref (w 4)), .val (.int (1 : Int32)), .unset]
     obtain ⟨cq106, kq106, q106a, q106b, q106c⟩ := isOf hZ e104 ((wd9 hW).ext O0.2)
     obtain ⟨_, _, ⟨T106, L106, kk106, nn106⟩, -, X106, ⟨Lc106, hQ106, l106, y106, z106⟩, st106⟩ := X104.virtualBack hx (y := ym3) (z := ym3) hown (mvT hZ (wk8 hw)) (mvT hZ (wk9 hw)) (notFace_of_selects (args := #[]) (mvT hZ (wk11 hw))) (mvT hZ (wk11 hw)) (mvT hZ (wk10 hw)) (by decide) (backOf (W := 0) (rm2_29 l Z a0 hw w hW []  h0 n0 O0 ) hZ (wk12 hw) (wk6 hw) (by decide) (by decide)) q106a q106c (g := (mkF m 43 Lb105 [(.ref (w 4))])) rfl (by rw [hml]; rfl) (Steps.refl _) (argsL := []) (rest := []) (lenOf pds_2 rfl) rfl (by show 2 * 0 + _ ≤ _; exact Nat.le_of_eq rfl) (hb hby at_43) (fun _ _ => ⟨rfl, e104, (by decide : 0 + 0 ≤ _), (by decide : 0 + 0 ≤ _)⟩)
     dsimp only [Pt.U, Pt.locs, Pt.cells, Pt.slots] at X106 l106 y106 z106 st106 hQ106
     subst l106 y106 z106
     obtain ⟨rfl, N106q, e106⟩ := hQ106
     have N106 := Fr.app N104 N106q
     let Lb107 : Array Slot := #[.val (.int p0), .val (.int p1), .val (.int p2), .val (.ref (w 5)), .val (.ref (w 4)), .val (.int (1 : Int32)), .val (.int (1 : Int32))]
     obtain ⟨fs, hr, hrun, hended, hWm, hsame⟩ := X106.leave (v := some (.int (1 : Int32))) (fun h => by rw [Bd.returns] at h; cases h)
     refine ⟨_, _, pre95 _ ?_, hrun, hended, _, _, rfl, ?_, ⟨_, rfl⟩, hWm, hsame.mono (by decide) (by decide)⟩
     · show Steps p.tables e below (T93.setTop (mkF m 22 Lb94 [(.int p2), (.int p1), (.ref (w 4))])) _
       refine st103.trans ?_
       refine sA X103 hx hby at_25 rfl rfl ?_
       refine sI X103 hx hby at_26 rfl ?_
       refine sI X103 hx hby at_27 rfl ?_
       refine st104.trans ?_
       refine sn X104 hx hby at_31 (by decide) ?_
       refine sc X104 hx hby at_34 ?_
       refine sg (pc := 35) (pc' := 39) X104 hx hby at_35 (by decide) (by decide) ?_
       refine XS.istore X104.here hx rfl (hb hby at_39) rfl (l' := Lb105) rfl ?_
       refine sa X104 hx hby at_41 rfl rfl ?_
       show Steps p.tables e below (T104.setTop (mkF m 43 Lb105 [(.ref (w 4))])) _
       refine st106.trans ?_
       refine sA X106 hx hby at_46 rfl rfl ?_
       refine Jvm.RoadKit.acmp (g := (mkF m 47 Lb105 [(.ref (w 5)), (.ref (w 5))])) X106 hx rfl rfl rfl (pc0 := 47) (pc' := 50) (same := true) rfl (hb hby at_47) rfl (decide_eq_true rfl) (by decide) (by decide) ?_
       refine sc X106 hx hby at_50 ?_
       refine sg (pc := 51) (pc' := 55) X106 hx hby at_51 (by decide) (by decide) ?_
       refine XS.istore X106.here hx rfl (hb hby at_55) rfl (l' := Lb107) rfl ?_
       show Steps p.tables e below (T106.setTop (mkF m 57 Lb107 [])) _
       refine si X106 hx hby at_57 rfl ?_
       refine sN X106 hx hby at_59 (by decide) ?_
       refine si X106 hx hby at_62 rfl ?_
       refine sN X106 hx hby at_64 (by decide) ?_
       refine sc X106 hx hby at_67 ?_
       show Steps p.tables e below (T106.setTop (mkF m 68 Lb107 [(.int (1 : Int32))])) _
       refine sg (pc := 68) (pc' := 72) X106 hx hby at_68 (by decide) (by decide) ?_
       exact retN X106 hx (t := .boolean) Bd.returns (by simp) (hb hby at_72) hr
     · show Q0 n0 _ T106.heap _
       rw [e106]
       exact ⟨rfl, N106⟩
    ·
     obtain ⟨cq108, kq108, q108a, q108b, q108c⟩ := isOf hZ e93 ((wd9 hW).ext O0.2)
     obtain ⟨_, _, ⟨T108, L108, kk108, nn108⟩, -, X108, ⟨Lc108, hQ108, l108, y108, z108⟩, st108⟩ := X93.virtualBack hx (y := ym5) (z := ym5) hown (mvT hZ (wk24 hw)) (mvT hZ (wk25 hw)) (notFace_of_selects (args := #[]) (mvT hZ (wk27 hw))) (mvT hZ (wk27 hw)) (mvT hZ (wk26 hw)) (by decide) (backOf (W := 0) (rm4_37 l Z a0 hw w hW [] p1 p2 h0 n0 O0 hc96 hc102) hZ (wk28 hw) (wk6 hw) (by decide) (by decide)) q108a q108c (g := (mkF m 22 Lb94 [(.int p2), (.int p1), (.ref (w 4))])) rfl (by rw [hml]; rfl) (Steps.refl _) (argsL := [(.int p1), (.int p2)]) (rest := []) (lenOf pds_4 rfl) rfl (by show 2 * 0 + _ ≤ _; exact Nat.le_of_eq rfl) (hb hby at_22) (fun _ _ => ⟨rfl, e93, (by decide : 0 + 0 ≤ _), (by decide : 0 + 0 ≤ _)⟩)
     dsimp only [Pt.U, Pt.locs, Pt.cells, Pt.slots] at X108 l108 y108 z108 st108 hQ108
     subst l108 y108 z108
     obtain ⟨rfl, N108q, e108⟩ := hQ108
     have N108 := Fr.app N93 N108q
     obtain ⟨cq109, kq109, q109a, q109b, q109c⟩ := isOf hZ e108 ((wd11 hW).ext O0.2)
     obtain ⟨_, _, ⟨T109, L109, kk109, nn109⟩, -, X109, ⟨Lc109, hQ109, l109, y109, z109⟩, st109⟩ := X108.virtualBack hx (y := ym5) (z := ym5) hown (mvT hZ (wk24 hw)) (mvT hZ (wk25 hw)) (notFace_of_selects (args := #[]) (mvT hZ (wk27 hw))) (mvT hZ (wk27 hw)) (mvT hZ (wk26 hw)) (by decide) (backOf (W := 1) (rm4_36 l Z a0 hw w hW [] p1 p2 h0 n0 O0 hc96 hc102) hZ (wk28 hw) (wk6 hw) (by decide) (by decide)) q109a q109c (g := (mkF m 28 Lb94 [(.int p2), (.int p1), (.ref (w 5)), (.int (0 : Int32))])) rfl (by rw [hml]; rfl) (Steps.refl _) (argsL := [(.int p1), (.int p2)]) (rest := [(.int (0 : Int32))]) (lenOf pds_4 rfl) rfl (by show 2 * 0 + _ ≤ _; exact Nat.le_of_eq rfl) (hb hby at_28) (fun _ _ => ⟨rfl, e108, (by decide : 0 + 0 ≤ _), (by decide : 0 + 0 ≤ _)⟩)
     dsimp only [Pt.U, Pt.locs, Pt.cells, Pt.slots] at X109 l109 y109 z109 st109 hQ109
     subst l109 y109 z109
     obtain ⟨rfl, N109q, e109⟩ := hQ109
     have N109 := Fr.app N108 N109q
     let Lb110 : Array Slot := #[.val (.int p0), .val (.int p1), .val (.int p2), .val (.ref (w 5)), .val (.ref (w 4)), .val (.int (1 : Int32)), .unset]
     obtain ⟨cq111, kq111, q111a, q111b, q111c⟩ := isOf hZ e109 ((wd9 hW).ext O0.2)
     obtain ⟨_, _, ⟨T111, L111, kk111, nn111⟩, -, X111, ⟨Lc111, hQ111, l111, y111, z111⟩, st111⟩ := X109.virtualBack hx (y := ym3) (z := ym3) hown (mvT hZ (wk8 hw)) (mvT hZ (wk9 hw)) (notFace_of_selects (args := #[]) (mvT hZ (wk11 hw))) (mvT hZ (wk11 hw)) (mvT hZ (wk10 hw)) (by decide) (backOf (W := 0) (rm2_29 l Z a0 hw w hW []  h0 n0 O0 ) hZ (wk12 hw) (wk6 hw) (by decide) (by decide)) q111a q111c (g := (mkF m 43 Lb110 [(.ref (w 4))])) rfl (by rw [hml]; rfl) (Steps.refl _) (argsL := []) (rest := []) (lenOf pds_2 rfl) rfl (by show 2 * 0 + _ ≤ _; exact Nat.le_of_eq rfl) (hb hby at_43) (fun _ _ => ⟨rfl, e109, (by decide : 0 + 0 ≤ _), (by decide : 0 + 0 ≤ _)⟩)
     dsimp only [Pt.U, Pt.locs, Pt.cells, Pt.slots] at X111 l111 y111 z111 st111 hQ111
     subst l111 y111 z111
     obtain ⟨rfl, N111q, e111⟩ := hQ111
     have N111 := Fr.app N109 N111q
     let Lb112 : Array Slot := #[.val (.int p0), .val (.int p1), .val (.int p2), .val (.ref (w 5)), .val (.ref (w 4)), .val (.int (1 : Int32)), .val (.int (1 : Int32))]
     obtain ⟨fs, hr, hrun, hended, hWm, hsame⟩ := X111.leave (v := some (.int (1 : Int32))) (fun h => by rw [Bd.returns] at h; cases h)
     refine ⟨_, _, pre95 _ ?_, hrun, hended, _, _, rfl, ?_, ⟨_, rfl⟩, hWm, hsame.mono (by decide) (by decide)⟩
     · show Steps p.tables e below (T93.setTop (mkF m 22 Lb94 [(.int p2), (.int p1), (.ref (w 4))])) _
       refine st108.trans ?_
       refine sA X108 hx hby at_25 rfl rfl ?_
       refine sI X108 hx hby at_26 rfl ?_
       refine sI X108 hx hby at_27 rfl ?_
       refine st109.trans ?_
       refine sn X109 hx hby at_31 (by decide) ?_
       refine sc X109 hx hby at_34 ?_
       refine sg (pc := 35) (pc' := 39) X109 hx hby at_35 (by decide) (by decide) ?_
       refine XS.istore X109.here hx rfl (hb hby at_39) rfl (l' := Lb110) rfl ?_
       refine sa X109 hx hby at_41 rfl rfl ?_
       show Steps p.tables e below (T109.setTop (mkF m 43 Lb110 [(.ref (w 4))])) _
       refine st111.trans ?_
       refine sA X111 hx hby at_46 rfl rfl ?_
       refine Jvm.RoadKit.acmp (g := (mkF m 47 Lb110 [(.ref (w 5)), (.ref (w 5))])) X111 hx rfl rfl rfl (pc0 := 47) (pc' := 50) (same := true) rfl (hb hby at_47) rfl (decide_eq_true rfl) (by decide) (by decide) ?_
       refine sc X111 hx hby at_50 ?_
       refine sg (pc := 51) (pc' := 55) X111 hx hby at_51 (by decide) (by decide) ?_
       refine XS.istore X111.here hx rfl (hb hby at_55) rfl (l' := Lb112) rfl ?_
       show Steps p.tables e below (T111.setTop (mkF m 57 Lb112 [])) _
       refine si X111 hx hby at_57 rfl ?_
       refine sN X111 hx hby at_59 (by decide) ?_
       refine si X111 hx hby at_62 rfl ?_
       refine sN X111 hx hby at_64 (by decide) ?_
       refine sc X111 hx hby at_67 ?_
       show Steps p.tables e below (T111.setTop (mkF m 68 Lb112 [(.int (1 : Int32))])) _
       refine sg (pc := 68) (pc' := 72) X111 hx hby at_68 (by decide) (by decide) ?_
       exact retN X111 hx (t := .boolean) Bd.returns (by simp) (hb hby at_72) hr
     · show Q0 n0 _ T111.heap _
       rw [e111]
       exact ⟨rfl, N111⟩
  ·
   obtain ⟨_, _, ⟨T113, L113, kk113, nn113⟩, -, X113, ⟨Lc113, hQ113, l113, y113, z113⟩, st113⟩ := Jvm.LawKit.callS X0 hx (y := ym0) hown (mvT hZ (wk0 hw)) (mvT hZ (wk1 hw)) (mvT hZ (wk2 hw)) (mvT hZ (wk3 hw)) (by decide) (backOf (W := 0) (rm1_39 l Z a0 hw w hW [] p0 h0 n0 O0 (by rw [hs2] <;> decide) (by rw [hs2] <;> decide) (by rw [hs2] <;> decide) (by rw [hs2] <;> decide) (by rw [hs2] <;> decide)) hZ (wk3 hw) (wk2 hw) (by decide) (by decide)) (g := (mkF m 1 La [(.int p0)])) rfl (by rw [hml]; rfl) (argsL := [(.int p0)]) (rest := []) (lenOf pds_0 rfl) rfl (by show 2 * 0 + _ ≤ _; exact Nat.le_of_eq rfl) (hb hby at_1) (fun _ _ => ⟨rfl, e0, (by decide : 0 + 0 ≤ _), (by decide : 0 + 0 ≤ _)⟩)
   dsimp only [Pt.U, Pt.locs, Pt.cells, Pt.slots] at X113 l113 y113 z113 st113 hQ113
   subst l113 y113 z113
   obtain ⟨rfl, N113q, e113⟩ := hQ113
   have N113 := Fr.app N0 N113q
   let Lb114 : Array Slot := #[.val (.int p0), .val (.int p1), .val (.int p2), .val (.ref (w 3)), .unset, .unset, .unset]
   obtain ⟨cq115, kq115, q115a, q115b, q115c⟩ := isOf hZ e113 ((wd7 hW).ext O0.2)
   obtain ⟨_, _, ⟨T115, L115, kk115, nn115⟩, -, X115, ⟨Lc115, hQ115, l115, y115, z115⟩, st115⟩ := X113.virtualBack hx (y := ym3) (z := ym3) hown (mvT hZ (wk8 hw)) (mvT hZ (wk9 hw)) (notFace_of_selects (args := #[]) (mvT hZ (wk11 hw))) (mvT hZ (wk11 hw)) (mvT hZ (wk10 hw)) (by decide) (backOf (W := 0) (rm2_22 l Z a0 hw w hW []  h0 n0 O0 ) hZ (wk12 hw) (wk6 hw) (by decide) (by decide)) q115a q115c (g := (mkF m 6 Lb114 [(.ref (w 3))])) rfl (by rw [hml]; rfl) (Steps.refl _) (argsL := []) (rest := []) (lenOf pds_2 rfl) rfl (by show 2 * 0 + _ ≤ _; exact Nat.le_of_eq rfl) (hb hby at_6) (fun _ _ => ⟨rfl, e113, (by decide : 0 + 0 ≤ _), (by decide : 0 + 0 ≤ _)⟩)
   dsimp only [Pt.U, Pt.locs, Pt.cells, Pt.slots] at X115 l115 y115 z115 st115 hQ115
   subst l115 y115 z115
   obtain ⟨rfl, N115q, e115⟩ := hQ115
   have N115 := Fr.app N113 N115q
   let Lb116 : Array Slot := #[.val (.int p0), .val (.int p1), .val (.int p2), .val (.ref (w 3)), .val (.ref (w 2)), .unset, .unset]
   have pre117 : ∀ t, Steps p.tables e below (T115.setTop (mkF m 22 Lb116 [(.int p2), (.int p1), (.ref (w 2))])) t → Steps p.tables e below (s₁.setTop (entryFrame m #[(.int p0), (.int p1), (.int p2)] maxLocals)) t := fun t k => pre1 t (by
    show Steps p.tables e below (s₁.setTop (mkF m 1 La [(.int p0)])) _
    refine st113 _ ?_
    refine XS.astoreN X113.here hx rfl (hb hby at_4) rfl rfl (l' := Lb114) rfl ?_
    refine sA X113 hx hby at_5 rfl rfl ?_
    refine st115.trans ?_
    refine XS.astore X115.here hx rfl (hb hby at_9) rfl rfl (l' := Lb116) rfl ?_
    refine sa X115 hx hby at_11 rfl rfl ?_
    refine XS.ifnonnullYes X115.here hx rfl (pc0 := 13) (pc' := 18) rfl (hb hby at_13) rfl (by decide) (by decide) ?_
    refine sa X115 hx hby at_18 rfl rfl ?_
    refine sI X115 hx hby at_20 rfl ?_
    show Steps p.tables e below (T115.setTop (mkF m 21 Lb116 [(.int p1), (.ref (w 2))])) _
    refine sI X115 hx hby at_21 rfl ?_
    exact k)
   by_cases hc118 : p1 < p2
   ·
    obtain ⟨cq119, kq119, q119a, q119b, q119c⟩ := isOf hZ e115 ((wd5 hW).ext O0.2)
    obtain ⟨_, _, ⟨T119, L119, kk119, nn119⟩, -, X119, ⟨Lc119, hQ119, l119, y119, z119⟩, st119⟩ := X115.virtualBack hx (y := ym5) (z := ym5) hown (mvT hZ (wk24 hw)) (mvT hZ (wk25 hw)) (notFace_of_selects (args := #[]) (mvT hZ (wk27 hw))) (mvT hZ (wk27 hw)) (mvT hZ (wk26 hw)) (by decide) (backOf (W := 0) (rm4_21 l Z a0 hw w hW [] p1 p2 h0 n0 O0 hc118) hZ (wk28 hw) (wk6 hw) (by decide) (by decide)) q119a q119c (g := (mkF m 22 Lb116 [(.int p2), (.int p1), (.ref (w 2))])) rfl (by rw [hml]; rfl) (Steps.refl _) (argsL := [(.int p1), (.int p2)]) (rest := []) (lenOf pds_4 rfl) rfl (by show 2 * 0 + _ ≤ _; exact Nat.le_of_eq rfl) (hb hby at_22) (fun _ _ => ⟨rfl, e115, (by decide : 0 + 0 ≤ _), (by decide : 0 + 0 ≤ _)⟩)
    dsimp only [Pt.U, Pt.locs, Pt.cells, Pt.slots] at X119 l119 y119 z119 st119 hQ119
    subst l119 y119 z119
    obtain ⟨rfl, N119q, e119⟩ := hQ119
    have N119 := Fr.app N115 N119q
    obtain ⟨cq120, kq120, q120a, q120b, q120c⟩ := isOf hZ e119 ((wd7 hW).ext O0.2)
    obtain ⟨_, _, ⟨T120, L120, kk120, nn120⟩, -, X120, ⟨Lc120, hQ120, l120, y120, z120⟩, st120⟩ := X119.virtualBack hx (y := ym5) (z := ym5) hown (mvT hZ (wk24 hw)) (mvT hZ (wk25 hw)) (notFace_of_selects (args := #[]) (mvT hZ (wk27 hw))) (mvT hZ (wk27 hw)) (mvT hZ (wk26 hw)) (by decide) (backOf (W := 1) (rm4_20 l Z a0 hw w hW [] p1 p2 h0 n0 O0 hc118) hZ (wk28 hw) (wk6 hw) (by decide) (by decide)) q120a q120c (g := (mkF m 28 Lb116 [(.int p2), (.int p1), (.ref (w 3)), (.int (1 : Int32))])) rfl (by rw [hml]; rfl) (Steps.refl _) (argsL := [(.int p1), (.int p2)]) (rest := [(.int (1 : Int32))]) (lenOf pds_4 rfl) rfl (by show 2 * 0 + _ ≤ _; exact Nat.le_of_eq rfl) (hb hby at_28) (fun _ _ => ⟨rfl, e119, (by decide : 0 + 0 ≤ _), (by decide : 0 + 0 ≤ _)⟩)
    dsimp only [Pt.U, Pt.locs, Pt.cells, Pt.slots] at X120 l120 y120 z120 st120 hQ120
    subst l120 y120 z120
    obtain ⟨rfl, N120q, e120⟩ := hQ120
    have N120 := Fr.app N119 N120q
    let Lb121 : Array Slot := #[.val (.int p0), .val (.int p1), .val (.int p2), .val (.ref (w 3)), .val (.ref (w 2)), .val (.int (1 : Int32)), .unset]
    obtain ⟨cq122, kq122, q122a, q122b, q122c⟩ := isOf hZ e120 ((wd5 hW).ext O0.2)
    obtain ⟨_, _, ⟨T122, L122, kk122, nn122⟩, -, X122, ⟨Lc122, hQ122, l122, y122, z122⟩, st122⟩ := X120.virtualBack hx (y := ym3) (z := ym3) hown (mvT hZ (wk8 hw)) (mvT hZ (wk9 hw)) (notFace_of_selects (args := #[]) (mvT hZ (wk11 hw))) (mvT hZ (wk11 hw)) (mvT hZ (wk10 hw)) (by decide) (backOf (W := 0) (rm2_18 l Z a0 hw w hW []  h0 n0 O0 ) hZ (wk12 hw) (wk6 hw) (by decide) (by decide)) q122a q122c (g := (mkF m 43 Lb121 [(.ref (w 2))])) rfl (by rw [hml]; rfl) (Steps.refl _) (argsL := []) (rest := []) (lenOf pds_2 rfl) rfl (by show 2 * 0 + _ ≤ _; exact Nat.le_of_eq rfl) (hb hby at_43) (fun _ _ => ⟨rfl, e120, (by decide : 0 + 0 ≤ _), (by decide : 0 + 0 ≤ _)⟩)
    dsimp only [Pt.U, Pt.locs, Pt.cells, Pt.slots] at X122 l122 y122 z122 st122 hQ122
    subst l122 y122 z122
    obtain ⟨rfl, N122q, e122⟩ := hQ122
    have N122 := Fr.app N120 N122q
    let Lb123 : Array Slot := #[.val (.int p0), .val (.int p1), .val (.int p2), .val (.ref (w 3)), .val (.ref (w 2)), .val (.int (1 : Int32)), .val (.int (1 : Int32))]
    obtain ⟨fs, hr, hrun, hended, hWm, hsame⟩ := X122.leave (v := some (.int (1 : Int32))) (fun h => by rw [Bd.returns] at h; cases h)
    refine ⟨_, _, pre117 _ ?_, hrun, hended, _, _, rfl, ?_, ⟨_, rfl⟩, hWm, hsame.mono (by decide) (by decide)⟩
    · show Steps p.tables e below (T115.setTop (mkF m 22 Lb116 [(.int p2), (.int p1), (.ref (w 2))])) _
      refine st119.trans ?_
      refine sA X119 hx hby at_25 rfl rfl ?_
      refine sI X119 hx hby at_26 rfl ?_
      refine sI X119 hx hby at_27 rfl ?_
      refine st120.trans ?_
      refine sn X120 hx hby at_31 (by decide) ?_
      refine sc X120 hx hby at_34 ?_
      refine sg (pc := 35) (pc' := 39) X120 hx hby at_35 (by decide) (by decide) ?_
      refine XS.istore X120.here hx rfl (hb hby at_39) rfl (l' := Lb121) rfl ?_
      refine sa X120 hx hby at_41 rfl rfl ?_
      show Steps p.tables e below (T120.setTop (mkF m 43 Lb121 [(.ref (w 2))])) _
      refine st122.trans ?_
      refine sA X122 hx hby at_46 rfl rfl ?_
      refine Jvm.RoadKit.acmp (g := (mkF m 47 Lb121 [(.ref (w 3)), (.ref (w 3))])) X122 hx rfl rfl rfl (pc0 := 47) (pc' := 50) (same := true) rfl (hb hby at_47) rfl (decide_eq_true rfl) (by decide) (by decide) ?_
      refine sc X122 hx hby at_50 ?_
      refine sg (pc := 51) (pc' := 55) X122 hx hby at_51 (by decide) (by decide) ?_
      refine XS.istore X122.here hx rfl (hb hby at_55) rfl (l' := Lb123) rfl ?_
      show Steps p.tables e below (T122.setTop (mkF m 57 Lb123 [])) _
      refine si X122 hx hby at_57 rfl ?_
      refine sN X122 hx hby at_59 (by decide) ?_
      refine si X122 hx hby at_62 rfl ?_
      refine sN X122 hx hby at_64 (by decide) ?_
      refine sc X122 hx hby at_67 ?_
      show Steps p.tables e below (T122.setTop (mkF m 68 Lb123 [(.int (1 : Int32))])) _
      refine sg (pc := 68) (pc' := 72) X122 hx hby at_68 (by decide) (by decide) ?_
      exact retN X122 hx (t := .boolean) Bd.returns (by simp) (hb hby at_72) hr
    · show Q0 n0 _ T122.heap _
      rw [e122]
      exact ⟨rfl, N122⟩
   ·
    by_cases hc124 : p1 = p2
    ·
     obtain ⟨cq125, kq125, q125a, q125b, q125c⟩ := isOf hZ e115 ((wd5 hW).ext O0.2)
     obtain ⟨_, _, ⟨T125, L125, kk125, nn125⟩, -, X125, ⟨Lc125, hQ125, l125, y125, z125⟩, st125⟩ := X115.virtualBack hx (y := ym5) (z := ym5) hown (mvT hZ (wk24 hw)) (mvT hZ (wk25 hw)) (notFace_of_selects (args := #[]) (mvT hZ (wk27 hw))) (mvT hZ (wk27 hw)) (mvT hZ (wk26 hw)) (by decide) (backOf (W := 0) (rm4_24 l Z a0 hw w hW [] p1 p2 h0 n0 O0 hc118 hc124) hZ (wk28 hw) (wk6 hw) (by decide) (by decide)) q125a q125c (g := (mkF m 22 Lb116 [(.int p2), (.int p1), (.ref (w 2))])) rfl (by rw [hml]; rfl) (Steps.refl _) (argsL := [(.int p1), (.int p2)]) (rest := []) (lenOf pds_4 rfl) rfl (by show 2 * 0 + _ ≤ _; exact Nat.le_of_eq rfl) (hb hby at_22) (fun _ _ => ⟨rfl, e115, (by decide : 0 + 0 ≤ _), (by decide : 0 + 0 ≤ _)⟩)
     dsimp only [Pt.U, Pt.locs, Pt.cells, Pt.slots] at X125 l125 y125 z125 st125 hQ125
     subst l125 y125 z125
     obtain ⟨rfl, N125q, e125⟩ := hQ125
     have N125 := Fr.app N115 N125q
     obtain ⟨cq126, kq126, q126a, q126b, q126c⟩ := isOf hZ e125 ((wd7 hW).ext O0.2)
     obtain ⟨_, _, ⟨T126, L126, kk126, nn126⟩, -, X126, ⟨Lc126, hQ126, l126, y126, z126⟩, st126⟩ := X125.virtualBack hx (y := ym5) (z := ym5) hown (mvT hZ (wk24 hw)) (mvT hZ (wk25 hw)) (notFace_of_selects (args := #[]) (mvT hZ (wk27 hw))) (mvT hZ (wk27 hw)) (mvT hZ (wk26 hw)) (by decide) (backOf (W := 1) (rm4_23 l Z a0 hw w hW [] p1 p2 h0 n0 O0 hc118 hc124) hZ (wk28 hw) (wk6 hw) (by decide) (by decide)) q126a q126c (g := (mkF m 28 Lb116 [(.int p2), (.int p1), (.ref (w 3)), (.int (0 : Int32))])) rfl (by rw [hml]; rfl) (Steps.refl _) (argsL := [(.int p1), (.int p2)]) (rest := [(.int (0 : Int32))]) (lenOf pds_4 rfl) rfl (by show 2 * 0 + _ ≤ _; exact Nat.le_of_eq rfl) (hb hby at_28) (fun _ _ => ⟨rfl, e125, (by decide : 0 + 0 ≤ _), (by decide : 0 + 0 ≤ _)⟩)
     dsimp only [Pt.U, Pt.locs, Pt.cells, Pt.slots] at X126 l126 y126 z126 st126 hQ126
     subst l126 y126 z126
     obtain ⟨rfl, N126q, e126⟩ := hQ126
     have N126 := Fr.app N125 N126q
     let Lb127 : Array Slot := #[.val (.int p0), .val (.int p1), .val (.int p2), .val (.ref (w 3)), .val (.ref (w 2)), .val (.int (1 : Int32)), .unset]
     obtain ⟨cq128, kq128, q128a, q128b, q128c⟩ := isOf hZ e126 ((wd5 hW).ext O0.2)
     obtain ⟨_, _, ⟨T128, L128, kk128, nn128⟩, -, X128, ⟨Lc128, hQ128, l128, y128, z128⟩, st128⟩ := X126.virtualBack hx (y := ym3) (z := ym3) hown (mvT hZ (wk8 hw)) (mvT hZ (wk9 hw)) (notFace_of_selects (args := #[]) (mvT hZ (wk11 hw))) (mvT hZ (wk11 hw)) (mvT hZ (wk10 hw)) (by decide) (backOf (W := 0) (rm2_18 l Z a0 hw w hW []  h0 n0 O0 ) hZ (wk12 hw) (wk6 hw) (by decide) (by decide)) q128a q128c (g := (mkF m 43 Lb127 [(.ref (w 2))])) rfl (by rw [hml]; rfl) (Steps.refl _) (argsL := []) (rest := []) (lenOf pds_2 rfl) rfl (by show 2 * 0 + _ ≤ _; exact Nat.le_of_eq rfl) (hb hby at_43) (fun _ _ => ⟨rfl, e126, (by decide : 0 + 0 ≤ _), (by decide : 0 + 0 ≤ _)⟩)
     dsimp only [Pt.U, Pt.locs, Pt.cells, Pt.slots] at X128 l128 y128 z128 st128 hQ128
     subst l128 y128 z128
     obtain ⟨rfl, N128q, e128⟩ := hQ128
     have N128 := Fr.app N126 N128q
     let Lb129 : Array Slot := #[.val (.int p0), .val (.int p1), .val (.int p2), .val (.ref (w 3)), .val (.ref (w 2)), .val (.int (1 : Int32)), .val (.int (1 : Int32))]
     obtain ⟨fs, hr, hrun, hended, hWm, hsame⟩ := X128.leave (v := some (.int (1 : Int32))) (fun h => by rw [Bd.returns] at h; cases h)
     refine ⟨_, _, pre117 _ ?_, hrun, hended, _, _, rfl, ?_, ⟨_, rfl⟩, hWm, hsame.mono (by decide) (by decide)⟩
     · show Steps p.tables e below (T115.setTop (mkF m 22 Lb116 [(.int p2), (.int p1), (.ref (w 2))])) _
       refine st125.trans ?_
       refine sA X125 hx hby at_25 rfl rfl ?_
       refine sI X125 hx hby at_26 rfl ?_
       refine sI X125 hx hby at_27 rfl ?_
       refine st126.trans ?_
       refine sn X126 hx hby at_31 (by decide) ?_
       refine sc X126 hx hby at_34 ?_
       refine sg (pc := 35) (pc' := 39) X126 hx hby at_35 (by decide) (by decide) ?_
       refine XS.istore X126.here hx rfl (hb hby at_39) rfl (l' := Lb127) rfl ?_
       refine sa X126 hx hby at_41 rfl rfl ?_
       show Steps p.tables e below (T126.setTop (mkF m 43 Lb127 [(.ref (w 2))])) _
       refine st128.trans ?_
       refine sA X128 hx hby at_46 rfl rfl ?_
       refine Jvm.RoadKit.acmp (g := (mkF m 47 Lb127 [(.ref (w 3)), (.ref (w 3))])) X128 hx rfl rfl rfl (pc0 := 47) (pc' := 50) (same := true) rfl (hb hby at_47) rfl (decide_eq_true rfl) (by decide) (by decide) ?_
       refine sc X128 hx hby at_50 ?_
       refine sg (pc := 51) (pc' := 55) X128 hx hby at_51 (by decide) (by decide) ?_
       refine XS.istore X128.here hx rfl (hb hby at_55) rfl (l' := Lb129) rfl ?_
       show Steps p.tables e below (T128.setTop (mkF m 57 Lb129 [])) _
       refine si X128 hx hby at_57 rfl ?_
       refine sN X128 hx hby at_59 (by decide) ?_
       refine si X128 hx hby at_62 rfl ?_
       refine sN X128 hx hby at_64 (by decide) ?_
       refine sc X128 hx hby at_67 ?_
       show Steps p.tables e below (T128.setTop (mkF m 68 Lb129 [(.int (1 : Int32))])) _
       refine sg (pc := 68) (pc' := 72) X128 hx hby at_68 (by decide) (by decide) ?_
       exact retN X128 hx (t := .boolean) Bd.returns (by simp) (hb hby at_72) hr
     · show Q0 n0 _ T128.heap _
       rw [e128]
       exact ⟨rfl, N128⟩
    ·
     obtain ⟨cq130, kq130, q130a, q130b, q130c⟩ := isOf hZ e115 ((wd5 hW).ext O0.2)
     obtain ⟨_, _, ⟨T130, L130, kk130, nn130⟩, -, X130, ⟨Lc130, hQ130, l130, y130, z130⟩, st130⟩ := X115.virtualBack hx (y := ym5) (z := ym5) hown (mvT hZ (wk24 hw)) (mvT hZ (wk25 hw)) (notFace_of_selects (args := #[]) (mvT hZ (wk27 hw))) (mvT hZ (wk27 hw)) (mvT hZ (wk26 hw)) (by decide) (backOf (W := 0) (rm4_26 l Z a0 hw w hW [] p1 p2 h0 n0 O0 hc118 hc124) hZ (wk28 hw) (wk6 hw) (by decide) (by decide)) q130a q130c (g := (mkF m 22 Lb116 [(.int p2), (.int p1), (.ref (w 2))])) rfl (by rw [hml]; rfl) (Steps.refl _) (argsL := [(.int p1), (.int p2)]) (rest := []) (lenOf pds_4 rfl) rfl (by show 2 * 0 + _ ≤ _; exact Nat.le_of_eq rfl) (hb hby at_22) (fun _ _ => ⟨rfl, e115, (by decide : 0 + 0 ≤ _), (by decide : 0 + 0 ≤ _)⟩)
     dsimp only [Pt.U, Pt.locs, Pt.cells, Pt.slots] at X130 l130 y130 z130 st130 hQ130
     subst l130 y130 z130
     obtain ⟨rfl, N130q, e130⟩ := hQ130
     have N130 := Fr.app N115 N130q
     obtain ⟨cq131, kq131, q131a, q131b, q131c⟩ := isOf hZ e130 ((wd7 hW).ext O0.2)
     obtain ⟨_, _, ⟨T131, L131, kk131, nn131⟩, -, X131, ⟨Lc131, hQ131, l131, y131, z131⟩, st131⟩ := X130.virtualBack hx (y := ym5) (z := ym5) hown (mvT hZ (wk24 hw)) (mvT hZ (wk25 hw)) (notFace_of_selects (args := #[]) (mvT hZ (wk27 hw))) (mvT hZ (wk27 hw)) (mvT hZ (wk26 hw)) (by decide) (backOf (W := 1) (rm4_25 l Z a0 hw w hW [] p1 p2 h0 n0 O0 hc118 hc124) hZ (wk28 hw) (wk6 hw) (by decide) (by decide)) q131a q131c (g := (mkF m 28 Lb116 [(.int p2), (.int p1), (.ref (w 3)), (.int (0 : Int32))])) rfl (by rw [hml]; rfl) (Steps.refl _) (argsL := [(.int p1), (.int p2)]) (rest := [(.int (0 : Int32))]) (lenOf pds_4 rfl) rfl (by show 2 * 0 + _ ≤ _; exact Nat.le_of_eq rfl) (hb hby at_28) (fun _ _ => ⟨rfl, e130, (by decide : 0 + 0 ≤ _), (by decide : 0 + 0 ≤ _)⟩)
     dsimp only [Pt.U, Pt.locs, Pt.cells, Pt.slots] at X131 l131 y131 z131 st131 hQ131
     subst l131 y131 z131
     obtain ⟨rfl, N131q, e131⟩ := hQ131
     have N131 := Fr.app N130 N131q
     let Lb132 : Array Slot := #[.val (.int p0), .val (.int p1), .val (.int p2), .val (.ref (w 3)), .val (.ref (w 2)), .val (.int (1 : Int32)), .unset]
     obtain ⟨cq133, kq133, q133a, q133b, q133c⟩ := isOf hZ e131 ((wd5 hW).ext O0.2)
     obtain ⟨_, _, ⟨T133, L133, kk133, nn133⟩, -, X133, ⟨Lc133, hQ133, l133, y133, z133⟩, st133⟩ := X131.virtualBack hx (y := ym3) (z := ym3) hown (mvT hZ (wk8 hw)) (mvT hZ (wk9 hw)) (notFace_of_selects (args := #[]) (mvT hZ (wk11 hw))) (mvT hZ (wk11 hw)) (mvT hZ (wk10 hw)) (by decide) (backOf (W := 0) (rm2_18 l Z a0 hw w hW []  h0 n0 O0 ) hZ (wk12 hw) (wk6 hw) (by decide) (by decide)) q133a q133c (g := (mkF m 43 Lb132 [(.ref (w 2))])) rfl (by rw [hml]; rfl) (Steps.refl _) (argsL := []) (rest := []) (lenOf pds_2 rfl) rfl (by show 2 * 0 + _ ≤ _; exact Nat.le_of_eq rfl) (hb hby at_43) (fun _ _ => ⟨rfl, e131, (by decide : 0 + 0 ≤ _), (by decide : 0 + 0 ≤ _)⟩)
     dsimp only [Pt.U, Pt.locs, Pt.cells, Pt.slots] at X133 l133 y133 z133 st133 hQ133
     subst l133 y133 z133
     obtain ⟨rfl, N133q, e133⟩ := hQ133
     have N133 := Fr.app N131 N133q
     let Lb134 : Array Slot := #[.val (.int p0), .val (.int p1), .val (.int p2), .val (.ref (w 3)), .val (.ref (w 2)), .val (.int (1 : Int32)), .val (.int (1 : Int32))]
     obtain ⟨fs, hr, hrun, hended, hWm, hsame⟩ := X133.leave (v := some (.int (1 : Int32))) (fun h => by rw [Bd.returns] at h; cases h)
     refine ⟨_, _, pre117 _ ?_, hrun, hended, _, _, rfl, ?_, ⟨_, rfl⟩, hWm, hsame.mono (by decide) (by decide)⟩
     · show Steps p.tables e below (T115.setTop (mkF m 22 Lb116 [(.int p2), (.int p1), (.ref (w 2))])) _
       refine st130.trans ?_
       refine sA X130 hx hby at_25 rfl rfl ?_
       refine sI X130 hx hby at_26 rfl ?_
       refine sI X130 hx hby at_27 rfl ?_
       refine st131.trans ?_
       refine sn X131 hx hby at_31 (by decide) ?_
       refine sc X131 hx hby at_34 ?_
       refine sg (pc := 35) (pc' := 39) X131 hx hby at_35 (by decide) (by decide) ?_
       refine XS.istore X131.here hx rfl (hb hby at_39) rfl (l' := Lb132) rfl ?_
       refine sa X131 hx hby at_41 rfl rfl ?_
       show Steps p.tables e below (T131.setTop (mkF m 43 Lb132 [(.ref (w 2))])) _
       refine st133.trans ?_
       refine sA X133 hx hby at_46 rfl rfl ?_
       refine Jvm.RoadKit.acmp (g := (mkF m 47 Lb132 [(.ref (w 3)), (.ref (w 3))])) X133 hx rfl rfl rfl (pc0 := 47) (pc' := 50) (same := true) rfl (hb hby at_47) rfl (decide_eq_true rfl) (by decide) (by decide) ?_
       refine sc X133 hx hby at_50 ?_
       refine sg (pc := 51) (pc' := 55) X133 hx hby at_51 (by decide) (by decide) ?_
       refine XS.istore X133.here hx rfl (hb hby at_55) rfl (l' := Lb134) rfl ?_
       show Steps p.tables e below (T133.setTop (mkF m 57 Lb134 [])) _
       refine si X133 hx hby at_57 rfl ?_
       refine sN X133 hx hby at_59 (by decide) ?_
       refine si X133 hx hby at_62 rfl ?_
       refine sN X133 hx hby at_64 (by decide) ?_
       refine sc X133 hx hby at_67 ?_
       show Steps p.tables e below (T133.setTop (mkF m 68 Lb134 [(.int (1 : Int32))])) _
       refine sg (pc := 68) (pc' := 72) X133 hx hby at_68 (by decide) (by decide) ?_
       exact retN X133 hx (t := .boolean) Bd.returns (by simp) (hb hby at_72) hr
     · show Q0 n0 _ T133.heap _
       rw [e133]
       exact ⟨rfl, N133⟩
set_option maxRecDepth 65536 in
set_option maxHeartbeats 400000000 in
theorem comes_1 {Post : Tables → Env → Array Value → State → Outcome → State → Prop} (hpost : ∀ tb e args s v u, (limb_1_1.after args s (.returned v) u = true ∧ limb_1_2.after args s (.returned v) u = true ∧ True) → FrameEnd s (.returned v) u (Jvm.fieldLocs frame_1_writes args s ++ Jvm.arrayLocs frame_1_arrays args s ++ Jvm.staticLocs frame_1_statics s) 0 0 → Post tb e args s (.returned v) u) :
    ArmFor flags0 classFile x code maxLocals ret World_1 tables_1 room_1 Calls_1 rest_1 Pre_1 Post := by
  intro l hfl _ _ p e ha hc hk s m args below hf hA hF happ hP
  obtain ⟨hcalls, hrest, hpre⟩ := hP
  obtain ⟨-, -, -, hnamed, -, -, -, hat⟩ := (Spec.applies_iff hf).mp happ
  obtain ⟨hg, hn⟩ := and_e (Cond.before_iff.mp (show (Jvm.Cond.and given_1 narrow_1).before args s = true from hpre))
  obtain ⟨ga4, gb4⟩ := and_e hg
  obtain ⟨ga5, gb5⟩ := and_e gb4
  obtain ⟨ga6, gb6⟩ := and_e gb5
  obtain ⟨v0, v1, v2, rfl⟩ : ∃ v0 v1 v2 : Value, args = #[v0, v1, v2] := by
    have hs : args.size = 3 := by simpa [Cond.value, given_1] using ga4
    obtain ⟨L⟩ := args
    match L, hs with
    | [v0, v1, v2], _ => exact ⟨v0, v1, v2, rfl⟩
  have hw := fun d (hd : d ∈ tables_1) => atoms_spec (ws := Jvm.Cond.code x code maxLocals ret :: tables_1) hat d (List.mem_cons_of_mem _ hd)
  have hfit : Fit s := fun {y c} hc i hi => by
    obtain ⟨ha, rfl⟩ := Array.getElem?_eq_some_iff.mp hc
    have q := List.all_eq_true.mp ((Array.all_eq_true_iff_forall_mem.mp hF) _ (Array.getElem_mem ha)) i (List.mem_range.mpr hi)
    simpa [Array.getElem?_eq_getElem hi] using q
  obtain ⟨i0, ei0⟩ := is_v ga5
  obtain rfl : v0 = (.int i0) := Option.some.inj ei0
  obtain ⟨i1, ei1⟩ := is_v ga6
  obtain rfl : v1 = (.int i1) := Option.some.inj ei1
  obtain ⟨i2, ei2⟩ := is_v gb6
  obtain rfl : v2 = (.int i2) := Option.some.inj ei2
  obtain ⟨na0, nb0⟩ := and_e hn
  obtain ⟨na1, nb1⟩ := and_e nb0
  obtain ⟨na2, nb2⟩ := and_e nb1
  obtain ⟨na3, nb3⟩ := and_e nb2
  obtain ⟨na4, nb4⟩ := and_e nb3
  obtain ⟨na5, nb5⟩ := and_e nb4
  obtain ⟨na6, nb6⟩ := and_e nb5
  obtain ⟨na7, nb7⟩ := and_e nb6
  obtain ⟨na8, nb8⟩ := and_e nb7
  obtain ⟨na9, nb9⟩ := and_e nb8
  obtain ⟨na10, nb10⟩ := and_e nb9
  obtain ⟨x0, ev0⟩ := exa_v na0
  obtain ⟨x1, ev1⟩ := exa_v na2
  obtain ⟨x2, ev2⟩ := exa_v na4
  obtain ⟨x3, ev3⟩ := exa_v na6
  obtain ⟨x4, ev4⟩ := exa_v na8
  obtain ⟨x5, ev5⟩ := exa_v na10
  have hW : Wd s (fun i => ([x0, x1, x2, x3, x4, x5] : List Addr).getD i 0) := ⟨(Sta.start ev0 (Or.inr ⟨(wk6 hw), (wk7 hw)⟩)), (Exa.start ev0 na0), (Sta.start ev1 (Or.inr ⟨(wk6 hw), (wk23 hw)⟩)), (Exa.start ev1 na2), (Sta.start ev2 (Or.inr ⟨(wk6 hw), (wk36 hw)⟩)), (Exa.start ev2 na4), (Sta.start ev3 (Or.inr ⟨(wk6 hw), (wk38 hw)⟩)), (Exa.start ev3 na6), (Sta.start ev4 (Or.inr ⟨(wk6 hw), (wk42 hw)⟩)), (Exa.start ev4 na8), (Sta.start ev5 (Or.inr ⟨(wk6 hw), (wk44 hw)⟩)), (Exa.start ev5 na10), (own_fldI ev0 na1), (own_fldI ev1 na3), (own_fldI ev2 na5), (own_fldI ev3 na7), (own_fldI ev4 na9), (own_fldI ev5 nb10), trivial⟩
  obtain ⟨n, o, h1, h2, h3, _, L, rfl, ⟨rfl, N⟩, hq⟩ := rm0 l s _ hw _ hW tables_1 i0 i1 i2 s.heap s.heap.size (Old.start s) p e ha hc hk s m _ below hf ((Spec.applies_iff_loose hf).mp happ).1 ⟨rfl, State.Warmed39.refl s, rfl⟩ trivial
  refine ⟨n, _, h1, h2, h3, hpost _ _ _ _ _ _ ⟨Cond.after_iff.mpr rfl, Cond.after_iff.mpr (eq_i res_at (Term.int_eval (1)) rfl), trivial⟩ ⟨hq.1, hq.2.1, (hq.2.2.sift fun y hy => Or.inr (N y hy)).mono (by decide) (by decide)⟩⟩
theorem main_1_1 : Claimed_1_1 := comes_1 fun _ _ _ _ _ _ h hF => ⟨h.1, hF⟩
theorem main_1_2 : Claimed_1_2 := comes_1 fun _ _ _ _ _ _ h hF => ⟨h.2.1, hF⟩
end Jvm.Pilot.@@N@@
namespace Jvm.Pilot.@@N@@
open Jvm Jvm.ClassFile Sem Op Lib Jvm.Free Jvm.Stand Jvm.Pilot.@@N@@.Jvm.D
/-! MADE BY PROGRAM (witnessworld.py) out of the Statement's table words and the real class files: 15 classes; the members and pool entries that the words name. The judged class is class 1, her method 2. -/
namespace start1
open Jvm.ClassFile
def u (s : String) : CpInfo := .utf8 (stringToUtf16 s)
/-- a pool by its gaps: so many unusable entries, then the entry; so many at the end -/
def gap : Nat → List CpInfo → List CpInfo
  | 0, r => r
  | n + 1, r => .unusable :: gap n r
def poolList (es : List (Nat × CpInfo)) (last : Nat) : List CpInfo := es.foldr (fun e r => gap e.1 (e.2 :: r)) (gap last [])
def pool (es : List (Nat × CpInfo)) (last : Nat) : Array CpInfo := ⟨poolList es last⟩
def fileOf (pool : Array CpInfo) (this : Nat) (attrs : Array Attribute := #[]) (ms : Array MethodInfo := #[]) (fl : Nat := 33) (sup : Nat := 0) (ifs : Array Nat := #[]) (fds : Array FieldInfo := #[]) : ClassFile where
  minorVersion := 0
  majorVersion := 65
  constantPool := pool
  accessFlags := fl
  thisClass := this
  superClass := sup
  interfaces := ifs
  fields := fds
  methods := ms
  attributes := attrs
def plain (name : String) (sup : Option ClassId) : Class where
  name := name
  kind := .ordinary
  loader := none
  accessFlags := 33
  super := sup
  interfaces := #[]
  cf := none
  fields := #[]
  methods := #[]
  instanceTypes := #[]
  staticTypes := #[]
  resolved := #[]
  callSites := []
  init := .initialized
  statics := none
  mirror := none

def pool0 : Array CpInfo := pool [(5, u "<init>"), (0, u "()V"), (1, .class_ 10), (1, u "java/lang/Object")] 113

def k0m0 : Method := { name := "<init>", desc := "()V", sig := { parameters := [], returnType := none }, accessFlags := 1, code := none }
/-- java/lang/Object -/
def k0 : Class := { plain "java/lang/Object" none with
  accessFlags := 33
  interfaces := #[]
  cf := some (fileOf pool0 8 #[] #[{ accessFlags := 1, nameIndex := 5, descriptorIndex := 6, attributes := #[] }] 33 0 #[] #[])
  fields := #[]
  methods := #[k0m0]
  instanceTypes := #[]
  staticTypes := #[]
  resolved := Array.replicate 124 none
  statics := none }

def pool1 : Array CpInfo := pool [(2, .class_ 4), (1, u "java/lang/Object"), (0, u "<init>"), (0, u "()V"), (0, .integer 2147483647), (0, .fieldref 9 10), (0, .class_ 11), (0, .nameAndType 12 13), (0, u "com/example/gofyn/gofyn/typed/Term$Operator"), (0, u "EQUAL"), (0, u "Lcom/example/gofyn/gofyn/typed/Term$Operator;"), (0, .fieldref 9 15), (0, .nameAndType 16 13), (0, u "NOT_EQUAL"), (0, .fieldref 9 18), (0, .nameAndType 19 13), (0, u "LESS"), (0, .fieldref 9 21), (0, .nameAndType 22 13), (0, u "LESS_EQUAL"), (0, .fieldref 9 24), (0, .nameAndType 25 13), (0, u "GREATER"), (0, .fieldref 9 27), (0, .nameAndType 28 13), (0, u "GREATER_EQUAL"), (0, .methodref 30 31), (0, .class_ 32), (0, .nameAndType 33 34), (0, u "com/example/gofyn/gofyn/typed/OperatorComplementPinLaw"), (0, u "pick"), (0, u "(I)Lcom/example/gofyn/gofyn/typed/Term$Operator;"), (0, .methodref 9 36), (0, .nameAndType 37 38), (0, u "complement"), (0, u "()Lcom/example/gofyn/gofyn/typed/Term$Operator;"), (0, .methodref 9 40), (0, .nameAndType 41 42), (0, u "holds"), (0, u "(II)Z"), (3, u "law"), (0, u "(III)Z")] 6

def k1m0 : Method := { name := "<init>", desc := "()V", sig := { parameters := [], returnType := none }, accessFlags := 2, code := none }
def k1c1 : Code := { maxStack := 2, maxLocals := 2, code := method_2_code, exceptionTable := #[], attributes := #[] }
def k1m1 : Method := { name := "pick", desc := "(I)Lcom/example/gofyn/gofyn/typed/Term$Operator;", sig := { parameters := [.int], returnType := some (.object "com/example/gofyn/gofyn/typed/Term$Operator") }, accessFlags := 10, code := some k1c1 }
def k1c2 : Code := { maxStack := 4, maxLocals := 7, code := code, exceptionTable := #[], attributes := #[] }
def k1m2 : Method := { name := "law", desc := "(III)Z", sig := { parameters := [.int, .int, .int], returnType := some .boolean }, accessFlags := 9, code := some k1c2 }
/-- com/example/gofyn/gofyn/typed/OperatorComplementPinLaw -/
def k1 : Class := { plain "com/example/gofyn/gofyn/typed/OperatorComplementPinLaw" (some 0) with
  accessFlags := 49
  interfaces := #[]
  cf := some (fileOf pool1 30 #[] #[{ accessFlags := 2, nameIndex := 5, descriptorIndex := 6, attributes := #[] }, { accessFlags := 10, nameIndex := 33, descriptorIndex := 34, attributes := #[] }, { accessFlags := 9, nameIndex := 46, descriptorIndex := 47, attributes := #[] }] 49 2 #[] #[])
  fields := #[]
  methods := #[k1m0, k1m1, k1m2]
  instanceTypes := #[]
  staticTypes := #[]
  resolved := Array.replicate 54 none
  statics := none }

def pool2 : Array CpInfo := pool [(1, .class_ 2), (0, u "java/lang/constant/Constable"), (0, .class_ 4), (0, u "java/lang/Object")] 6

/-- java/lang/constant/Constable -/
def k2 : Class := { plain "java/lang/constant/Constable" (some 0) with
  accessFlags := 1537
  interfaces := #[]
  cf := some (fileOf pool2 1 #[] #[] 1537 3 #[] #[])
  fields := #[]
  methods := #[]
  instanceTypes := #[]
  staticTypes := #[]
  resolved := Array.replicate 11 none
  statics := none }

def pool3 : Array CpInfo := pool [(1, .class_ 2), (0, u "java/lang/Comparable"), (0, .class_ 4), (0, u "java/lang/Object")] 7

/-- java/lang/Comparable -/
def k3 : Class := { plain "java/lang/Comparable" (some 0) with
  accessFlags := 1537
  interfaces := #[]
  cf := some (fileOf pool3 1 #[] #[] 1537 3 #[] #[])
  fields := #[]
  methods := #[]
  instanceTypes := #[]
  staticTypes := #[]
  resolved := Array.replicate 12 none
  statics := none }

def pool4 : Array CpInfo := pool [(1, .class_ 2), (0, u "java/io/Serializable"), (0, .class_ 4), (0, u "java/lang/Object")] 2

/-- java/io/Serializable -/
def k4 : Class := { plain "java/io/Serializable" (some 0) with
  accessFlags := 1537
  interfaces := #[]
  cf := some (fileOf pool4 1 #[] #[] 1537 3 #[] #[])
  fields := #[]
  methods := #[]
  instanceTypes := #[]
  staticTypes := #[]
  resolved := Array.replicate 7 none
  statics := none }

def pool5 : Array CpInfo := pool [(2, .class_ 4), (1, u "java/lang/Enum"), (0, u "name"), (0, u "Ljava/lang/String;"), (0, .fieldref 2 8), (0, .nameAndType 9 10), (0, u "ordinal"), (0, u "I"), (1, .class_ 14), (1, u "java/lang/Object"), (4, u "hash"), (86, .class_ 108), (1, u "java/lang/Enum$EnumDesc"), (2, .class_ 112), (0, u "java/lang/constant/Constable"), (0, .class_ 114), (0, u "java/lang/Comparable"), (0, .class_ 116), (0, u "java/io/Serializable"), (9, u "()I")] 77

def k5c0 : Code := { maxStack := 1, maxLocals := 1, code := jdk_37_method_2_code, exceptionTable := #[], attributes := #[] }
def k5m0 : Method := { name := "ordinal", desc := "()I", sig := { parameters := [], returnType := some .int }, accessFlags := 17, code := some k5c0 }
/-- java/lang/Enum -/
def k5 : Class := { plain "java/lang/Enum" (some 0) with
  accessFlags := 1057
  interfaces := #[2, 3, 4]
  cf := some (fileOf pool5 2 #[.nestMembers #[106]] #[{ accessFlags := 17, nameIndex := 9, descriptorIndex := 126, attributes := #[] }] 1057 12 #[111, 113, 115] #[{ accessFlags := 18, nameIndex := 5, descriptorIndex := 6, attributes := #[] }, { accessFlags := 18, nameIndex := 9, descriptorIndex := 10, attributes := #[] }, { accessFlags := 2, nameIndex := 19, descriptorIndex := 10, attributes := #[] }])
  fields := #[{ name := "name", type := (.object "java/lang/String"), accessFlags := 18, slot := 0, constantValue := 0 }, { name := "ordinal", type := .int, accessFlags := 18, slot := 1, constantValue := 0 }, { name := "hash", type := .int, accessFlags := 2, slot := 2, constantValue := 0 }]
  methods := #[k5m0]
  instanceTypes := #[(.object "java/lang/String"), .int, .int]
  staticTypes := #[]
  resolved := Array.replicate 204 none
  statics := none }

def pool6 : Array CpInfo := pool [(1, .class_ 2), (0, u "com/example/gofyn/gofyn/typed/Term$Operator"), (0, .fieldref 1 4), (0, .nameAndType 5 6), (0, u "EQUAL"), (0, u "Lcom/example/gofyn/gofyn/typed/Term$Operator;"), (0, .fieldref 1 8), (0, .nameAndType 9 6), (0, u "NOT_EQUAL"), (0, .fieldref 1 11), (0, .nameAndType 12 6), (0, u "LESS"), (0, .fieldref 1 14), (0, .nameAndType 15 6), (0, u "LESS_EQUAL"), (0, .fieldref 1 17), (0, .nameAndType 18 6), (0, u "GREATER"), (0, .fieldref 1 20), (0, .nameAndType 21 6), (0, u "GREATER_EQUAL"), (2, u "$VALUES"), (0, u "[Lcom/example/gofyn/gofyn/typed/Term$Operator;"), (6, .class_ 34), (1, u "java/lang/Enum"), (8, u "symbol"), (0, u "Ljava/lang/String;"), (0, .methodref 1 46), (0, .nameAndType 47 48), (0, u "ordinal"), (0, u "()I"), (5, .methodref 55 56), (0, .class_ 57), (0, .nameAndType 58 59), (0, u "java/lang/Integer"), (0, u "compare"), (0, u "(II)I"), (35, u "complement"), (0, u "()Lcom/example/gofyn/gofyn/typed/Term$Operator;"), (1, u "holds"), (0, u "(II)Z"), (6, .class_ 107), (0, u "com/example/gofyn/gofyn/typed/Term")] 2

def k6c0 : Code := { maxStack := 4, maxLocals := 1, code := prog_75_method_5_code, exceptionTable := #[], attributes := #[] }
def k6m0 : Method := { name := "complement", desc := "()Lcom/example/gofyn/gofyn/typed/Term$Operator;", sig := { parameters := [], returnType := some (.object "com/example/gofyn/gofyn/typed/Term$Operator") }, accessFlags := 0, code := some k6c0 }
def k6c1 : Code := { maxStack := 4, maxLocals := 4, code := prog_75_method_7_code, exceptionTable := #[], attributes := #[] }
def k6m1 : Method := { name := "holds", desc := "(II)Z", sig := { parameters := [.int, .int], returnType := some .boolean }, accessFlags := 0, code := some k6c1 }
/-- com/example/gofyn/gofyn/typed/Term$Operator -/
def k6 : Class := { plain "com/example/gofyn/gofyn/typed/Term$Operator" (some 5) with
  accessFlags := 16432
  interfaces := #[]
  cf := some (fileOf pool6 1 #[.nestHost 106] #[{ accessFlags := 0, nameIndex := 95, descriptorIndex := 96, attributes := #[] }, { accessFlags := 0, nameIndex := 98, descriptorIndex := 99, attributes := #[] }] 16432 32 #[] #[{ accessFlags := 16409, nameIndex := 5, descriptorIndex := 6, attributes := #[] }, { accessFlags := 16409, nameIndex := 9, descriptorIndex := 6, attributes := #[] }, { accessFlags := 16409, nameIndex := 12, descriptorIndex := 6, attributes := #[] }, { accessFlags := 16409, nameIndex := 15, descriptorIndex := 6, attributes := #[] }, { accessFlags := 16409, nameIndex := 18, descriptorIndex := 6, attributes := #[] }, { accessFlags := 16409, nameIndex := 21, descriptorIndex := 6, attributes := #[] }, { accessFlags := 18, nameIndex := 43, descriptorIndex := 44, attributes := #[] }, { accessFlags := 4122, nameIndex := 24, descriptorIndex := 25, attributes := #[] }])
  fields := #[{ name := "EQUAL", type := (.object "com/example/gofyn/gofyn/typed/Term$Operator"), accessFlags := 16409, slot := 0, constantValue := 0 }, { name := "NOT_EQUAL", type := (.object "com/example/gofyn/gofyn/typed/Term$Operator"), accessFlags := 16409, slot := 1, constantValue := 0 }, { name := "LESS", type := (.object "com/example/gofyn/gofyn/typed/Term$Operator"), accessFlags := 16409, slot := 2, constantValue := 0 }, { name := "LESS_EQUAL", type := (.object "com/example/gofyn/gofyn/typed/Term$Operator"), accessFlags := 16409, slot := 3, constantValue := 0 }, { name := "GREATER", type := (.object "com/example/gofyn/gofyn/typed/Term$Operator"), accessFlags := 16409, slot := 4, constantValue := 0 }, { name := "GREATER_EQUAL", type := (.object "com/example/gofyn/gofyn/typed/Term$Operator"), accessFlags := 16409, slot := 5, constantValue := 0 }, { name := "symbol", type := (.object "java/lang/String"), accessFlags := 18, slot := 3, constantValue := 0 }, { name := "$VALUES", type := (.array (.object "com/example/gofyn/gofyn/typed/Term$Operator")), accessFlags := 4122, slot := 6, constantValue := 0 }]
  methods := #[k6m0, k6m1]
  instanceTypes := #[(.object "java/lang/String"), .int, .int, (.object "java/lang/String")]
  staticTypes := #[(.object "com/example/gofyn/gofyn/typed/Term$Operator"), (.object "com/example/gofyn/gofyn/typed/Term$Operator"), (.object "com/example/gofyn/gofyn/typed/Term$Operator"), (.object "com/example/gofyn/gofyn/typed/Term$Operator"), (.object "com/example/gofyn/gofyn/typed/Term$Operator"), (.object "com/example/gofyn/gofyn/typed/Term$Operator"), (.array (.object "com/example/gofyn/gofyn/typed/Term$Operator"))]
  resolved := Array.replicate 110 none
  statics := some 0 }

def pool7 : Array CpInfo := pool [(2, .class_ 4), (1, u "java/lang/Object"), (0, u "<init>"), (0, u "()V"), (1, .class_ 10), (1, u "java/lang/Number"), (2, .class_ 14), (0, u "java/io/Serializable"), (0, u "serialVersionUID"), (0, u "J")] 20

def k7m0 : Method := { name := "<init>", desc := "()V", sig := { parameters := [], returnType := none }, accessFlags := 1, code := none }
/-- java/lang/Number -/
def k7 : Class := { plain "java/lang/Number" (some 0) with
  accessFlags := 1057
  interfaces := #[4]
  cf := some (fileOf pool7 8 #[] #[{ accessFlags := 1, nameIndex := 5, descriptorIndex := 6, attributes := #[] }] 1057 2 #[13] #[{ accessFlags := 26, nameIndex := 15, descriptorIndex := 16, attributes := #[] }])
  fields := #[{ name := "serialVersionUID", type := .long, accessFlags := 26, slot := 0, constantValue := 0 }]
  methods := #[k7m0]
  instanceTypes := #[]
  staticTypes := #[.long]
  resolved := Array.replicate 37 none
  statics := none }

def pool8 : Array CpInfo := pool [(1, .class_ 2), (0, u "java/lang/constant/ConstantDesc"), (0, .class_ 4), (0, u "java/lang/Object")] 32

/-- java/lang/constant/ConstantDesc -/
def k8 : Class := { plain "java/lang/constant/ConstantDesc" (some 0) with
  accessFlags := 1537
  interfaces := #[]
  cf := some (fileOf pool8 1 #[] #[] 1537 3 #[] #[])
  fields := #[]
  methods := #[]
  instanceTypes := #[]
  staticTypes := #[]
  resolved := Array.replicate 37 none
  statics := none }

def pool9 : Array CpInfo := pool [(1, .class_ 2), (0, u "java/lang/Integer"), (16, u "digits"), (0, u "[C"), (39, u "(II)I"), (24, u "DigitOnes"), (0, u "[B"), (2, u "DigitTens"), (99, .class_ 190), (0, u "java/lang/Integer$IntegerCache"), (3, u "I"), (8, .class_ 204), (0, u "java/lang/Number"), (2, u "value"), (53, u "compare"), (40, u "TYPE"), (0, u "Ljava/lang/Class;"), (0, .class_ 305), (0, u "java/lang/Comparable"), (0, .class_ 307), (0, u "java/lang/constant/Constable"), (0, .class_ 309), (0, u "java/lang/constant/ConstantDesc"), (0, u "MIN_VALUE"), (1, u "MAX_VALUE"), (3, u "SIZE"), (1, u "BYTES"), (1, u "serialVersionUID"), (0, u "J")] 131

def k9c0 : Code := { maxStack := 2, maxLocals := 2, code := jdk_33_method_40_code, exceptionTable := #[], attributes := #[] }
def k9m0 : Method := { name := "compare", desc := "(II)I", sig := { parameters := [.int, .int], returnType := some .int }, accessFlags := 9, code := some k9c0 }
/-- java/lang/Integer -/
def k9 : Class := { plain "java/lang/Integer" (some 7) with
  accessFlags := 49
  interfaces := #[3, 2, 8]
  cf := some (fileOf pool9 1 #[.nestMembers #[189]] #[{ accessFlags := 9, nameIndex := 261, descriptorIndex := 60, attributes := #[] }] 49 203 #[304, 306, 308] #[{ accessFlags := 25, nameIndex := 310, descriptorIndex := 194, attributes := #[] }, { accessFlags := 25, nameIndex := 312, descriptorIndex := 194, attributes := #[] }, { accessFlags := 25, nameIndex := 302, descriptorIndex := 303, attributes := #[] }, { accessFlags := 24, nameIndex := 19, descriptorIndex := 20, attributes := #[] }, { accessFlags := 24, nameIndex := 89, descriptorIndex := 86, attributes := #[] }, { accessFlags := 24, nameIndex := 85, descriptorIndex := 86, attributes := #[] }, { accessFlags := 18, nameIndex := 207, descriptorIndex := 194, attributes := #[] }, { accessFlags := 25, nameIndex := 316, descriptorIndex := 194, attributes := #[] }, { accessFlags := 25, nameIndex := 318, descriptorIndex := 194, attributes := #[] }, { accessFlags := 26, nameIndex := 320, descriptorIndex := 321, attributes := #[] }])
  fields := #[{ name := "MIN_VALUE", type := .int, accessFlags := 25, slot := 0, constantValue := 0 }, { name := "MAX_VALUE", type := .int, accessFlags := 25, slot := 1, constantValue := 0 }, { name := "TYPE", type := (.object "java/lang/Class"), accessFlags := 25, slot := 2, constantValue := 0 }, { name := "digits", type := (.array .char), accessFlags := 24, slot := 3, constantValue := 0 }, { name := "DigitTens", type := (.array .byte), accessFlags := 24, slot := 4, constantValue := 0 }, { name := "DigitOnes", type := (.array .byte), accessFlags := 24, slot := 5, constantValue := 0 }, { name := "value", type := .int, accessFlags := 18, slot := 0, constantValue := 0 }, { name := "SIZE", type := .int, accessFlags := 25, slot := 6, constantValue := 0 }, { name := "BYTES", type := .int, accessFlags := 25, slot := 7, constantValue := 0 }, { name := "serialVersionUID", type := .long, accessFlags := 26, slot := 8, constantValue := 0 }]
  methods := #[k9m0]
  instanceTypes := #[.int]
  staticTypes := #[.int, .int, (.object "java/lang/Class"), (.array .char), (.array .byte), (.array .byte), .int, .int, .long]
  resolved := Array.replicate 453 none
  statics := none }

def pool10 : Array CpInfo := pool [(1, u "java/lang/Cloneable"), (0, .class_ 1), (0, u "java/lang/Object"), (0, .class_ 3)] 3

/-- java/lang/Cloneable -/
def k10 : Class := { plain "java/lang/Cloneable" (some 0) with
  accessFlags := 1537
  interfaces := #[]
  cf := some (fileOf pool10 2 #[] #[] 1537 4 #[] #[])
  fields := #[]
  methods := #[]
  instanceTypes := #[]
  staticTypes := #[]
  resolved := Array.replicate 8 none
  statics := none }

/-- the primitive byte -/
def k11 : Class := { plain "byte" none with kind := .primitive 'B', accessFlags := 0x411 }
/-- [B -/
def k12 : Class := { plain "[B" (some 0) with kind := .array 11 .byte, interfaces := #[10, 4], accessFlags := 1041 }

/-- the primitive int -/
def k13 : Class := { plain "int" none with kind := .primitive 'I', accessFlags := 0x411 }
/-- [I -/
def k14 : Class := { plain "[I" (some 0) with kind := .array 13 .int, interfaces := #[10, 4], accessFlags := 1041 }

def heap : Heap := #[{ cls := 6, slots := #[.ref 1, .ref 2, .ref 3, .ref 5, .ref 6, .ref 4, .null], vm := .statics 6 },
  { cls := 6, slots := #[.null, .int 0, .int 0, .null], vm := .none },
  { cls := 6, slots := #[.null, .int 1, .int 0, .null], vm := .none },
  { cls := 6, slots := #[.null, .int 2, .int 0, .null], vm := .none },
  { cls := 6, slots := #[.null, .int 5, .int 0, .null], vm := .none },
  { cls := 6, slots := #[.null, .int 3, .int 0, .null], vm := .none },
  { cls := 6, slots := #[.null, .int 4, .int 0, .null], vm := .none }]
def classes : Array Class := #[k0, k1, k2, k3, k4, k5, k6, k7, k8, k9, k10, k11, k12, k13, k14]
def interned : List (Array UInt16 × Addr) := []
def slotsUsed : Nat := 31
def theMethod : MethodId := ⟨1, 2⟩
def args0 : Array Value := #[.int 5, .int 6, .int 7]
def aboutOver (below : List Frame) : State where
  vm := { classes := classes, interned := interned.toArray }
  heap := heap
  slotsUsed := slotsUsed
  threads := #[{ frames := .invoking theMethod args0 :: below }]
def below0 : List Frame := [.native { method := ⟨0, 0⟩, args := #[] }]
def about1 : State := aboutOver below0
def p0 : Program := .bare "" "" ""
def e0 : Env := launch0.env 0 0 0
theorem w_frames : about1.frames = Frame.invoking theMethod args0 :: below0 := rfl
set_option maxRecDepth 65536 in
theorem w_args : argsFit about1.vm theMethod args0 = true := by decide +kernel
set_option maxRecDepth 65536 in
theorem w_heap : heapFits about1 = true := by decide +kernel
set_option maxRecDepth 65536 in
theorem w_runnable : about1.curStatus? = some .runnable := by decide +kernel
set_option maxRecDepth 65536 in
theorem w_alone : about1.alone = true := by decide +kernel
set_option maxRecDepth 65536 in
theorem w_named : about1.methodNamed? x = some theMethod := by decide +kernel
set_option maxRecDepth 65536 in
theorem w_hears : about1.hears theMethod below0 = true := by decide +kernel
set_option maxRecDepth 65536 in
theorem w_ripe : about1.ripe theMethod args0 below0 = true := by decide +kernel
theorem w_running : about1.status = .running := rfl
set_option maxRecDepth 65536 in
theorem w_room : about1.hasRoom e0.platform room_1 = true :=
  launch0.hasRoom_least _ room_1 (by decide +kernel) (by decide +kernel) (by decide +kernel) (by decide +kernel) (by decide +kernel) (by decide +kernel)
theorem allAtoms_all (ts : List Jvm.Cond) (a : Array Jvm.Value) (st : Jvm.State) : (allAtoms ts).before a st = ts.all (fun c => c.before a st) := by
  induction ts with
  | nil => rfl
  | cons c t ih =>
    show (Jvm.Cond.and c (allAtoms t)).before a st = _
    rw [Jvm.Cond.before_and, ih, List.all_cons]
def words1 : List Jvm.Cond := Jvm.Cond.code x code maxLocals ret :: tables_1
/-- a 'code' word, met by the world's own term for the bytes: nothing is compared byte by byte -/
theorem code_word {y : MethodName} {bytes : ByteArray} {mx : Nat} {rt : Option FieldType} {a : Array Value} {s : State} {m : MethodId} {meth : Method} {c : Code} (h1 : s.methodNamed? y = some m) (h2 : s.vm.method? m = some meth) (h3 : meth.code = some c) (h4 : c.code = bytes)
    (h5 : (c.maxLocals == mx && c.exceptionTable.isEmpty && decide (c.maxStack ≤ mostOperands) && decide (meth.sig.returnType = rt) && !meth.locks && decide (parseMethodDescriptor y.desc = some meth.sig)) = true) : (Jvm.Cond.code y bytes mx rt).before a s = true := by
  simp only [Bool.and_eq_true, beq_iff_eq, Bool.not_eq_true', decide_eq_true_eq] at h5
  obtain ⟨⟨⟨⟨⟨g1, g2⟩, g3⟩, g4⟩, g5⟩, g6⟩ := h5
  simp [Cond.before, Cond.holds, Cond.value, h1, h2, h3, h4, g1, g2, g3, g4, g5, g6]
def isCode : Jvm.Cond → Bool
  | .code _ _ _ _ => true
  | _ => false
theorem all_split {L : List Jvm.Cond} {P : Jvm.Cond → Bool} (h1 : L.all (fun c => isCode c || P c) = true) (h2 : ∀ c ∈ L.filter isCode, P c = true) : L.all P = true := by
  refine List.all_eq_true.mpr fun c hc => ?_
  have h := List.all_eq_true.mp h1 c hc
  rcases Bool.eq_false_or_eq_true (isCode c) with hi | hi
  · exact h2 c (List.mem_filter.mpr ⟨hc, hi⟩)
  · simpa [hi] using h
set_option maxRecDepth 65536 in
theorem w_c0 : (Jvm.Cond.code x code maxLocals ret).before args0 about1 = true := code_word (m := ⟨1, 2⟩) (meth := k1m2) (c := k1c2) (by decide +kernel) rfl rfl rfl (by decide +kernel)
set_option maxRecDepth 65536 in
theorem w_c1 : (Jvm.Cond.code ({ cls := "com/example/gofyn/gofyn/typed/OperatorComplementPinLaw", name := "pick", desc := "(I)Lcom/example/gofyn/gofyn/typed/Term$Operator;" } : Jvm.MethodName) method_2_code (2 : Nat) (Option.some (Jvm.ClassFile.FieldType.object "com/example/gofyn/gofyn/typed/Term$Operator"))).before args0 about1 = true := code_word (m := ⟨1, 1⟩) (meth := k1m1) (c := k1c1) (by decide +kernel) rfl rfl rfl (by decide +kernel)
set_option maxRecDepth 65536 in
theorem w_c2 : (Jvm.Cond.code ({ cls := "com/example/gofyn/gofyn/typed/Term$Operator", name := "complement", desc := "()Lcom/example/gofyn/gofyn/typed/Term$Operator;" } : Jvm.MethodName) prog_75_method_5_code (1 : Nat) (Option.some (Jvm.ClassFile.FieldType.object "com/example/gofyn/gofyn/typed/Term$Operator"))).before args0 about1 = true := code_word (m := ⟨6, 0⟩) (meth := k6m0) (c := k6c0) (by decide +kernel) rfl rfl rfl (by decide +kernel)
set_option maxRecDepth 65536 in
theorem w_c3 : (Jvm.Cond.code ({ cls := "java/lang/Enum", name := "ordinal", desc := "()I" } : Jvm.MethodName) jdk_37_method_2_code (1 : Nat) (Option.some Jvm.ClassFile.FieldType.int)).before args0 about1 = true := code_word (m := ⟨5, 0⟩) (meth := k5m0) (c := k5c0) (by decide +kernel) rfl rfl rfl (by decide +kernel)
set_option maxRecDepth 65536 in
theorem w_c4 : (Jvm.Cond.code ({ cls := "com/example/gofyn/gofyn/typed/Term$Operator", name := "holds", desc := "(II)Z" } : Jvm.MethodName) prog_75_method_7_code (4 : Nat) (Option.some Jvm.ClassFile.FieldType.boolean)).before args0 about1 = true := code_word (m := ⟨6, 1⟩) (meth := k6m1) (c := k6c1) (by decide +kernel) rfl rfl rfl (by decide +kernel)
set_option maxRecDepth 65536 in
theorem w_c5 : (Jvm.Cond.code ({ cls := "java/lang/Integer", name := "compare", desc := "(II)I" } : Jvm.MethodName) jdk_33_method_40_code (2 : Nat) (Option.some Jvm.ClassFile.FieldType.int)).before args0 about1 = true := code_word (m := ⟨9, 0⟩) (meth := k9m0) (c := k9c0) (by decide +kernel) rfl rfl rfl (by decide +kernel)
def codes1 : List Jvm.Cond := [Jvm.Cond.code x code maxLocals ret, Jvm.Cond.code ({ cls := "com/example/gofyn/gofyn/typed/OperatorComplementPinLaw", name := "pick", desc := "(I)Lcom/example/gofyn/gofyn/typed/Term$Operator;" } : Jvm.MethodName) method_2_code (2 : Nat) (Option.some (Jvm.ClassFile.FieldType.object "com/example/gofyn/gofyn/typed/Term$Operator")), Jvm.Cond.code ({ cls := "com/example/gofyn/gofyn/typed/Term$Operator", name := "complement", desc := "()Lcom/example/gofyn/gofyn/typed/Term$Operator;" } : Jvm.MethodName) prog_75_method_5_code (1 : Nat) (Option.some (Jvm.ClassFile.FieldType.object "com/example/gofyn/gofyn/typed/Term$Operator")), Jvm.Cond.code ({ cls := "java/lang/Enum", name := "ordinal", desc := "()I" } : Jvm.MethodName) jdk_37_method_2_code (1 : Nat) (Option.some Jvm.ClassFile.FieldType.int), Jvm.Cond.code ({ cls := "com/example/gofyn/gofyn/typed/Term$Operator", name := "holds", desc := "(II)Z" } : Jvm.MethodName) prog_75_method_7_code (4 : Nat) (Option.some Jvm.ClassFile.FieldType.boolean), Jvm.Cond.code ({ cls := "java/lang/Integer", name := "compare", desc := "(II)I" } : Jvm.MethodName) jdk_33_method_40_code (2 : Nat) (Option.some Jvm.ClassFile.FieldType.int)]
set_option maxRecDepth 65536 in
theorem codes_eq : words1.filter isCode = codes1 := rfl
theorem w_codes : ∀ c ∈ words1.filter isCode, c.before args0 about1 = true := by
  rw [codes_eq]
  intro c hc
  simp only [codes1, List.mem_cons, List.not_mem_nil, or_false] at hc
  rcases hc with rfl | rfl | rfl | rfl | rfl | rfl
  · exact w_c0
  · exact w_c1
  · exact w_c2
  · exact w_c3
  · exact w_c4
  · exact w_c5
set_option maxRecDepth 65536 in
theorem w_t1 : (words1.take 24).all (fun c => isCode c || c.before args0 about1) = true := by decide +kernel
set_option maxRecDepth 65536 in
theorem w_t2 : (words1.drop 24).all (fun c => isCode c || c.before args0 about1) = true := by decide +kernel
theorem w_tables : (allAtoms (Jvm.Cond.code x code maxLocals ret :: tables_1)).before args0 about1 = true := by
  rw [allAtoms_all]
  show words1.all (fun c => c.before args0 about1) = true
  refine all_split ?_ w_codes
  rw [← List.take_append_drop 24 words1, List.all_append, w_t1, w_t2]
  rfl
set_option maxRecDepth 65536 in
theorem w_case : (Jvm.Cond.and given_1 narrow_1).before args0 about1 = true := by decide +kernel
theorem w_applies : (headSpec (Jvm.Cond.code x code maxLocals ret :: tables_1) room_1).applies x e0.platform about1 = true :=
  (Spec.applies_iff w_frames).mpr ⟨w_running, w_runnable, w_alone, w_named, w_hears, w_ripe, w_room, w_tables⟩
theorem atStart : AtStart classFile x code maxLocals ret World_1 tables_1 room_1 Calls_1 rest_1 Pre_1 launch0 p0 e0 about1 theMethod args0 below0 :=
  ⟨lists_1, trivial, launch0.admits_env _ _ _, launch0.least_env, fairChoices_fair.cas, fairChoices_fair.clock, w_frames, w_args, w_heap, w_applies, trivial, trivial, w_case⟩
end start1
theorem witness_1 : WitnessClaimed_1 := ⟨start1.p0, start1.e0, start1.about1, start1.theMethod, start1.args0, start1.below0, start1.atStart⟩
end Jvm.Pilot.@@N@@
