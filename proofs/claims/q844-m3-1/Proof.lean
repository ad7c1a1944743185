import JvmDerived
import JvmDerived.Pilot.@@N@@Statement
import JvmDerived.Pilot.@@N@@Code
set_option linter.unusedVariables false
set_option linter.unusedSimpArgs false
namespace Jvm.RoadKit
open Sem ClassFile Op Lib Jvm.Stand Jvm.Free Jvm.LawKit
section New
variable {p : Program} {l : Launch} {e : Env} {R : Room} {s : State} {m : MethodId} {args : Array Value} {below : List Frame} {meth : Method} {c : Code} {T : State} {locs : List Loc} {cells slots : Nat}
theorem retI (X : Stand p l e R s m args below meth c T locs cells slots) (hx : p.tables.exec = Jvm.exec) {pc : Nat} {Ls : Array Slot} {z : Int32} {rest : List Value} (hret : meth.sig.returnType = some .int) (hd : decode c.code pc = .ok (.ireturn, 1)) {fs : List Frame}
    (hl : ∀ (f : JFrame) (acts : List Action), f.method = m → f.locked = none → f.entered = [] → (doReturn e (T.setTop f) acts (some (.int z))).1 = T.setFrames fs) : Steps p.tables e below (T.setTop (mkF m pc Ls (.int z :: rest))) (T.setFrames fs) := by
  have hm' : T.vm.method? m = some meth := X.method'
  have hn : narrow .int (.int z) = .int z := rfl
  show Steps p.tables e below (T.setTop { method := m, pc := pc, locals := Ls, stack := _ :: rest, locked := none }) _
  jvm_step X.here [X.here.top, hx, hd, hm', hret, hn]
  first | (intro acts; rw [hl _ acts rfl rfl rfl]) | rw [hl _ _ rfl rfl rfl]
  exact Steps.refl _
end New
end Jvm.RoadKit
namespace Jvm.Pilot.@@N@@
open Jvm Jvm.ClassFile Sem Op Lib Jvm.Free Jvm.Stand Jvm.LawKit Jvm.RoadKit Bundle Jvm.Pilot.@@N@@.Jvm.D
theorem own_irr32 (x : Int32) : ¬ x < x := Int32.lt_irrefl
theorem own_irr64 (x : Int64) : ¬ x < x := Int64.lt_irrefl
theorem own_fldI {args : Array Value} {s : State} {t : Term} {C n d : String} {x : Addr} {k : Int32} (ht : t.eval args s none [] s = some (.ref x)) (h : (Cond.eq (Term.field t C n d) (Term.int k)).value args s none s [] = some true) : Fld s s.heap x C n d (.int k) := Fld.start ((fld_at ht).symm.trans (eqv_i (Term.int_eval k) h))
theorem own_fldJ {args : Array Value} {s : State} {t : Term} {C n d : String} {x : Addr} {k : Int64} (ht : t.eval args s none [] s = some (.ref x)) (h : (Cond.eq (Term.field t C n d) (Term.long k)).value args s none s [] = some true) : Fld s s.heap x C n d (.long k) := Fld.start ((fld_at ht).symm.trans (eqv_l (long_at k) h))
theorem own_len {args : Array Value} {s : State} {t : Term} {x : Addr} {cl : Cell} {ty : FieldType} {k : Int32} (ht : t.eval args s none [] s = some (.ref x)) (A : Arr s s.heap x cl ty) (h : (Cond.eq (Term.length t) (Term.int k)).value args s none s [] = some true) : cl.slots.size.toInt32 = k ∧ cl.slots.size < 2 ^ 31 := by
  have e := eqv_i (Term.int_eval k) h
  have ha := A.fin (Vm.Alike.refl _)
  by_cases q : cl.slots.size < 2 ^ 31
  · have e2 := (len_f ht ha q).symm.trans e
    exact ⟨Value.int.inj (Option.some.inj e2), q⟩
  · simp [Term.eval, ht, ha, q] at e
theorem own_elem {args : Array Value} {s : State} {t u : Term} {x : Addr} {cl : Cell} {ty : FieldType} {k : Int32} {v : Value} (ht : t.eval args s none [] s = some (.ref x)) (A : Arr s s.heap x cl ty) (hu : u.eval args s none [] s = some v) (hv : v.isRef = true) (h : (Cond.eq (Term.elem t (Term.int k)) u).value args s none s [] = some true) : cl.slots[k.toNatClampNeg]? = some v := by
  obtain ⟨a, b, h1, h2, h3, h4⟩ := cmp_v (Or.inl h)
  have hb := Option.some.inj (h2.symm.trans hu)
  subst hb
  obtain ⟨c', e1, e2, e3⟩ := elem_at h1 ht (Term.int_eval k)
  have ec := Option.some.inj (e1.symm.trans A.1)
  subst ec
  have ha : a.isRef = true := by
    rcases ref_cases hv with rfl | ⟨y, rfl⟩
    · exact h4.2
    · exact h4.2
  rw [e3, gotT (eq_R h1 h2 ha hv) h]
def own_KL (h h' : Heap) (ls : List Loc) : Prop := h.size ≤ h'.size ∧ ∀ (x : Addr) (c : Cell), h[x]? = some c → ∃ c' : Cell, h'[x]? = some c' ∧ c'.cls = c.cls ∧ c'.vm = c.vm ∧ c'.slots.size = c.slots.size ∧ ((∀ y ∈ ls, y.base ≠ x) → c' = c) ∧ ∀ i, (⟨x, i⟩ : Loc) ∉ ls → c'.slots[i]? = c.slots[i]?
section OwnKL
variable {Z : State} {h0 h h' : Heap} {ls ls' : List Loc} {a b x : Addr} {i j sl n0 : Nat} {v : Value} {C n d : String}
theorem own_kl0 (h : Heap) (ls : List Loc) : own_KL h h ls := ⟨Nat.le_refl _, fun x c q => ⟨c, q, rfl, rfl, rfl, fun _ => rfl, fun _ _ => rfl⟩⟩
theorem own_klE (K : own_KL h0 h ls) (E : Ext h h') : own_KL h0 h' ls := ⟨Nat.le_trans K.1 E.1, fun x c q => by obtain ⟨c', q', r⟩ := K.2 x c q; exact ⟨c', E.2 x c' q', r⟩⟩
theorem own_klT (K : own_KL h0 h ls) (K' : own_KL h h' ls') (q : ∀ y ∈ ls', y ∈ ls ∨ h0.size ≤ y.base) : own_KL h0 h' ls := by
  refine ⟨Nat.le_trans K.1 K'.1, fun x c hc => ?_⟩
  obtain ⟨c1, a1, a2, a3, a4, a5, a6⟩ := K.2 x c hc
  obtain ⟨c2, b1, b2, b3, b4, b5, b6⟩ := K'.2 x c1 a1
  have hx : x < h0.size := (Array.getElem?_eq_some_iff.mp hc).1
  refine ⟨c2, b1, b2.trans a2, b3.trans a3, b4.trans a4, fun hn => ?_, fun i hi => ?_⟩
  · rw [← a5 hn]; exact b5 fun y hy e => (q y hy).elim (fun z => hn y z e) (fun z => absurd hx (Nat.not_lt.mpr (e ▸ z)))
  · rw [← a6 i hi]; exact b6 i fun z => (q _ z).elim hi (fun u => absurd hx (Nat.not_lt.mpr u))
theorem own_klofW (W : Wr h h' a sl v) : own_KL h h' [⟨a, sl⟩] := by
  refine ⟨Nat.le_of_eq W.size.symm, fun x c hc => ?_⟩
  obtain ⟨c', e1, e2, e3, e4, e5, e6, -⟩ := wr_at W hc
  refine ⟨c', e1, e2, e3, e4, fun hn => e5 fun q => hn _ (List.mem_singleton.mpr rfl) q.symm, fun i hi => ?_⟩
  by_cases q : x = a
  · exact e6 i fun r => hi (by rw [q, r]; exact List.mem_singleton.mpr rfl)
  · rw [e5 q]
theorem own_klW (K : own_KL h0 h ls) (W : Wr h h' a sl v) (q : (⟨a, sl⟩ : Loc) ∈ ls ∨ h0.size ≤ a) : own_KL h0 h' ls := own_klT K (own_klofW W) fun y hy => by cases List.mem_singleton.mp hy; exact q
theorem own_ka0 : ∀ y ∈ ([] : List Loc), y ∈ ls ∨ n0 ≤ y.base := fun _ q => nomatch q
theorem own_kac (q : (⟨a, sl⟩ : Loc) ∈ ls ∨ n0 ≤ a) (r : ∀ y ∈ ls', y ∈ ls ∨ n0 ≤ y.base) : ∀ y ∈ (⟨a, sl⟩ : Loc) :: ls', y ∈ ls ∨ n0 ≤ y.base := fun y z => (List.mem_cons.mp z).elim (fun u => u ▸ q) (r y)
theorem own_ng0 : ∀ y ∈ ([] : List Loc), n0 ≤ y.base := fun _ q => nomatch q
theorem own_ngc (q : n0 ≤ a) (r : ∀ y ∈ ls', n0 ≤ y.base) : ∀ y ∈ (⟨a, sl⟩ : Loc) :: ls', n0 ≤ y.base := fun y z => (List.mem_cons.mp z).elim (fun u => u ▸ q) (r y)
theorem own_nb0 : ∀ y ∈ ([] : List Loc), y.base ≠ a := fun _ q => nomatch q
theorem own_nbc (q : b ≠ a) (r : ∀ y ∈ ls', y.base ≠ a) : ∀ y ∈ (⟨b, sl⟩ : Loc) :: ls', y.base ≠ a := fun y z => (List.mem_cons.mp z).elim (fun u => u ▸ q) (r y)
theorem own_nl0 : (⟨a, i⟩ : Loc) ∉ ([] : List Loc) := fun q => nomatch q
theorem own_nlb (q : a ≠ b) (r : (⟨a, i⟩ : Loc) ∉ ls) : (⟨a, i⟩ : Loc) ∉ (⟨b, j⟩ : Loc) :: ls := fun z => (List.mem_cons.mp z).elim (fun u => q (congrArg Loc.base u)) r
theorem own_nls (q : i ≠ j) (r : (⟨a, i⟩ : Loc) ∉ ls) : (⟨a, i⟩ : Loc) ∉ (⟨b, j⟩ : Loc) :: ls := fun z => (List.mem_cons.mp z).elim (fun u => q (congrArg Loc.slot u)) r
theorem own_exa (F : Exa Z h a C) (K : own_KL h h' ls) : Exa Z h' a C := by
  obtain ⟨cell, k, h1, h2, h3, h4, h5⟩ := F
  obtain ⟨c', e1, e2, e3, e4, -⟩ := K.2 _ _ h1
  exact ⟨c', k, e1, by rw [e2]; exact h2, by rw [e2]; exact h3, by rw [e3]; exact h4, by rw [e4]; exact h5⟩
theorem own_fld (F : Fld Z h a C n d v) (K : own_KL h h' ls) (q : (⟨a, Jvm.RoadKit.slotOf Z C n d⟩ : Loc) ∉ ls) : Fld Z h' a C n d v := by
  obtain ⟨cell, cf, k, i, f, h1, h2, h3, h4, h5, h6, h7⟩ := F
  obtain ⟨c', e1, e2, e3, e4, -, e6⟩ := K.2 _ _ h1
  refine ⟨c', cf, k, i, f, e1, h2, h3, by rw [e3]; exact h4, by rw [e3]; exact h5, by rw [e2]; exact h6, ?_⟩
  rw [e6 _ (by simpa [Jvm.RoadKit.slotOf, h2] using q)]; exact h7
theorem own_arv {k : ClassId} {ty : FieldType} {z : Int32} {vs : List Value} {dv : Value} (F : Arv Z h a k ty z vs dv) (K : own_KL h h' ls) (q : ∀ y ∈ ls, y.base ≠ a) : Arv Z h' a k ty z vs dv := by
  obtain ⟨c, A, r⟩ := F
  obtain ⟨c', e1, -, -, -, e5, -⟩ := K.2 _ _ A.1
  cases e5 q
  exact ⟨c, ⟨e1, A.2⟩, r⟩
theorem own_old (O : Old Z n0 h) (K : own_KL h h' ls) (q : ∀ y ∈ ls, n0 ≤ y.base) : Old Z n0 h' := ⟨O.1, Nat.le_trans O.2.1 K.1, fun x c r => by
  obtain ⟨c', e1, -, -, -, e5, -⟩ := K.2 x c (O.2.2 x c r)
  have hx : x < n0 := O.1 ▸ (Array.getElem?_eq_some_iff.mp r).1
  rw [e1, e5 fun y hy e => absurd hx (Nat.not_lt.mpr (e ▸ q y hy))]⟩
end OwnKL
theorem own_NSroot {Z : State} {a0 : Array Value} {O K : String} {n : Nat} (w : (Cond.noSuperclass O).before a0 Z = true) (wk : (Cond.instantiable K n).before a0 Z = true) (hn : O ≠ K) : NS Z O K := by
  obtain ⟨c, k, h1, h2, h3, -, -⟩ := Cond.noSuperclass_spec w
  obtain ⟨t, -, g1, -⟩ := Cond.instantiable_spec wk
  have ne := ids_ne h1 g1 hn
  refine ⟨c, t, h1, g1, fun fuel => ?_⟩
  cases fuel with
  | zero => rfl
  | succ f => simp [Vm.isSubclassAux, ne, h2, h3]
theorem own_NSno {Z : State} {a0 : Array Value} {C S K : String} {n : Nat} (w : (Cond.superclass C S).before a0 Z = true) (wk : (Cond.instantiable K n).before a0 Z = true) (u : NS Z C K) (hn : C ≠ K) : ∃ c t, Z.vm.findClass C = some c ∧ Z.vm.findClass K = some t ∧ Z.vm.assignable c t = false := by
  obtain ⟨c, t, h0, g0, n3⟩ := u
  obtain ⟨p, k, kp, h1, h2, h3, h4, h5, -, h7⟩ := Cond.superclass_spec h0 w
  obtain ⟨t', k', g1, g2, g5, g7, -⟩ := Cond.instantiable_spec wk
  cases g0.symm.trans g1
  have ne := ids_ne h0 g0 hn
  have g8 : k'.isInterface = false := by cases hI : k'.isInterface <;> simp [hI] at g7 ⊢
  refine ⟨c, t, h0, g0, ?_⟩
  show Z.vm.assignableAux (255 + 1) c t = false
  simp [Vm.assignableAux, ne, h2, g2, h5, g5, g8, Vm.isSubclass, n3]
theorem own_boxI {Z : State} {args : Array Value} {t : Term} {a : Addr} {c : Cell} {K : String} {z : Int32} (et : ∀ idx, t.eval args Z none idx Z = some (.ref a)) (A : Arr Z Z.heap a c (.object K)) (q : c.slots.size.toInt32 = z ∧ c.slots.size < 2 ^ 31) (hz : ¬ z < 0)
    (h : (Cond.all t (.and (.exactly (.elem t (.index 0)) K) (.eq (.field (.elem t (.index 0)) K "value" "I") (.sub (.index 0) (.int 128))))).value args Z none Z [] = some true) : Bxs Z a c K "I" z (fun j => .int (j - 128)) :=
  Bxs.start et A q.2 q.1 hz h fun X j nn hh => eqv_i (by simp [Term.eval, idx_at nn, (back32 nn).1]) hh
theorem own_boxJ {Z : State} {args : Array Value} {t : Term} {a : Addr} {c : Cell} {K : String} {z : Int32} (et : ∀ idx, t.eval args Z none idx Z = some (.ref a)) (A : Arr Z Z.heap a c (.object K)) (q : c.slots.size.toInt32 = z ∧ c.slots.size < 2 ^ 31) (hz : ¬ z < 0)
    (h : (Cond.all t (.and (.exactly (.elem t (.index 0)) K) (.eq (.field (.elem t (.index 0)) K "value" "J") (.op1 .i2l (.sub (.index 0) (.int 128)))))).value args Z none Z [] = some true) : Bxs Z a c K "J" z (fun j => .long (j - 128).toInt64) :=
  Bxs.start et A q.2 q.1 hz h fun X j nn hh => eqv_l (i2l_at (by simp [Term.eval, idx_at nn, (back32 nn).1])) hh
theorem own_staI {s : State} {args : Array Value} {C n d : String} {k : Int32} (h : (Cond.eq (Term.static C n d) (Term.int k)).value args s none s [] = some true) : (Term.static C n d).eval args s none [] s = some (.int k) := eqv_i (Term.int_eval k) h
theorem own_selp {Z : State} {a0 : Array Value} {y : MethodName} {n : Nat} (wi : (Cond.instantiable y.cls n).before a0 Z = true) (wp : (Cond.privateMethod y).before a0 Z = true) (wm : (Cond.instanceMethod y).before a0 Z = true) (hy : y.cls ≠ "java/lang/invoke/MethodHandle" ∧ y.cls ≠ "java/lang/invoke/VarHandle") : (Cond.selects y.cls y y).before a0 Z = true := by
  obtain ⟨c, k, h1, h2, -, h4, -⟩ := Cond.instantiable_spec wi
  exact selects_self_of_private h1 h2 (by cases hI : k.isInterface <;> simp [hI] at h4 ⊢) (Cond.privateMethod_at wp) wm hy
def own_Gk (Z : State) (h : Heap) (a : Addr) (k : ClassId) (ty : FieldType) (n j : Int32) (v : Value) : Prop := ∃ c : Cell, Arr Z h a c ty ∧ c.cls = k ∧ c.slots.size = n.toNatClampNeg ∧ ¬ n < 0 ∧ c.slots[j.toNatClampNeg]? = some v
section OwnGk
variable {Z : State} {h h' : Heap} {ls : List Loc} {a b : Addr} {k : ClassId} {ty : FieldType} {n j : Int32} {v u : Value} {sl : Nat}
theorem own_Gk.lt (F : own_Gk Z h a k ty n j v) : a < h.size := by obtain ⟨c, A, -⟩ := F; exact A.lt
theorem own_gk_ext (F : own_Gk Z h a k ty n j v) (E : Ext h h') : own_Gk Z h' a k ty n j v := by obtain ⟨c, A, r⟩ := F; exact ⟨c, A.ext E, r⟩
theorem own_gk_oth (F : own_Gk Z h a k ty n j v) (W : Wr h h' b sl u) (q : a ≠ b) : own_Gk Z h' a k ty n j v := by obtain ⟨c, A, r⟩ := F; exact ⟨c, A.other W q, r⟩
theorem own_gk_kl (F : own_Gk Z h a k ty n j v) (K : own_KL h h' ls) (q : ∀ y ∈ ls, y.base ≠ a) : own_Gk Z h' a k ty n j v := by
  obtain ⟨c, A, r⟩ := F
  obtain ⟨c', e1, -, -, -, e5, -⟩ := K.2 _ _ A.1
  cases e5 q
  exact ⟨c, ⟨e1, A.2⟩, r⟩
theorem own_gk_set {c : Cell} (A : Arr Z h a c ty) (q1 : c.cls = k) (S : c.slots.size = n.toNatClampNeg) (N : ¬ n < 0) (W : Wr h h' a j.toNatClampNeg v) : own_Gk Z h' a k ty n j v := by
  obtain ⟨c', e1, e2, e3, e4, -, -, e7⟩ := wr_at W A.1
  have e8 := (e7 rfl).1
  exact ⟨_, A.same W, q1, by rw [sz_set]; exact S, N, by rw [← e8]; exact (e7 rfl).2.1⟩
end OwnGk
section OwnSteps
variable {p : Program} {l : Launch} {e : Env} {R : Room} {s : State} {m : MethodId} {args : Array Value} {below : List Frame} {meth : Method} {c : Code} {T target : State} {locs : List Loc} {cells slots : Nat} {code : ByteArray} {pc : Nat} {Ls : Array Slot} {K : List Value}
theorem sc (X : Stand p l e R s m args below meth c T locs cells slots) (hx : p.tables.exec = Jvm.exec) (hby : c.code = code) {i : Int} (hd : decode code pc = .ok (.iconst i, 1)) (hr : Steps p.tables e below (T.setTop (mkF m (pc + 1) Ls (.int (Int32.ofInt i) :: K))) target) : Steps p.tables e below (T.setTop (mkF m pc Ls K)) target := XS.iconst X.here hx rfl (hb hby hd) hr
theorem sa (X : Stand p l e R s m args below meth c T locs cells slots) (hx : p.tables.exec = Jvm.exec) (hby : c.code = code) {k : Nat} {v : Value} (hd : decode code pc = .ok (.aload k, 2)) (hl : Ls[k]? = some (.val v)) (hv : v.isRef = true) (hr : Steps p.tables e below (T.setTop (mkF m (pc + 2) Ls (v :: K))) target) : Steps p.tables e below (T.setTop (mkF m pc Ls K)) target := XS.aload X.here hx rfl (hb hby hd) hl hv hr
theorem sA (X : Stand p l e R s m args below meth c T locs cells slots) (hx : p.tables.exec = Jvm.exec) (hby : c.code = code) {k : Fin 4} {v : Value} (hd : decode code pc = .ok (.aload_n k, 1)) (hl : Ls[k.val]? = some (.val v)) (hv : v.isRef = true) (hr : Steps p.tables e below (T.setTop (mkF m (pc + 1) Ls (v :: K))) target) : Steps p.tables e below (T.setTop (mkF m pc Ls K)) target := XS.aloadN X.here hx rfl (hb hby hd) hl hv hr
theorem si (X : Stand p l e R s m args below meth c T locs cells slots) (hx : p.tables.exec = Jvm.exec) (hby : c.code = code) {k : Nat} {v : Int32} (hd : decode code pc = .ok (.iload k, 2)) (hl : Ls[k]? = some (.val (.int v))) (hr : Steps p.tables e below (T.setTop (mkF m (pc + 2) Ls (.int v :: K))) target) : Steps p.tables e below (T.setTop (mkF m pc Ls K)) target := XS.iload X.here hx rfl (hb hby hd) hl hr
theorem sI (X : Stand p l e R s m args below meth c T locs cells slots) (hx : p.tables.exec = Jvm.exec) (hby : c.code = code) {k : Fin 4} {v : Int32} (hd : decode code pc = .ok (.iload_n k, 1)) (hl : Ls[k.val]? = some (.val (.int v))) (hr : Steps p.tables e below (T.setTop (mkF m (pc + 1) Ls (.int v :: K))) target) : Steps p.tables e below (T.setTop (mkF m pc Ls K)) target := XS.iloadN X.here hx rfl (hb hby hd) hl hr
theorem sL (X : Stand p l e R s m args below meth c T locs cells slots) (hx : p.tables.exec = Jvm.exec) (hby : c.code = code) {k : Fin 4} {v : Int64} (hd : decode code pc = .ok (.lload_n k, 1)) (hl : Ls[k.val]? = some (.val (.long v))) (hr : Steps p.tables e below (T.setTop (mkF m (pc + 1) Ls (.long v :: K))) target) : Steps p.tables e below (T.setTop (mkF m pc Ls K)) target := XS.lloadN X.here hx rfl (hb hby hd) hl hr
theorem sg (X : Stand p l e R s m args below meth c T locs cells slots) (hx : p.tables.exec = Jvm.exec) (hby : c.code = code) {o : Int} {pc' : Nat} (hd : decode code pc = .ok (.goto o, 3)) (ho : 0 ≤ (pc : Int) + o) (hp : ((pc : Int) + o).toNat = pc') (hr : Steps p.tables e below (T.setTop (mkF m pc' Ls K)) target) : Steps p.tables e below (T.setTop (mkF m pc Ls K)) target := XS.goto X.here hx rfl rfl (hb hby hd) ho hp hr
theorem sn (X : Stand p l e R s m args below meth c T locs cells slots) (hx : p.tables.exec = Jvm.exec) (hby : c.code = code) {cd : ClassFile.Cond} {o : Int} {x y : Int32} (hd : decode code pc = .ok (.if_icmp cd o, 3)) (hc : if_icmp.holds cd x y = false) (hr : Steps p.tables e below (T.setTop (mkF m (pc + 3) Ls K)) target) : Steps p.tables e below (T.setTop (mkF m pc Ls (.int y :: .int x :: K))) target := XS.icmpNo X.here hx rfl (hb hby hd) rfl hc hr
theorem sN (X : Stand p l e R s m args below meth c T locs cells slots) (hx : p.tables.exec = Jvm.exec) (hby : c.code = code) {cd : ClassFile.Cond} {o : Int} {x : Int32} (hd : decode code pc = .ok (.ifCond cd o, 3)) (hc : ifCond.holds cd x = false) (hr : Steps p.tables e below (T.setTop (mkF m (pc + 3) Ls K)) target) : Steps p.tables e below (T.setTop (mkF m pc Ls (.int x :: K))) target := XS.ifNo X.here hx rfl (hb hby hd) rfl hc hr
end OwnSteps

theorem own_rem13 (x : Int32) : (x &&& 2147483647) % 13 = 0 ∨ (x &&& 2147483647) % 13 = 1 ∨ (x &&& 2147483647) % 13 = 2 ∨ (x &&& 2147483647) % 13 = 3 ∨ (x &&& 2147483647) % 13 = 4 ∨ (x &&& 2147483647) % 13 = 5 ∨ (x &&& 2147483647) % 13 = 6 ∨ (x &&& 2147483647) % 13 = 7 ∨ (x &&& 2147483647) % 13 = 8 ∨ (x &&& 2147483647) % 13 = 9 ∨ (x &&& 2147483647) % 13 = 10 ∨ (x &&& 2147483647) % 13 = 11 ∨ (x &&& 2147483647) % 13 = 12 := by
  have h : (x &&& 2147483647).toInt = x.toInt % 2147483648 := c_mask x 2147483647 31 (by decide) (by decide)
  have h2 : ((x &&& 2147483647) % 13).toInt = (x &&& 2147483647).toInt % 13 := by
    rw [Int32.toInt_mod, Int.tmod_eq_emod_of_nonneg (by rw [h]; omega)]; rfl
  have hr : ((x &&& 2147483647) % 13).toInt = 0 ∨ ((x &&& 2147483647) % 13).toInt = 1 ∨ ((x &&& 2147483647) % 13).toInt = 2 ∨ ((x &&& 2147483647) % 13).toInt = 3 ∨ ((x &&& 2147483647) % 13).toInt = 4 ∨ ((x &&& 2147483647) % 13).toInt = 5 ∨ ((x &&& 2147483647) % 13).toInt = 6 ∨ ((x &&& 2147483647) % 13).toInt = 7 ∨ ((x &&& 2147483647) % 13).toInt = 8 ∨ ((x &&& 2147483647) % 13).toInt = 9 ∨ ((x &&& 2147483647) % 13).toInt = 10 ∨ ((x &&& 2147483647) % 13).toInt = 11 ∨ ((x &&& 2147483647) % 13).toInt = 12 := by omega
  rcases hr with q | q | q | q | q | q | q | q | q | q | q | q | q
  · exact Or.inl (Int32.toInt_inj.mp q)
  · exact Or.inr (Or.inl (Int32.toInt_inj.mp q))
  · exact Or.inr (Or.inr (Or.inl (Int32.toInt_inj.mp q)))
  · exact Or.inr (Or.inr (Or.inr (Or.inl (Int32.toInt_inj.mp q))))
  · exact Or.inr (Or.inr (Or.inr (Or.inr (Or.inl (Int32.toInt_inj.mp q)))))
  · exact Or.inr (Or.inr (Or.inr (Or.inr (Or.inr (Or.inl (Int32.toInt_inj.mp q))))))
  · exact Or.inr (Or.inr (Or.inr (Or.inr (Or.inr (Or.inr (Or.inl (Int32.toInt_inj.mp q)))))))
  · exact Or.inr (Or.inr (Or.inr (Or.inr (Or.inr (Or.inr (Or.inr (Or.inl (Int32.toInt_inj.mp q))))))))
  · exact Or.inr (Or.inr (Or.inr (Or.inr (Or.inr (Or.inr (Or.inr (Or.inr (Or.inl (Int32.toInt_inj.mp q)))))))))
  · exact Or.inr (Or.inr (Or.inr (Or.inr (Or.inr (Or.inr (Or.inr (Or.inr (Or.inr (Or.inl (Int32.toInt_inj.mp q))))))))))
  · exact Or.inr (Or.inr (Or.inr (Or.inr (Or.inr (Or.inr (Or.inr (Or.inr (Or.inr (Or.inr (Or.inl (Int32.toInt_inj.mp q)))))))))))
  · exact Or.inr (Or.inr (Or.inr (Or.inr (Or.inr (Or.inr (Or.inr (Or.inr (Or.inr (Or.inr (Or.inr (Or.inl (Int32.toInt_inj.mp q))))))))))))
  · exact Or.inr (Or.inr (Or.inr (Or.inr (Or.inr (Or.inr (Or.inr (Or.inr (Or.inr (Or.inr (Or.inr (Or.inr (Int32.toInt_inj.mp q))))))))))))
abbrev ym0 : MethodName := ⟨"com/example/weftcheck/weftcheck/OperationKindBindsRowPinLaw", "kindAt", "(I)Lcom/example/weftcheck/weftcheck/OperationKind;"⟩
abbrev ym1 : MethodName := ⟨"com/example/weftcheck/weftcheck/OperationKind", "bindsRow", "()Z"⟩
theorem wk0 {Z : State} {a0 : Array Value} (hw : ∀ d ∈ tables_1, d.before a0 Z = true) : (Jvm.Cond.constant "com/example/weftcheck/weftcheck/OperationKindBindsRowPinLaw" (49 : Nat) (2147483647 : Int32)).before a0 Z = true := hw _ (List.mem_of_getElem? (i := 0) rfl)
theorem wk1 {Z : State} {a0 : Array Value} (hw : ∀ d ∈ tables_1, d.before a0 Z = true) : (Jvm.Cond.methodLink "com/example/weftcheck/weftcheck/OperationKindBindsRowPinLaw" (50 : Nat) ({ cls := "com/example/weftcheck/weftcheck/OperationKindBindsRowPinLaw", name := "kindAt", desc := "(I)Lcom/example/weftcheck/weftcheck/OperationKind;" } : Jvm.MethodName)).before a0 Z = true := hw _ (List.mem_of_getElem? (i := 1) rfl)
theorem wk2 {Z : State} {a0 : Array Value} (hw : ∀ d ∈ tables_1, d.before a0 Z = true) : (Jvm.Cond.static ({ cls := "com/example/weftcheck/weftcheck/OperationKindBindsRowPinLaw", name := "kindAt", desc := "(I)Lcom/example/weftcheck/weftcheck/OperationKind;" } : Jvm.MethodName)).before a0 Z = true := hw _ (List.mem_of_getElem? (i := 2) rfl)
theorem wk3 {Z : State} {a0 : Array Value} (hw : ∀ d ∈ tables_1, d.before a0 Z = true) : (Jvm.Cond.initialized "com/example/weftcheck/weftcheck/OperationKindBindsRowPinLaw").before a0 Z = true := hw _ (List.mem_of_getElem? (i := 3) rfl)
theorem wk4 {Z : State} {a0 : Array Value} (hw : ∀ d ∈ tables_1, d.before a0 Z = true) : (Jvm.Cond.code ({ cls := "com/example/weftcheck/weftcheck/OperationKindBindsRowPinLaw", name := "kindAt", desc := "(I)Lcom/example/weftcheck/weftcheck/OperationKind;" } : Jvm.MethodName) method_2_code (1 : Nat) (Option.some (Jvm.ClassFile.FieldType.object "com/example/weftcheck/weftcheck/OperationKind"))).before a0 Z = true := hw _ (List.mem_of_getElem? (i := 4) rfl)
theorem wk5 {Z : State} {a0 : Array Value} (hw : ∀ d ∈ tables_1, d.before a0 Z = true) : (Jvm.Cond.fieldLink "com/example/weftcheck/weftcheck/OperationKindBindsRowPinLaw" (7 : Nat) "com/example/weftcheck/weftcheck/OperationKind" "MAP" "Lcom/example/weftcheck/weftcheck/OperationKind;").before a0 Z = true := hw _ (List.mem_of_getElem? (i := 5) rfl)
theorem wk6 {Z : State} {a0 : Array Value} (hw : ∀ d ∈ tables_1, d.before a0 Z = true) : (Jvm.Cond.initialized "com/example/weftcheck/weftcheck/OperationKind").before a0 Z = true := hw _ (List.mem_of_getElem? (i := 6) rfl)
theorem wk7 {Z : State} {a0 : Array Value} (hw : ∀ d ∈ tables_1, d.before a0 Z = true) : (Jvm.Cond.laysStatic "com/example/weftcheck/weftcheck/OperationKind" "MAP" "Lcom/example/weftcheck/weftcheck/OperationKind;").before a0 Z = true := hw _ (List.mem_of_getElem? (i := 7) rfl)
theorem wk8 {Z : State} {a0 : Array Value} (hw : ∀ d ∈ tables_1, d.before a0 Z = true) : (Jvm.Cond.methodLink "com/example/weftcheck/weftcheck/OperationKindBindsRowPinLaw" (56 : Nat) ({ cls := "com/example/weftcheck/weftcheck/OperationKind", name := "bindsRow", desc := "()Z" } : Jvm.MethodName)).before a0 Z = true := hw _ (List.mem_of_getElem? (i := 8) rfl)
theorem wk9 {Z : State} {a0 : Array Value} (hw : ∀ d ∈ tables_1, d.before a0 Z = true) : (Jvm.Cond.declares ({ cls := "com/example/weftcheck/weftcheck/OperationKind", name := "bindsRow", desc := "()Z" } : Jvm.MethodName)).before a0 Z = true := hw _ (List.mem_of_getElem? (i := 9) rfl)
theorem wk10 {Z : State} {a0 : Array Value} (hw : ∀ d ∈ tables_1, d.before a0 Z = true) : (Jvm.Cond.instanceMethod ({ cls := "com/example/weftcheck/weftcheck/OperationKind", name := "bindsRow", desc := "()Z" } : Jvm.MethodName)).before a0 Z = true := hw _ (List.mem_of_getElem? (i := 10) rfl)
theorem wk11 {Z : State} {a0 : Array Value} (hw : ∀ d ∈ tables_1, d.before a0 Z = true) : (Jvm.Cond.selects "com/example/weftcheck/weftcheck/OperationKind" ({ cls := "com/example/weftcheck/weftcheck/OperationKind", name := "bindsRow", desc := "()Z" } : Jvm.MethodName) ({ cls := "com/example/weftcheck/weftcheck/OperationKind", name := "bindsRow", desc := "()Z" } : Jvm.MethodName)).before a0 Z = true := hw _ (List.mem_of_getElem? (i := 11) rfl)
theorem wk12 {Z : State} {a0 : Array Value} (hw : ∀ d ∈ tables_1, d.before a0 Z = true) : (Jvm.Cond.code ({ cls := "com/example/weftcheck/weftcheck/OperationKind", name := "bindsRow", desc := "()Z" } : Jvm.MethodName) prog_29_method_8_code (1 : Nat) (Option.some Jvm.ClassFile.FieldType.boolean)).before a0 Z = true := hw _ (List.mem_of_getElem? (i := 12) rfl)
theorem wk13 {Z : State} {a0 : Array Value} (hw : ∀ d ∈ tables_1, d.before a0 Z = true) : (Jvm.Cond.fieldLink "com/example/weftcheck/weftcheck/OperationKind" (3 : Nat) "com/example/weftcheck/weftcheck/OperationKind" "MAP" "Lcom/example/weftcheck/weftcheck/OperationKind;").before a0 Z = true := hw _ (List.mem_of_getElem? (i := 13) rfl)
theorem wk14 {Z : State} {a0 : Array Value} (hw : ∀ d ∈ tables_1, d.before a0 Z = true) : (Jvm.Cond.fieldLink "com/example/weftcheck/weftcheck/OperationKindBindsRowPinLaw" (19 : Nat) "com/example/weftcheck/weftcheck/OperationKind" "READ" "Lcom/example/weftcheck/weftcheck/OperationKind;").before a0 Z = true := hw _ (List.mem_of_getElem? (i := 14) rfl)
theorem wk15 {Z : State} {a0 : Array Value} (hw : ∀ d ∈ tables_1, d.before a0 Z = true) : (Jvm.Cond.laysStatic "com/example/weftcheck/weftcheck/OperationKind" "READ" "Lcom/example/weftcheck/weftcheck/OperationKind;").before a0 Z = true := hw _ (List.mem_of_getElem? (i := 15) rfl)
theorem wk16 {Z : State} {a0 : Array Value} (hw : ∀ d ∈ tables_1, d.before a0 Z = true) : (Jvm.Cond.fieldLink "com/example/weftcheck/weftcheck/OperationKind" (28 : Nat) "com/example/weftcheck/weftcheck/OperationKind" "PREDICATE_READ" "Lcom/example/weftcheck/weftcheck/OperationKind;").before a0 Z = true := hw _ (List.mem_of_getElem? (i := 16) rfl)
theorem wk17 {Z : State} {a0 : Array Value} (hw : ∀ d ∈ tables_1, d.before a0 Z = true) : (Jvm.Cond.laysStatic "com/example/weftcheck/weftcheck/OperationKind" "PREDICATE_READ" "Lcom/example/weftcheck/weftcheck/OperationKind;").before a0 Z = true := hw _ (List.mem_of_getElem? (i := 17) rfl)
theorem wk18 {Z : State} {a0 : Array Value} (hw : ∀ d ∈ tables_1, d.before a0 Z = true) : (Jvm.Cond.fieldLink "com/example/weftcheck/weftcheck/OperationKindBindsRowPinLaw" (28 : Nat) "com/example/weftcheck/weftcheck/OperationKind" "INSERT" "Lcom/example/weftcheck/weftcheck/OperationKind;").before a0 Z = true := hw _ (List.mem_of_getElem? (i := 18) rfl)
theorem wk19 {Z : State} {a0 : Array Value} (hw : ∀ d ∈ tables_1, d.before a0 Z = true) : (Jvm.Cond.laysStatic "com/example/weftcheck/weftcheck/OperationKind" "INSERT" "Lcom/example/weftcheck/weftcheck/OperationKind;").before a0 Z = true := hw _ (List.mem_of_getElem? (i := 19) rfl)
theorem wk20 {Z : State} {a0 : Array Value} (hw : ∀ d ∈ tables_1, d.before a0 Z = true) : (Jvm.Cond.fieldLink "com/example/weftcheck/weftcheck/OperationKindBindsRowPinLaw" (25 : Nat) "com/example/weftcheck/weftcheck/OperationKind" "READ_WRITE" "Lcom/example/weftcheck/weftcheck/OperationKind;").before a0 Z = true := hw _ (List.mem_of_getElem? (i := 20) rfl)
theorem wk21 {Z : State} {a0 : Array Value} (hw : ∀ d ∈ tables_1, d.before a0 Z = true) : (Jvm.Cond.laysStatic "com/example/weftcheck/weftcheck/OperationKind" "READ_WRITE" "Lcom/example/weftcheck/weftcheck/OperationKind;").before a0 Z = true := hw _ (List.mem_of_getElem? (i := 21) rfl)
theorem wk22 {Z : State} {a0 : Array Value} (hw : ∀ d ∈ tables_1, d.before a0 Z = true) : (Jvm.Cond.fieldLink "com/example/weftcheck/weftcheck/OperationKindBindsRowPinLaw" (31 : Nat) "com/example/weftcheck/weftcheck/OperationKind" "DELETE" "Lcom/example/weftcheck/weftcheck/OperationKind;").before a0 Z = true := hw _ (List.mem_of_getElem? (i := 22) rfl)
theorem wk23 {Z : State} {a0 : Array Value} (hw : ∀ d ∈ tables_1, d.before a0 Z = true) : (Jvm.Cond.laysStatic "com/example/weftcheck/weftcheck/OperationKind" "DELETE" "Lcom/example/weftcheck/weftcheck/OperationKind;").before a0 Z = true := hw _ (List.mem_of_getElem? (i := 23) rfl)
theorem wk24 {Z : State} {a0 : Array Value} (hw : ∀ d ∈ tables_1, d.before a0 Z = true) : (Jvm.Cond.fieldLink "com/example/weftcheck/weftcheck/OperationKindBindsRowPinLaw" (37 : Nat) "com/example/weftcheck/weftcheck/OperationKind" "SQL_STATEMENT" "Lcom/example/weftcheck/weftcheck/OperationKind;").before a0 Z = true := hw _ (List.mem_of_getElem? (i := 24) rfl)
theorem wk25 {Z : State} {a0 : Array Value} (hw : ∀ d ∈ tables_1, d.before a0 Z = true) : (Jvm.Cond.laysStatic "com/example/weftcheck/weftcheck/OperationKind" "SQL_STATEMENT" "Lcom/example/weftcheck/weftcheck/OperationKind;").before a0 Z = true := hw _ (List.mem_of_getElem? (i := 25) rfl)
theorem wk26 {Z : State} {a0 : Array Value} (hw : ∀ d ∈ tables_1, d.before a0 Z = true) : (Jvm.Cond.fieldLink "com/example/weftcheck/weftcheck/OperationKindBindsRowPinLaw" (16 : Nat) "com/example/weftcheck/weftcheck/OperationKind" "ISOLATION" "Lcom/example/weftcheck/weftcheck/OperationKind;").before a0 Z = true := hw _ (List.mem_of_getElem? (i := 26) rfl)
theorem wk27 {Z : State} {a0 : Array Value} (hw : ∀ d ∈ tables_1, d.before a0 Z = true) : (Jvm.Cond.laysStatic "com/example/weftcheck/weftcheck/OperationKind" "ISOLATION" "Lcom/example/weftcheck/weftcheck/OperationKind;").before a0 Z = true := hw _ (List.mem_of_getElem? (i := 27) rfl)
theorem wk28 {Z : State} {a0 : Array Value} (hw : ∀ d ∈ tables_1, d.before a0 Z = true) : (Jvm.Cond.fieldLink "com/example/weftcheck/weftcheck/OperationKindBindsRowPinLaw" (43 : Nat) "com/example/weftcheck/weftcheck/OperationKind" "COMMIT" "Lcom/example/weftcheck/weftcheck/OperationKind;").before a0 Z = true := hw _ (List.mem_of_getElem? (i := 28) rfl)
theorem wk29 {Z : State} {a0 : Array Value} (hw : ∀ d ∈ tables_1, d.before a0 Z = true) : (Jvm.Cond.laysStatic "com/example/weftcheck/weftcheck/OperationKind" "COMMIT" "Lcom/example/weftcheck/weftcheck/OperationKind;").before a0 Z = true := hw _ (List.mem_of_getElem? (i := 29) rfl)
theorem wk30 {Z : State} {a0 : Array Value} (hw : ∀ d ∈ tables_1, d.before a0 Z = true) : (Jvm.Cond.fieldLink "com/example/weftcheck/weftcheck/OperationKindBindsRowPinLaw" (13 : Nat) "com/example/weftcheck/weftcheck/OperationKind" "PREDICATE" "Lcom/example/weftcheck/weftcheck/OperationKind;").before a0 Z = true := hw _ (List.mem_of_getElem? (i := 30) rfl)
theorem wk31 {Z : State} {a0 : Array Value} (hw : ∀ d ∈ tables_1, d.before a0 Z = true) : (Jvm.Cond.laysStatic "com/example/weftcheck/weftcheck/OperationKind" "PREDICATE" "Lcom/example/weftcheck/weftcheck/OperationKind;").before a0 Z = true := hw _ (List.mem_of_getElem? (i := 31) rfl)
theorem wk32 {Z : State} {a0 : Array Value} (hw : ∀ d ∈ tables_1, d.before a0 Z = true) : (Jvm.Cond.fieldLink "com/example/weftcheck/weftcheck/OperationKindBindsRowPinLaw" (34 : Nat) "com/example/weftcheck/weftcheck/OperationKind" "PREDICATE_READ" "Lcom/example/weftcheck/weftcheck/OperationKind;").before a0 Z = true := hw _ (List.mem_of_getElem? (i := 32) rfl)
theorem wk33 {Z : State} {a0 : Array Value} (hw : ∀ d ∈ tables_1, d.before a0 Z = true) : (Jvm.Cond.fieldLink "com/example/weftcheck/weftcheck/OperationKindBindsRowPinLaw" (40 : Nat) "com/example/weftcheck/weftcheck/OperationKind" "SQL_QUERY" "Lcom/example/weftcheck/weftcheck/OperationKind;").before a0 Z = true := hw _ (List.mem_of_getElem? (i := 33) rfl)
theorem wk34 {Z : State} {a0 : Array Value} (hw : ∀ d ∈ tables_1, d.before a0 Z = true) : (Jvm.Cond.laysStatic "com/example/weftcheck/weftcheck/OperationKind" "SQL_QUERY" "Lcom/example/weftcheck/weftcheck/OperationKind;").before a0 Z = true := hw _ (List.mem_of_getElem? (i := 34) rfl)
theorem wk35 {Z : State} {a0 : Array Value} (hw : ∀ d ∈ tables_1, d.before a0 Z = true) : (Jvm.Cond.fieldLink "com/example/weftcheck/weftcheck/OperationKindBindsRowPinLaw" (46 : Nat) "com/example/weftcheck/weftcheck/OperationKind" "ABORT" "Lcom/example/weftcheck/weftcheck/OperationKind;").before a0 Z = true := hw _ (List.mem_of_getElem? (i := 35) rfl)
theorem wk36 {Z : State} {a0 : Array Value} (hw : ∀ d ∈ tables_1, d.before a0 Z = true) : (Jvm.Cond.laysStatic "com/example/weftcheck/weftcheck/OperationKind" "ABORT" "Lcom/example/weftcheck/weftcheck/OperationKind;").before a0 Z = true := hw _ (List.mem_of_getElem? (i := 36) rfl)
theorem wk37 {Z : State} {a0 : Array Value} (hw : ∀ d ∈ tables_1, d.before a0 Z = true) : (Jvm.Cond.fieldLink "com/example/weftcheck/weftcheck/OperationKindBindsRowPinLaw" (22 : Nat) "com/example/weftcheck/weftcheck/OperationKind" "WRITE" "Lcom/example/weftcheck/weftcheck/OperationKind;").before a0 Z = true := hw _ (List.mem_of_getElem? (i := 37) rfl)
theorem wk38 {Z : State} {a0 : Array Value} (hw : ∀ d ∈ tables_1, d.before a0 Z = true) : (Jvm.Cond.laysStatic "com/example/weftcheck/weftcheck/OperationKind" "WRITE" "Lcom/example/weftcheck/weftcheck/OperationKind;").before a0 Z = true := hw _ (List.mem_of_getElem? (i := 38) rfl)
def Wd (Z : State) (w : Nat → Addr) : Prop := Sta Z Z.heap "com/example/weftcheck/weftcheck/OperationKind" "MAP" "Lcom/example/weftcheck/weftcheck/OperationKind;" (.ref (w 0)) ∧ Exa Z Z.heap (w 0) "com/example/weftcheck/weftcheck/OperationKind" ∧ Sta Z Z.heap "com/example/weftcheck/weftcheck/OperationKind" "READ" "Lcom/example/weftcheck/weftcheck/OperationKind;" (.ref (w 1)) ∧ Exa Z Z.heap (w 1) "com/example/weftcheck/weftcheck/OperationKind" ∧ Sta Z Z.heap "com/example/weftcheck/weftcheck/OperationKind" "PREDICATE_READ" "Lcom/example/weftcheck/weftcheck/OperationKind;" (.ref (w 2)) ∧ Exa Z Z.heap (w 2) "com/example/weftcheck/weftcheck/OperationKind" ∧ Sta Z Z.heap "com/example/weftcheck/weftcheck/OperationKind" "INSERT" "Lcom/example/weftcheck/weftcheck/OperationKind;" (.ref (w 3)) ∧ Exa Z Z.heap (w 3) "com/example/weftcheck/weftcheck/OperationKind" ∧ Sta Z Z.heap "com/example/weftcheck/weftcheck/OperationKind" "READ_WRITE" "Lcom/example/weftcheck/weftcheck/OperationKind;" (.ref (w 4)) ∧ Exa Z Z.heap (w 4) "com/example/weftcheck/weftcheck/OperationKind" ∧ Sta Z Z.heap "com/example/weftcheck/weftcheck/OperationKind" "DELETE" "Lcom/example/weftcheck/weftcheck/OperationKind;" (.ref (w 5)) ∧ Exa Z Z.heap (w 5) "com/example/weftcheck/weftcheck/OperationKind" ∧ Sta Z Z.heap "com/example/weftcheck/weftcheck/OperationKind" "SQL_STATEMENT" "Lcom/example/weftcheck/weftcheck/OperationKind;" (.ref (w 6)) ∧ Exa Z Z.heap (w 6) "com/example/weftcheck/weftcheck/OperationKind" ∧ Sta Z Z.heap "com/example/weftcheck/weftcheck/OperationKind" "ISOLATION" "Lcom/example/weftcheck/weftcheck/OperationKind;" (.ref (w 7)) ∧ Exa Z Z.heap (w 7) "com/example/weftcheck/weftcheck/OperationKind" ∧ Sta Z Z.heap "com/example/weftcheck/weftcheck/OperationKind" "COMMIT" "Lcom/example/weftcheck/weftcheck/OperationKind;" (.ref (w 8)) ∧ Exa Z Z.heap (w 8) "com/example/weftcheck/weftcheck/OperationKind" ∧ Sta Z Z.heap "com/example/weftcheck/weftcheck/OperationKind" "PREDICATE" "Lcom/example/weftcheck/weftcheck/OperationKind;" (.ref (w 9)) ∧ Exa Z Z.heap (w 9) "com/example/weftcheck/weftcheck/OperationKind" ∧ Sta Z Z.heap "com/example/weftcheck/weftcheck/OperationKind" "SQL_QUERY" "Lcom/example/weftcheck/weftcheck/OperationKind;" (.ref (w 10)) ∧ Exa Z Z.heap (w 10) "com/example/weftcheck/weftcheck/OperationKind" ∧ Sta Z Z.heap "com/example/weftcheck/weftcheck/OperationKind" "ABORT" "Lcom/example/weftcheck/weftcheck/OperationKind;" (.ref (w 11)) ∧ Exa Z Z.heap (w 11) "com/example/weftcheck/weftcheck/OperationKind" ∧ Sta Z Z.heap "com/example/weftcheck/weftcheck/OperationKind" "WRITE" "Lcom/example/weftcheck/weftcheck/OperationKind;" (.ref (w 12)) ∧ Exa Z Z.heap (w 12) "com/example/weftcheck/weftcheck/OperationKind" ∧ Fld Z Z.heap (w 1) "java/lang/Enum" "ordinal" "I" (.int (3 : Int32)) ∧ Fld Z Z.heap (w 0) "java/lang/Enum" "ordinal" "I" (.int (0 : Int32)) ∧ Fld Z Z.heap (w 2) "java/lang/Enum" "ordinal" "I" (.int (8 : Int32)) ∧ Fld Z Z.heap (w 3) "java/lang/Enum" "ordinal" "I" (.int (6 : Int32)) ∧ Fld Z Z.heap (w 4) "java/lang/Enum" "ordinal" "I" (.int (5 : Int32)) ∧ Fld Z Z.heap (w 5) "java/lang/Enum" "ordinal" "I" (.int (7 : Int32)) ∧ Fld Z Z.heap (w 6) "java/lang/Enum" "ordinal" "I" (.int (9 : Int32)) ∧ Fld Z Z.heap (w 7) "java/lang/Enum" "ordinal" "I" (.int (2 : Int32)) ∧ Fld Z Z.heap (w 8) "java/lang/Enum" "ordinal" "I" (.int (11 : Int32)) ∧ Fld Z Z.heap (w 9) "java/lang/Enum" "ordinal" "I" (.int (1 : Int32)) ∧ Fld Z Z.heap (w 10) "java/lang/Enum" "ordinal" "I" (.int (10 : Int32)) ∧ Fld Z Z.heap (w 11) "java/lang/Enum" "ordinal" "I" (.int (12 : Int32)) ∧ Fld Z Z.heap (w 12) "java/lang/Enum" "ordinal" "I" (.int (4 : Int32)) ∧ True
theorem wd0 {Z : State} {w : Nat → Addr} (hW : Wd Z w) : Sta Z Z.heap "com/example/weftcheck/weftcheck/OperationKind" "MAP" "Lcom/example/weftcheck/weftcheck/OperationKind;" (.ref (w 0)) := hW.1
theorem wd1 {Z : State} {w : Nat → Addr} (hW : Wd Z w) : Exa Z Z.heap (w 0) "com/example/weftcheck/weftcheck/OperationKind" := hW.2.1
theorem wd2 {Z : State} {w : Nat → Addr} (hW : Wd Z w) : Sta Z Z.heap "com/example/weftcheck/weftcheck/OperationKind" "READ" "Lcom/example/weftcheck/weftcheck/OperationKind;" (.ref (w 1)) := hW.2.2.1
theorem wd3 {Z : State} {w : Nat → Addr} (hW : Wd Z w) : Exa Z Z.heap (w 1) "com/example/weftcheck/weftcheck/OperationKind" := hW.2.2.2.1
theorem wd4 {Z : State} {w : Nat → Addr} (hW : Wd Z w) : Sta Z Z.heap "com/example/weftcheck/weftcheck/OperationKind" "PREDICATE_READ" "Lcom/example/weftcheck/weftcheck/OperationKind;" (.ref (w 2)) := hW.2.2.2.2.1
theorem wd5 {Z : State} {w : Nat → Addr} (hW : Wd Z w) : Exa Z Z.heap (w 2) "com/example/weftcheck/weftcheck/OperationKind" := hW.2.2.2.2.2.1
theorem wd6 {Z : State} {w : Nat → Addr} (hW : Wd Z w) : Sta Z Z.heap "com/example/weftcheck/weftcheck/OperationKind" "INSERT" "Lcom/example/weftcheck/weftcheck/OperationKind;" (.ref (w 3)) := hW.2.2.2.2.2.2.1
theorem wd7 {Z : State} {w : Nat → Addr} (hW : Wd Z w) : Exa Z Z.heap (w 3) "com/example/weftcheck/weftcheck/OperationKind" := hW.2.2.2.2.2.2.2.1
theorem wd8 {Z : State} {w : Nat → Addr} (hW : Wd Z w) : Sta Z Z.heap "com/example/weftcheck/weftcheck/OperationKind" "READ_WRITE" "Lcom/example/weftcheck/weftcheck/OperationKind;" (.ref (w 4)) := hW.2.2.2.2.2.2.2.2.1
theorem wd9 {Z : State} {w : Nat → Addr} (hW : Wd Z w) : Exa Z Z.heap (w 4) "com/example/weftcheck/weftcheck/OperationKind" := hW.2.2.2.2.2.2.2.2.2.1
theorem wd10 {Z : State} {w : Nat → Addr} (hW : Wd Z w) : Sta Z Z.heap "com/example/weftcheck/weftcheck/OperationKind" "DELETE" "Lcom/example/weftcheck/weftcheck/OperationKind;" (.ref (w 5)) := hW.2.2.2.2.2.2.2.2.2.2.1
theorem wd11 {Z : State} {w : Nat → Addr} (hW : Wd Z w) : Exa Z Z.heap (w 5) "com/example/weftcheck/weftcheck/OperationKind" := hW.2.2.2.2.2.2.2.2.2.2.2.1
theorem wd12 {Z : State} {w : Nat → Addr} (hW : Wd Z w) : Sta Z Z.heap "com/example/weftcheck/weftcheck/OperationKind" "SQL_STATEMENT" "Lcom/example/weftcheck/weftcheck/OperationKind;" (.ref (w 6)) := hW.2.2.2.2.2.2.2.2.2.2.2.2.1
theorem wd13 {Z : State} {w : Nat → Addr} (hW : Wd Z w) : Exa Z Z.heap (w 6) "com/example/weftcheck/weftcheck/OperationKind" := hW.2.2.2.2.2.2.2.2.2.2.2.2.2.1
theorem wd14 {Z : State} {w : Nat → Addr} (hW : Wd Z w) : Sta Z Z.heap "com/example/weftcheck/weftcheck/OperationKind" "ISOLATION" "Lcom/example/weftcheck/weftcheck/OperationKind;" (.ref (w 7)) := hW.2.2.2.2.2.2.2.2.2.2.2.2.2.2.1
theorem wd15 {Z : State} {w : Nat → Addr} (hW : Wd Z w) : Exa Z Z.heap (w 7) "com/example/weftcheck/weftcheck/OperationKind" := hW.2.2.2.2.2.2.2.2.2.2.2.2.2.2.2.1
theorem wd16 {Z : State} {w : Nat → Addr} (hW : Wd Z w) : Sta Z Z.heap "com/example/weftcheck/weftcheck/OperationKind" "COMMIT" "Lcom/example/weftcheck/weftcheck/OperationKind;" (.ref (w 8)) := hW.2.2.2.2.2.2.2.2.2.2.2.2.2.2.2.2.1
theorem wd17 {Z : State} {w : Nat → Addr} (hW : Wd Z w) : Exa Z Z.heap (w 8) "com/example/weftcheck/weftcheck/OperationKind" := hW.2.2.2.2.2.2.2.2.2.2.2.2.2.2.2.2.2.1
theorem wd18 {Z : State} {w : Nat → Addr} (hW : Wd Z w) : Sta Z Z.heap "com/example/weftcheck/weftcheck/OperationKind" "PREDICATE" "Lcom/example/weftcheck/weftcheck/OperationKind;" (.ref (w 9)) := hW.2.2.2.2.2.2.2.2.2.2.2.2.2.2.2.2.2.2.1
theorem wd19 {Z : State} {w : Nat → Addr} (hW : Wd Z w) : Exa Z Z.heap (w 9) "com/example/weftcheck/weftcheck/OperationKind" := hW.2.2.2.2.2.2.2.2.2.2.2.2.2.2.2.2.2.2.2.1
theorem wd20 {Z : State} {w : Nat → Addr} (hW : Wd Z w) : Sta Z Z.heap "com/example/weftcheck/weftcheck/OperationKind" "SQL_QUERY" "Lcom/example/weftcheck/weftcheck/OperationKind;" (.ref (w 10)) := hW.2.2.2.2.2.2.2.2.2.2.2.2.2.2.2.2.2.2.2.2.1
theorem wd21 {Z : State} {w : Nat → Addr} (hW : Wd Z w) : Exa Z Z.heap (w 10) "com/example/weftcheck/weftcheck/OperationKind" := hW.2.2.2.2.2.2.2.2.2.2.2.2.2.2.2.2.2.2.2.2.2.1
theorem wd22 {Z : State} {w : Nat → Addr} (hW : Wd Z w) : Sta Z Z.heap "com/example/weftcheck/weftcheck/OperationKind" "ABORT" "Lcom/example/weftcheck/weftcheck/OperationKind;" (.ref (w 11)) := hW.2.2.2.2.2.2.2.2.2.2.2.2.2.2.2.2.2.2.2.2.2.2.1
theorem wd23 {Z : State} {w : Nat → Addr} (hW : Wd Z w) : Exa Z Z.heap (w 11) "com/example/weftcheck/weftcheck/OperationKind" := hW.2.2.2.2.2.2.2.2.2.2.2.2.2.2.2.2.2.2.2.2.2.2.2.1
theorem wd24 {Z : State} {w : Nat → Addr} (hW : Wd Z w) : Sta Z Z.heap "com/example/weftcheck/weftcheck/OperationKind" "WRITE" "Lcom/example/weftcheck/weftcheck/OperationKind;" (.ref (w 12)) := hW.2.2.2.2.2.2.2.2.2.2.2.2.2.2.2.2.2.2.2.2.2.2.2.2.1
theorem wd25 {Z : State} {w : Nat → Addr} (hW : Wd Z w) : Exa Z Z.heap (w 12) "com/example/weftcheck/weftcheck/OperationKind" := hW.2.2.2.2.2.2.2.2.2.2.2.2.2.2.2.2.2.2.2.2.2.2.2.2.2.1
theorem wd26 {Z : State} {w : Nat → Addr} (hW : Wd Z w) : Fld Z Z.heap (w 1) "java/lang/Enum" "ordinal" "I" (.int (3 : Int32)) := hW.2.2.2.2.2.2.2.2.2.2.2.2.2.2.2.2.2.2.2.2.2.2.2.2.2.2.1
theorem wd27 {Z : State} {w : Nat → Addr} (hW : Wd Z w) : Fld Z Z.heap (w 0) "java/lang/Enum" "ordinal" "I" (.int (0 : Int32)) := hW.2.2.2.2.2.2.2.2.2.2.2.2.2.2.2.2.2.2.2.2.2.2.2.2.2.2.2.1
theorem wd28 {Z : State} {w : Nat → Addr} (hW : Wd Z w) : Fld Z Z.heap (w 2) "java/lang/Enum" "ordinal" "I" (.int (8 : Int32)) := hW.2.2.2.2.2.2.2.2.2.2.2.2.2.2.2.2.2.2.2.2.2.2.2.2.2.2.2.2.1
theorem wd29 {Z : State} {w : Nat → Addr} (hW : Wd Z w) : Fld Z Z.heap (w 3) "java/lang/Enum" "ordinal" "I" (.int (6 : Int32)) := hW.2.2.2.2.2.2.2.2.2.2.2.2.2.2.2.2.2.2.2.2.2.2.2.2.2.2.2.2.2.1
theorem wd30 {Z : State} {w : Nat → Addr} (hW : Wd Z w) : Fld Z Z.heap (w 4) "java/lang/Enum" "ordinal" "I" (.int (5 : Int32)) := hW.2.2.2.2.2.2.2.2.2.2.2.2.2.2.2.2.2.2.2.2.2.2.2.2.2.2.2.2.2.2.1
theorem wd31 {Z : State} {w : Nat → Addr} (hW : Wd Z w) : Fld Z Z.heap (w 5) "java/lang/Enum" "ordinal" "I" (.int (7 : Int32)) := hW.2.2.2.2.2.2.2.2.2.2.2.2.2.2.2.2.2.2.2.2.2.2.2.2.2.2.2.2.2.2.2.1
theorem wd32 {Z : State} {w : Nat → Addr} (hW : Wd Z w) : Fld Z Z.heap (w 6) "java/lang/Enum" "ordinal" "I" (.int (9 : Int32)) := hW.2.2.2.2.2.2.2.2.2.2.2.2.2.2.2.2.2.2.2.2.2.2.2.2.2.2.2.2.2.2.2.2.1
theorem wd33 {Z : State} {w : Nat → Addr} (hW : Wd Z w) : Fld Z Z.heap (w 7) "java/lang/Enum" "ordinal" "I" (.int (2 : Int32)) := hW.2.2.2.2.2.2.2.2.2.2.2.2.2.2.2.2.2.2.2.2.2.2.2.2.2.2.2.2.2.2.2.2.2.1
theorem wd34 {Z : State} {w : Nat → Addr} (hW : Wd Z w) : Fld Z Z.heap (w 8) "java/lang/Enum" "ordinal" "I" (.int (11 : Int32)) := hW.2.2.2.2.2.2.2.2.2.2.2.2.2.2.2.2.2.2.2.2.2.2.2.2.2.2.2.2.2.2.2.2.2.2.1
theorem wd35 {Z : State} {w : Nat → Addr} (hW : Wd Z w) : Fld Z Z.heap (w 9) "java/lang/Enum" "ordinal" "I" (.int (1 : Int32)) := hW.2.2.2.2.2.2.2.2.2.2.2.2.2.2.2.2.2.2.2.2.2.2.2.2.2.2.2.2.2.2.2.2.2.2.2.1
theorem wd36 {Z : State} {w : Nat → Addr} (hW : Wd Z w) : Fld Z Z.heap (w 10) "java/lang/Enum" "ordinal" "I" (.int (10 : Int32)) := hW.2.2.2.2.2.2.2.2.2.2.2.2.2.2.2.2.2.2.2.2.2.2.2.2.2.2.2.2.2.2.2.2.2.2.2.2.1
theorem wd37 {Z : State} {w : Nat → Addr} (hW : Wd Z w) : Fld Z Z.heap (w 11) "java/lang/Enum" "ordinal" "I" (.int (12 : Int32)) := hW.2.2.2.2.2.2.2.2.2.2.2.2.2.2.2.2.2.2.2.2.2.2.2.2.2.2.2.2.2.2.2.2.2.2.2.2.2.1
theorem wd38 {Z : State} {w : Nat → Addr} (hW : Wd Z w) : Fld Z Z.heap (w 12) "java/lang/Enum" "ordinal" "I" (.int (4 : Int32)) := hW.2.2.2.2.2.2.2.2.2.2.2.2.2.2.2.2.2.2.2.2.2.2.2.2.2.2.2.2.2.2.2.2.2.2.2.2.2.2.1
theorem d1_0 : decode method_2_code 0 = .ok (.iload_n 0, 1) := by decide +kernel
theorem d1_1 : decode method_2_code 1 = .ok (.ifCond .ne 7, 3) := by decide +kernel
theorem d1_4 : decode method_2_code 4 = .ok (.getstatic 7, 3) := by decide +kernel
theorem d1_7 : decode method_2_code 7 = .ok (.areturn, 1) := by decide +kernel
theorem ef_1_1 (m : MethodId) : entryFrame m #[(.int (0 : Int32))] 1 = mkF m 0 #[.val (.int (0 : Int32))] [] := by first | (simp [entryFrame, mkF, argsToLocals, Value.category]; done) | rfl
theorem pnc_0 : plainName "com/example/weftcheck/weftcheck/OperationKindBindsRowPinLaw" = true := by first | (simp [plainName, overriddenIn]; done) | decide +kernel
def Q1_1 (Z : State) (w : Nat → Addr) (h0 : Heap) (n0 : Nat) (v : Option Value) (h : Heap) (L : List Loc) : Prop := v = some (.ref (w 0)) ∧ Fr n0 L ∧ h = h0
set_option maxRecDepth 65536 in
set_option maxHeartbeats 40000000 in
theorem rm1_1 (l : Launch) (Z : State) (a0 : Array Value) (hw : ∀ d ∈ tables_1, d.before a0 Z = true) (w : Nat → Addr) (hW : Wd Z w) (ws : List Jvm.Cond) (h0 : Heap) (n0 : Nat) (O0 : Old Z n0 h0) :
    MetFree l ym0 (head1 (Jvm.Cond.code ym0 method_2_code 1 (some (.object "com/example/weftcheck/weftcheck/OperationKind")) :: ws) ({ frames := 0, cells := 0, slots := 0, locals := 0 } : Room)) (fun a U => a = #[(.int (0 : Int32))] ∧ Z.Warmed39 U.vm ∧ U.heap = h0) (fun _ _ _ _ _ => True) (fun _ U o U' => ∃ v L, o = .returned v ∧ Q1_1 Z w h0 n0 v U'.heap L ∧ FrameEnd U o U' L ({ frames := 0, cells := 0, slots := 0, locals := 0 } : Room).cells ({ frames := 0, cells := 0, slots := 0, locals := 0 } : Room).slots) := by
  refine MetFree.of_bodySF (plainFor_of_name pnc_0) hisR ?_
  intro p e s m args below meth c s₁ Bd hml0 hP hK
  obtain ⟨rfl, hZ, hh⟩ := hP
  have hx := Bd.exec
  have hby := Bd.bytes
  have hml : c.maxLocals = 1 := hml0
  have hown : s.vm.findClass "com/example/weftcheck/weftcheck/OperationKindBindsRowPinLaw" = some m.cls := findClass_of_methodNamed Bd.named
  have hnm := (name_of_methodNamed Bd.named Bd.method).1
  have X0 : Stand p l e ({ frames := 0, cells := 0, slots := 0, locals := 0 } : Room) s m #[(.int (0 : Int32))] below meth c s₁ [] 0 0 := Stand.of_body Bd
  have e0 : s₁.heap = h0 := by rw [← hh, Bd.state]; rfl
  have N0 := Fr.nil n0
  skip
  have pre0 : ∀ t, Steps p.tables e below (s₁.setTop (mkF m 0 #[.val (.int (0 : Int32))] [])) t → Steps p.tables e below (s₁.setTop (entryFrame m #[(.int (0 : Int32))] 1)) t := fun t k => castTop (ef_1_1 m) k
  obtain ⟨T1, X1, e1, st1⟩ := getS2 X0 hx hZ hown (host := "") (Or.inl (wk5 hw)) Via.refl e0 ((wd0 hW).ext O0.2) (g := (mkF m 4 #[.val (.int (0 : Int32))] [])) rfl (hb hby d1_4)
  obtain ⟨fs, hr, hrun, hended, hWm, hsame⟩ := X1.leave (v := some (.ref (w 0))) (fun h => by rw [Bd.returns] at h; cases h)
  refine ⟨_, _, pre0 _ ?_, hrun, hended, _, _, rfl, ?_, ⟨_, rfl⟩, hWm, hsame.mono (by decide) (by decide)⟩
  · show Steps p.tables e below (s₁.setTop (mkF m 0 #[.val (.int (0 : Int32))] [])) _
    refine sI X0 hx hby d1_0 rfl ?_
    refine sN X0 hx hby d1_1 (by decide) ?_
    refine st1 _ ?_
    jvm_step X1.here [X1.here.top, hx, (hb hby d1_7), X1.method', Bd.returns, Value.isRef, FieldType.isReference]
    first | (intro acts; rw [hr _ acts rfl rfl rfl]) | rw [hr _ _ rfl rfl rfl]
    exact Steps.refl _
  · show Q1_1 Z w h0 n0 _ T1.heap _
    rw [e1]
    exact ⟨rfl, N0, rfl⟩
theorem pds_0 : parseMethodDescriptor "(I)Lcom/example/weftcheck/weftcheck/OperationKind;" = some ⟨[.int], some (.object "com/example/weftcheck/weftcheck/OperationKind")⟩ := by decide +kernel
theorem d2_0 : decode prog_29_method_8_code 0 = .ok (.aload_n 0, 1) := by decide +kernel
theorem d2_1 : decode prog_29_method_8_code 1 = .ok (.getstatic 3, 3) := by decide +kernel
theorem d2_4 : decode prog_29_method_8_code 4 = .ok (.if_acmp .eq 10, 3) := by decide +kernel
theorem d2_14 : decode prog_29_method_8_code 14 = .ok (.iconst 1, 1) := by decide +kernel
theorem d2_15 : decode prog_29_method_8_code 15 = .ok (.goto 4, 3) := by decide +kernel
theorem d2_19 : decode prog_29_method_8_code 19 = .ok (.ireturn, 1) := by decide +kernel
theorem ef_2_2 (m : MethodId) (w : Nat → Addr) : entryFrame m #[(.ref (w 0))] 1 = mkF m 0 #[.val (.ref (w 0))] [] := by first | (simp [entryFrame, mkF, argsToLocals, Value.category]; done) | rfl
theorem pnc_1 : plainName "com/example/weftcheck/weftcheck/OperationKind" = true := by first | (simp [plainName, overriddenIn]; done) | decide +kernel
def Q2_2 (Z : State) (w : Nat → Addr) (h0 : Heap) (n0 : Nat) (v : Option Value) (h : Heap) (L : List Loc) : Prop := v = some (.int (1 : Int32)) ∧ Fr n0 L ∧ h = h0
set_option maxRecDepth 65536 in
set_option maxHeartbeats 40000000 in
theorem rm2_2 (l : Launch) (Z : State) (a0 : Array Value) (hw : ∀ d ∈ tables_1, d.before a0 Z = true) (w : Nat → Addr) (hW : Wd Z w) (ws : List Jvm.Cond) (h0 : Heap) (n0 : Nat) (O0 : Old Z n0 h0) :
    MetFree l ym1 (head1 (Jvm.Cond.code ym1 prog_29_method_8_code 1 (some .boolean) :: ws) ({ frames := 0, cells := 0, slots := 0, locals := 0 } : Room)) (fun a U => a = #[(.ref (w 0))] ∧ Z.Warmed39 U.vm ∧ U.heap = h0) (fun _ _ _ _ _ => True) (fun _ U o U' => ∃ v L, o = .returned v ∧ Q2_2 Z w h0 n0 v U'.heap L ∧ FrameEnd U o U' L ({ frames := 0, cells := 0, slots := 0, locals := 0 } : Room).cells ({ frames := 0, cells := 0, slots := 0, locals := 0 } : Room).slots) := by
  refine MetFree.of_bodySF (plainFor_of_name pnc_1) hisR ?_
  intro p e s m args below meth c s₁ Bd hml0 hP hK
  obtain ⟨rfl, hZ, hh⟩ := hP
  have hx := Bd.exec
  have hby := Bd.bytes
  have hml : c.maxLocals = 1 := hml0
  have hown : s.vm.findClass "com/example/weftcheck/weftcheck/OperationKind" = some m.cls := findClass_of_methodNamed Bd.named
  have hnm := (name_of_methodNamed Bd.named Bd.method).1
  have X0 : Stand p l e ({ frames := 0, cells := 0, slots := 0, locals := 0 } : Room) s m #[(.ref (w 0))] below meth c s₁ [] 0 0 := Stand.of_body Bd
  have e0 : s₁.heap = h0 := by rw [← hh, Bd.state]; rfl
  have N0 := Fr.nil n0
  skip
  have pre0 : ∀ t, Steps p.tables e below (s₁.setTop (mkF m 0 #[.val (.ref (w 0))] [])) t → Steps p.tables e below (s₁.setTop (entryFrame m #[(.ref (w 0))] 1)) t := fun t k => castTop (ef_2_2 m w) k
  obtain ⟨T1, X1, e1, st1⟩ := getS2 X0 hx hZ hown (host := "") (Or.inl (wk13 hw)) Via.refl e0 ((wd0 hW).ext O0.2) (g := (mkF m 1 #[.val (.ref (w 0))] [(.ref (w 0))])) rfl (hb hby d2_1)
  obtain ⟨fs, hr, hrun, hended, hWm, hsame⟩ := X1.leave (v := some (.int (1 : Int32))) (fun h => by rw [Bd.returns] at h; cases h)
  refine ⟨_, _, pre0 _ ?_, hrun, hended, _, _, rfl, ?_, ⟨_, rfl⟩, hWm, hsame.mono (by decide) (by decide)⟩
  · show Steps p.tables e below (s₁.setTop (mkF m 0 #[.val (.ref (w 0))] [])) _
    refine sA X0 hx hby d2_0 rfl rfl ?_
    refine st1 _ ?_
    refine Jvm.RoadKit.acmp (g := (mkF m 4 #[.val (.ref (w 0))] [(.ref (w 0)), (.ref (w 0))])) X1 hx rfl rfl rfl (pc0 := 4) (pc' := 14) (same := true) rfl (hb hby d2_4) rfl (decide_eq_true rfl) (by decide) (by decide) ?_
    refine sc X1 hx hby d2_14 ?_
    refine sg (pc := 15) (pc' := 19) X1 hx hby d2_15 (by decide) (by decide) ?_
    exact retN X1 hx (t := .boolean) Bd.returns (by simp) (hb hby d2_19) hr
  · show Q2_2 Z w h0 n0 _ T1.heap _
    rw [e1]
    exact ⟨rfl, N0, rfl⟩
theorem pds_1 : parseMethodDescriptor "()Z" = some ⟨[], some .boolean⟩ := by decide +kernel
theorem d1_8 : decode method_2_code 8 = .ok (.iload_n 0, 1) := by decide +kernel
theorem d1_9 : decode method_2_code 9 = .ok (.iconst 1, 1) := by decide +kernel
theorem d1_10 : decode method_2_code 10 = .ok (.if_icmp .ne 7, 3) := by decide +kernel
theorem d1_13 : decode method_2_code 13 = .ok (.getstatic 13, 3) := by decide +kernel
theorem d1_16 : decode method_2_code 16 = .ok (.areturn, 1) := by decide +kernel
theorem ef_1_3 (m : MethodId) : entryFrame m #[(.int (1 : Int32))] 1 = mkF m 0 #[.val (.int (1 : Int32))] [] := by first | (simp [entryFrame, mkF, argsToLocals, Value.category]; done) | rfl
def Q1_3 (Z : State) (w : Nat → Addr) (h0 : Heap) (n0 : Nat) (v : Option Value) (h : Heap) (L : List Loc) : Prop := v = some (.ref (w 9)) ∧ Fr n0 L ∧ h = h0
set_option maxRecDepth 65536 in
set_option maxHeartbeats 40000000 in
theorem rm1_3 (l : Launch) (Z : State) (a0 : Array Value) (hw : ∀ d ∈ tables_1, d.before a0 Z = true) (w : Nat → Addr) (hW : Wd Z w) (ws : List Jvm.Cond) (h0 : Heap) (n0 : Nat) (O0 : Old Z n0 h0) :
    MetFree l ym0 (head1 (Jvm.Cond.code ym0 method_2_code 1 (some (.object "com/example/weftcheck/weftcheck/OperationKind")) :: ws) ({ frames := 0, cells := 0, slots := 0, locals := 0 } : Room)) (fun a U => a = #[(.int (1 : Int32))] ∧ Z.Warmed39 U.vm ∧ U.heap = h0) (fun _ _ _ _ _ => True) (fun _ U o U' => ∃ v L, o = .returned v ∧ Q1_3 Z w h0 n0 v U'.heap L ∧ FrameEnd U o U' L ({ frames := 0, cells := 0, slots := 0, locals := 0 } : Room).cells ({ frames := 0, cells := 0, slots := 0, locals := 0 } : Room).slots) := by
  refine MetFree.of_bodySF (plainFor_of_name pnc_0) hisR ?_
  intro p e s m args below meth c s₁ Bd hml0 hP hK
  obtain ⟨rfl, hZ, hh⟩ := hP
  have hx := Bd.exec
  have hby := Bd.bytes
  have hml : c.maxLocals = 1 := hml0
  have hown : s.vm.findClass "com/example/weftcheck/weftcheck/OperationKindBindsRowPinLaw" = some m.cls := findClass_of_methodNamed Bd.named
  have hnm := (name_of_methodNamed Bd.named Bd.method).1
  have X0 : Stand p l e ({ frames := 0, cells := 0, slots := 0, locals := 0 } : Room) s m #[(.int (1 : Int32))] below meth c s₁ [] 0 0 := Stand.of_body Bd
  have e0 : s₁.heap = h0 := by rw [← hh, Bd.state]; rfl
  have N0 := Fr.nil n0
  skip
  have pre0 : ∀ t, Steps p.tables e below (s₁.setTop (mkF m 0 #[.val (.int (1 : Int32))] [])) t → Steps p.tables e below (s₁.setTop (entryFrame m #[(.int (1 : Int32))] 1)) t := fun t k => castTop (ef_1_3 m) k
  obtain ⟨T1, X1, e1, st1⟩ := getS2 X0 hx hZ hown (host := "") (Or.inl (wk30 hw)) Via.refl e0 ((wd18 hW).ext O0.2) (g := (mkF m 13 #[.val (.int (1 : Int32))] [])) rfl (hb hby d1_13)
  obtain ⟨fs, hr, hrun, hended, hWm, hsame⟩ := X1.leave (v := some (.ref (w 9))) (fun h => by rw [Bd.returns] at h; cases h)
  refine ⟨_, _, pre0 _ ?_, hrun, hended, _, _, rfl, ?_, ⟨_, rfl⟩, hWm, hsame.mono (by decide) (by decide)⟩
  · show Steps p.tables e below (s₁.setTop (mkF m 0 #[.val (.int (1 : Int32))] [])) _
    refine sI X0 hx hby d1_0 rfl ?_
    refine XS.ifYes X0.here hx rfl (pc0 := 1) (pc' := 8) rfl (hb hby d1_1) rfl (by decide) (by decide) (by decide) ?_
    refine sI X0 hx hby d1_8 rfl ?_
    refine sc X0 hx hby d1_9 ?_
    refine sn X0 hx hby d1_10 (by decide) ?_
    refine st1 _ ?_
    jvm_step X1.here [X1.here.top, hx, (hb hby d1_16), X1.method', Bd.returns, Value.isRef, FieldType.isReference]
    first | (intro acts; rw [hr _ acts rfl rfl rfl]) | rw [hr _ _ rfl rfl rfl]
    exact Steps.refl _
  · show Q1_3 Z w h0 n0 _ T1.heap _
    rw [e1]
    exact ⟨rfl, N0, rfl⟩
theorem d2_7 : decode prog_29_method_8_code 7 = .ok (.aload_n 0, 1) := by decide +kernel
theorem d2_8 : decode prog_29_method_8_code 8 = .ok (.getstatic 28, 3) := by decide +kernel
theorem d2_11 : decode prog_29_method_8_code 11 = .ok (.if_acmp .ne 7, 3) := by decide +kernel
theorem d2_18 : decode prog_29_method_8_code 18 = .ok (.iconst 0, 1) := by decide +kernel
theorem ef_2_4 (m : MethodId) (w : Nat → Addr) : entryFrame m #[(.ref (w 9))] 1 = mkF m 0 #[.val (.ref (w 9))] [] := by first | (simp [entryFrame, mkF, argsToLocals, Value.category]; done) | rfl
def Q2_4 (Z : State) (w : Nat → Addr) (h0 : Heap) (n0 : Nat) (v : Option Value) (h : Heap) (L : List Loc) : Prop := v = some (.int (0 : Int32)) ∧ Fr n0 L ∧ h = h0
set_option maxRecDepth 65536 in
set_option maxHeartbeats 40000000 in
theorem rm2_4 (l : Launch) (Z : State) (a0 : Array Value) (hw : ∀ d ∈ tables_1, d.before a0 Z = true) (w : Nat → Addr) (hW : Wd Z w) (ws : List Jvm.Cond) (h0 : Heap) (n0 : Nat) (O0 : Old Z n0 h0) :
    MetFree l ym1 (head1 (Jvm.Cond.code ym1 prog_29_method_8_code 1 (some .boolean) :: ws) ({ frames := 0, cells := 0, slots := 0, locals := 0 } : Room)) (fun a U => a = #[(.ref (w 9))] ∧ Z.Warmed39 U.vm ∧ U.heap = h0) (fun _ _ _ _ _ => True) (fun _ U o U' => ∃ v L, o = .returned v ∧ Q2_4 Z w h0 n0 v U'.heap L ∧ FrameEnd U o U' L ({ frames := 0, cells := 0, slots := 0, locals := 0 } : Room).cells ({ frames := 0, cells := 0, slots := 0, locals := 0 } : Room).slots) := by
  refine MetFree.of_bodySF (plainFor_of_name pnc_1) hisR ?_
  intro p e s m args below meth c s₁ Bd hml0 hP hK
  obtain ⟨rfl, hZ, hh⟩ := hP
  have hx := Bd.exec
  have hby := Bd.bytes
  have hml : c.maxLocals = 1 := hml0
  have hown : s.vm.findClass "com/example/weftcheck/weftcheck/OperationKind" = some m.cls := findClass_of_methodNamed Bd.named
  have hnm := (name_of_methodNamed Bd.named Bd.method).1
  have X0 : Stand p l e ({ frames := 0, cells := 0, slots := 0, locals := 0 } : Room) s m #[(.ref (w 9))] below meth c s₁ [] 0 0 := Stand.of_body Bd
  have e0 : s₁.heap = h0 := by rw [← hh, Bd.state]; rfl
  have N0 := Fr.nil n0
  skip
  have pre0 : ∀ t, Steps p.tables e below (s₁.setTop (mkF m 0 #[.val (.ref (w 9))] [])) t → Steps p.tables e below (s₁.setTop (entryFrame m #[(.ref (w 9))] 1)) t := fun t k => castTop (ef_2_4 m w) k
  obtain ⟨T1, X1, e1, st1⟩ := getS2 X0 hx hZ hown (host := "") (Or.inl (wk13 hw)) Via.refl e0 ((wd0 hW).ext O0.2) (g := (mkF m 1 #[.val (.ref (w 9))] [(.ref (w 9))])) rfl (hb hby d2_1)
  obtain ⟨T2, X2, e2, st2⟩ := getS2 X1 hx hZ hown (host := "") (Or.inl (wk16 hw)) Via.refl e1 ((wd4 hW).ext O0.2) (g := (mkF m 8 #[.val (.ref (w 9))] [(.ref (w 9))])) rfl (hb hby d2_8)
  obtain ⟨fs, hr, hrun, hended, hWm, hsame⟩ := X2.leave (v := some (.int (0 : Int32))) (fun h => by rw [Bd.returns] at h; cases h)
  refine ⟨_, _, pre0 _ ?_, hrun, hended, _, _, rfl, ?_, ⟨_, rfl⟩, hWm, hsame.mono (by decide) (by decide)⟩
  · show Steps p.tables e below (s₁.setTop (mkF m 0 #[.val (.ref (w 9))] [])) _
    refine sA X0 hx hby d2_0 rfl rfl ?_
    refine st1 _ ?_
    refine Jvm.RoadKit.acmp (g := (mkF m 4 #[.val (.ref (w 9))] [(.ref (w 0)), (.ref (w 9))])) X1 hx rfl rfl rfl (pc0 := 4) (pc' := 7) (same := false) rfl (hb hby d2_4) rfl (decide_eq_false fun q => (Fld.ne (wd35 hW) (wd27 hW) (by decide)) (Value.ref.inj q)) (by decide) (by decide) ?_
    refine sA X1 hx hby d2_7 rfl rfl ?_
    refine st2 _ ?_
    refine Jvm.RoadKit.acmp (g := (mkF m 11 #[.val (.ref (w 9))] [(.ref (w 2)), (.ref (w 9))])) X2 hx rfl rfl rfl (pc0 := 11) (pc' := 18) (same := false) rfl (hb hby d2_11) rfl (decide_eq_false fun q => (Fld.ne (wd35 hW) (wd28 hW) (by decide)) (Value.ref.inj q)) (by decide) (by decide) ?_
    refine sc X2 hx hby d2_18 ?_
    exact retN X2 hx (t := .boolean) Bd.returns (by simp) (hb hby d2_19) hr
  · show Q2_4 Z w h0 n0 _ T2.heap _
    rw [e2]
    exact ⟨rfl, N0, rfl⟩
theorem d1_17 : decode method_2_code 17 = .ok (.iload_n 0, 1) := by decide +kernel
theorem d1_18 : decode method_2_code 18 = .ok (.iconst 2, 1) := by decide +kernel
theorem d1_19 : decode method_2_code 19 = .ok (.if_icmp .ne 7, 3) := by decide +kernel
theorem d1_22 : decode method_2_code 22 = .ok (.getstatic 16, 3) := by decide +kernel
theorem d1_25 : decode method_2_code 25 = .ok (.areturn, 1) := by decide +kernel
theorem ef_1_5 (m : MethodId) : entryFrame m #[(.int (2 : Int32))] 1 = mkF m 0 #[.val (.int (2 : Int32))] [] := by first | (simp [entryFrame, mkF, argsToLocals, Value.category]; done) | rfl
def Q1_5 (Z : State) (w : Nat → Addr) (h0 : Heap) (n0 : Nat) (v : Option Value) (h : Heap) (L : List Loc) : Prop := v = some (.ref (w 7)) ∧ Fr n0 L ∧ h = h0
set_option maxRecDepth 65536 in
set_option maxHeartbeats 40000000 in
theorem rm1_5 (l : Launch) (Z : State) (a0 : Array Value) (hw : ∀ d ∈ tables_1, d.before a0 Z = true) (w : Nat → Addr) (hW : Wd Z w) (ws : List Jvm.Cond) (h0 : Heap) (n0 : Nat) (O0 : Old Z n0 h0) :
    MetFree l ym0 (head1 (Jvm.Cond.code ym0 method_2_code 1 (some (.object "com/example/weftcheck/weftcheck/OperationKind")) :: ws) ({ frames := 0, cells := 0, slots := 0, locals := 0 } : Room)) (fun a U => a = #[(.int (2 : Int32))] ∧ Z.Warmed39 U.vm ∧ U.heap = h0) (fun _ _ _ _ _ => True) (fun _ U o U' => ∃ v L, o = .returned v ∧ Q1_5 Z w h0 n0 v U'.heap L ∧ FrameEnd U o U' L ({ frames := 0, cells := 0, slots := 0, locals := 0 } : Room).cells ({ frames := 0, cells := 0, slots := 0, locals := 0 } : Room).slots) := by
  refine MetFree.of_bodySF (plainFor_of_name pnc_0) hisR ?_
  intro p e s m args below meth c s₁ Bd hml0 hP hK
  obtain ⟨rfl, hZ, hh⟩ := hP
  have hx := Bd.exec
  have hby := Bd.bytes
  have hml : c.maxLocals = 1 := hml0
  have hown : s.vm.findClass "com/example/weftcheck/weftcheck/OperationKindBindsRowPinLaw" = some m.cls := findClass_of_methodNamed Bd.named
  have hnm := (name_of_methodNamed Bd.named Bd.method).1
  have X0 : Stand p l e ({ frames := 0, cells := 0, slots := 0, locals := 0 } : Room) s m #[(.int (2 : Int32))] below meth c s₁ [] 0 0 := Stand.of_body Bd
  have e0 : s₁.heap = h0 := by rw [← hh, Bd.state]; rfl
  have N0 := Fr.nil n0
  skip
  have pre0 : ∀ t, Steps p.tables e below (s₁.setTop (mkF m 0 #[.val (.int (2 : Int32))] [])) t → Steps p.tables e below (s₁.setTop (entryFrame m #[(.int (2 : Int32))] 1)) t := fun t k => castTop (ef_1_5 m) k
  obtain ⟨T1, X1, e1, st1⟩ := getS2 X0 hx hZ hown (host := "") (Or.inl (wk26 hw)) Via.refl e0 ((wd14 hW).ext O0.2) (g := (mkF m 22 #[.val (.int (2 : Int32))] [])) rfl (hb hby d1_22)
  obtain ⟨fs, hr, hrun, hended, hWm, hsame⟩ := X1.leave (v := some (.ref (w 7))) (fun h => by rw [Bd.returns] at h; cases h)
  refine ⟨_, _, pre0 _ ?_, hrun, hended, _, _, rfl, ?_, ⟨_, rfl⟩, hWm, hsame.mono (by decide) (by decide)⟩
  · show Steps p.tables e below (s₁.setTop (mkF m 0 #[.val (.int (2 : Int32))] [])) _
    refine sI X0 hx hby d1_0 rfl ?_
    refine XS.ifYes X0.here hx rfl (pc0 := 1) (pc' := 8) rfl (hb hby d1_1) rfl (by decide) (by decide) (by decide) ?_
    refine sI X0 hx hby d1_8 rfl ?_
    refine sc X0 hx hby d1_9 ?_
    refine XS.icmpYes X0.here hx rfl (pc0 := 10) (pc' := 17) rfl (hb hby d1_10) rfl (by decide) (by decide) (by decide) ?_
    refine sI X0 hx hby d1_17 rfl ?_
    refine sc X0 hx hby d1_18 ?_
    refine sn X0 hx hby d1_19 (by decide) ?_
    refine st1 _ ?_
    jvm_step X1.here [X1.here.top, hx, (hb hby d1_25), X1.method', Bd.returns, Value.isRef, FieldType.isReference]
    first | (intro acts; rw [hr _ acts rfl rfl rfl]) | rw [hr _ _ rfl rfl rfl]
    exact Steps.refl _
  · show Q1_5 Z w h0 n0 _ T1.heap _
    rw [e1]
    exact ⟨rfl, N0, rfl⟩
theorem ef_2_6 (m : MethodId) (w : Nat → Addr) : entryFrame m #[(.ref (w 7))] 1 = mkF m 0 #[.val (.ref (w 7))] [] := by first | (simp [entryFrame, mkF, argsToLocals, Value.category]; done) | rfl
def Q2_6 (Z : State) (w : Nat → Addr) (h0 : Heap) (n0 : Nat) (v : Option Value) (h : Heap) (L : List Loc) : Prop := v = some (.int (0 : Int32)) ∧ Fr n0 L ∧ h = h0
set_option maxRecDepth 65536 in
set_option maxHeartbeats 40000000 in
theorem rm2_6 (l : Launch) (Z : State) (a0 : Array Value) (hw : ∀ d ∈ tables_1, d.before a0 Z = true) (w : Nat → Addr) (hW : Wd Z w) (ws : List Jvm.Cond) (h0 : Heap) (n0 : Nat) (O0 : Old Z n0 h0) :
    MetFree l ym1 (head1 (Jvm.Cond.code ym1 prog_29_method_8_code 1 (some .boolean) :: ws) ({ frames := 0, cells := 0, slots := 0, locals := 0 } : Room)) (fun a U => a = #[(.ref (w 7))] ∧ Z.Warmed39 U.vm ∧ U.heap = h0) (fun _ _ _ _ _ => True) (fun _ U o U' => ∃ v L, o = .returned v ∧ Q2_6 Z w h0 n0 v U'.heap L ∧ FrameEnd U o U' L ({ frames := 0, cells := 0, slots := 0, locals := 0 } : Room).cells ({ frames := 0, cells := 0, slots := 0, locals := 0 } : Room).slots) := by
  refine MetFree.of_bodySF (plainFor_of_name pnc_1) hisR ?_
  intro p e s m args below meth c s₁ Bd hml0 hP hK
  obtain ⟨rfl, hZ, hh⟩ := hP
  have hx := Bd.exec
  have hby := Bd.bytes
  have hml : c.maxLocals = 1 := hml0
  have hown : s.vm.findClass "com/example/weftcheck/weftcheck/OperationKind" = some m.cls := findClass_of_methodNamed Bd.named
  have hnm := (name_of_methodNamed Bd.named Bd.method).1
  have X0 : Stand p l e ({ frames := 0, cells := 0, slots := 0, locals := 0 } : Room) s m #[(.ref (w 7))] below meth c s₁ [] 0 0 := Stand.of_body Bd
  have e0 : s₁.heap = h0 := by rw [← hh, Bd.state]; rfl
  have N0 := Fr.nil n0
  skip
  have pre0 : ∀ t, Steps p.tables e below (s₁.setTop (mkF m 0 #[.val (.ref (w 7))] [])) t → Steps p.tables e below (s₁.setTop (entryFrame m #[(.ref (w 7))] 1)) t := fun t k => castTop (ef_2_6 m w) k
  obtain ⟨T1, X1, e1, st1⟩ := getS2 X0 hx hZ hown (host := "") (Or.inl (wk13 hw)) Via.refl e0 ((wd0 hW).ext O0.2) (g := (mkF m 1 #[.val (.ref (w 7))] [(.ref (w 7))])) rfl (hb hby d2_1)
  obtain ⟨T2, X2, e2, st2⟩ := getS2 X1 hx hZ hown (host := "") (Or.inl (wk16 hw)) Via.refl e1 ((wd4 hW).ext O0.2) (g := (mkF m 8 #[.val (.ref (w 7))] [(.ref (w 7))])) rfl (hb hby d2_8)
  obtain ⟨fs, hr, hrun, hended, hWm, hsame⟩ := X2.leave (v := some (.int (0 : Int32))) (fun h => by rw [Bd.returns] at h; cases h)
  refine ⟨_, _, pre0 _ ?_, hrun, hended, _, _, rfl, ?_, ⟨_, rfl⟩, hWm, hsame.mono (by decide) (by decide)⟩
  · show Steps p.tables e below (s₁.setTop (mkF m 0 #[.val (.ref (w 7))] [])) _
    refine sA X0 hx hby d2_0 rfl rfl ?_
    refine st1 _ ?_
    refine Jvm.RoadKit.acmp (g := (mkF m 4 #[.val (.ref (w 7))] [(.ref (w 0)), (.ref (w 7))])) X1 hx rfl rfl rfl (pc0 := 4) (pc' := 7) (same := false) rfl (hb hby d2_4) rfl (decide_eq_false fun q => (Fld.ne (wd33 hW) (wd27 hW) (by decide)) (Value.ref.inj q)) (by decide) (by decide) ?_
    refine sA X1 hx hby d2_7 rfl rfl ?_
    refine st2 _ ?_
    refine Jvm.RoadKit.acmp (g := (mkF m 11 #[.val (.ref (w 7))] [(.ref (w 2)), (.ref (w 7))])) X2 hx rfl rfl rfl (pc0 := 11) (pc' := 18) (same := false) rfl (hb hby d2_11) rfl (decide_eq_false fun q => (Fld.ne (wd33 hW) (wd28 hW) (by decide)) (Value.ref.inj q)) (by decide) (by decide) ?_
    refine sc X2 hx hby d2_18 ?_
    exact retN X2 hx (t := .boolean) Bd.returns (by simp) (hb hby d2_19) hr
  · show Q2_6 Z w h0 n0 _ T2.heap _
    rw [e2]
    exact ⟨rfl, N0, rfl⟩
theorem d1_26 : decode method_2_code 26 = .ok (.iload_n 0, 1) := by decide +kernel
theorem d1_27 : decode method_2_code 27 = .ok (.iconst 3, 1) := by decide +kernel
theorem d1_28 : decode method_2_code 28 = .ok (.if_icmp .ne 7, 3) := by decide +kernel
theorem d1_31 : decode method_2_code 31 = .ok (.getstatic 19, 3) := by decide +kernel
theorem d1_34 : decode method_2_code 34 = .ok (.areturn, 1) := by decide +kernel
theorem ef_1_7 (m : MethodId) : entryFrame m #[(.int (3 : Int32))] 1 = mkF m 0 #[.val (.int (3 : Int32))] [] := by first | (simp [entryFrame, mkF, argsToLocals, Value.category]; done) | rfl
def Q1_7 (Z : State) (w : Nat → Addr) (h0 : Heap) (n0 : Nat) (v : Option Value) (h : Heap) (L : List Loc) : Prop := v = some (.ref (w 1)) ∧ Fr n0 L ∧ h = h0
set_option maxRecDepth 65536 in
set_option maxHeartbeats 40000000 in
theorem rm1_7 (l : Launch) (Z : State) (a0 : Array Value) (hw : ∀ d ∈ tables_1, d.before a0 Z = true) (w : Nat → Addr) (hW : Wd Z w) (ws : List Jvm.Cond) (h0 : Heap) (n0 : Nat) (O0 : Old Z n0 h0) :
    MetFree l ym0 (head1 (Jvm.Cond.code ym0 method_2_code 1 (some (.object "com/example/weftcheck/weftcheck/OperationKind")) :: ws) ({ frames := 0, cells := 0, slots := 0, locals := 0 } : Room)) (fun a U => a = #[(.int (3 : Int32))] ∧ Z.Warmed39 U.vm ∧ U.heap = h0) (fun _ _ _ _ _ => True) (fun _ U o U' => ∃ v L, o = .returned v ∧ Q1_7 Z w h0 n0 v U'.heap L ∧ FrameEnd U o U' L ({ frames := 0, cells := 0, slots := 0, locals := 0 } : Room).cells ({ frames := 0, cells := 0, slots := 0, locals := 0 } : Room).slots) := by
  refine MetFree.of_bodySF (plainFor_of_name pnc_0) hisR ?_
  intro p e s m args below meth c s₁ Bd hml0 hP hK
  obtain ⟨rfl, hZ, hh⟩ := hP
  have hx := Bd.exec
  have hby := Bd.bytes
  have hml : c.maxLocals = 1 := hml0
  have hown : s.vm.findClass "com/example/weftcheck/weftcheck/OperationKindBindsRowPinLaw" = some m.cls := findClass_of_methodNamed Bd.named
  have hnm := (name_of_methodNamed Bd.named Bd.method).1
  have X0 : Stand p l e ({ frames := 0, cells := 0, slots := 0, locals := 0 } : Room) s m #[(.int (3 : Int32))] below meth c s₁ [] 0 0 := Stand.of_body Bd
  have e0 : s₁.heap = h0 := by rw [← hh, Bd.state]; rfl
  have N0 := Fr.nil n0
  skip
  have pre0 : ∀ t, Steps p.tables e below (s₁.setTop (mkF m 0 #[.val (.int (3 : Int32))] [])) t → Steps p.tables e below (s₁.setTop (entryFrame m #[(.int (3 : Int32))] 1)) t := fun t k => castTop (ef_1_7 m) k
  obtain ⟨T1, X1, e1, st1⟩ := getS2 X0 hx hZ hown (host := "") (Or.inl (wk14 hw)) Via.refl e0 ((wd2 hW).ext O0.2) (g := (mkF m 31 #[.val (.int (3 : Int32))] [])) rfl (hb hby d1_31)
  obtain ⟨fs, hr, hrun, hended, hWm, hsame⟩ := X1.leave (v := some (.ref (w 1))) (fun h => by rw [Bd.returns] at h; cases h)
  refine ⟨_, _, pre0 _ ?_, hrun, hended, _, _, rfl, ?_, ⟨_, rfl⟩, hWm, hsame.mono (by decide) (by decide)⟩
  · show Steps p.tables e below (s₁.setTop (mkF m 0 #[.val (.int (3 : Int32))] [])) _
    refine sI X0 hx hby d1_0 rfl ?_
    refine XS.ifYes X0.here hx rfl (pc0 := 1) (pc' := 8) rfl (hb hby d1_1) rfl (by decide) (by decide) (by decide) ?_
    refine sI X0 hx hby d1_8 rfl ?_
    refine sc X0 hx hby d1_9 ?_
    refine XS.icmpYes X0.here hx rfl (pc0 := 10) (pc' := 17) rfl (hb hby d1_10) rfl (by decide) (by decide) (by decide) ?_
    refine sI X0 hx hby d1_17 rfl ?_
    refine sc X0 hx hby d1_18 ?_
    refine XS.icmpYes X0.here hx rfl (pc0 := 19) (pc' := 26) rfl (hb hby d1_19) rfl (by decide) (by decide) (by decide) ?_
    refine sI X0 hx hby d1_26 rfl ?_
    refine sc X0 hx hby d1_27 ?_
    refine sn X0 hx hby d1_28 (by decide) ?_
    refine st1 _ ?_
    jvm_step X1.here [X1.here.top, hx, (hb hby d1_34), X1.method', Bd.returns, Value.isRef, FieldType.isReference]
    first | (intro acts; rw [hr _ acts rfl rfl rfl]) | rw [hr _ _ rfl rfl rfl]
    exact Steps.refl _
  · show Q1_7 Z w h0 n0 _ T1.heap _
    rw [e1]
    exact ⟨rfl, N0, rfl⟩
theorem ef_2_8 (m : MethodId) (w : Nat → Addr) : entryFrame m #[(.ref (w 1))] 1 = mkF m 0 #[.val (.ref (w 1))] [] := by first | (simp [entryFrame, mkF, argsToLocals, Value.category]; done) | rfl
def Q2_8 (Z : State) (w : Nat → Addr) (h0 : Heap) (n0 : Nat) (v : Option Value) (h : Heap) (L : List Loc) : Prop := v = some (.int (0 : Int32)) ∧ Fr n0 L ∧ h = h0
set_option maxRecDepth 65536 in
set_option maxHeartbeats 40000000 in
theorem rm2_8 (l : Launch) (Z : State) (a0 : Array Value) (hw : ∀ d ∈ tables_1, d.before a0 Z = true) (w : Nat → Addr) (hW : Wd Z w) (ws : List Jvm.Cond) (h0 : Heap) (n0 : Nat) (O0 : Old Z n0 h0) :
    MetFree l ym1 (head1 (Jvm.Cond.code ym1 prog_29_method_8_code 1 (some .boolean) :: ws) ({ frames := 0, cells := 0, slots := 0, locals := 0 } : Room)) (fun a U => a = #[(.ref (w 1))] ∧ Z.Warmed39 U.vm ∧ U.heap = h0) (fun _ _ _ _ _ => True) (fun _ U o U' => ∃ v L, o = .returned v ∧ Q2_8 Z w h0 n0 v U'.heap L ∧ FrameEnd U o U' L ({ frames := 0, cells := 0, slots := 0, locals := 0 } : Room).cells ({ frames := 0, cells := 0, slots := 0, locals := 0 } : Room).slots) := by
  refine MetFree.of_bodySF (plainFor_of_name pnc_1) hisR ?_
  intro p e s m args below meth c s₁ Bd hml0 hP hK
  obtain ⟨rfl, hZ, hh⟩ := hP
  have hx := Bd.exec
  have hby := Bd.bytes
  have hml : c.maxLocals = 1 := hml0
  have hown : s.vm.findClass "com/example/weftcheck/weftcheck/OperationKind" = some m.cls := findClass_of_methodNamed Bd.named
  have hnm := (name_of_methodNamed Bd.named Bd.method).1
  have X0 : Stand p l e ({ frames := 0, cells := 0, slots := 0, locals := 0 } : Room) s m #[(.ref (w 1))] below meth c s₁ [] 0 0 := Stand.of_body Bd
  have e0 : s₁.heap = h0 := by rw [← hh, Bd.state]; rfl
  have N0 := Fr.nil n0
  skip
  have pre0 : ∀ t, Steps p.tables e below (s₁.setTop (mkF m 0 #[.val (.ref (w 1))] [])) t → Steps p.tables e below (s₁.setTop (entryFrame m #[(.ref (w 1))] 1)) t := fun t k => castTop (ef_2_8 m w) k
  obtain ⟨T1, X1, e1, st1⟩ := getS2 X0 hx hZ hown (host := "") (Or.inl (wk13 hw)) Via.refl e0 ((wd0 hW).ext O0.2) (g := (mkF m 1 #[.val (.ref (w 1))] [(.ref (w 1))])) rfl (hb hby d2_1)
  obtain ⟨T2, X2, e2, st2⟩ := getS2 X1 hx hZ hown (host := "") (Or.inl (wk16 hw)) Via.refl e1 ((wd4 hW).ext O0.2) (g := (mkF m 8 #[.val (.ref (w 1))] [(.ref (w 1))])) rfl (hb hby d2_8)
  obtain ⟨fs, hr, hrun, hended, hWm, hsame⟩ := X2.leave (v := some (.int (0 : Int32))) (fun h => by rw [Bd.returns] at h; cases h)
  refine ⟨_, _, pre0 _ ?_, hrun, hended, _, _, rfl, ?_, ⟨_, rfl⟩, hWm, hsame.mono (by decide) (by decide)⟩
  · show Steps p.tables e below (s₁.setTop (mkF m 0 #[.val (.ref (w 1))] [])) _
    refine sA X0 hx hby d2_0 rfl rfl ?_
    refine st1 _ ?_
    refine Jvm.RoadKit.acmp (g := (mkF m 4 #[.val (.ref (w 1))] [(.ref (w 0)), (.ref (w 1))])) X1 hx rfl rfl rfl (pc0 := 4) (pc' := 7) (same := false) rfl (hb hby d2_4) rfl (decide_eq_false fun q => (Fld.ne (wd26 hW) (wd27 hW) (by decide)) (Value.ref.inj q)) (by decide) (by decide) ?_
    refine sA X1 hx hby d2_7 rfl rfl ?_
    refine st2 _ ?_
    refine Jvm.RoadKit.acmp (g := (mkF m 11 #[.val (.ref (w 1))] [(.ref (w 2)), (.ref (w 1))])) X2 hx rfl rfl rfl (pc0 := 11) (pc' := 18) (same := false) rfl (hb hby d2_11) rfl (decide_eq_false fun q => (Fld.ne (wd26 hW) (wd28 hW) (by decide)) (Value.ref.inj q)) (by decide) (by decide) ?_
    refine sc X2 hx hby d2_18 ?_
    exact retN X2 hx (t := .boolean) Bd.returns (by simp) (hb hby d2_19) hr
  · show Q2_8 Z w h0 n0 _ T2.heap _
    rw [e2]
    exact ⟨rfl, N0, rfl⟩
theorem d1_35 : decode method_2_code 35 = .ok (.iload_n 0, 1) := by decide +kernel
theorem d1_36 : decode method_2_code 36 = .ok (.iconst 4, 1) := by decide +kernel
theorem d1_37 : decode method_2_code 37 = .ok (.if_icmp .ne 7, 3) := by decide +kernel
theorem d1_40 : decode method_2_code 40 = .ok (.getstatic 22, 3) := by decide +kernel
theorem d1_43 : decode method_2_code 43 = .ok (.areturn, 1) := by decide +kernel
theorem ef_1_9 (m : MethodId) : entryFrame m #[(.int (4 : Int32))] 1 = mkF m 0 #[.val (.int (4 : Int32))] [] := by first | (simp [entryFrame, mkF, argsToLocals, Value.category]; done) | rfl
def Q1_9 (Z : State) (w : Nat → Addr) (h0 : Heap) (n0 : Nat) (v : Option Value) (h : Heap) (L : List Loc) : Prop := v = some (.ref (w 12)) ∧ Fr n0 L ∧ h = h0
set_option maxRecDepth 65536 in
set_option maxHeartbeats 40000000 in
theorem rm1_9 (l : Launch) (Z : State) (a0 : Array Value) (hw : ∀ d ∈ tables_1, d.before a0 Z = true) (w : Nat → Addr) (hW : Wd Z w) (ws : List Jvm.Cond) (h0 : Heap) (n0 : Nat) (O0 : Old Z n0 h0) :
    MetFree l ym0 (head1 (Jvm.Cond.code ym0 method_2_code 1 (some (.object "com/example/weftcheck/weftcheck/OperationKind")) :: ws) ({ frames := 0, cells := 0, slots := 0, locals := 0 } : Room)) (fun a U => a = #[(.int (4 : Int32))] ∧ Z.Warmed39 U.vm ∧ U.heap = h0) (fun _ _ _ _ _ => True) (fun _ U o U' => ∃ v L, o = .returned v ∧ Q1_9 Z w h0 n0 v U'.heap L ∧ FrameEnd U o U' L ({ frames := 0, cells := 0, slots := 0, locals := 0 } : Room).cells ({ frames := 0, cells := 0, slots := 0, locals := 0 } : Room).slots) := by
  refine MetFree.of_bodySF (plainFor_of_name pnc_0) hisR ?_
  intro p e s m args below meth c s₁ Bd hml0 hP hK
  obtain ⟨rfl, hZ, hh⟩ := hP
  have hx := Bd.exec
  have hby := Bd.bytes
  have hml : c.maxLocals = 1 := hml0
  have hown : s.vm.findClass "com/example/weftcheck/weftcheck/OperationKindBindsRowPinLaw" = some m.cls := findClass_of_methodNamed Bd.named
  have hnm := (name_of_methodNamed Bd.named Bd.method).1
  have X0 : Stand p l e ({ frames := 0, cells := 0, slots := 0, locals := 0 } : Room) s m #[(.int (4 : Int32))] below meth c s₁ [] 0 0 := Stand.of_body Bd
  have e0 : s₁.heap = h0 := by rw [← hh, Bd.state]; rfl
  have N0 := Fr.nil n0
  skip
  have pre0 : ∀ t, Steps p.tables e below (s₁.setTop (mkF m 0 #[.val (.int (4 : Int32))] [])) t → Steps p.tables e below (s₁.setTop (entryFrame m #[(.int (4 : Int32))] 1)) t := fun t k => castTop (ef_1_9 m) k
  obtain ⟨T1, X1, e1, st1⟩ := getS2 X0 hx hZ hown (host := "") (Or.inl (wk37 hw)) Via.refl e0 ((wd24 hW).ext O0.2) (g := (mkF m 40 #[.val (.int (4 : Int32))] [])) rfl (hb hby d1_40)
  obtain ⟨fs, hr, hrun, hended, hWm, hsame⟩ := X1.leave (v := some (.ref (w 12))) (fun h => by rw [Bd.returns] at h; cases h)
  refine ⟨_, _, pre0 _ ?_, hrun, hended, _, _, rfl, ?_, ⟨_, rfl⟩, hWm, hsame.mono (by decide) (by decide)⟩
  · show Steps p.tables e below (s₁.setTop (mkF m 0 #[.val (.int (4 : Int32))] [])) _
    refine sI X0 hx hby d1_0 rfl ?_
    refine XS.ifYes X0.here hx rfl (pc0 := 1) (pc' := 8) rfl (hb hby d1_1) rfl (by decide) (by decide) (by decide) ?_
    refine sI X0 hx hby d1_8 rfl ?_
    refine sc X0 hx hby d1_9 ?_
    refine XS.icmpYes X0.here hx rfl (pc0 := 10) (pc' := 17) rfl (hb hby d1_10) rfl (by decide) (by decide) (by decide) ?_
    refine sI X0 hx hby d1_17 rfl ?_
    refine sc X0 hx hby d1_18 ?_
    refine XS.icmpYes X0.here hx rfl (pc0 := 19) (pc' := 26) rfl (hb hby d1_19) rfl (by decide) (by decide) (by decide) ?_
    refine sI X0 hx hby d1_26 rfl ?_
    refine sc X0 hx hby d1_27 ?_
    refine XS.icmpYes X0.here hx rfl (pc0 := 28) (pc' := 35) rfl (hb hby d1_28) rfl (by decide) (by decide) (by decide) ?_
    refine sI X0 hx hby d1_35 rfl ?_
    refine sc X0 hx hby d1_36 ?_
    refine sn X0 hx hby d1_37 (by decide) ?_
    refine st1 _ ?_
    jvm_step X1.here [X1.here.top, hx, (hb hby d1_43), X1.method', Bd.returns, Value.isRef, FieldType.isReference]
    first | (intro acts; rw [hr _ acts rfl rfl rfl]) | rw [hr _ _ rfl rfl rfl]
    exact Steps.refl _
  · show Q1_9 Z w h0 n0 _ T1.heap _
    rw [e1]
    exact ⟨rfl, N0, rfl⟩
theorem ef_2_10 (m : MethodId) (w : Nat → Addr) : entryFrame m #[(.ref (w 12))] 1 = mkF m 0 #[.val (.ref (w 12))] [] := by first | (simp [entryFrame, mkF, argsToLocals, Value.category]; done) | rfl
def Q2_10 (Z : State) (w : Nat → Addr) (h0 : Heap) (n0 : Nat) (v : Option Value) (h : Heap) (L : List Loc) : Prop := v = some (.int (0 : Int32)) ∧ Fr n0 L ∧ h = h0
set_option maxRecDepth 65536 in
set_option maxHeartbeats 40000000 in
theorem rm2_10 (l : Launch) (Z : State) (a0 : Array Value) (hw : ∀ d ∈ tables_1, d.before a0 Z = true) (w : Nat → Addr) (hW : Wd Z w) (ws : List Jvm.Cond) (h0 : Heap) (n0 : Nat) (O0 : Old Z n0 h0) :
    MetFree l ym1 (head1 (Jvm.Cond.code ym1 prog_29_method_8_code 1 (some .boolean) :: ws) ({ frames := 0, cells := 0, slots := 0, locals := 0 } : Room)) (fun a U => a = #[(.ref (w 12))] ∧ Z.Warmed39 U.vm ∧ U.heap = h0) (fun _ _ _ _ _ => True) (fun _ U o U' => ∃ v L, o = .returned v ∧ Q2_10 Z w h0 n0 v U'.heap L ∧ FrameEnd U o U' L ({ frames := 0, cells := 0, slots := 0, locals := 0 } : Room).cells ({ frames := 0, cells := 0, slots := 0, locals := 0 } : Room).slots) := by
  refine MetFree.of_bodySF (plainFor_of_name pnc_1) hisR ?_
  intro p e s m args below meth c s₁ Bd hml0 hP hK
  obtain ⟨rfl, hZ, hh⟩ := hP
  have hx := Bd.exec
  have hby := Bd.bytes
  have hml : c.maxLocals = 1 := hml0
  have hown : s.vm.findClass "com/example/weftcheck/weftcheck/OperationKind" = some m.cls := findClass_of_methodNamed Bd.named
  have hnm := (name_of_methodNamed Bd.named Bd.method).1
  have X0 : Stand p l e ({ frames := 0, cells := 0, slots := 0, locals := 0 } : Room) s m #[(.ref (w 12))] below meth c s₁ [] 0 0 := Stand.of_body Bd
  have e0 : s₁.heap = h0 := by rw [← hh, Bd.state]; rfl
  have N0 := Fr.nil n0
  skip
  have pre0 : ∀ t, Steps p.tables e below (s₁.setTop (mkF m 0 #[.val (.ref (w 12))] [])) t → Steps p.tables e below (s₁.setTop (entryFrame m #[(.ref (w 12))] 1)) t := fun t k => castTop (ef_2_10 m w) k
  obtain ⟨T1, X1, e1, st1⟩ := getS2 X0 hx hZ hown (host := "") (Or.inl (wk13 hw)) Via.refl e0 ((wd0 hW).ext O0.2) (g := (mkF m 1 #[.val (.ref (w 12))] [(.ref (w 12))])) rfl (hb hby d2_1)
  obtain ⟨T2, X2, e2, st2⟩ := getS2 X1 hx hZ hown (host := "") (Or.inl (wk16 hw)) Via.refl e1 ((wd4 hW).ext O0.2) (g := (mkF m 8 #[.val (.ref (w 12))] [(.ref (w 12))])) rfl (hb hby d2_8)
  obtain ⟨fs, hr, hrun, hended, hWm, hsame⟩ := X2.leave (v := some (.int (0 : Int32))) (fun h => by rw [Bd.returns] at h; cases h)
  refine ⟨_, _, pre0 _ ?_, hrun, hended, _, _, rfl, ?_, ⟨_, rfl⟩, hWm, hsame.mono (by decide) (by decide)⟩
  · show Steps p.tables e below (s₁.setTop (mkF m 0 #[.val (.ref (w 12))] [])) _
    refine sA X0 hx hby d2_0 rfl rfl ?_
    refine st1 _ ?_
    refine Jvm.RoadKit.acmp (g := (mkF m 4 #[.val (.ref (w 12))] [(.ref (w 0)), (.ref (w 12))])) X1 hx rfl rfl rfl (pc0 := 4) (pc' := 7) (same := false) rfl (hb hby d2_4) rfl (decide_eq_false fun q => (Fld.ne (wd38 hW) (wd27 hW) (by decide)) (Value.ref.inj q)) (by decide) (by decide) ?_
    refine sA X1 hx hby d2_7 rfl rfl ?_
    refine st2 _ ?_
    refine Jvm.RoadKit.acmp (g := (mkF m 11 #[.val (.ref (w 12))] [(.ref (w 2)), (.ref (w 12))])) X2 hx rfl rfl rfl (pc0 := 11) (pc' := 18) (same := false) rfl (hb hby d2_11) rfl (decide_eq_false fun q => (Fld.ne (wd38 hW) (wd28 hW) (by decide)) (Value.ref.inj q)) (by decide) (by decide) ?_
    refine sc X2 hx hby d2_18 ?_
    exact retN X2 hx (t := .boolean) Bd.returns (by simp) (hb hby d2_19) hr
  · show Q2_10 Z w h0 n0 _ T2.heap _
    rw [e2]
    exact ⟨rfl, N0, rfl⟩
theorem d1_44 : decode method_2_code 44 = .ok (.iload_n 0, 1) := by decide +kernel
theorem d1_45 : decode method_2_code 45 = .ok (.iconst 5, 1) := by decide +kernel
theorem d1_46 : decode method_2_code 46 = .ok (.if_icmp .ne 7, 3) := by decide +kernel
theorem d1_49 : decode method_2_code 49 = .ok (.getstatic 25, 3) := by decide +kernel
theorem d1_52 : decode method_2_code 52 = .ok (.areturn, 1) := by decide +kernel
theorem ef_1_11 (m : MethodId) : entryFrame m #[(.int (5 : Int32))] 1 = mkF m 0 #[.val (.int (5 : Int32))] [] := by first | (simp [entryFrame, mkF, argsToLocals, Value.category]; done) | rfl
def Q1_11 (Z : State) (w : Nat → Addr) (h0 : Heap) (n0 : Nat) (v : Option Value) (h : Heap) (L : List Loc) : Prop := v = some (.ref (w 4)) ∧ Fr n0 L ∧ h = h0
set_option maxRecDepth 65536 in
set_option maxHeartbeats 40000000 in
theorem rm1_11 (l : Launch) (Z : State) (a0 : Array Value) (hw : ∀ d ∈ tables_1, d.before a0 Z = true) (w : Nat → Addr) (hW : Wd Z w) (ws : List Jvm.Cond) (h0 : Heap) (n0 : Nat) (O0 : Old Z n0 h0) :
    MetFree l ym0 (head1 (Jvm.Cond.code ym0 method_2_code 1 (some (.object "com/example/weftcheck/weftcheck/OperationKind")) :: ws) ({ frames := 0, cells := 0, slots := 0, locals := 0 } : Room)) (fun a U => a = #[(.int (5 : Int32))] ∧ Z.Warmed39 U.vm ∧ U.heap = h0) (fun _ _ _ _ _ => True) (fun _ U o U' => ∃ v L, o = .returned v ∧ Q1_11 Z w h0 n0 v U'.heap L ∧ FrameEnd U o U' L ({ frames := 0, cells := 0, slots := 0, locals := 0 } : Room).cells ({ frames := 0, cells := 0, slots := 0, locals := 0 } : Room).slots) := by
  refine MetFree.of_bodySF (plainFor_of_name pnc_0) hisR ?_
  intro p e s m args below meth c s₁ Bd hml0 hP hK
  obtain ⟨rfl, hZ, hh⟩ := hP
  have hx := Bd.exec
  have hby := Bd.bytes
  have hml : c.maxLocals = 1 := hml0
  have hown : s.vm.findClass "com/example/weftcheck/weftcheck/OperationKindBindsRowPinLaw" = some m.cls := findClass_of_methodNamed Bd.named
  have hnm := (name_of_methodNamed Bd.named Bd.method).1
  have X0 : Stand p l e ({ frames := 0, cells := 0, slots := 0, locals := 0 } : Room) s m #[(.int (5 : Int32))] below meth c s₁ [] 0 0 := Stand.of_body Bd
  have e0 : s₁.heap = h0 := by rw [← hh, Bd.state]; rfl
  have N0 := Fr.nil n0
  skip
  have pre0 : ∀ t, Steps p.tables e below (s₁.setTop (mkF m 0 #[.val (.int (5 : Int32))] [])) t → Steps p.tables e below (s₁.setTop (entryFrame m #[(.int (5 : Int32))] 1)) t := fun t k => castTop (ef_1_11 m) k
  obtain ⟨T1, X1, e1, st1⟩ := getS2 X0 hx hZ hown (host := "") (Or.inl (wk20 hw)) Via.refl e0 ((wd8 hW).ext O0.2) (g := (mkF m 49 #[.val (.int (5 : Int32))] [])) rfl (hb hby d1_49)
  obtain ⟨fs, hr, hrun, hended, hWm, hsame⟩ := X1.leave (v := some (.ref (w 4))) (fun h => by rw [Bd.returns] at h; cases h)
  refine ⟨_, _, pre0 _ ?_, hrun, hended, _, _, rfl, ?_, ⟨_, rfl⟩, hWm, hsame.mono (by decide) (by decide)⟩
  · show Steps p.tables e below (s₁.setTop (mkF m 0 #[.val (.int (5 : Int32))] [])) _
    refine sI X0 hx hby d1_0 rfl ?_
    refine XS.ifYes X0.here hx rfl (pc0 := 1) (pc' := 8) rfl (hb hby d1_1) rfl (by decide) (by decide) (by decide) ?_
    refine sI X0 hx hby d1_8 rfl ?_
    refine sc X0 hx hby d1_9 ?_
    refine XS.icmpYes X0.here hx rfl (pc0 := 10) (pc' := 17) rfl (hb hby d1_10) rfl (by decide) (by decide) (by decide) ?_
    refine sI X0 hx hby d1_17 rfl ?_
    refine sc X0 hx hby d1_18 ?_
    refine XS.icmpYes X0.here hx rfl (pc0 := 19) (pc' := 26) rfl (hb hby d1_19) rfl (by decide) (by decide) (by decide) ?_
    refine sI X0 hx hby d1_26 rfl ?_
    refine sc X0 hx hby d1_27 ?_
    refine XS.icmpYes X0.here hx rfl (pc0 := 28) (pc' := 35) rfl (hb hby d1_28) rfl (by decide) (by decide) (by decide) ?_
    refine sI X0 hx hby d1_35 rfl ?_
    refine sc X0 hx hby d1_36 ?_
    refine XS.icmpYes X0.here hx rfl (pc0 := 37) (pc' := 44) rfl (hb hby d1_37) rfl (by decide) (by decide) (by decide) ?_
    refine sI X0 hx hby d1_44 rfl ?_
    refine sc X0 hx hby d1_45 ?_
    refine sn X0 hx hby d1_46 (by decide) ?_
    refine st1 _ ?_
    jvm_step X1.here [X1.here.top, hx, (hb hby d1_52), X1.method', Bd.returns, Value.isRef, FieldType.isReference]
    first | (intro acts; rw [hr _ acts rfl rfl rfl]) | rw [hr _ _ rfl rfl rfl]
    exact Steps.refl _
  · show Q1_11 Z w h0 n0 _ T1.heap _
    rw [e1]
    exact ⟨rfl, N0, rfl⟩
theorem ef_2_12 (m : MethodId) (w : Nat → Addr) : entryFrame m #[(.ref (w 4))] 1 = mkF m 0 #[.val (.ref (w 4))] [] := by first | (simp [entryFrame, mkF, argsToLocals, Value.category]; done) | rfl
def Q2_12 (Z : State) (w : Nat → Addr) (h0 : Heap) (n0 : Nat) (v : Option Value) (h : Heap) (L : List Loc) : Prop := v = some (.int (0 : Int32)) ∧ Fr n0 L ∧ h = h0
set_option maxRecDepth 65536 in
set_option maxHeartbeats 40000000 in
theorem rm2_12 (l : Launch) (Z : State) (a0 : Array Value) (hw : ∀ d ∈ tables_1, d.before a0 Z = true) (w : Nat → Addr) (hW : Wd Z w) (ws : List Jvm.Cond) (h0 : Heap) (n0 : Nat) (O0 : Old Z n0 h0) :
    MetFree l ym1 (head1 (Jvm.Cond.code ym1 prog_29_method_8_code 1 (some .boolean) :: ws) ({ frames := 0, cells := 0, slots := 0, locals := 0 } : Room)) (fun a U => a = #[(.ref (w 4))] ∧ Z.Warmed39 U.vm ∧ U.heap = h0) (fun _ _ _ _ _ => True) (fun _ U o U' => ∃ v L, o = .returned v ∧ Q2_12 Z w h0 n0 v U'.heap L ∧ FrameEnd U o U' L ({ frames := 0, cells := 0, slots := 0, locals := 0 } : Room).cells ({ frames := 0, cells := 0, slots := 0, locals := 0 } : Room).slots) := by
  refine MetFree.of_bodySF (plainFor_of_name pnc_1) hisR ?_
  intro p e s m args below meth c s₁ Bd hml0 hP hK
  obtain ⟨rfl, hZ, hh⟩ := hP
  have hx := Bd.exec
  have hby := Bd.bytes
  have hml : c.maxLocals = 1 := hml0
  have hown : s.vm.findClass "com/example/weftcheck/weftcheck/OperationKind" = some m.cls := findClass_of_methodNamed Bd.named
  have hnm := (name_of_methodNamed Bd.named Bd.method).1
  have X0 : Stand p l e ({ frames := 0, cells := 0, slots := 0, locals := 0 } : Room) s m #[(.ref (w 4))] below meth c s₁ [] 0 0 := Stand.of_body Bd
  have e0 : s₁.heap = h0 := by rw [← hh, Bd.state]; rfl
  have N0 := Fr.nil n0
  skip
  have pre0 : ∀ t, Steps p.tables e below (s₁.setTop (mkF m 0 #[.val (.ref (w 4))] [])) t → Steps p.tables e below (s₁.setTop (entryFrame m #[(.ref (w 4))] 1)) t := fun t k => castTop (ef_2_12 m w) k
  obtain ⟨T1, X1, e1, st1⟩ := getS2 X0 hx hZ hown (host := "") (Or.inl (wk13 hw)) Via.refl e0 ((wd0 hW).ext O0.2) (g := (mkF m 1 #[.val (.ref (w 4))] [(.ref (w 4))])) rfl (hb hby d2_1)
  obtain ⟨T2, X2, e2, st2⟩ := getS2 X1 hx hZ hown (host := "") (Or.inl (wk16 hw)) Via.refl e1 ((wd4 hW).ext O0.2) (g := (mkF m 8 #[.val (.ref (w 4))] [(.ref (w 4))])) rfl (hb hby d2_8)
  obtain ⟨fs, hr, hrun, hended, hWm, hsame⟩ := X2.leave (v := some (.int (0 : Int32))) (fun h => by rw [Bd.returns] at h; cases h)
  refine ⟨_, _, pre0 _ ?_, hrun, hended, _, _, rfl, ?_, ⟨_, rfl⟩, hWm, hsame.mono (by decide) (by decide)⟩
  · show Steps p.tables e below (s₁.setTop (mkF m 0 #[.val (.ref (w 4))] [])) _
    refine sA X0 hx hby d2_0 rfl rfl ?_
    refine st1 _ ?_
    refine Jvm.RoadKit.acmp (g := (mkF m 4 #[.val (.ref (w 4))] [(.ref (w 0)), (.ref (w 4))])) X1 hx rfl rfl rfl (pc0 := 4) (pc' := 7) (same := false) rfl (hb hby d2_4) rfl (decide_eq_false fun q => (Fld.ne (wd30 hW) (wd27 hW) (by decide)) (Value.ref.inj q)) (by decide) (by decide) ?_
    refine sA X1 hx hby d2_7 rfl rfl ?_
    refine st2 _ ?_
    refine Jvm.RoadKit.acmp (g := (mkF m 11 #[.val (.ref (w 4))] [(.ref (w 2)), (.ref (w 4))])) X2 hx rfl rfl rfl (pc0 := 11) (pc' := 18) (same := false) rfl (hb hby d2_11) rfl (decide_eq_false fun q => (Fld.ne (wd30 hW) (wd28 hW) (by decide)) (Value.ref.inj q)) (by decide) (by decide) ?_
    refine sc X2 hx hby d2_18 ?_
    exact retN X2 hx (t := .boolean) Bd.returns (by simp) (hb hby d2_19) hr
  · show Q2_12 Z w h0 n0 _ T2.heap _
    rw [e2]
    exact ⟨rfl, N0, rfl⟩
theorem d1_53 : decode method_2_code 53 = .ok (.iload_n 0, 1) := by decide +kernel
theorem d1_54 : decode method_2_code 54 = .ok (.bipush 6, 2) := by decide +kernel
theorem d1_56 : decode method_2_code 56 = .ok (.if_icmp .ne 7, 3) := by decide +kernel
theorem d1_59 : decode method_2_code 59 = .ok (.getstatic 28, 3) := by decide +kernel
theorem d1_62 : decode method_2_code 62 = .ok (.areturn, 1) := by decide +kernel
theorem ef_1_13 (m : MethodId) : entryFrame m #[(.int (6 : Int32))] 1 = mkF m 0 #[.val (.int (6 : Int32))] [] := by first | (simp [entryFrame, mkF, argsToLocals, Value.category]; done) | rfl
def Q1_13 (Z : State) (w : Nat → Addr) (h0 : Heap) (n0 : Nat) (v : Option Value) (h : Heap) (L : List Loc) : Prop := v = some (.ref (w 3)) ∧ Fr n0 L ∧ h = h0
set_option maxRecDepth 65536 in
set_option maxHeartbeats 40000000 in
theorem rm1_13 (l : Launch) (Z : State) (a0 : Array Value) (hw : ∀ d ∈ tables_1, d.before a0 Z = true) (w : Nat → Addr) (hW : Wd Z w) (ws : List Jvm.Cond) (h0 : Heap) (n0 : Nat) (O0 : Old Z n0 h0) :
    MetFree l ym0 (head1 (Jvm.Cond.code ym0 method_2_code 1 (some (.object "com/example/weftcheck/weftcheck/OperationKind")) :: ws) ({ frames := 0, cells := 0, slots := 0, locals := 0 } : Room)) (fun a U => a = #[(.int (6 : Int32))] ∧ Z.Warmed39 U.vm ∧ U.heap = h0) (fun _ _ _ _ _ => True) (fun _ U o U' => ∃ v L, o = .returned v ∧ Q1_13 Z w h0 n0 v U'.heap L ∧ FrameEnd U o U' L ({ frames := 0, cells := 0, slots := 0, locals := 0 } : Room).cells ({ frames := 0, cells := 0, slots := 0, locals := 0 } : Room).slots) := by
  refine MetFree.of_bodySF (plainFor_of_name pnc_0) hisR ?_
  intro p e s m args below meth c s₁ Bd hml0 hP hK
  obtain ⟨rfl, hZ, hh⟩ := hP
  have hx := Bd.exec
  have hby := Bd.bytes
  have hml : c.maxLocals = 1 := hml0
  have hown : s.vm.findClass "com/example/weftcheck/weftcheck/OperationKindBindsRowPinLaw" = some m.cls := findClass_of_methodNamed Bd.named
  have hnm := (name_of_methodNamed Bd.named Bd.method).1
  have X0 : Stand p l e ({ frames := 0, cells := 0, slots := 0, locals := 0 } : Room) s m #[(.int (6 : Int32))] below meth c s₁ [] 0 0 := Stand.of_body Bd
  have e0 : s₁.heap = h0 := by rw [← hh, Bd.state]; rfl
  have N0 := Fr.nil n0
  skip
  have pre0 : ∀ t, Steps p.tables e below (s₁.setTop (mkF m 0 #[.val (.int (6 : Int32))] [])) t → Steps p.tables e below (s₁.setTop (entryFrame m #[(.int (6 : Int32))] 1)) t := fun t k => castTop (ef_1_13 m) k
  obtain ⟨T1, X1, e1, st1⟩ := getS2 X0 hx hZ hown (host := "") (Or.inl (wk18 hw)) Via.refl e0 ((wd6 hW).ext O0.2) (g := (mkF m 59 #[.val (.int (6 : Int32))] [])) rfl (hb hby d1_59)
  obtain ⟨fs, hr, hrun, hended, hWm, hsame⟩ := X1.leave (v := some (.ref (w 3))) (fun h => by rw [Bd.returns] at h; cases h)
  refine ⟨_, _, pre0 _ ?_, hrun, hended, _, _, rfl, ?_, ⟨_, rfl⟩, hWm, hsame.mono (by decide) (by decide)⟩
  · show Steps p.tables e below (s₁.setTop (mkF m 0 #[.val (.int (6 : Int32))] [])) _
    refine sI X0 hx hby d1_0 rfl ?_
    refine XS.ifYes X0.here hx rfl (pc0 := 1) (pc' := 8) rfl (hb hby d1_1) rfl (by decide) (by decide) (by decide) ?_
    refine sI X0 hx hby d1_8 rfl ?_
    refine sc X0 hx hby d1_9 ?_
    refine XS.icmpYes X0.here hx rfl (pc0 := 10) (pc' := 17) rfl (hb hby d1_10) rfl (by decide) (by decide) (by decide) ?_
    refine sI X0 hx hby d1_17 rfl ?_
    refine sc X0 hx hby d1_18 ?_
    refine XS.icmpYes X0.here hx rfl (pc0 := 19) (pc' := 26) rfl (hb hby d1_19) rfl (by decide) (by decide) (by decide) ?_
    refine sI X0 hx hby d1_26 rfl ?_
    refine sc X0 hx hby d1_27 ?_
    refine XS.icmpYes X0.here hx rfl (pc0 := 28) (pc' := 35) rfl (hb hby d1_28) rfl (by decide) (by decide) (by decide) ?_
    refine sI X0 hx hby d1_35 rfl ?_
    refine sc X0 hx hby d1_36 ?_
    refine XS.icmpYes X0.here hx rfl (pc0 := 37) (pc' := 44) rfl (hb hby d1_37) rfl (by decide) (by decide) (by decide) ?_
    refine sI X0 hx hby d1_44 rfl ?_
    refine sc X0 hx hby d1_45 ?_
    refine XS.icmpYes X0.here hx rfl (pc0 := 46) (pc' := 53) rfl (hb hby d1_46) rfl (by decide) (by decide) (by decide) ?_
    refine sI X0 hx hby d1_53 rfl ?_
    refine XS.bipush X0.here hx rfl (hb hby d1_54) ?_
    refine sn X0 hx hby d1_56 (by decide) ?_
    refine st1 _ ?_
    jvm_step X1.here [X1.here.top, hx, (hb hby d1_62), X1.method', Bd.returns, Value.isRef, FieldType.isReference]
    first | (intro acts; rw [hr _ acts rfl rfl rfl]) | rw [hr _ _ rfl rfl rfl]
    exact Steps.refl _
  · show Q1_13 Z w h0 n0 _ T1.heap _
    rw [e1]
    exact ⟨rfl, N0, rfl⟩
theorem ef_2_14 (m : MethodId) (w : Nat → Addr) : entryFrame m #[(.ref (w 3))] 1 = mkF m 0 #[.val (.ref (w 3))] [] := by first | (simp [entryFrame, mkF, argsToLocals, Value.category]; done) | rfl
def Q2_14 (Z : State) (w : Nat → Addr) (h0 : Heap) (n0 : Nat) (v : Option Value) (h : Heap) (L : List Loc) : Prop := v = some (.int (0 : Int32)) ∧ Fr n0 L ∧ h = h0
set_option maxRecDepth 65536 in
set_option maxHeartbeats 40000000 in
theorem rm2_14 (l : Launch) (Z : State) (a0 : Array Value) (hw : ∀ d ∈ tables_1, d.before a0 Z = true) (w : Nat → Addr) (hW : Wd Z w) (ws : List Jvm.Cond) (h0 : Heap) (n0 : Nat) (O0 : Old Z n0 h0) :
    MetFree l ym1 (head1 (Jvm.Cond.code ym1 prog_29_method_8_code 1 (some .boolean) :: ws) ({ frames := 0, cells := 0, slots := 0, locals := 0 } : Room)) (fun a U => a = #[(.ref (w 3))] ∧ Z.Warmed39 U.vm ∧ U.heap = h0) (fun _ _ _ _ _ => True) (fun _ U o U' => ∃ v L, o = .returned v ∧ Q2_14 Z w h0 n0 v U'.heap L ∧ FrameEnd U o U' L ({ frames := 0, cells := 0, slots := 0, locals := 0 } : Room).cells ({ frames := 0, cells := 0, slots := 0, locals := 0 } : Room).slots) := by
  refine MetFree.of_bodySF (plainFor_of_name pnc_1) hisR ?_
  intro p e s m args below meth c s₁ Bd hml0 hP hK
  obtain ⟨rfl, hZ, hh⟩ := hP
  have hx := Bd.exec
  have hby := Bd.bytes
  have hml : c.maxLocals = 1 := hml0
  have hown : s.vm.findClass "com/example/weftcheck/weftcheck/OperationKind" = some m.cls := findClass_of_methodNamed Bd.named
  have hnm := (name_of_methodNamed Bd.named Bd.method).1
  have X0 : Stand p l e ({ frames := 0, cells := 0, slots := 0, locals := 0 } : Room) s m #[(.ref (w 3))] below meth c s₁ [] 0 0 := Stand.of_body Bd
  have e0 : s₁.heap = h0 := by rw [← hh, Bd.state]; rfl
  have N0 := Fr.nil n0
  skip
  have pre0 : ∀ t, Steps p.tables e below (s₁.setTop (mkF m 0 #[.val (.ref (w 3))] [])) t → Steps p.tables e below (s₁.setTop (entryFrame m #[(.ref (w 3))] 1)) t := fun t k => castTop (ef_2_14 m w) k
  obtain ⟨T1, X1, e1, st1⟩ := getS2 X0 hx hZ hown (host := "") (Or.inl (wk13 hw)) Via.refl e0 ((wd0 hW).ext O0.2) (g := (mkF m 1 #[.val (.ref (w 3))] [(.ref (w 3))])) rfl (hb hby d2_1)
  obtain ⟨T2, X2, e2, st2⟩ := getS2 X1 hx hZ hown (host := "") (Or.inl (wk16 hw)) Via.refl e1 ((wd4 hW).ext O0.2) (g := (mkF m 8 #[.val (.ref (w 3))] [(.ref (w 3))])) rfl (hb hby d2_8)
  obtain ⟨fs, hr, hrun, hended, hWm, hsame⟩ := X2.leave (v := some (.int (0 : Int32))) (fun h => by rw [Bd.returns] at h; cases h)
  refine ⟨_, _, pre0 _ ?_, hrun, hended, _, _, rfl, ?_, ⟨_, rfl⟩, hWm, hsame.mono (by decide) (by decide)⟩
  · show Steps p.tables e below (s₁.setTop (mkF m 0 #[.val (.ref (w 3))] [])) _
    refine sA X0 hx hby d2_0 rfl rfl ?_
    refine st1 _ ?_
    refine Jvm.RoadKit.acmp (g := (mkF m 4 #[.val (.ref (w 3))] [(.ref (w 0)), (.ref (w 3))])) X1 hx rfl rfl rfl (pc0 := 4) (pc' := 7) (same := false) rfl (hb hby d2_4) rfl (decide_eq_false fun q => (Fld.ne (wd29 hW) (wd27 hW) (by decide)) (Value.ref.inj q)) (by decide) (by decide) ?_
    refine sA X1 hx hby d2_7 rfl rfl ?_
    refine st2 _ ?_
    refine Jvm.RoadKit.acmp (g := (mkF m 11 #[.val (.ref (w 3))] [(.ref (w 2)), (.ref (w 3))])) X2 hx rfl rfl rfl (pc0 := 11) (pc' := 18) (same := false) rfl (hb hby d2_11) rfl (decide_eq_false fun q => (Fld.ne (wd29 hW) (wd28 hW) (by decide)) (Value.ref.inj q)) (by decide) (by decide) ?_
    refine sc X2 hx hby d2_18 ?_
    exact retN X2 hx (t := .boolean) Bd.returns (by simp) (hb hby d2_19) hr
  · show Q2_14 Z w h0 n0 _ T2.heap _
    rw [e2]
    exact ⟨rfl, N0, rfl⟩
theorem d1_63 : decode method_2_code 63 = .ok (.iload_n 0, 1) := by decide +kernel
theorem d1_64 : decode method_2_code 64 = .ok (.bipush 7, 2) := by decide +kernel
theorem d1_66 : decode method_2_code 66 = .ok (.if_icmp .ne 7, 3) := by decide +kernel
theorem d1_69 : decode method_2_code 69 = .ok (.getstatic 31, 3) := by decide +kernel
theorem d1_72 : decode method_2_code 72 = .ok (.areturn, 1) := by decide +kernel
theorem ef_1_15 (m : MethodId) : entryFrame m #[(.int (7 : Int32))] 1 = mkF m 0 #[.val (.int (7 : Int32))] [] := by first | (simp [entryFrame, mkF, argsToLocals, Value.category]; done) | rfl
def Q1_15 (Z : State) (w : Nat → Addr) (h0 : Heap) (n0 : Nat) (v : Option Value) (h : Heap) (L : List Loc) : Prop := v = some (.ref (w 5)) ∧ Fr n0 L ∧ h = h0
set_option maxRecDepth 65536 in
set_option maxHeartbeats 40000000 in
theorem rm1_15 (l : Launch) (Z : State) (a0 : Array Value) (hw : ∀ d ∈ tables_1, d.before a0 Z = true) (w : Nat → Addr) (hW : Wd Z w) (ws : List Jvm.Cond) (h0 : Heap) (n0 : Nat) (O0 : Old Z n0 h0) :
    MetFree l ym0 (head1 (Jvm.Cond.code ym0 method_2_code 1 (some (.object "com/example/weftcheck/weftcheck/OperationKind")) :: ws) ({ frames := 0, cells := 0, slots := 0, locals := 0 } : Room)) (fun a U => a = #[(.int (7 : Int32))] ∧ Z.Warmed39 U.vm ∧ U.heap = h0) (fun _ _ _ _ _ => True) (fun _ U o U' => ∃ v L, o = .returned v ∧ Q1_15 Z w h0 n0 v U'.heap L ∧ FrameEnd U o U' L ({ frames := 0, cells := 0, slots := 0, locals := 0 } : Room).cells ({ frames := 0, cells := 0, slots := 0, locals := 0 } : Room).slots) := by
  refine MetFree.of_bodySF (plainFor_of_name pnc_0) hisR ?_
  intro p e s m args below meth c s₁ Bd hml0 hP hK
  obtain ⟨rfl, hZ, hh⟩ := hP
  have hx := Bd.exec
  have hby := Bd.bytes
  have hml : c.maxLocals = 1 := hml0
  have hown : s.vm.findClass "com/example/weftcheck/weftcheck/OperationKindBindsRowPinLaw" = some m.cls := findClass_of_methodNamed Bd.named
  have hnm := (name_of_methodNamed Bd.named Bd.method).1
  have X0 : Stand p l e ({ frames := 0, cells := 0, slots := 0, locals := 0 } : Room) s m #[(.int (7 : Int32))] below meth c s₁ [] 0 0 := Stand.of_body Bd
  have e0 : s₁.heap = h0 := by rw [← hh, Bd.state]; rfl
  have N0 := Fr.nil n0
  skip
  have pre0 : ∀ t, Steps p.tables e below (s₁.setTop (mkF m 0 #[.val (.int (7 : Int32))] [])) t → Steps p.tables e below (s₁.setTop (entryFrame m #[(.int (7 : Int32))] 1)) t := fun t k => castTop (ef_1_15 m) k
  obtain ⟨T1, X1, e1, st1⟩ := getS2 X0 hx hZ hown (host := "") (Or.inl (wk22 hw)) Via.refl e0 ((wd10 hW).ext O0.2) (g := (mkF m 69 #[.val (.int (7 : Int32))] [])) rfl (hb hby d1_69)
  obtain ⟨fs, hr, hrun, hended, hWm, hsame⟩ := X1.leave (v := some (.ref (w 5))) (fun h => by rw [Bd.returns] at h; cases h)
  refine ⟨_, _, pre0 _ ?_, hrun, hended, _, _, rfl, ?_, ⟨_, rfl⟩, hWm, hsame.mono (by decide) (by decide)⟩
  · show Steps p.tables e below (s₁.setTop (mkF m 0 #[.val (.int (7 : Int32))] [])) _
    refine sI X0 hx hby d1_0 rfl ?_
    refine XS.ifYes X0.here hx rfl (pc0 := 1) (pc' := 8) rfl (hb hby d1_1) rfl (by decide) (by decide) (by decide) ?_
    refine sI X0 hx hby d1_8 rfl ?_
    refine sc X0 hx hby d1_9 ?_
    refine XS.icmpYes X0.here hx rfl (pc0 := 10) (pc' := 17) rfl (hb hby d1_10) rfl (by decide) (by decide) (by decide) ?_
    refine sI X0 hx hby d1_17 rfl ?_
    refine sc X0 hx hby d1_18 ?_
    refine XS.icmpYes X0.here hx rfl (pc0 := 19) (pc' := 26) rfl (hb hby d1_19) rfl (by decide) (by decide) (by decide) ?_
    refine sI X0 hx hby d1_26 rfl ?_
    refine sc X0 hx hby d1_27 ?_
    refine XS.icmpYes X0.here hx rfl (pc0 := 28) (pc' := 35) rfl (hb hby d1_28) rfl (by decide) (by decide) (by decide) ?_
    refine sI X0 hx hby d1_35 rfl ?_
    refine sc X0 hx hby d1_36 ?_
    refine XS.icmpYes X0.here hx rfl (pc0 := 37) (pc' := 44) rfl (hb hby d1_37) rfl (by decide) (by decide) (by decide) ?_
    refine sI X0 hx hby d1_44 rfl ?_
    refine sc X0 hx hby d1_45 ?_
    refine XS.icmpYes X0.here hx rfl (pc0 := 46) (pc' := 53) rfl (hb hby d1_46) rfl (by decide) (by decide) (by decide) ?_
    refine sI X0 hx hby d1_53 rfl ?_
    refine XS.bipush X0.here hx rfl (hb hby d1_54) ?_
    refine XS.icmpYes X0.here hx rfl (pc0 := 56) (pc' := 63) rfl (hb hby d1_56) rfl (by decide) (by decide) (by decide) ?_
    refine sI X0 hx hby d1_63 rfl ?_
    refine XS.bipush X0.here hx rfl (hb hby d1_64) ?_
    refine sn X0 hx hby d1_66 (by decide) ?_
    refine st1 _ ?_
    jvm_step X1.here [X1.here.top, hx, (hb hby d1_72), X1.method', Bd.returns, Value.isRef, FieldType.isReference]
    first | (intro acts; rw [hr _ acts rfl rfl rfl]) | rw [hr _ _ rfl rfl rfl]
    exact Steps.refl _
  · show Q1_15 Z w h0 n0 _ T1.heap _
    rw [e1]
    exact ⟨rfl, N0, rfl⟩
theorem ef_2_16 (m : MethodId) (w : Nat → Addr) : entryFrame m #[(.ref (w 5))] 1 = mkF m 0 #[.val (.ref (w 5))] [] := by first | (simp [entryFrame, mkF, argsToLocals, Value.category]; done) | rfl
def Q2_16 (Z : State) (w : Nat → Addr) (h0 : Heap) (n0 : Nat) (v : Option Value) (h : Heap) (L : List Loc) : Prop := v = some (.int (0 : Int32)) ∧ Fr n0 L ∧ h = h0
set_option maxRecDepth 65536 in
set_option maxHeartbeats 40000000 in
theorem rm2_16 (l : Launch) (Z : State) (a0 : Array Value) (hw : ∀ d ∈ tables_1, d.before a0 Z = true) (w : Nat → Addr) (hW : Wd Z w) (ws : List Jvm.Cond) (h0 : Heap) (n0 : Nat) (O0 : Old Z n0 h0) :
    MetFree l ym1 (head1 (Jvm.Cond.code ym1 prog_29_method_8_code 1 (some .boolean) :: ws) ({ frames := 0, cells := 0, slots := 0, locals := 0 } : Room)) (fun a U => a = #[(.ref (w 5))] ∧ Z.Warmed39 U.vm ∧ U.heap = h0) (fun _ _ _ _ _ => True) (fun _ U o U' => ∃ v L, o = .returned v ∧ Q2_16 Z w h0 n0 v U'.heap L ∧ FrameEnd U o U' L ({ frames := 0, cells := 0, slots := 0, locals := 0 } : Room).cells ({ frames := 0, cells := 0, slots := 0, locals := 0 } : Room).slots) := by
  refine MetFree.of_bodySF (plainFor_of_name pnc_1) hisR ?_
  intro p e s m args below meth c s₁ Bd hml0 hP hK
  obtain ⟨rfl, hZ, hh⟩ := hP
  have hx := Bd.exec
  have hby := Bd.bytes
  have hml : c.maxLocals = 1 := hml0
  have hown : s.vm.findClass "com/example/weftcheck/weftcheck/OperationKind" = some m.cls := findClass_of_methodNamed Bd.named
  have hnm := (name_of_methodNamed Bd.named Bd.method).1
  have X0 : Stand p l e ({ frames := 0, cells := 0, slots := 0, locals := 0 } : Room) s m #[(.ref (w 5))] below meth c s₁ [] 0 0 := Stand.of_body Bd
  have e0 : s₁.heap = h0 := by rw [← hh, Bd.state]; rfl
  have N0 := Fr.nil n0
  skip
  have pre0 : ∀ t, Steps p.tables e below (s₁.setTop (mkF m 0 #[.val (.ref (w 5))] [])) t → Steps p.tables e below (s₁.setTop (entryFrame m #[(.ref (w 5))] 1)) t := fun t k => castTop (ef_2_16 m w) k
  obtain ⟨T1, X1, e1, st1⟩ := getS2 X0 hx hZ hown (host := "") (Or.inl (wk13 hw)) Via.refl e0 ((wd0 hW).ext O0.2) (g := (mkF m 1 #[.val (.ref (w 5))] [(.ref (w 5))])) rfl (hb hby d2_1)
  obtain ⟨T2, X2, e2, st2⟩ := getS2 X1 hx hZ hown (host := "") (Or.inl (wk16 hw)) Via.refl e1 ((wd4 hW).ext O0.2) (g := (mkF m 8 #[.val (.ref (w 5))] [(.ref (w 5))])) rfl (hb hby d2_8)
  obtain ⟨fs, hr, hrun, hended, hWm, hsame⟩ := X2.leave (v := some (.int (0 : Int32))) (fun h => by rw [Bd.returns] at h; cases h)
  refine ⟨_, _, pre0 _ ?_, hrun, hended, _, _, rfl, ?_, ⟨_, rfl⟩, hWm, hsame.mono (by decide) (by decide)⟩
  · show Steps p.tables e below (s₁.setTop (mkF m 0 #[.val (.ref (w 5))] [])) _
    refine sA X0 hx hby d2_0 rfl rfl ?_
    refine st1 _ ?_
    refine Jvm.RoadKit.acmp (g := (mkF m 4 #[.val (.ref (w 5))] [(.ref (w 0)), (.ref (w 5))])) X1 hx rfl rfl rfl (pc0 := 4) (pc' := 7) (same := false) rfl (hb hby d2_4) rfl (decide_eq_false fun q => (Fld.ne (wd31 hW) (wd27 hW) (by decide)) (Value.ref.inj q)) (by decide) (by decide) ?_
    refine sA X1 hx hby d2_7 rfl rfl ?_
    refine st2 _ ?_
    refine Jvm.RoadKit.acmp (g := (mkF m 11 #[.val (.ref (w 5))] [(.ref (w 2)), (.ref (w 5))])) X2 hx rfl rfl rfl (pc0 := 11) (pc' := 18) (same := false) rfl (hb hby d2_11) rfl (decide_eq_false fun q => (Fld.ne (wd31 hW) (wd28 hW) (by decide)) (Value.ref.inj q)) (by decide) (by decide) ?_
    refine sc X2 hx hby d2_18 ?_
    exact retN X2 hx (t := .boolean) Bd.returns (by simp) (hb hby d2_19) hr
  · show Q2_16 Z w h0 n0 _ T2.heap _
    rw [e2]
    exact ⟨rfl, N0, rfl⟩
theorem d1_73 : decode method_2_code 73 = .ok (.iload_n 0, 1) := by decide +kernel
theorem d1_74 : decode method_2_code 74 = .ok (.bipush 8, 2) := by decide +kernel
theorem d1_76 : decode method_2_code 76 = .ok (.if_icmp .ne 7, 3) := by decide +kernel
theorem d1_79 : decode method_2_code 79 = .ok (.getstatic 34, 3) := by decide +kernel
theorem d1_82 : decode method_2_code 82 = .ok (.areturn, 1) := by decide +kernel
theorem ef_1_17 (m : MethodId) : entryFrame m #[(.int (8 : Int32))] 1 = mkF m 0 #[.val (.int (8 : Int32))] [] := by first | (simp [entryFrame, mkF, argsToLocals, Value.category]; done) | rfl
def Q1_17 (Z : State) (w : Nat → Addr) (h0 : Heap) (n0 : Nat) (v : Option Value) (h : Heap) (L : List Loc) : Prop := v = some (.ref (w 2)) ∧ Fr n0 L ∧ h = h0
set_option maxRecDepth 65536 in
set_option maxHeartbeats 40000000 in
theorem rm1_17 (l : Launch) (Z : State) (a0 : Array Value) (hw : ∀ d ∈ tables_1, d.before a0 Z = true) (w : Nat → Addr) (hW : Wd Z w) (ws : List Jvm.Cond) (h0 : Heap) (n0 : Nat) (O0 : Old Z n0 h0) :
    MetFree l ym0 (head1 (Jvm.Cond.code ym0 method_2_code 1 (some (.object "com/example/weftcheck/weftcheck/OperationKind")) :: ws) ({ frames := 0, cells := 0, slots := 0, locals := 0 } : Room)) (fun a U => a = #[(.int (8 : Int32))] ∧ Z.Warmed39 U.vm ∧ U.heap = h0) (fun _ _ _ _ _ => True) (fun _ U o U' => ∃ v L, o = .returned v ∧ Q1_17 Z w h0 n0 v U'.heap L ∧ FrameEnd U o U' L ({ frames := 0, cells := 0, slots := 0, locals := 0 } : Room).cells ({ frames := 0, cells := 0, slots := 0, locals := 0 } : Room).slots) := by
  refine MetFree.of_bodySF (plainFor_of_name pnc_0) hisR ?_
  intro p e s m args below meth c s₁ Bd hml0 hP hK
  obtain ⟨rfl, hZ, hh⟩ := hP
  have hx := Bd.exec
  have hby := Bd.bytes
  have hml : c.maxLocals = 1 := hml0
  have hown : s.vm.findClass "com/example/weftcheck/weftcheck/OperationKindBindsRowPinLaw" = some m.cls := findClass_of_methodNamed Bd.named
  have hnm := (name_of_methodNamed Bd.named Bd.method).1
  have X0 : Stand p l e ({ frames := 0, cells := 0, slots := 0, locals := 0 } : Room) s m #[(.int (8 : Int32))] below meth c s₁ [] 0 0 := Stand.of_body Bd
  have e0 : s₁.heap = h0 := by rw [← hh, Bd.state]; rfl
  have N0 := Fr.nil n0
  skip
  have pre0 : ∀ t, Steps p.tables e below (s₁.setTop (mkF m 0 #[.val (.int (8 : Int32))] [])) t → Steps p.tables e below (s₁.setTop (entryFrame m #[(.int (8 : Int32))] 1)) t := fun t k => castTop (ef_1_17 m) k
  obtain ⟨T1, X1, e1, st1⟩ := getS2 X0 hx hZ hown (host := "") (Or.inl (wk32 hw)) Via.refl e0 ((wd4 hW).ext O0.2) (g := (mkF m 79 #[.val (.int (8 : Int32))] [])) rfl (hb hby d1_79)
  obtain ⟨fs, hr, hrun, hended, hWm, hsame⟩ := X1.leave (v := some (.ref (w 2))) (fun h => by rw [Bd.returns] at h; cases h)
  refine ⟨_, _, pre0 _ ?_, hrun, hended, _, _, rfl, ?_, ⟨_, rfl⟩, hWm, hsame.mono (by decide) (by decide)⟩
  · show Steps p.tables e below (s₁.setTop (mkF m 0 #[.val (.int (8 : Int32))] [])) _
    refine sI X0 hx hby d1_0 rfl ?_
    refine XS.ifYes X0.here hx rfl (pc0 := 1) (pc' := 8) rfl (hb hby d1_1) rfl (by decide) (by decide) (by decide) ?_
    refine sI X0 hx hby d1_8 rfl ?_
    refine sc X0 hx hby d1_9 ?_
    refine XS.icmpYes X0.here hx rfl (pc0 := 10) (pc' := 17) rfl (hb hby d1_10) rfl (by decide) (by decide) (by decide) ?_
    refine sI X0 hx hby d1_17 rfl ?_
    refine sc X0 hx hby d1_18 ?_
    refine XS.icmpYes X0.here hx rfl (pc0 := 19) (pc' := 26) rfl (hb hby d1_19) rfl (by decide) (by decide) (by decide) ?_
    refine sI X0 hx hby d1_26 rfl ?_
    refine sc X0 hx hby d1_27 ?_
    refine XS.icmpYes X0.here hx rfl (pc0 := 28) (pc' := 35) rfl (hb hby d1_28) rfl (by decide) (by decide) (by decide) ?_
    refine sI X0 hx hby d1_35 rfl ?_
    refine sc X0 hx hby d1_36 ?_
    refine XS.icmpYes X0.here hx rfl (pc0 := 37) (pc' := 44) rfl (hb hby d1_37) rfl (by decide) (by decide) (by decide) ?_
    refine sI X0 hx hby d1_44 rfl ?_
    refine sc X0 hx hby d1_45 ?_
    refine XS.icmpYes X0.here hx rfl (pc0 := 46) (pc' := 53) rfl (hb hby d1_46) rfl (by decide) (by decide) (by decide) ?_
    refine sI X0 hx hby d1_53 rfl ?_
    refine XS.bipush X0.here hx rfl (hb hby d1_54) ?_
    refine XS.icmpYes X0.here hx rfl (pc0 := 56) (pc' := 63) rfl (hb hby d1_56) rfl (by decide) (by decide) (by decide) ?_
    refine sI X0 hx hby d1_63 rfl ?_
    refine XS.bipush X0.here hx rfl (hb hby d1_64) ?_
    refine XS.icmpYes X0.here hx rfl (pc0 := 66) (pc' := 73) rfl (hb hby d1_66) rfl (by decide) (by decide) (by decide) ?_
    refine sI X0 hx hby d1_73 rfl ?_
    refine XS.bipush X0.here hx rfl (hb hby d1_74) ?_
    refine sn X0 hx hby d1_76 (by decide) ?_
    refine st1 _ ?_
    jvm_step X1.here [X1.here.top, hx, (hb hby d1_82), X1.method', Bd.returns, Value.isRef, FieldType.isReference]
    first | (intro acts; rw [hr _ acts rfl rfl rfl]) | rw [hr _ _ rfl rfl rfl]
    exact Steps.refl _
  · show Q1_17 Z w h0 n0 _ T1.heap _
    rw [e1]
    exact ⟨rfl, N0, rfl⟩
theorem ef_2_18 (m : MethodId) (w : Nat → Addr) : entryFrame m #[(.ref (w 2))] 1 = mkF m 0 #[.val (.ref (w 2))] [] := by first | (simp [entryFrame, mkF, argsToLocals, Value.category]; done) | rfl
def Q2_18 (Z : State) (w : Nat → Addr) (h0 : Heap) (n0 : Nat) (v : Option Value) (h : Heap) (L : List Loc) : Prop := v = some (.int (1 : Int32)) ∧ Fr n0 L ∧ h = h0
set_option maxRecDepth 65536 in
set_option maxHeartbeats 40000000 in
theorem rm2_18 (l : Launch) (Z : State) (a0 : Array Value) (hw : ∀ d ∈ tables_1, d.before a0 Z = true) (w : Nat → Addr) (hW : Wd Z w) (ws : List Jvm.Cond) (h0 : Heap) (n0 : Nat) (O0 : Old Z n0 h0) :
    MetFree l ym1 (head1 (Jvm.Cond.code ym1 prog_29_method_8_code 1 (some .boolean) :: ws) ({ frames := 0, cells := 0, slots := 0, locals := 0 } : Room)) (fun a U => a = #[(.ref (w 2))] ∧ Z.Warmed39 U.vm ∧ U.heap = h0) (fun _ _ _ _ _ => True) (fun _ U o U' => ∃ v L, o = .returned v ∧ Q2_18 Z w h0 n0 v U'.heap L ∧ FrameEnd U o U' L ({ frames := 0, cells := 0, slots := 0, locals := 0 } : Room).cells ({ frames := 0, cells := 0, slots := 0, locals := 0 } : Room).slots) := by
  refine MetFree.of_bodySF (plainFor_of_name pnc_1) hisR ?_
  intro p e s m args below meth c s₁ Bd hml0 hP hK
  obtain ⟨rfl, hZ, hh⟩ := hP
  have hx := Bd.exec
  have hby := Bd.bytes
  have hml : c.maxLocals = 1 := hml0
  have hown : s.vm.findClass "com/example/weftcheck/weftcheck/OperationKind" = some m.cls := findClass_of_methodNamed Bd.named
  have hnm := (name_of_methodNamed Bd.named Bd.method).1
  have X0 : Stand p l e ({ frames := 0, cells := 0, slots := 0, locals := 0 } : Room) s m #[(.ref (w 2))] below meth c s₁ [] 0 0 := Stand.of_body Bd
  have e0 : s₁.heap = h0 := by rw [← hh, Bd.state]; rfl
  have N0 := Fr.nil n0
  skip
  have pre0 : ∀ t, Steps p.tables e below (s₁.setTop (mkF m 0 #[.val (.ref (w 2))] [])) t → Steps p.tables e below (s₁.setTop (entryFrame m #[(.ref (w 2))] 1)) t := fun t k => castTop (ef_2_18 m w) k
  obtain ⟨T1, X1, e1, st1⟩ := getS2 X0 hx hZ hown (host := "") (Or.inl (wk13 hw)) Via.refl e0 ((wd0 hW).ext O0.2) (g := (mkF m 1 #[.val (.ref (w 2))] [(.ref (w 2))])) rfl (hb hby d2_1)
  obtain ⟨T2, X2, e2, st2⟩ := getS2 X1 hx hZ hown (host := "") (Or.inl (wk16 hw)) Via.refl e1 ((wd4 hW).ext O0.2) (g := (mkF m 8 #[.val (.ref (w 2))] [(.ref (w 2))])) rfl (hb hby d2_8)
  obtain ⟨fs, hr, hrun, hended, hWm, hsame⟩ := X2.leave (v := some (.int (1 : Int32))) (fun h => by rw [Bd.returns] at h; cases h)
  refine ⟨_, _, pre0 _ ?_, hrun, hended, _, _, rfl, ?_, ⟨_, rfl⟩, hWm, hsame.mono (by decide) (by decide)⟩
  · show Steps p.tables e below (s₁.setTop (mkF m 0 #[.val (.ref (w 2))] [])) _
    refine sA X0 hx hby d2_0 rfl rfl ?_
    refine st1 _ ?_
    refine Jvm.RoadKit.acmp (g := (mkF m 4 #[.val (.ref (w 2))] [(.ref (w 0)), (.ref (w 2))])) X1 hx rfl rfl rfl (pc0 := 4) (pc' := 7) (same := false) rfl (hb hby d2_4) rfl (decide_eq_false fun q => (Fld.ne (wd28 hW) (wd27 hW) (by decide)) (Value.ref.inj q)) (by decide) (by decide) ?_
    refine sA X1 hx hby d2_7 rfl rfl ?_
    refine st2 _ ?_
    refine Jvm.RoadKit.acmp (g := (mkF m 11 #[.val (.ref (w 2))] [(.ref (w 2)), (.ref (w 2))])) X2 hx rfl rfl rfl (pc0 := 11) (pc' := 14) (same := true) rfl (hb hby d2_11) rfl (decide_eq_true rfl) (by decide) (by decide) ?_
    refine sc X2 hx hby d2_14 ?_
    refine sg (pc := 15) (pc' := 19) X2 hx hby d2_15 (by decide) (by decide) ?_
    exact retN X2 hx (t := .boolean) Bd.returns (by simp) (hb hby d2_19) hr
  · show Q2_18 Z w h0 n0 _ T2.heap _
    rw [e2]
    exact ⟨rfl, N0, rfl⟩
theorem d1_83 : decode method_2_code 83 = .ok (.iload_n 0, 1) := by decide +kernel
theorem d1_84 : decode method_2_code 84 = .ok (.bipush 9, 2) := by decide +kernel
theorem d1_86 : decode method_2_code 86 = .ok (.if_icmp .ne 7, 3) := by decide +kernel
theorem d1_89 : decode method_2_code 89 = .ok (.getstatic 37, 3) := by decide +kernel
theorem d1_92 : decode method_2_code 92 = .ok (.areturn, 1) := by decide +kernel
theorem ef_1_19 (m : MethodId) : entryFrame m #[(.int (9 : Int32))] 1 = mkF m 0 #[.val (.int (9 : Int32))] [] := by first | (simp [entryFrame, mkF, argsToLocals, Value.category]; done) | rfl
def Q1_19 (Z : State) (w : Nat → Addr) (h0 : Heap) (n0 : Nat) (v : Option Value) (h : Heap) (L : List Loc) : Prop := v = some (.ref (w 6)) ∧ Fr n0 L ∧ h = h0
set_option maxRecDepth 65536 in
set_option maxHeartbeats 40000000 in
theorem rm1_19 (l : Launch) (Z : State) (a0 : Array Value) (hw : ∀ d ∈ tables_1, d.before a0 Z = true) (w : Nat → Addr) (hW : Wd Z w) (ws : List Jvm.Cond) (h0 : Heap) (n0 : Nat) (O0 : Old Z n0 h0) :
    MetFree l ym0 (head1 (Jvm.Cond.code ym0 method_2_code 1 (some (.object "com/example/weftcheck/weftcheck/OperationKind")) :: ws) ({ frames := 0, cells := 0, slots := 0, locals := 0 } : Room)) (fun a U => a = #[(.int (9 : Int32))] ∧ Z.Warmed39 U.vm ∧ U.heap = h0) (fun _ _ _ _ _ => True) (fun _ U o U' => ∃ v L, o = .returned v ∧ Q1_19 Z w h0 n0 v U'.heap L ∧ FrameEnd U o U' L ({ frames := 0, cells := 0, slots := 0, locals := 0 } : Room).cells ({ frames := 0, cells := 0, slots := 0, locals := 0 } : Room).slots) := by
  refine MetFree.of_bodySF (plainFor_of_name pnc_0) hisR ?_
  intro p e s m args below meth c s₁ Bd hml0 hP hK
  obtain ⟨rfl, hZ, hh⟩ := hP
  have hx := Bd.exec
  have hby := Bd.bytes
  have hml : c.maxLocals = 1 := hml0
  have hown : s.vm.findClass "com/example/weftcheck/weftcheck/OperationKindBindsRowPinLaw" = some m.cls := findClass_of_methodNamed Bd.named
  have hnm := (name_of_methodNamed Bd.named Bd.method).1
  have X0 : Stand p l e ({ frames := 0, cells := 0, slots := 0, locals := 0 } : Room) s m #[(.int (9 : Int32))] below meth c s₁ [] 0 0 := Stand.of_body Bd
  have e0 : s₁.heap = h0 := by rw [← hh, Bd.state]; rfl
  have N0 := Fr.nil n0
  skip
  have pre0 : ∀ t, Steps p.tables e below (s₁.setTop (mkF m 0 #[.val (.int (9 : Int32))] [])) t → Steps p.tables e below (s₁.setTop (entryFrame m #[(.int (9 : Int32))] 1)) t := fun t k => castTop (ef_1_19 m) k
  obtain ⟨T1, X1, e1, st1⟩ := getS2 X0 hx hZ hown (host := "") (Or.inl (wk24 hw)) Via.refl e0 ((wd12 hW).ext O0.2) (g := (mkF m 89 #[.val (.int (9 : Int32))] [])) rfl (hb hby d1_89)
  obtain ⟨fs, hr, hrun, hended, hWm, hsame⟩ := X1.leave (v := some (.ref (w 6))) (fun h => by rw [Bd.returns] at h; cases h)
  refine ⟨_, _, pre0 _ ?_, hrun, hended, _, _, rfl, ?_, ⟨_, rfl⟩, hWm, hsame.mono (by decide) (by decide)⟩
  · show Steps p.tables e below (s₁.setTop (mkF m 0 #[.val (.int (9 : Int32))] [])) _
    refine sI X0 hx hby d1_0 rfl ?_
    refine XS.ifYes X0.here hx rfl (pc0 := 1) (pc' := 8) rfl (hb hby d1_1) rfl (by decide) (by decide) (by decide) ?_
    refine sI X0 hx hby d1_8 rfl ?_
    refine sc X0 hx hby d1_9 ?_
    refine XS.icmpYes X0.here hx rfl (pc0 := 10) (pc' := 17) rfl (hb hby d1_10) rfl (by decide) (by decide) (by decide) ?_
    refine sI X0 hx hby d1_17 rfl ?_
    refine sc X0 hx hby d1_18 ?_
    refine XS.icmpYes X0.here hx rfl (pc0 := 19) (pc' := 26) rfl (hb hby d1_19) rfl (by decide) (by decide) (by decide) ?_
    refine sI X0 hx hby d1_26 rfl ?_
    refine sc X0 hx hby d1_27 ?_
    refine XS.icmpYes X0.here hx rfl (pc0 := 28) (pc' := 35) rfl (hb hby d1_28) rfl (by decide) (by decide) (by decide) ?_
    refine sI X0 hx hby d1_35 rfl ?_
    refine sc X0 hx hby d1_36 ?_
    refine XS.icmpYes X0.here hx rfl (pc0 := 37) (pc' := 44) rfl (hb hby d1_37) rfl (by decide) (by decide) (by decide) ?_
    refine sI X0 hx hby d1_44 rfl ?_
    refine sc X0 hx hby d1_45 ?_
    refine XS.icmpYes X0.here hx rfl (pc0 := 46) (pc' := 53) rfl (hb hby d1_46) rfl (by decide) (by decide) (by decide) ?_
    refine sI X0 hx hby d1_53 rfl ?_
    refine XS.bipush X0.here hx rfl (hb hby d1_54) ?_
    refine XS.icmpYes X0.here hx rfl (pc0 := 56) (pc' := 63) rfl (hb hby d1_56) rfl (by decide) (by decide) (by decide) ?_
    refine sI X0 hx hby d1_63 rfl ?_
    refine XS.bipush X0.here hx rfl (hb hby d1_64) ?_
    refine XS.icmpYes X0.here hx rfl (pc0 := 66) (pc' := 73) rfl (hb hby d1_66) rfl (by decide) (by decide) (by decide) ?_
    refine sI X0 hx hby d1_73 rfl ?_
    refine XS.bipush X0.here hx rfl (hb hby d1_74) ?_
    refine XS.icmpYes X0.here hx rfl (pc0 := 76) (pc' := 83) rfl (hb hby d1_76) rfl (by decide) (by decide) (by decide) ?_
    refine sI X0 hx hby d1_83 rfl ?_
    refine XS.bipush X0.here hx rfl (hb hby d1_84) ?_
    refine sn X0 hx hby d1_86 (by decide) ?_
    refine st1 _ ?_
    jvm_step X1.here [X1.here.top, hx, (hb hby d1_92), X1.method', Bd.returns, Value.isRef, FieldType.isReference]
    first | (intro acts; rw [hr _ acts rfl rfl rfl]) | rw [hr _ _ rfl rfl rfl]
    exact Steps.refl _
  · show Q1_19 Z w h0 n0 _ T1.heap _
    rw [e1]
    exact ⟨rfl, N0, rfl⟩
theorem ef_2_20 (m : MethodId) (w : Nat → Addr) : entryFrame m #[(.ref (w 6))] 1 = mkF m 0 #[.val (.ref (w 6))] [] := by first | (simp [entryFrame, mkF, argsToLocals, Value.category]; done) | rfl
def Q2_20 (Z : State) (w : Nat → Addr) (h0 : Heap) (n0 : Nat) (v : Option Value) (h : Heap) (L : List Loc) : Prop := v = some (.int (0 : Int32)) ∧ Fr n0 L ∧ h = h0
set_option maxRecDepth 65536 in
set_option maxHeartbeats 40000000 in
theorem rm2_20 (l : Launch) (Z : State) (a0 : Array Value) (hw : ∀ d ∈ tables_1, d.before a0 Z = true) (w : Nat → Addr) (hW : Wd Z w) (ws : List Jvm.Cond) (h0 : Heap) (n0 : Nat) (O0 : Old Z n0 h0) :
    MetFree l ym1 (head1 (Jvm.Cond.code ym1 prog_29_method_8_code 1 (some .boolean) :: ws) ({ frames := 0, cells := 0, slots := 0, locals := 0 } : Room)) (fun a U => a = #[(.ref (w 6))] ∧ Z.Warmed39 U.vm ∧ U.heap = h0) (fun _ _ _ _ _ => True) (fun _ U o U' => ∃ v L, o = .returned v ∧ Q2_20 Z w h0 n0 v U'.heap L ∧ FrameEnd U o U' L ({ frames := 0, cells := 0, slots := 0, locals := 0 } : Room).cells ({ frames := 0, cells := 0, slots := 0, locals := 0 } : Room).slots) := by
  refine MetFree.of_bodySF (plainFor_of_name pnc_1) hisR ?_
  intro p e s m args below meth c s₁ Bd hml0 hP hK
  obtain ⟨rfl, hZ, hh⟩ := hP
  have hx := Bd.exec
  have hby := Bd.bytes
  have hml : c.maxLocals = 1 := hml0
  have hown : s.vm.findClass "com/example/weftcheck/weftcheck/OperationKind" = some m.cls := findClass_of_methodNamed Bd.named
  have hnm := (name_of_methodNamed Bd.named Bd.method).1
  have X0 : Stand p l e ({ frames := 0, cells := 0, slots := 0, locals := 0 } : Room) s m #[(.ref (w 6))] below meth c s₁ [] 0 0 := Stand.of_body Bd
  have e0 : s₁.heap = h0 := by rw [← hh, Bd.state]; rfl
  have N0 := Fr.nil n0
  skip
  have pre0 : ∀ t, Steps p.tables e below (s₁.setTop (mkF m 0 #[.val (.ref (w 6))] [])) t → Steps p.tables e below (s₁.setTop (entryFrame m #[(.ref (w 6))] 1)) t := fun t k => castTop (ef_2_20 m w) k
  obtain ⟨T1, X1, e1, st1⟩ := getS2 X0 hx hZ hown (host := "") (Or.inl (wk13 hw)) Via.refl e0 ((wd0 hW).ext O0.2) (g := (mkF m 1 #[.val (.ref (w 6))] [(.ref (w 6))])) rfl (hb hby d2_1)
  obtain ⟨T2, X2, e2, st2⟩ := getS2 X1 hx hZ hown (host := "") (Or.inl (wk16 hw)) Via.refl e1 ((wd4 hW).ext O0.2) (g := (mkF m 8 #[.val (.ref (w 6))] [(.ref (w 6))])) rfl (hb hby d2_8)
  obtain ⟨fs, hr, hrun, hended, hWm, hsame⟩ := X2.leave (v := some (.int (0 : Int32))) (fun h => by rw [Bd.returns] at h; cases h)
  refine ⟨_, _, pre0 _ ?_, hrun, hended, _, _, rfl, ?_, ⟨_, rfl⟩, hWm, hsame.mono (by decide) (by decide)⟩
  · show Steps p.tables e below (s₁.setTop (mkF m 0 #[.val (.ref (w 6))] [])) _
    refine sA X0 hx hby d2_0 rfl rfl ?_
    refine st1 _ ?_
    refine Jvm.RoadKit.acmp (g := (mkF m 4 #[.val (.ref (w 6))] [(.ref (w 0)), (.ref (w 6))])) X1 hx rfl rfl rfl (pc0 := 4) (pc' := 7) (same := false) rfl (hb hby d2_4) rfl (decide_eq_false fun q => (Fld.ne (wd32 hW) (wd27 hW) (by decide)) (Value.ref.inj q)) (by decide) (by decide) ?_
    refine sA X1 hx hby d2_7 rfl rfl ?_
    refine st2 _ ?_
    refine Jvm.RoadKit.acmp (g := (mkF m 11 #[.val (.ref (w 6))] [(.ref (w 2)), (.ref (w 6))])) X2 hx rfl rfl rfl (pc0 := 11) (pc' := 18) (same := false) rfl (hb hby d2_11) rfl (decide_eq_false fun q => (Fld.ne (wd32 hW) (wd28 hW) (by decide)) (Value.ref.inj q)) (by decide) (by decide) ?_
    refine sc X2 hx hby d2_18 ?_
    exact retN X2 hx (t := .boolean) Bd.returns (by simp) (hb hby d2_19) hr
  · show Q2_20 Z w h0 n0 _ T2.heap _
    rw [e2]
    exact ⟨rfl, N0, rfl⟩
theorem d1_93 : decode method_2_code 93 = .ok (.iload_n 0, 1) := by decide +kernel
theorem d1_94 : decode method_2_code 94 = .ok (.bipush 10, 2) := by decide +kernel
theorem d1_96 : decode method_2_code 96 = .ok (.if_icmp .ne 7, 3) := by decide +kernel
theorem d1_99 : decode method_2_code 99 = .ok (.getstatic 40, 3) := by decide +kernel
theorem d1_102 : decode method_2_code 102 = .ok (.areturn, 1) := by decide +kernel
theorem ef_1_21 (m : MethodId) : entryFrame m #[(.int (10 : Int32))] 1 = mkF m 0 #[.val (.int (10 : Int32))] [] := by first | (simp [entryFrame, mkF, argsToLocals, Value.category]; done) | rfl
def Q1_21 (Z : State) (w : Nat → Addr) (h0 : Heap) (n0 : Nat) (v : Option Value) (h : Heap) (L : List Loc) : Prop := v = some (.ref (w 10)) ∧ Fr n0 L ∧ h = h0
set_option maxRecDepth 65536 in
set_option maxHeartbeats 40000000 in
theorem rm1_21 (l : Launch) (Z : State) (a0 : Array Value) (hw : ∀ d ∈ tables_1, d.before a0 Z = true) (w : Nat → Addr) (hW : Wd Z w) (ws : List Jvm.Cond) (h0 : Heap) (n0 : Nat) (O0 : Old Z n0 h0) :
    MetFree l ym0 (head1 (Jvm.Cond.code ym0 method_2_code 1 (some (.object "com/example/weftcheck/weftcheck/OperationKind")) :: ws) ({ frames := 0, cells := 0, slots := 0, locals := 0 } : Room)) (fun a U => a = #[(.int (10 : Int32))] ∧ Z.Warmed39 U.vm ∧ U.heap = h0) (fun _ _ _ _ _ => True) (fun _ U o U' => ∃ v L, o = .returned v ∧ Q1_21 Z w h0 n0 v U'.heap L ∧ FrameEnd U o U' L ({ frames := 0, cells := 0, slots := 0, locals := 0 } : Room).cells ({ frames := 0, cells := 0, slots := 0, locals := 0 } : Room).slots) := by
  refine MetFree.of_bodySF (plainFor_of_name pnc_0) hisR ?_
  intro p e s m args below meth c s₁ Bd hml0 hP hK
  obtain ⟨rfl, hZ, hh⟩ := hP
  have hx := Bd.exec
  have hby := Bd.bytes
  have hml : c.maxLocals = 1 := hml0
  have hown : s.vm.findClass "com/example/weftcheck/weftcheck/OperationKindBindsRowPinLaw" = some m.cls := findClass_of_methodNamed Bd.named
  have hnm := (name_of_methodNamed Bd.named Bd.method).1
  have X0 : Stand p l e ({ frames := 0, cells := 0, slots := 0, locals := 0 } : Room) s m #[(.int (10 : Int32))] below meth c s₁ [] 0 0 := Stand.of_body Bd
  have e0 : s₁.heap = h0 := by rw [← hh, Bd.state]; rfl
  have N0 := Fr.nil n0
  skip
  have pre0 : ∀ t, Steps p.tables e below (s₁.setTop (mkF m 0 #[.val (.int (10 : Int32))] [])) t → Steps p.tables e below (s₁.setTop (entryFrame m #[(.int (10 : Int32))] 1)) t := fun t k => castTop (ef_1_21 m) k
  obtain ⟨T1, X1, e1, st1⟩ := getS2 X0 hx hZ hown (host := "") (Or.inl (wk33 hw)) Via.refl e0 ((wd20 hW).ext O0.2) (g := (mkF m 99 #[.val (.int (10 : Int32))] [])) rfl (hb hby d1_99)
  obtain ⟨fs, hr, hrun, hended, hWm, hsame⟩ := X1.leave (v := some (.ref (w 10))) (fun h => by rw [Bd.returns] at h; cases h)
  refine ⟨_, _, pre0 _ ?_, hrun, hended, _, _, rfl, ?_, ⟨_, rfl⟩, hWm, hsame.mono (by decide) (by decide)⟩
  · show Steps p.tables e below (s₁.setTop (mkF m 0 #[.val (.int (10 : Int32))] [])) _
    refine sI X0 hx hby d1_0 rfl ?_
    refine XS.ifYes X0.here hx rfl (pc0 := 1) (pc' := 8) rfl (hb hby d1_1) rfl (by decide) (by decide) (by decide) ?_
    refine sI X0 hx hby d1_8 rfl ?_
    refine sc X0 hx hby d1_9 ?_
    refine XS.icmpYes X0.here hx rfl (pc0 := 10) (pc' := 17) rfl (hb hby d1_10) rfl (by decide) (by decide) (by decide) ?_
    refine sI X0 hx hby d1_17 rfl ?_
    refine sc X0 hx hby d1_18 ?_
    refine XS.icmpYes X0.here hx rfl (pc0 := 19) (pc' := 26) rfl (hb hby d1_19) rfl (by decide) (by decide) (by decide) ?_
    refine sI X0 hx hby d1_26 rfl ?_
    refine sc X0 hx hby d1_27 ?_
    refine XS.icmpYes X0.here hx rfl (pc0 := 28) (pc' := 35) rfl (hb hby d1_28) rfl (by decide) (by decide) (by decide) ?_
    refine sI X0 hx hby d1_35 rfl ?_
    refine sc X0 hx hby d1_36 ?_
    refine XS.icmpYes X0.here hx rfl (pc0 := 37) (pc' := 44) rfl (hb hby d1_37) rfl (by decide) (by decide) (by decide) ?_
    refine sI X0 hx hby d1_44 rfl ?_
    refine sc X0 hx hby d1_45 ?_
    refine XS.icmpYes X0.here hx rfl (pc0 := 46) (pc' := 53) rfl (hb hby d1_46) rfl (by decide) (by decide) (by decide) ?_
    refine sI X0 hx hby d1_53 rfl ?_
    refine XS.bipush X0.here hx rfl (hb hby d1_54) ?_
    refine XS.icmpYes X0.here hx rfl (pc0 := 56) (pc' := 63) rfl (hb hby d1_56) rfl (by decide) (by decide) (by decide) ?_
    refine sI X0 hx hby d1_63 rfl ?_
    refine XS.bipush X0.here hx rfl (hb hby d1_64) ?_
    refine XS.icmpYes X0.here hx rfl (pc0 := 66) (pc' := 73) rfl (hb hby d1_66) rfl (by decide) (by decide) (by decide) ?_
    refine sI X0 hx hby d1_73 rfl ?_
    refine XS.bipush X0.here hx rfl (hb hby d1_74) ?_
    refine XS.icmpYes X0.here hx rfl (pc0 := 76) (pc' := 83) rfl (hb hby d1_76) rfl (by decide) (by decide) (by decide) ?_
    refine sI X0 hx hby d1_83 rfl ?_
    refine XS.bipush X0.here hx rfl (hb hby d1_84) ?_
    refine XS.icmpYes X0.here hx rfl (pc0 := 86) (pc' := 93) rfl (hb hby d1_86) rfl (by decide) (by decide) (by decide) ?_
    refine sI X0 hx hby d1_93 rfl ?_
    refine XS.bipush X0.here hx rfl (hb hby d1_94) ?_
    refine sn X0 hx hby d1_96 (by decide) ?_
    refine st1 _ ?_
    jvm_step X1.here [X1.here.top, hx, (hb hby d1_102), X1.method', Bd.returns, Value.isRef, FieldType.isReference]
    first | (intro acts; rw [hr _ acts rfl rfl rfl]) | rw [hr _ _ rfl rfl rfl]
    exact Steps.refl _
  · show Q1_21 Z w h0 n0 _ T1.heap _
    rw [e1]
    exact ⟨rfl, N0, rfl⟩
theorem ef_2_22 (m : MethodId) (w : Nat → Addr) : entryFrame m #[(.ref (w 10))] 1 = mkF m 0 #[.val (.ref (w 10))] [] := by first | (simp [entryFrame, mkF, argsToLocals, Value.category]; done) | rfl
def Q2_22 (Z : State) (w : Nat → Addr) (h0 : Heap) (n0 : Nat) (v : Option Value) (h : Heap) (L : List Loc) : Prop := v = some (.int (0 : Int32)) ∧ Fr n0 L ∧ h = h0
set_option maxRecDepth 65536 in
set_option maxHeartbeats 40000000 in
theorem rm2_22 (l : Launch) (Z : State) (a0 : Array Value) (hw : ∀ d ∈ tables_1, d.before a0 Z = true) (w : Nat → Addr) (hW : Wd Z w) (ws : List Jvm.Cond) (h0 : Heap) (n0 : Nat) (O0 : Old Z n0 h0) :
    MetFree l ym1 (head1 (Jvm.Cond.code ym1 prog_29_method_8_code 1 (some .boolean) :: ws) ({ frames := 0, cells := 0, slots := 0, locals := 0 } : Room)) (fun a U => a = #[(.ref (w 10))] ∧ Z.Warmed39 U.vm ∧ U.heap = h0) (fun _ _ _ _ _ => True) (fun _ U o U' => ∃ v L, o = .returned v ∧ Q2_22 Z w h0 n0 v U'.heap L ∧ FrameEnd U o U' L ({ frames := 0, cells := 0, slots := 0, locals := 0 } : Room).cells ({ frames := 0, cells := 0, slots := 0, locals := 0 } : Room).slots) := by
  refine MetFree.of_bodySF (plainFor_of_name pnc_1) hisR ?_
  intro p e s m args below meth c s₁ Bd hml0 hP hK
  obtain ⟨rfl, hZ, hh⟩ := hP
  have hx := Bd.exec
  have hby := Bd.bytes
  have hml : c.maxLocals = 1 := hml0
  have hown : s.vm.findClass "com/example/weftcheck/weftcheck/OperationKind" = some m.cls := findClass_of_methodNamed Bd.named
  have hnm := (name_of_methodNamed Bd.named Bd.method).1
  have X0 : Stand p l e ({ frames := 0, cells := 0, slots := 0, locals := 0 } : Room) s m #[(.ref (w 10))] below meth c s₁ [] 0 0 := Stand.of_body Bd
  have e0 : s₁.heap = h0 := by rw [← hh, Bd.state]; rfl
  have N0 := Fr.nil n0
  skip
  have pre0 : ∀ t, Steps p.tables e below (s₁.setTop (mkF m 0 #[.val (.ref (w 10))] [])) t → Steps p.tables e below (s₁.setTop (entryFrame m #[(.ref (w 10))] 1)) t := fun t k => castTop (ef_2_22 m w) k
  obtain ⟨T1, X1, e1, st1⟩ := getS2 X0 hx hZ hown (host := "") (Or.inl (wk13 hw)) Via.refl e0 ((wd0 hW).ext O0.2) (g := (mkF m 1 #[.val (.ref (w 10))] [(.ref (w 10))])) rfl (hb hby d2_1)
  obtain ⟨T2, X2, e2, st2⟩ := getS2 X1 hx hZ hown (host := "") (Or.inl (wk16 hw)) Via.refl e1 ((wd4 hW).ext O0.2) (g := (mkF m 8 #[.val (.ref (w 10))] [(.ref (w 10))])) rfl (hb hby d2_8)
  obtain ⟨fs, hr, hrun, hended, hWm, hsame⟩ := X2.leave (v := some (.int (0 : Int32))) (fun h => by rw [Bd.returns] at h; cases h)
  refine ⟨_, _, pre0 _ ?_, hrun, hended, _, _, rfl, ?_, ⟨_, rfl⟩, hWm, hsame.mono (by decide) (by decide)⟩
  · show Steps p.tables e below (s₁.setTop (mkF m 0 #[.val (.ref (w 10))] [])) _
    refine sA X0 hx hby d2_0 rfl rfl ?_
    refine st1 _ ?_
    refine Jvm.RoadKit.acmp (g := (mkF m 4 #[.val (.ref (w 10))] [(.ref (w 0)), (.ref (w 10))])) X1 hx rfl rfl rfl (pc0 := 4) (pc' := 7) (same := false) rfl (hb hby d2_4) rfl (decide_eq_false fun q => (Fld.ne (wd36 hW) (wd27 hW) (by decide)) (Value.ref.inj q)) (by decide) (by decide) ?_
    refine sA X1 hx hby d2_7 rfl rfl ?_
    refine st2 _ ?_
    refine Jvm.RoadKit.acmp (g := (mkF m 11 #[.val (.ref (w 10))] [(.ref (w 2)), (.ref (w 10))])) X2 hx rfl rfl rfl (pc0 := 11) (pc' := 18) (same := false) rfl (hb hby d2_11) rfl (decide_eq_false fun q => (Fld.ne (wd36 hW) (wd28 hW) (by decide)) (Value.ref.inj q)) (by decide) (by decide) ?_
    refine sc X2 hx hby d2_18 ?_
    exact retN X2 hx (t := .boolean) Bd.returns (by simp) (hb hby d2_19) hr
  · show Q2_22 Z w h0 n0 _ T2.heap _
    rw [e2]
    exact ⟨rfl, N0, rfl⟩
theorem d1_103 : decode method_2_code 103 = .ok (.iload_n 0, 1) := by decide +kernel
theorem d1_104 : decode method_2_code 104 = .ok (.bipush 11, 2) := by decide +kernel
theorem d1_106 : decode method_2_code 106 = .ok (.if_icmp .ne 7, 3) := by decide +kernel
theorem d1_109 : decode method_2_code 109 = .ok (.getstatic 43, 3) := by decide +kernel
theorem d1_112 : decode method_2_code 112 = .ok (.areturn, 1) := by decide +kernel
theorem ef_1_23 (m : MethodId) : entryFrame m #[(.int (11 : Int32))] 1 = mkF m 0 #[.val (.int (11 : Int32))] [] := by first | (simp [entryFrame, mkF, argsToLocals, Value.category]; done) | rfl
def Q1_23 (Z : State) (w : Nat → Addr) (h0 : Heap) (n0 : Nat) (v : Option Value) (h : Heap) (L : List Loc) : Prop := v = some (.ref (w 8)) ∧ Fr n0 L ∧ h = h0
set_option maxRecDepth 65536 in
set_option maxHeartbeats 40000000 in
theorem rm1_23 (l : Launch) (Z : State) (a0 : Array Value) (hw : ∀ d ∈ tables_1, d.before a0 Z = true) (w : Nat → Addr) (hW : Wd Z w) (ws : List Jvm.Cond) (h0 : Heap) (n0 : Nat) (O0 : Old Z n0 h0) :
    MetFree l ym0 (head1 (Jvm.Cond.code ym0 method_2_code 1 (some (.object "com/example/weftcheck/weftcheck/OperationKind")) :: ws) ({ frames := 0, cells := 0, slots := 0, locals := 0 } : Room)) (fun a U => a = #[(.int (11 : Int32))] ∧ Z.Warmed39 U.vm ∧ U.heap = h0) (fun _ _ _ _ _ => True) (fun _ U o U' => ∃ v L, o = .returned v ∧ Q1_23 Z w h0 n0 v U'.heap L ∧ FrameEnd U o U' L ({ frames := 0, cells := 0, slots := 0, locals := 0 } : Room).cells ({ frames := 0, cells := 0, slots := 0, locals := 0 } : Room).slots) := by
  refine MetFree.of_bodySF (plainFor_of_name pnc_0) hisR ?_
  intro p e s m args below meth c s₁ Bd hml0 hP hK
  obtain ⟨rfl, hZ, hh⟩ := hP
  have hx := Bd.exec
  have hby := Bd.bytes
  have hml : c.maxLocals = 1 := hml0
  have hown : s.vm.findClass "com/example/weftcheck/weftcheck/OperationKindBindsRowPinLaw" = some m.cls := findClass_of_methodNamed Bd.named
  have hnm := (name_of_methodNamed Bd.named Bd.method).1
  have X0 : Stand p l e ({ frames := 0, cells := 0, slots := 0, locals := 0 } : Room) s m #[(.int (11 : Int32))] below meth c s₁ [] 0 0 := Stand.of_body Bd
  have e0 : s₁.heap = h0 := by rw [← hh, Bd.state]; rfl
  have N0 := Fr.nil n0
  skip
  have pre0 : ∀ t, Steps p.tables e below (s₁.setTop (mkF m 0 #[.val (.int (11 : Int32))] [])) t → Steps p.tables e below (s₁.setTop (entryFrame m #[(.int (11 : Int32))] 1)) t := fun t k => castTop (ef_1_23 m) k
  obtain ⟨T1, X1, e1, st1⟩ := getS2 X0 hx hZ hown (host := "") (Or.inl (wk28 hw)) Via.refl e0 ((wd16 hW).ext O0.2) (g := (mkF m 109 #[.val (.int (11 : Int32))] [])) rfl (hb hby d1_109)
  obtain ⟨fs, hr, hrun, hended, hWm, hsame⟩ := X1.leave (v := some (.ref (w 8))) (fun h => by rw [Bd.returns] at h; cases h)
  refine ⟨_, _, pre0 _ ?_, hrun, hended, _, _, rfl, ?_, ⟨_, rfl⟩, hWm, hsame.mono (by decide) (by decide)⟩
  · show Steps p.tables e below (s₁.setTop (mkF m 0 #[.val (.int (11 : Int32))] [])) _
    refine sI X0 hx hby d1_0 rfl ?_
    refine XS.ifYes X0.here hx rfl (pc0 := 1) (pc' := 8) rfl (hb hby d1_1) rfl (by decide) (by decide) (by decide) ?_
    refine sI X0 hx hby d1_8 rfl ?_
    refine sc X0 hx hby d1_9 ?_
    refine XS.icmpYes X0.here hx rfl (pc0 := 10) (pc' := 17) rfl (hb hby d1_10) rfl (by decide) (by decide) (by decide) ?_
    refine sI X0 hx hby d1_17 rfl ?_
    refine sc X0 hx hby d1_18 ?_
    refine XS.icmpYes X0.here hx rfl (pc0 := 19) (pc' := 26) rfl (hb hby d1_19) rfl (by decide) (by decide) (by decide) ?_
    refine sI X0 hx hby d1_26 rfl ?_
    refine sc X0 hx hby d1_27 ?_
    refine XS.icmpYes X0.here hx rfl (pc0 := 28) (pc' := 35) rfl (hb hby d1_28) rfl (by decide) (by decide) (by decide) ?_
    refine sI X0 hx hby d1_35 rfl ?_
    refine sc X0 hx hby d1_36 ?_
    refine XS.icmpYes X0.here hx rfl (pc0 := 37) (pc' := 44) rfl (hb hby d1_37) rfl (by decide) (by decide) (by decide) ?_
    refine sI X0 hx hby d1_44 rfl ?_
    refine sc X0 hx hby d1_45 ?_
    refine XS.icmpYes X0.here hx rfl (pc0 := 46) (pc' := 53) rfl (hb hby d1_46) rfl (by decide) (by decide) (by decide) ?_
    refine sI X0 hx hby d1_53 rfl ?_
    refine XS.bipush X0.here hx rfl (hb hby d1_54) ?_
    refine XS.icmpYes X0.here hx rfl (pc0 := 56) (pc' := 63) rfl (hb hby d1_56) rfl (by decide) (by decide) (by decide) ?_
    refine sI X0 hx hby d1_63 rfl ?_
    refine XS.bipush X0.here hx rfl (hb hby d1_64) ?_
    refine XS.icmpYes X0.here hx rfl (pc0 := 66) (pc' := 73) rfl (hb hby d1_66) rfl (by decide) (by decide) (by decide) ?_
    refine sI X0 hx hby d1_73 rfl ?_
    refine XS.bipush X0.here hx rfl (hb hby d1_74) ?_
    refine XS.icmpYes X0.here hx rfl (pc0 := 76) (pc' := 83) rfl (hb hby d1_76) rfl (by decide) (by decide) (by decide) ?_
    refine sI X0 hx hby d1_83 rfl ?_
    refine XS.bipush X0.here hx rfl (hb hby d1_84) ?_
    refine XS.icmpYes X0.here hx rfl (pc0 := 86) (pc' := 93) rfl (hb hby d1_86) rfl (by decide) (by decide) (by decide) ?_
    refine sI X0 hx hby d1_93 rfl ?_
    refine XS.bipush X0.here hx rfl (hb hby d1_94) ?_
    refine XS.icmpYes X0.here hx rfl (pc0 := 96) (pc' := 103) rfl (hb hby d1_96) rfl (by decide) (by decide) (by decide) ?_
    refine sI X0 hx hby d1_103 rfl ?_
    refine XS.bipush X0.here hx rfl (hb hby d1_104) ?_
    refine sn X0 hx hby d1_106 (by decide) ?_
    refine st1 _ ?_
    jvm_step X1.here [X1.here.top, hx, (hb hby d1_112), X1.method', Bd.returns, Value.isRef, FieldType.isReference]
    first | (intro acts; rw [hr _ acts rfl rfl rfl]) | rw [hr _ _ rfl rfl rfl]
    exact Steps.refl _
  · show Q1_23 Z w h0 n0 _ T1.heap _
    rw [e1]
    exact ⟨rfl, N0, rfl⟩
theorem ef_2_24 (m : MethodId) (w : Nat → Addr) : entryFrame m #[(.ref (w 8))] 1 = mkF m 0 #[.val (.ref (w 8))] [] := by first | (simp [entryFrame, mkF, argsToLocals, Value.category]; done) | rfl
def Q2_24 (Z : State) (w : Nat → Addr) (h0 : Heap) (n0 : Nat) (v : Option Value) (h : Heap) (L : List Loc) : Prop := v = some (.int (0 : Int32)) ∧ Fr n0 L ∧ h = h0
set_option maxRecDepth 65536 in
set_option maxHeartbeats 40000000 in
theorem rm2_24 (l : Launch) (Z : State) (a0 : Array Value) (hw : ∀ d ∈ tables_1, d.before a0 Z = true) (w : Nat → Addr) (hW : Wd Z w) (ws : List Jvm.Cond) (h0 : Heap) (n0 : Nat) (O0 : Old Z n0 h0) :
    MetFree l ym1 (head1 (Jvm.Cond.code ym1 prog_29_method_8_code 1 (some .boolean) :: ws) ({ frames := 0, cells := 0, slots := 0, locals := 0 } : Room)) (fun a U => a = #[(.ref (w 8))] ∧ Z.Warmed39 U.vm ∧ U.heap = h0) (fun _ _ _ _ _ => True) (fun _ U o U' => ∃ v L, o = .returned v ∧ Q2_24 Z w h0 n0 v U'.heap L ∧ FrameEnd U o U' L ({ frames := 0, cells := 0, slots := 0, locals := 0 } : Room).cells ({ frames := 0, cells := 0, slots := 0, locals := 0 } : Room).slots) := by
  refine MetFree.of_bodySF (plainFor_of_name pnc_1) hisR ?_
  intro p e s m args below meth c s₁ Bd hml0 hP hK
  obtain ⟨rfl, hZ, hh⟩ := hP
  have hx := Bd.exec
  have hby := Bd.bytes
  have hml : c.maxLocals = 1 := hml0
  have hown : s.vm.findClass "com/example/weftcheck/weftcheck/OperationKind" = some m.cls := findClass_of_methodNamed Bd.named
  have hnm := (name_of_methodNamed Bd.named Bd.method).1
  have X0 : Stand p l e ({ frames := 0, cells := 0, slots := 0, locals := 0 } : Room) s m #[(.ref (w 8))] below meth c s₁ [] 0 0 := Stand.of_body Bd
  have e0 : s₁.heap = h0 := by rw [← hh, Bd.state]; rfl
  have N0 := Fr.nil n0
  skip
  have pre0 : ∀ t, Steps p.tables e below (s₁.setTop (mkF m 0 #[.val (.ref (w 8))] [])) t → Steps p.tables e below (s₁.setTop (entryFrame m #[(.ref (w 8))] 1)) t := fun t k => castTop (ef_2_24 m w) k
  obtain ⟨T1, X1, e1, st1⟩ := getS2 X0 hx hZ hown (host := "") (Or.inl (wk13 hw)) Via.refl e0 ((wd0 hW).ext O0.2) (g := (mkF m 1 #[.val (.ref (w 8))] [(.ref (w 8))])) rfl (hb hby d2_1)
  obtain ⟨T2, X2, e2, st2⟩ := getS2 X1 hx hZ hown (host := "") (Or.inl (wk16 hw)) Via.refl e1 ((wd4 hW).ext O0.2) (g := (mkF m 8 #[.val (.ref (w 8))] [(.ref (w 8))])) rfl (hb hby d2_8)
  obtain ⟨fs, hr, hrun, hended, hWm, hsame⟩ := X2.leave (v := some (.int (0 : Int32))) (fun h => by rw [Bd.returns] at h; cases h)
  refine ⟨_, _, pre0 _ ?_, hrun, hended, _, _, rfl, ?_, ⟨_, rfl⟩, hWm, hsame.mono (by decide) (by decide)⟩
  · show Steps p.tables e below (s₁.setTop (mkF m 0 #[.val (.ref (w 8))] [])) _
    refine sA X0 hx hby d2_0 rfl rfl ?_
    refine st1 _ ?_
    refine Jvm.RoadKit.acmp (g := (mkF m 4 #[.val (.ref (w 8))] [(.ref (w 0)), (.ref (w 8))])) X1 hx rfl rfl rfl (pc0 := 4) (pc' := 7) (same := false) rfl (hb hby d2_4) rfl (decide_eq_false fun q => (Fld.ne (wd34 hW) (wd27 hW) (by decide)) (Value.ref.inj q)) (by decide) (by decide) ?_
    refine sA X1 hx hby d2_7 rfl rfl ?_
    refine st2 _ ?_
    refine Jvm.RoadKit.acmp (g := (mkF m 11 #[.val (.ref (w 8))] [(.ref (w 2)), (.ref (w 8))])) X2 hx rfl rfl rfl (pc0 := 11) (pc' := 18) (same := false) rfl (hb hby d2_11) rfl (decide_eq_false fun q => (Fld.ne (wd34 hW) (wd28 hW) (by decide)) (Value.ref.inj q)) (by decide) (by decide) ?_
    refine sc X2 hx hby d2_18 ?_
    exact retN X2 hx (t := .boolean) Bd.returns (by simp) (hb hby d2_19) hr
  · show Q2_24 Z w h0 n0 _ T2.heap _
    rw [e2]
    exact ⟨rfl, N0, rfl⟩
theorem d1_113 : decode method_2_code 113 = .ok (.getstatic 46, 3) := by decide +kernel
theorem d1_116 : decode method_2_code 116 = .ok (.areturn, 1) := by decide +kernel
theorem ef_1_25 (m : MethodId) : entryFrame m #[(.int (12 : Int32))] 1 = mkF m 0 #[.val (.int (12 : Int32))] [] := by first | (simp [entryFrame, mkF, argsToLocals, Value.category]; done) | rfl
def Q1_25 (Z : State) (w : Nat → Addr) (h0 : Heap) (n0 : Nat) (v : Option Value) (h : Heap) (L : List Loc) : Prop := v = some (.ref (w 11)) ∧ Fr n0 L ∧ h = h0
set_option maxRecDepth 65536 in
set_option maxHeartbeats 40000000 in
theorem rm1_25 (l : Launch) (Z : State) (a0 : Array Value) (hw : ∀ d ∈ tables_1, d.before a0 Z = true) (w : Nat → Addr) (hW : Wd Z w) (ws : List Jvm.Cond) (h0 : Heap) (n0 : Nat) (O0 : Old Z n0 h0) :
    MetFree l ym0 (head1 (Jvm.Cond.code ym0 method_2_code 1 (some (.object "com/example/weftcheck/weftcheck/OperationKind")) :: ws) ({ frames := 0, cells := 0, slots := 0, locals := 0 } : Room)) (fun a U => a = #[(.int (12 : Int32))] ∧ Z.Warmed39 U.vm ∧ U.heap = h0) (fun _ _ _ _ _ => True) (fun _ U o U' => ∃ v L, o = .returned v ∧ Q1_25 Z w h0 n0 v U'.heap L ∧ FrameEnd U o U' L ({ frames := 0, cells := 0, slots := 0, locals := 0 } : Room).cells ({ frames := 0, cells := 0, slots := 0, locals := 0 } : Room).slots) := by
  refine MetFree.of_bodySF (plainFor_of_name pnc_0) hisR ?_
  intro p e s m args below meth c s₁ Bd hml0 hP hK
  obtain ⟨rfl, hZ, hh⟩ := hP
  have hx := Bd.exec
  have hby := Bd.bytes
  have hml : c.maxLocals = 1 := hml0
  have hown : s.vm.findClass "com/example/weftcheck/weftcheck/OperationKindBindsRowPinLaw" = some m.cls := findClass_of_methodNamed Bd.named
  have hnm := (name_of_methodNamed Bd.named Bd.method).1
  have X0 : Stand p l e ({ frames := 0, cells := 0, slots := 0, locals := 0 } : Room) s m #[(.int (12 : Int32))] below meth c s₁ [] 0 0 := Stand.of_body Bd
  have e0 : s₁.heap = h0 := by rw [← hh, Bd.state]; rfl
  have N0 := Fr.nil n0
  skip
  have pre0 : ∀ t, Steps p.tables e below (s₁.setTop (mkF m 0 #[.val (.int (12 : Int32))] [])) t → Steps p.tables e below (s₁.setTop (entryFrame m #[(.int (12 : Int32))] 1)) t := fun t k => castTop (ef_1_25 m) k
  obtain ⟨T1, X1, e1, st1⟩ := getS2 X0 hx hZ hown (host := "") (Or.inl (wk35 hw)) Via.refl e0 ((wd22 hW).ext O0.2) (g := (mkF m 113 #[.val (.int (12 : Int32))] [])) rfl (hb hby d1_113)
  obtain ⟨fs, hr, hrun, hended, hWm, hsame⟩ := X1.leave (v := some (.ref (w 11))) (fun h => by rw [Bd.returns] at h; cases h)
  refine ⟨_, _, pre0 _ ?_, hrun, hended, _, _, rfl, ?_, ⟨_, rfl⟩, hWm, hsame.mono (by decide) (by decide)⟩
  · show Steps p.tables e below (s₁.setTop (mkF m 0 #[.val (.int (12 : Int32))] [])) _
    refine sI X0 hx hby d1_0 rfl ?_
    refine XS.ifYes X0.here hx rfl (pc0 := 1) (pc' := 8) rfl (hb hby d1_1) rfl (by decide) (by decide) (by decide) ?_
    refine sI X0 hx hby d1_8 rfl ?_
    refine sc X0 hx hby d1_9 ?_
    refine XS.icmpYes X0.here hx rfl (pc0 := 10) (pc' := 17) rfl (hb hby d1_10) rfl (by decide) (by decide) (by decide) ?_
    refine sI X0 hx hby d1_17 rfl ?_
    refine sc X0 hx hby d1_18 ?_
    refine XS.icmpYes X0.here hx rfl (pc0 := 19) (pc' := 26) rfl (hb hby d1_19) rfl (by decide) (by decide) (by decide) ?_
    refine sI X0 hx hby d1_26 rfl ?_
    refine sc X0 hx hby d1_27 ?_
    refine XS.icmpYes X0.here hx rfl (pc0 := 28) (pc' := 35) rfl (hb hby d1_28) rfl (by decide) (by decide) (by decide) ?_
    refine sI X0 hx hby d1_35 rfl ?_
    refine sc X0 hx hby d1_36 ?_
    refine XS.icmpYes X0.here hx rfl (pc0 := 37) (pc' := 44) rfl (hb hby d1_37) rfl (by decide) (by decide) (by decide) ?_
    refine sI X0 hx hby d1_44 rfl ?_
    refine sc X0 hx hby d1_45 ?_
    refine XS.icmpYes X0.here hx rfl (pc0 := 46) (pc' := 53) rfl (hb hby d1_46) rfl (by decide) (by decide) (by decide) ?_
    refine sI X0 hx hby d1_53 rfl ?_
    refine XS.bipush X0.here hx rfl (hb hby d1_54) ?_
    refine XS.icmpYes X0.here hx rfl (pc0 := 56) (pc' := 63) rfl (hb hby d1_56) rfl (by decide) (by decide) (by decide) ?_
    refine sI X0 hx hby d1_63 rfl ?_
    refine XS.bipush X0.here hx rfl (hb hby d1_64) ?_
    refine XS.icmpYes X0.here hx rfl (pc0 := 66) (pc' := 73) rfl (hb hby d1_66) rfl (by decide) (by decide) (by decide) ?_
    refine sI X0 hx hby d1_73 rfl ?_
    refine XS.bipush X0.here hx rfl (hb hby d1_74) ?_
    refine XS.icmpYes X0.here hx rfl (pc0 := 76) (pc' := 83) rfl (hb hby d1_76) rfl (by decide) (by decide) (by decide) ?_
    refine sI X0 hx hby d1_83 rfl ?_
    refine XS.bipush X0.here hx rfl (hb hby d1_84) ?_
    refine XS.icmpYes X0.here hx rfl (pc0 := 86) (pc' := 93) rfl (hb hby d1_86) rfl (by decide) (by decide) (by decide) ?_
    refine sI X0 hx hby d1_93 rfl ?_
    refine XS.bipush X0.here hx rfl (hb hby d1_94) ?_
    refine XS.icmpYes X0.here hx rfl (pc0 := 96) (pc' := 103) rfl (hb hby d1_96) rfl (by decide) (by decide) (by decide) ?_
    refine sI X0 hx hby d1_103 rfl ?_
    refine XS.bipush X0.here hx rfl (hb hby d1_104) ?_
    refine XS.icmpYes X0.here hx rfl (pc0 := 106) (pc' := 113) rfl (hb hby d1_106) rfl (by decide) (by decide) (by decide) ?_
    refine st1 _ ?_
    jvm_step X1.here [X1.here.top, hx, (hb hby d1_116), X1.method', Bd.returns, Value.isRef, FieldType.isReference]
    first | (intro acts; rw [hr _ acts rfl rfl rfl]) | rw [hr _ _ rfl rfl rfl]
    exact Steps.refl _
  · show Q1_25 Z w h0 n0 _ T1.heap _
    rw [e1]
    exact ⟨rfl, N0, rfl⟩
theorem ef_2_26 (m : MethodId) (w : Nat → Addr) : entryFrame m #[(.ref (w 11))] 1 = mkF m 0 #[.val (.ref (w 11))] [] := by first | (simp [entryFrame, mkF, argsToLocals, Value.category]; done) | rfl
def Q2_26 (Z : State) (w : Nat → Addr) (h0 : Heap) (n0 : Nat) (v : Option Value) (h : Heap) (L : List Loc) : Prop := v = some (.int (0 : Int32)) ∧ Fr n0 L ∧ h = h0
set_option maxRecDepth 65536 in
set_option maxHeartbeats 40000000 in
theorem rm2_26 (l : Launch) (Z : State) (a0 : Array Value) (hw : ∀ d ∈ tables_1, d.before a0 Z = true) (w : Nat → Addr) (hW : Wd Z w) (ws : List Jvm.Cond) (h0 : Heap) (n0 : Nat) (O0 : Old Z n0 h0) :
    MetFree l ym1 (head1 (Jvm.Cond.code ym1 prog_29_method_8_code 1 (some .boolean) :: ws) ({ frames := 0, cells := 0, slots := 0, locals := 0 } : Room)) (fun a U => a = #[(.ref (w 11))] ∧ Z.Warmed39 U.vm ∧ U.heap = h0) (fun _ _ _ _ _ => True) (fun _ U o U' => ∃ v L, o = .returned v ∧ Q2_26 Z w h0 n0 v U'.heap L ∧ FrameEnd U o U' L ({ frames := 0, cells := 0, slots := 0, locals := 0 } : Room).cells ({ frames := 0, cells := 0, slots := 0, locals := 0 } : Room).slots) := by
  refine MetFree.of_bodySF (plainFor_of_name pnc_1) hisR ?_
  intro p e s m args below meth c s₁ Bd hml0 hP hK
  obtain ⟨rfl, hZ, hh⟩ := hP
  have hx := Bd.exec
  have hby := Bd.bytes
  have hml : c.maxLocals = 1 := hml0
  have hown : s.vm.findClass "com/example/weftcheck/weftcheck/OperationKind" = some m.cls := findClass_of_methodNamed Bd.named
  have hnm := (name_of_methodNamed Bd.named Bd.method).1
  have X0 : Stand p l e ({ frames := 0, cells := 0, slots := 0, locals := 0 } : Room) s m #[(.ref (w 11))] below meth c s₁ [] 0 0 := Stand.of_body Bd
  have e0 : s₁.heap = h0 := by rw [← hh, Bd.state]; rfl
  have N0 := Fr.nil n0
  skip
  have pre0 : ∀ t, Steps p.tables e below (s₁.setTop (mkF m 0 #[.val (.ref (w 11))] [])) t → Steps p.tables e below (s₁.setTop (entryFrame m #[(.ref (w 11))] 1)) t := fun t k => castTop (ef_2_26 m w) k
  obtain ⟨T1, X1, e1, st1⟩ := getS2 X0 hx hZ hown (host := "") (Or.inl (wk13 hw)) Via.refl e0 ((wd0 hW).ext O0.2) (g := (mkF m 1 #[.val (.ref (w 11))] [(.ref (w 11))])) rfl (hb hby d2_1)
  obtain ⟨T2, X2, e2, st2⟩ := getS2 X1 hx hZ hown (host := "") (Or.inl (wk16 hw)) Via.refl e1 ((wd4 hW).ext O0.2) (g := (mkF m 8 #[.val (.ref (w 11))] [(.ref (w 11))])) rfl (hb hby d2_8)
  obtain ⟨fs, hr, hrun, hended, hWm, hsame⟩ := X2.leave (v := some (.int (0 : Int32))) (fun h => by rw [Bd.returns] at h; cases h)
  refine ⟨_, _, pre0 _ ?_, hrun, hended, _, _, rfl, ?_, ⟨_, rfl⟩, hWm, hsame.mono (by decide) (by decide)⟩
  · show Steps p.tables e below (s₁.setTop (mkF m 0 #[.val (.ref (w 11))] [])) _
    refine sA X0 hx hby d2_0 rfl rfl ?_
    refine st1 _ ?_
    refine Jvm.RoadKit.acmp (g := (mkF m 4 #[.val (.ref (w 11))] [(.ref (w 0)), (.ref (w 11))])) X1 hx rfl rfl rfl (pc0 := 4) (pc' := 7) (same := false) rfl (hb hby d2_4) rfl (decide_eq_false fun q => (Fld.ne (wd37 hW) (wd27 hW) (by decide)) (Value.ref.inj q)) (by decide) (by decide) ?_
    refine sA X1 hx hby d2_7 rfl rfl ?_
    refine st2 _ ?_
    refine Jvm.RoadKit.acmp (g := (mkF m 11 #[.val (.ref (w 11))] [(.ref (w 2)), (.ref (w 11))])) X2 hx rfl rfl rfl (pc0 := 11) (pc' := 18) (same := false) rfl (hb hby d2_11) rfl (decide_eq_false fun q => (Fld.ne (wd37 hW) (wd28 hW) (by decide)) (Value.ref.inj q)) (by decide) (by decide) ?_
    refine sc X2 hx hby d2_18 ?_
    exact retN X2 hx (t := .boolean) Bd.returns (by simp) (hb hby d2_19) hr
  · show Q2_26 Z w h0 n0 _ T2.heap _
    rw [e2]
    exact ⟨rfl, N0, rfl⟩
theorem ef_0_27 (m : MethodId) (p0 : Int32) : entryFrame m #[(.int p0)] maxLocals = mkF m 0 #[.val (.int p0), .unset, .unset, .unset] [] := by first | (simp [entryFrame, mkF, argsToLocals, Value.category, maxLocals]; done) | rfl
def Q0 (n0 : Nat) (v : Option Value) (h : Heap) (L : List Loc) : Prop := v = some (.int (1 : Int32)) ∧ Fr n0 L
set_option maxRecDepth 65536 in
set_option maxHeartbeats 400000000 in
theorem rm0 (l : Launch) (Z : State) (a0 : Array Value) (hw : ∀ d ∈ tables_1, d.before a0 Z = true) (w : Nat → Addr) (hW : Wd Z w) (ws : List Jvm.Cond) (p0 : Int32) (h0 : Heap) (n0 : Nat) (O0 : Old Z n0 h0) :
    MetFree l x (head1 (Jvm.Cond.code x code maxLocals ret :: ws) room_1) (fun a U => a = #[(.int p0)] ∧ Z.Warmed39 U.vm ∧ U.heap = h0) (fun _ _ _ _ _ => True) (fun _ U o U' => ∃ v L, o = .returned v ∧ Q0 n0 v U'.heap L ∧ FrameEnd U o U' L room_1.cells room_1.slots) := by
  refine MetFree.of_bodySF (plainFor_of_name pnc_0) hisR ?_
  intro p e s m args below meth c s₁ Bd hml0 hP hK
  obtain ⟨rfl, hZ, hh⟩ := hP
  have hx := Bd.exec
  have hby := Bd.bytes
  have hml : c.maxLocals = 4 := hml0
  have hown : s.vm.findClass "com/example/weftcheck/weftcheck/OperationKindBindsRowPinLaw" = some m.cls := findClass_of_methodNamed Bd.named
  have hnm := (name_of_methodNamed Bd.named Bd.method).1
  have X0 : Stand p l e room_1 s m #[(.int p0)] below meth c s₁ [] 0 0 := Stand.of_body Bd
  have e0 : s₁.heap = h0 := by rw [← hh, Bd.state]; rfl
  have N0 := Fr.nil n0
  skip
  have pre0 : ∀ t, Steps p.tables e below (s₁.setTop (mkF m 0 #[.val (.int p0), .unset, .unset, .unset] [])) t → Steps p.tables e below (s₁.setTop (entryFrame m #[(.int p0)] maxLocals)) t := fun t k => castTop (ef_0_27 m p0) k
  let Lb1 : Array Slot := #[.val (.int p0), .val (.int ((p0 &&& (2147483647 : Int32)) % (13 : Int32))), .unset, .unset]
  have pre2 : ∀ t, Steps p.tables e below (s₁.setTop (mkF m 9 #[.val (.int p0), .val (.int ((p0 &&& (2147483647 : Int32)) % (13 : Int32))), .unset, .unset] [(.int ((p0 &&& (2147483647 : Int32)) % (13 : Int32)))])) t → Steps p.tables e below (s₁.setTop (entryFrame m #[(.int p0)] maxLocals)) t := fun t k => pre0 t (by
   show Steps p.tables e below (s₁.setTop (mkF m 0 #[.val (.int p0), .unset, .unset, .unset] [])) _
   refine sI X0 hx hby at_0 rfl ?_
   refine X0.ldcInt hx hown (mvT hZ (wk0 hw)) (g := (mkF m 1 #[.val (.int p0), .unset, .unset, .unset] [(.int p0)])) rfl (hb hby at_1) _ ?_
   refine XS.iand X0.here hx rfl (hb hby at_3) rfl ?_
   refine XS.bipush X0.here hx rfl (hb hby at_4) ?_
   refine iremM X0 hx rfl (hb hby at_6) rfl (by decide) ?_
   refine XS.istoreN X0.here hx rfl (hb hby at_7) rfl (l' := Lb1) rfl ?_
   refine sI X0 hx hby at_8 rfl ?_
   exact k)
  rcases (own_rem13 p0) with hs3 | hs3 | hs3 | hs3 | hs3 | hs3 | hs3 | hs3 | hs3 | hs3 | hs3 | hs3 | hs3
  ·
   rw [hs3] at pre2
   let Lb4 : Array Slot := #[.val (.int p0), .val (.int (0 : Int32)), .unset, .unset]
   obtain ⟨_, _, ⟨T5, L5, kk5, nn5⟩, -, X5, ⟨Lc5, hQ5, l5, y5, z5⟩, st5⟩ := Jvm.LawKit.callS X0 hx (y := ym0) hown (mvT hZ (wk1 hw)) (mvT hZ (wk2 hw)) (mvT hZ (wk3 hw)) (mvT hZ (wk4 hw)) (by decide) (backOf (W := 0) (rm1_1 l Z a0 hw w hW []  h0 n0 O0 ) hZ (wk4 hw) (wk3 hw) (by decide) (by decide)) (g := (mkF m 9 Lb4 [(.int (0 : Int32))])) rfl (by rw [hml]; rfl) (argsL := [(.int (0 : Int32))]) (rest := []) (lenOf pds_0 rfl) rfl (by show 2 * 0 + _ ≤ _; exact Nat.le_of_eq rfl) (hb hby at_9) (fun _ _ => ⟨rfl, e0, (by decide : 0 + 0 ≤ _), (by decide : 0 + 0 ≤ _)⟩)
   dsimp only [Pt.U, Pt.locs, Pt.cells, Pt.slots] at X5 l5 y5 z5 st5 hQ5
   subst l5 y5 z5
   obtain ⟨rfl, N5q, e5⟩ := hQ5
   have N5 := Fr.app N0 N5q
   let Lb6 : Array Slot := #[.val (.int p0), .val (.int (0 : Int32)), .val (.ref (w 0)), .unset]
   let Lb7 : Array Slot := #[.val (.int p0), .val (.int (0 : Int32)), .val (.ref (w 0)), .val (.int (1 : Int32))]
   obtain ⟨cq8, kq8, q8a, q8b, q8c⟩ := isOf hZ e5 ((wd1 hW).ext O0.2)
   obtain ⟨_, _, ⟨T8, L8, kk8, nn8⟩, -, X8, ⟨Lc8, hQ8, l8, y8, z8⟩, st8⟩ := X5.virtualBack hx (y := ym1) (z := ym1) hown (mvT hZ (wk8 hw)) (mvT hZ (wk9 hw)) (notFace_of_selects (args := #[]) (mvT hZ (wk11 hw))) (mvT hZ (wk11 hw)) (mvT hZ (wk10 hw)) (by decide) (backOf (W := 0) (rm2_2 l Z a0 hw w hW []  h0 n0 O0 ) hZ (wk12 hw) (wk6 hw) (by decide) (by decide)) q8a q8c (g := (mkF m 30 Lb7 [(.ref (w 0))])) rfl (by rw [hml]; rfl) (Steps.refl _) (argsL := []) (rest := []) (lenOf pds_1 rfl) rfl (by show 2 * 0 + _ ≤ _; exact Nat.le_of_eq rfl) (hb hby at_30) (fun _ _ => ⟨rfl, e5, (by decide : 0 + 0 ≤ _), (by decide : 0 + 0 ≤ _)⟩)
   dsimp only [Pt.U, Pt.locs, Pt.cells, Pt.slots] at X8 l8 y8 z8 st8 hQ8
   subst l8 y8 z8
   obtain ⟨rfl, N8q, e8⟩ := hQ8
   have N8 := Fr.app N5 N8q
   obtain ⟨fs, hr, hrun, hended, hWm, hsame⟩ := X8.leave (v := some (.int (1 : Int32))) (fun h => by rw [Bd.returns] at h; cases h)
   refine ⟨_, _, pre2 _ ?_, hrun, hended, _, _, rfl, ?_, ⟨_, rfl⟩, hWm, hsame.mono (by decide) (by decide)⟩
   · show Steps p.tables e below (s₁.setTop (mkF m 9 Lb4 [(.int (0 : Int32))])) _
     refine st5 _ ?_
     refine XS.astoreN X5.here hx rfl (hb hby at_12) rfl rfl (l' := Lb6) rfl ?_
     refine sI X5 hx hby at_13 rfl ?_
     refine XS.ifYes X5.here hx rfl (pc0 := 14) (pc' := 23) rfl (hb hby at_14) rfl (by decide) (by decide) (by decide) ?_
     refine sc X5 hx hby at_23 ?_
     refine sg (pc := 24) (pc' := 28) X5 hx hby at_24 (by decide) (by decide) ?_
     refine XS.istoreN X5.here hx rfl (hb hby at_28) rfl (l' := Lb7) rfl ?_
     refine sA X5 hx hby at_29 rfl rfl ?_
     refine st8.trans ?_
     refine sI X8 hx hby at_33 rfl ?_
     refine sn X8 hx hby at_34 (by decide) ?_
     refine sc X8 hx hby at_37 ?_
     refine sg (pc := 38) (pc' := 42) X8 hx hby at_38 (by decide) (by decide) ?_
     exact retN X8 hx (t := .boolean) Bd.returns (by simp) (hb hby at_42) hr
   · show Q0 n0 _ T8.heap _
     rw [e8]
     exact ⟨rfl, N8⟩
  ·
   rw [hs3] at pre2
   let Lb9 : Array Slot := #[.val (.int p0), .val (.int (1 : Int32)), .unset, .unset]
   obtain ⟨_, _, ⟨T10, L10, kk10, nn10⟩, -, X10, ⟨Lc10, hQ10, l10, y10, z10⟩, st10⟩ := Jvm.LawKit.callS X0 hx (y := ym0) hown (mvT hZ (wk1 hw)) (mvT hZ (wk2 hw)) (mvT hZ (wk3 hw)) (mvT hZ (wk4 hw)) (by decide) (backOf (W := 0) (rm1_3 l Z a0 hw w hW []  h0 n0 O0 ) hZ (wk4 hw) (wk3 hw) (by decide) (by decide)) (g := (mkF m 9 Lb9 [(.int (1 : Int32))])) rfl (by rw [hml]; rfl) (argsL := [(.int (1 : Int32))]) (rest := []) (lenOf pds_0 rfl) rfl (by show 2 * 0 + _ ≤ _; exact Nat.le_of_eq rfl) (hb hby at_9) (fun _ _ => ⟨rfl, e0, (by decide : 0 + 0 ≤ _), (by decide : 0 + 0 ≤ _)⟩)
   dsimp only [Pt.U, Pt.locs, Pt.cells, Pt.slots] at X10 l10 y10 z10 st10 hQ10
   subst l10 y10 z10
   obtain ⟨rfl, N10q, e10⟩ := hQ10
   have N10 := Fr.app N0 N10q
   let Lb11 : Array Slot := #[.val (.int p0), .val (.int (1 : Int32)), .val (.ref (w 9)), .unset]
   let Lb12 : Array Slot := #[.val (.int p0), .val (.int (1 : Int32)), .val (.ref (w 9)), .val (.int (0 : Int32))]
   obtain ⟨cq13, kq13, q13a, q13b, q13c⟩ := isOf hZ e10 ((wd19 hW).ext O0.2)
   obtain ⟨_, _, ⟨T13, L13, kk13, nn13⟩, -, X13, ⟨Lc13, hQ13, l13, y13, z13⟩, st13⟩ := X10.virtualBack hx (y := ym1) (z := ym1) hown (mvT hZ (wk8 hw)) (mvT hZ (wk9 hw)) (notFace_of_selects (args := #[]) (mvT hZ (wk11 hw))) (mvT hZ (wk11 hw)) (mvT hZ (wk10 hw)) (by decide) (backOf (W := 0) (rm2_4 l Z a0 hw w hW []  h0 n0 O0 ) hZ (wk12 hw) (wk6 hw) (by decide) (by decide)) q13a q13c (g := (mkF m 30 Lb12 [(.ref (w 9))])) rfl (by rw [hml]; rfl) (Steps.refl _) (argsL := []) (rest := []) (lenOf pds_1 rfl) rfl (by show 2 * 0 + _ ≤ _; exact Nat.le_of_eq rfl) (hb hby at_30) (fun _ _ => ⟨rfl, e10, (by decide : 0 + 0 ≤ _), (by decide : 0 + 0 ≤ _)⟩)
   dsimp only [Pt.U, Pt.locs, Pt.cells, Pt.slots] at X13 l13 y13 z13 st13 hQ13
   subst l13 y13 z13
   obtain ⟨rfl, N13q, e13⟩ := hQ13
   have N13 := Fr.app N10 N13q
   obtain ⟨fs, hr, hrun, hended, hWm, hsame⟩ := X13.leave (v := some (.int (1 : Int32))) (fun h => by rw [Bd.returns] at h; cases h)
   refine ⟨_, _, pre2 _ ?_, hrun, hended, _, _, rfl, ?_, ⟨_, rfl⟩, hWm, hsame.mono (by decide) (by decide)⟩
   · show Steps p.tables e below (s₁.setTop (mkF m 9 Lb9 [(.int (1 : Int32))])) _
     refine st10 _ ?_
     refine XS.astoreN X10.here hx rfl (hb hby at_12) rfl rfl (l' := Lb11) rfl ?_
     refine sI X10 hx hby at_13 rfl ?_
     refine sN X10 hx hby at_14 (by decide) ?_
     refine sI X10 hx hby at_17 rfl ?_
     refine XS.bipush X10.here hx rfl (hb hby at_18) ?_
     refine XS.icmpYes X10.here hx rfl (pc0 := 20) (pc' := 27) rfl (hb hby at_20) rfl (by decide) (by decide) (by decide) ?_
     refine sc X10 hx hby at_27 ?_
     refine XS.istoreN X10.here hx rfl (hb hby at_28) rfl (l' := Lb12) rfl ?_
     refine sA X10 hx hby at_29 rfl rfl ?_
     refine st13.trans ?_
     refine sI X13 hx hby at_33 rfl ?_
     refine sn X13 hx hby at_34 (by decide) ?_
     refine sc X13 hx hby at_37 ?_
     refine sg (pc := 38) (pc' := 42) X13 hx hby at_38 (by decide) (by decide) ?_
     exact retN X13 hx (t := .boolean) Bd.returns (by simp) (hb hby at_42) hr
   · show Q0 n0 _ T13.heap _
     rw [e13]
     exact ⟨rfl, N13⟩
  ·
   rw [hs3] at pre2
   let Lb14 : Array Slot := #[.val (.int p0), .val (.int (2 : Int32)), .unset, .unset]
   obtain ⟨_, _, ⟨T15, L15, kk15, nn15⟩, -, X15, ⟨Lc15, hQ15, l15, y15, z15⟩, st15⟩ := Jvm.LawKit.callS X0 hx (y := ym0) hown (mvT hZ (wk1 hw)) (mvT hZ (wk2 hw)) (mvT hZ (wk3 hw)) (mvT hZ (wk4 hw)) (by decide) (backOf (W := 0) (rm1_5 l Z a0 hw w hW []  h0 n0 O0 ) hZ (wk4 hw) (wk3 hw) (by decide) (by decide)) (g := (mkF m 9 Lb14 [(.int (2 : Int32))])) rfl (by rw [hml]; rfl) (argsL := [(.int (2 : Int32))]) (rest := []) (lenOf pds_0 rfl) rfl (by show 2 * 0 + _ ≤ _; exact Nat.le_of_eq rfl) (hb hby at_9) (fun _ _ => ⟨rfl, e0, (by decide : 0 + 0 ≤ _), (by decide : 0 + 0 ≤ _)⟩)
   dsimp only [Pt.U, Pt.locs, Pt.cells, Pt.slots] at X15 l15 y15 z15 st15 hQ15
   subst l15 y15 z15
   obtain ⟨rfl, N15q, e15⟩ := hQ15
   have N15 := Fr.app N0 N15q
   let Lb16 : Array Slot := #[.val (.int p0), .val (.int (2 : Int32)), .val (.ref (w 7)), .unset]
   let Lb17 : Array Slot := #[.val (.int p0), .val (.int (2 : Int32)), .val (.ref (w 7)), .val (.int (0 : Int32))]
   obtain ⟨cq18, kq18, q18a, q18b, q18c⟩ := isOf hZ e15 ((wd15 hW).ext O0.2)
   obtain ⟨_, _, ⟨T18, L18, kk18, nn18⟩, -, X18, ⟨Lc18, hQ18, l18, y18, z18⟩, st18⟩ := X15.virtualBack hx (y := ym1) (z := ym1) hown (mvT hZ (wk8 hw)) (mvT hZ (wk9 hw)) (notFace_of_selects (args := #[]) (mvT hZ (wk11 hw))) (mvT hZ (wk11 hw)) (mvT hZ (wk10 hw)) (by decide) (backOf (W := 0) (rm2_6 l Z a0 hw w hW []  h0 n0 O0 ) hZ (wk12 hw) (wk6 hw) (by decide) (by decide)) q18a q18c (g := (mkF m 30 Lb17 [(.ref (w 7))])) rfl (by rw [hml]; rfl) (Steps.refl _) (argsL := []) (rest := []) (lenOf pds_1 rfl) rfl (by show 2 * 0 + _ ≤ _; exact Nat.le_of_eq rfl) (hb hby at_30) (fun _ _ => ⟨rfl, e15, (by decide : 0 + 0 ≤ _), (by decide : 0 + 0 ≤ _)⟩)
   dsimp only [Pt.U, Pt.locs, Pt.cells, Pt.slots] at X18 l18 y18 z18 st18 hQ18
   subst l18 y18 z18
   obtain ⟨rfl, N18q, e18⟩ := hQ18
   have N18 := Fr.app N15 N18q
   obtain ⟨fs, hr, hrun, hended, hWm, hsame⟩ := X18.leave (v := some (.int (1 : Int32))) (fun h => by rw [Bd.returns] at h; cases h)
   refine ⟨_, _, pre2 _ ?_, hrun, hended, _, _, rfl, ?_, ⟨_, rfl⟩, hWm, hsame.mono (by decide) (by decide)⟩
   · show Steps p.tables e below (s₁.setTop (mkF m 9 Lb14 [(.int (2 : Int32))])) _
     refine st15 _ ?_
     refine XS.astoreN X15.here hx rfl (hb hby at_12) rfl rfl (l' := Lb16) rfl ?_
     refine sI X15 hx hby at_13 rfl ?_
     refine sN X15 hx hby at_14 (by decide) ?_
     refine sI X15 hx hby at_17 rfl ?_
     refine XS.bipush X15.here hx rfl (hb hby at_18) ?_
     refine XS.icmpYes X15.here hx rfl (pc0 := 20) (pc' := 27) rfl (hb hby at_20) rfl (by decide) (by decide) (by decide) ?_
     refine sc X15 hx hby at_27 ?_
     refine XS.istoreN X15.here hx rfl (hb hby at_28) rfl (l' := Lb17) rfl ?_
     refine sA X15 hx hby at_29 rfl rfl ?_
     refine st18.trans ?_
     refine sI X18 hx hby at_33 rfl ?_
     refine sn X18 hx hby at_34 (by decide) ?_
     refine sc X18 hx hby at_37 ?_
     refine sg (pc := 38) (pc' := 42) X18 hx hby at_38 (by decide) (by decide) ?_
     exact retN X18 hx (t := .boolean) Bd.returns (by simp) (hb hby at_42) hr
   · show Q0 n0 _ T18.heap _
     rw [e18]
     exact ⟨rfl, N18⟩
  ·
   rw [hs3] at pre2
   let Lb19 : Array Slot := #[.val (.int p0), .val (.int (3 : Int32)), .unset, .unset]
   obtain ⟨_, _, ⟨T20, L20, kk20, nn20⟩, -, X20, ⟨Lc20, hQ20, l20, y20, z20⟩, st20⟩ := Jvm.LawKit.callS X0 hx (y := ym0) hown (mvT hZ (wk1 hw)) (mvT hZ (wk2 hw)) (mvT hZ (wk3 hw)) (mvT hZ (wk4 hw)) (by decide) (backOf (W := 0) (rm1_7 l Z a0 hw w hW []  h0 n0 O0 ) hZ (wk4 hw) (wk3 hw) (by decide) (by decide)) (g := (mkF m 9 Lb19 [(.int (3 : Int32))])) rfl (by rw [hml]; rfl) (argsL := [(.int (3 : Int32))]) (rest := []) (lenOf pds_0 rfl) rfl (by show 2 * 0 + _ ≤ _; exact Nat.le_of_eq rfl) (hb hby at_9) (fun _ _ => ⟨rfl, e0, (by decide : 0 + 0 ≤ _), (by decide : 0 + 0 ≤ _)⟩)
   dsimp only [Pt.U, Pt.locs, Pt.cells, Pt.slots] at X20 l20 y20 z20 st20 hQ20
   subst l20 y20 z20
   obtain ⟨rfl, N20q, e20⟩ := hQ20
   have N20 := Fr.app N0 N20q
   let Lb21 : Array Slot := #[.val (.int p0), .val (.int (3 : Int32)), .val (.ref (w 1)), .unset]
   let Lb22 : Array Slot := #[.val (.int p0), .val (.int (3 : Int32)), .val (.ref (w 1)), .val (.int (0 : Int32))]
   obtain ⟨cq23, kq23, q23a, q23b, q23c⟩ := isOf hZ e20 ((wd3 hW).ext O0.2)
   obtain ⟨_, _, ⟨T23, L23, kk23, nn23⟩, -, X23, ⟨Lc23, hQ23, l23, y23, z23⟩, st23⟩ := X20.virtualBack hx (y := ym1) (z := ym1) hown (mvT hZ (wk8 hw)) (mvT hZ (wk9 hw)) (notFace_of_selects (args := #[]) (mvT hZ (wk11 hw))) (mvT hZ (wk11 hw)) (mvT hZ (wk10 hw)) (by decide) (backOf (W := 0) (rm2_8 l Z a0 hw w hW []  h0 n0 O0 ) hZ (wk12 hw) (wk6 hw) (by decide) (by decide)) q23a q23c (g := (mkF m 30 Lb22 [(.ref (w 1))])) rfl (by rw [hml]; rfl) (Steps.refl _) (argsL := []) (rest := []) (lenOf pds_1 rfl) rfl (by show 2 * 0 + _ ≤ _; exact Nat.le_of_eq rfl) (hb hby at_30) (fun _ _ => ⟨rfl, e20, (by decide : 0 + 0 ≤ _), (by decide : 0 + 0 ≤ _)⟩)
   dsimp only [Pt.U, Pt.locs, Pt.cells, Pt.slots] at X23 l23 y23 z23 st23 hQ23
   subst l23 y23 z23
   obtain ⟨rfl, N23q, e23⟩ := hQ23
   have N23 := Fr.app N20 N23q
   obtain ⟨fs, hr, hrun, hended, hWm, hsame⟩ := X23.leave (v := some (.int (1 : Int32))) (fun h => by rw [Bd.returns] at h; cases h)
   refine ⟨_, _, pre2 _ ?_, hrun, hended, _, _, rfl, ?_, ⟨_, rfl⟩, hWm, hsame.mono (by decide) (by decide)⟩
   · show Steps p.tables e below (s₁.setTop (mkF m 9 Lb19 [(.int (3 : Int32))])) _
     refine st20 _ ?_
     refine XS.astoreN X20.here hx rfl (hb hby at_12) rfl rfl (l' := Lb21) rfl ?_
     refine sI X20 hx hby at_13 rfl ?_
     refine sN X20 hx hby at_14 (by decide) ?_
     refine sI X20 hx hby at_17 rfl ?_
     refine XS.bipush X20.here hx rfl (hb hby at_18) ?_
     refine XS.icmpYes X20.here hx rfl (pc0 := 20) (pc' := 27) rfl (hb hby at_20) rfl (by decide) (by decide) (by decide) ?_
     refine sc X20 hx hby at_27 ?_
     refine XS.istoreN X20.here hx rfl (hb hby at_28) rfl (l' := Lb22) rfl ?_
     refine sA X20 hx hby at_29 rfl rfl ?_
     refine st23.trans ?_
     refine sI X23 hx hby at_33 rfl ?_
     refine sn X23 hx hby at_34 (by decide) ?_
     refine sc X23 hx hby at_37 ?_
     refine sg (pc := 38) (pc' := 42) X23 hx hby at_38 (by decide) (by decide) ?_
     exact retN X23 hx (t := .boolean) Bd.returns (by simp) (hb hby at_42) hr
   · show Q0 n0 _ T23.heap _
     rw [e23]
     exact ⟨rfl, N23⟩
  ·
   rw [hs3] at pre2
   let Lb24 : Array Slot := #[.val (.int p0), .val (.int (4 : Int32)), .unset, .unset]
   obtain ⟨_, _, ⟨T25, L25, kk25, nn25⟩, -, X25, ⟨Lc25, hQ25, l25, y25, z25⟩, st25⟩ := Jvm.LawKit.callS X0 hx (y := ym0) hown (mvT hZ (wk1 hw)) (mvT hZ (wk2 hw)) (mvT hZ (wk3 hw)) (mvT hZ (wk4 hw)) (by decide) (backOf (W := 0) (rm1_9 l Z a0 hw w hW []  h0 n0 O0 ) hZ (wk4 hw) (wk3 hw) (by decide) (by decide)) (g := (mkF m 9 Lb24 [(.int (4 : Int32))])) rfl (by rw [hml]; rfl) (argsL := [(.int (4 : Int32))]) (rest := []) (lenOf pds_0 rfl) rfl (by show 2 * 0 + _ ≤ _; exact Nat.le_of_eq rfl) (hb hby at_9) (fun _ _ => ⟨rfl, e0, (by decide : 0 + 0 ≤ _), (by decide : 0 + 0 ≤ _)⟩)
   dsimp only [Pt.U, Pt.locs, Pt.cells, Pt.slots] at X25 l25 y25 z25 st25 hQ25
   subst l25 y25 z25
   obtain ⟨rfl, N25q, e25⟩ := hQ25
   have N25 := Fr.app N0 N25q
   let Lb26 : Array Slot := #[.val (.int p0), .val (.int (4 : Int32)), .val (.ref (w 12)), .unset]
   let Lb27 : Array Slot := #[.val (.int p0), .val (.int (4 : Int32)), .val (.ref (w 12)), .val (.int (0 : Int32))]
   obtain ⟨cq28, kq28, q28a, q28b, q28c⟩ := isOf hZ e25 ((wd25 hW).ext O0.2)
   obtain ⟨_, _, ⟨T28, L28, kk28, nn28⟩, -, X28, ⟨Lc28, hQ28, l28, y28, z28⟩, st28⟩ := X25.virtualBack hx (y := ym1) (z := ym1) hown (mvT hZ (wk8 hw)) (mvT hZ (wk9 hw)) (notFace_of_selects (args := #[]) (mvT hZ (wk11 hw))) (mvT hZ (wk11 hw)) (mvT hZ (wk10 hw)) (by decide) (backOf (W := 0) (rm2_10 l Z a0 hw w hW []  h0 n0 O0 ) hZ (wk12 hw) (wk6 hw) (by decide) (by decide)) q28a q28c (g := (mkF m 30 Lb27 [(.ref (w 12))])) rfl (by rw [hml]; rfl) (Steps.refl _) (argsL := []) (rest := []) (lenOf pds_1 rfl) rfl (by show 2 * 0 + _ ≤ _; exact Nat.le_of_eq rfl) (hb hby at_30) (fun _ _ => ⟨rfl, e25, (by decide : 0 + 0 ≤ _), (by decide : 0 + 0 ≤ _)⟩)
   dsimp only [Pt.U, Pt.locs, Pt.cells, Pt.slots] at X28 l28 y28 z28 st28 hQ28
   subst l28 y28 z28
   obtain ⟨rfl, N28q, e28⟩ := hQ28
   have N28 := Fr.app N25 N28q
   obtain ⟨fs, hr, hrun, hended, hWm, hsame⟩ := X28.leave (v := some (.int (1 : Int32))) (fun h => by rw [Bd.returns] at h; cases h)
   refine ⟨_, _, pre2 _ ?_, hrun, hended, _, _, rfl, ?_, ⟨_, rfl⟩, hWm, hsame.mono (by decide) (by decide)⟩
   · show Steps p.tables e below (s₁.setTop (mkF m 9 Lb24 [(.int (4 : Int32))])) _
     refine st25 _ ?_
     refine XS.astoreN X25.here hx rfl (hb hby at_12) rfl rfl (l' := Lb26) rfl ?_
     refine sI X25 hx hby at_13 rfl ?_
     refine sN X25 hx hby at_14 (by decide) ?_
     refine sI X25 hx hby at_17 rfl ?_
     refine XS.bipush X25.here hx rfl (hb hby at_18) ?_
     refine XS.icmpYes X25.here hx rfl (pc0 := 20) (pc' := 27) rfl (hb hby at_20) rfl (by decide) (by decide) (by decide) ?_
     refine sc X25 hx hby at_27 ?_
     refine XS.istoreN X25.here hx rfl (hb hby at_28) rfl (l' := Lb27) rfl ?_
     refine sA X25 hx hby at_29 rfl rfl ?_
     refine st28.trans ?_
     refine sI X28 hx hby at_33 rfl ?_
     refine sn X28 hx hby at_34 (by decide) ?_
     refine sc X28 hx hby at_37 ?_
     refine sg (pc := 38) (pc' := 42) X28 hx hby at_38 (by decide) (by decide) ?_
     exact retN X28 hx (t := .boolean) Bd.returns (by simp) (hb hby at_42) hr
   · show Q0 n0 _ T28.heap _
     rw [e28]
     exact ⟨rfl, N28⟩
  ·
   rw [hs3] at pre2
   let Lb29 : Array Slot := #[.val (.int p0), .val (.int (5 : Int32)), .unset, .unset]
   obtain ⟨_, _, ⟨T30, L30, kk30, nn30⟩, -, X30, ⟨Lc30, hQ30, l30, y30, z30⟩, st30⟩ := Jvm.LawKit.callS X0 hx (y := ym0) hown (mvT hZ (wk1 hw)) (mvT hZ (wk2 hw)) (mvT hZ (wk3 hw)) (mvT hZ (wk4 hw)) (by decide) (backOf (W := 0) (rm1_11 l Z a0 hw w hW []  h0 n0 O0 ) hZ (wk4 hw) (wk3 hw) (by decide) (by decide)) (g := (mkF m 9 Lb29 [(.int (5 : Int32))])) rfl (by rw [hml]; rfl) (argsL := [(.int (5 : Int32))]) (rest := []) (lenOf pds_0 rfl) rfl (by show 2 * 0 + _ ≤ _; exact Nat.le_of_eq rfl) (hb hby at_9) (fun _ _ => ⟨rfl, e0, (by decide : 0 + 0 ≤ _), (by decide : 0 + 0 ≤ _)⟩)
   dsimp only [Pt.U, Pt.locs, Pt.cells, Pt.slots] at X30 l30 y30 z30 st30 hQ30
   subst l30 y30 z30
   obtain ⟨rfl, N30q, e30⟩ := hQ30
   have N30 := Fr.app N0 N30q
   let Lb31 : Array Slot := #[.val (.int p0), .val (.int (5 : Int32)), .val (.ref (w 4)), .unset]
   let Lb32 : Array Slot := #[.val (.int p0), .val (.int (5 : Int32)), .val (.ref (w 4)), .val (.int (0 : Int32))]
   obtain ⟨cq33, kq33, q33a, q33b, q33c⟩ := isOf hZ e30 ((wd9 hW).ext O0.2)
   obtain ⟨_, _, ⟨T33, L33, kk33, nn33⟩, -, X33, ⟨Lc33, hQ33, l33, y33, z33⟩, st33⟩ := X30.virtualBack hx (y := ym1) (z := ym1) hown (mvT hZ (wk8 hw)) (mvT hZ (wk9 hw)) (notFace_of_selects (args := #[]) (mvT hZ (wk11 hw))) (mvT hZ (wk11 hw)) (mvT hZ (wk10 hw)) (by decide) (backOf (W := 0) (rm2_12 l Z a0 hw w hW []  h0 n0 O0 ) hZ (wk12 hw) (wk6 hw) (by decide) (by decide)) q33a q33c (g := (mkF m 30 Lb32 [(.ref (w 4))])) rfl (by rw [hml]; rfl) (Steps.refl _) (argsL := []) (rest := []) (lenOf pds_1 rfl) rfl (by show 2 * 0 + _ ≤ _; exact Nat.le_of_eq rfl) (hb hby at_30) (fun _ _ => ⟨rfl, e30, (by decide : 0 + 0 ≤ _), (by decide : 0 + 0 ≤ _)⟩)
   dsimp only [Pt.U, Pt.locs, Pt.cells, Pt.slots] at X33 l33 y33 z33 st33 hQ33
   subst l33 y33 z33
   obtain ⟨rfl, N33q, e33⟩ := hQ33
   have N33 := Fr.app N30 N33q
   obtain ⟨fs, hr, hrun, hended, hWm, hsame⟩ := X33.leave (v := some (.int (1 : Int32))) (fun h => by rw [Bd.returns] at h; cases h)
   refine ⟨_, _, pre2 _ ?_, hrun, hended, _, _, rfl, ?_, ⟨_, rfl⟩, hWm, hsame.mono (by decide) (by decide)⟩
   · show Steps p.tables e below (s₁.setTop (mkF m 9 Lb29 [(.int (5 : Int32))])) _
     refine st30 _ ?_
     refine XS.astoreN X30.here hx rfl (hb hby at_12) rfl rfl (l' := Lb31) rfl ?_
     refine sI X30 hx hby at_13 rfl ?_
     refine sN X30 hx hby at_14 (by decide) ?_
     refine sI X30 hx hby at_17 rfl ?_
     refine XS.bipush X30.here hx rfl (hb hby at_18) ?_
     refine XS.icmpYes X30.here hx rfl (pc0 := 20) (pc' := 27) rfl (hb hby at_20) rfl (by decide) (by decide) (by decide) ?_
     refine sc X30 hx hby at_27 ?_
     refine XS.istoreN X30.here hx rfl (hb hby at_28) rfl (l' := Lb32) rfl ?_
     refine sA X30 hx hby at_29 rfl rfl ?_
     refine st33.trans ?_
     refine sI X33 hx hby at_33 rfl ?_
     refine sn X33 hx hby at_34 (by decide) ?_
     refine sc X33 hx hby at_37 ?_
     refine sg (pc := 38) (pc' := 42) X33 hx hby at_38 (by decide) (by decide) ?_
     exact retN X33 hx (t := .boolean) Bd.returns (by simp) (hb hby at_42) hr
   · show Q0 n0 _ T33.heap _
     rw [e33]
     exact ⟨rfl, N33⟩
  ·
   rw [hs3] at pre2
   let Lb34 : Array Slot := #[.val (.int p0), .val (.int (6 : Int32)), .unset, .unset]
   obtain ⟨_, _, ⟨T35, L35, kk35, nn35⟩, -, X35, ⟨Lc35, hQ35, l35, y35, z35⟩, st35⟩ := Jvm.LawKit.callS X0 hx (y := ym0) hown (mvT hZ (wk1 hw)) (mvT hZ (wk2 hw)) (mvT hZ (wk3 hw)) (mvT hZ (wk4 hw)) (by decide) (backOf (W := 0) (rm1_13 l Z a0 hw w hW []  h0 n0 O0 ) hZ (wk4 hw) (wk3 hw) (by decide) (by decide)) (g := (mkF m 9 Lb34 [(.int (6 : Int32))])) rfl (by rw [hml]; rfl) (argsL := [(.int (6 : Int32))]) (rest := []) (lenOf pds_0 rfl) rfl (by show 2 * 0 + _ ≤ _; exact Nat.le_of_eq rfl) (hb hby at_9) (fun _ _ => ⟨rfl, e0, (by decide : 0 + 0 ≤ _), (by decide : 0 + 0 ≤ _)⟩)
   dsimp only [Pt.U, Pt.locs, Pt.cells, Pt.slots] at X35 l35 y35 z35 st35 hQ35
   subst l35 y35 z35
   obtain ⟨rfl, N35q, e35⟩ := hQ35
   have N35 := Fr.app N0 N35q
   let Lb36 : Array Slot := #[.val (.int p0), .val (.int (6 : Int32)), .val (.ref (w 3)), .unset]
   let Lb37 : Array Slot := #[.val (.int p0), .val (.int (6 : Int32)), .val (.ref (w 3)), .val (.int (0 : Int32))]
   obtain ⟨cq38, kq38, q38a, q38b, q38c⟩ := isOf hZ e35 ((wd7 hW).ext O0.2)
   obtain ⟨_, _, ⟨T38, L38, kk38, nn38⟩, -, X38, ⟨Lc38, hQ38, l38, y38, z38⟩, st38⟩ := X35.virtualBack hx (y := ym1) (z := ym1) hown (mvT hZ (wk8 hw)) (mvT hZ (wk9 hw)) (notFace_of_selects (args := #[]) (mvT hZ (wk11 hw))) (mvT hZ (wk11 hw)) (mvT hZ (wk10 hw)) (by decide) (backOf (W := 0) (rm2_14 l Z a0 hw w hW []  h0 n0 O0 ) hZ (wk12 hw) (wk6 hw) (by decide) (by decide)) q38a q38c (g := (mkF m 30 Lb37 [(.ref (w 3))])) rfl (by rw [hml]; rfl) (Steps.refl _) (argsL := []) (rest := []) (lenOf pds_1 rfl) rfl (by show 2 * 0 + _ ≤ _; exact Nat.le_of_eq rfl) (hb hby at_30) (fun _ _ => ⟨rfl, e35, (by decide : 0 + 0 ≤ _), (by decide : 0 + 0 ≤ _)⟩)
   dsimp only [Pt.U, Pt.locs, Pt.cells, Pt.slots] at X38 l38 y38 z38 st38 hQ38
   subst l38 y38 z38
   obtain ⟨rfl, N38q, e38⟩ := hQ38
   have N38 := Fr.app N35 N38q
   obtain ⟨fs, hr, hrun, hended, hWm, hsame⟩ := X38.leave (v := some (.int (1 : Int32))) (fun h => by rw [Bd.returns] at h; cases h)
   refine ⟨_, _, pre2 _ ?_, hrun, hended, _, _, rfl, ?_, ⟨_, rfl⟩, hWm, hsame.mono (by decide) (by decide)⟩
   · show Steps p.tables e below (s₁.setTop (mkF m 9 Lb34 [(.int (6 : Int32))])) _
     refine st35 _ ?_
     refine XS.astoreN X35.here hx rfl (hb hby at_12) rfl rfl (l' := Lb36) rfl ?_
     refine sI X35 hx hby at_13 rfl ?_
     refine sN X35 hx hby at_14 (by decide) ?_
     refine sI X35 hx hby at_17 rfl ?_
     refine XS.bipush X35.here hx rfl (hb hby at_18) ?_
     refine XS.icmpYes X35.here hx rfl (pc0 := 20) (pc' := 27) rfl (hb hby at_20) rfl (by decide) (by decide) (by decide) ?_
     refine sc X35 hx hby at_27 ?_
     refine XS.istoreN X35.here hx rfl (hb hby at_28) rfl (l' := Lb37) rfl ?_
     refine sA X35 hx hby at_29 rfl rfl ?_
     refine st38.trans ?_
     refine sI X38 hx hby at_33 rfl ?_
     refine sn X38 hx hby at_34 (by decide) ?_
     refine sc X38 hx hby at_37 ?_
     refine sg (pc := 38) (pc' := 42) X38 hx hby at_38 (by decide) (by decide) ?_
     exact retN X38 hx (t := .boolean) Bd.returns (by simp) (hb hby at_42) hr
   · show Q0 n0 _ T38.heap _
     rw [e38]
     exact ⟨rfl, N38⟩
  ·
   rw [hs3] at pre2
   let Lb39 : Array Slot := #[.val (.int p0), .val (.int (7 : Int32)), .unset, .unset]
   obtain ⟨_, _, ⟨T40, L40, kk40, nn40⟩, -, X40, ⟨Lc40, hQ40, l40, y40, z40⟩, st40⟩ := Jvm.LawKit.callS X0 hx (y := ym0) hown (mvT hZ (wk1 hw)) (mvT hZ (wk2 hw)) (mvT hZ (wk3 hw)) (mvT hZ (wk4 hw)) (by decide) (backOf (W := 0) (rm1_15 l Z a0 hw w hW []  h0 n0 O0 ) hZ (wk4 hw) (wk3 hw) (by decide) (by decide)) (g := (mkF m 9 Lb39 [(.int (7 : Int32))])) rfl (by rw [hml]; rfl) (argsL := [(.int (7 : Int32))]) (rest := []) (lenOf pds_0 rfl) rfl (by show 2 * 0 + _ ≤ _; exact Nat.le_of_eq rfl) (hb hby at_9) (fun _ _ => ⟨rfl, e0, (by decide : 0 + 0 ≤ _), (by decide : 0 + 0 ≤ _)⟩)
   dsimp only [Pt.U, Pt.locs, Pt.cells, Pt.slots] at X40 l40 y40 z40 st40 hQ40
   subst l40 y40 z40
   obtain ⟨rfl, N40q, e40⟩ := hQ40
   have N40 := Fr.app N0 N40q
   let Lb41 : Array Slot := #[.val (.int p0), .val (.int (7 : Int32)), .val (.ref (w 5)), .unset]
   let Lb42 : Array Slot := #[.val (.int p0), .val (.int (7 : Int32)), .val (.ref (w 5)), .val (.int (0 : Int32))]
   obtain ⟨cq43, kq43, q43a, q43b, q43c⟩ := isOf hZ e40 ((wd11 hW).ext O0.2)
   obtain ⟨_, _, ⟨T43, L43, kk43, nn43⟩, -, X43, ⟨Lc43, hQ43, l43, y43, z43⟩, st43⟩ := X40.virtualBack hx (y := ym1) (z := ym1) hown (mvT hZ (wk8 hw)) (mvT hZ (wk9 hw)) (notFace_of_selects (args := #[]) (mvT hZ (wk11 hw))) (mvT hZ (wk11 hw)) (mvT hZ (wk10 hw)) (by decide) (backOf (W := 0) (rm2_16 l Z a0 hw w hW []  h0 n0 O0 ) hZ (wk12 hw) (wk6 hw) (by decide) (by decide)) q43a q43c (g := (mkF m 30 Lb42 [(.ref (w 5))])) rfl (by rw [hml]; rfl) (Steps.refl _) (argsL := []) (rest := []) (lenOf pds_1 rfl) rfl (by show 2 * 0 + _ ≤ _; exact Nat.le_of_eq rfl) (hb hby at_30) (fun _ _ => ⟨rfl, e40, (by decide : 0 + 0 ≤ _), (by decide : 0 + 0 ≤ _)⟩)
   dsimp only [Pt.U, Pt.locs, Pt.cells, Pt.slots] at X43 l43 y43 z43 st43 hQ43
   subst l43 y43 z43
   obtain ⟨rfl, N43q, e43⟩ := hQ43
   have N43 := Fr.app N40 N43q
   obtain ⟨fs, hr, hrun, hended, hWm, hsame⟩ := X43.leave (v := some (.int (1 : Int32))) (fun h => by rw [Bd.returns] at h; cases h)
   refine ⟨_, _, pre2 _ ?_, hrun, hended, _, _, rfl, ?_, ⟨_, rfl⟩, hWm, hsame.mono (by decide) (by decide)⟩
   · show Steps p.tables e below (s₁.setTop (mkF m 9 Lb39 [(.int (7 : Int32))])) _
     refine st40 _ ?_
     refine XS.astoreN X40.here hx rfl (hb hby at_12) rfl rfl (l' := Lb41) rfl ?_
     refine sI X40 hx hby at_13 rfl ?_
     refine sN X40 hx hby at_14 (by decide) ?_
     refine sI X40 hx hby at_17 rfl ?_
     refine XS.bipush X40.here hx rfl (hb hby at_18) ?_
     refine XS.icmpYes X40.here hx rfl (pc0 := 20) (pc' := 27) rfl (hb hby at_20) rfl (by decide) (by decide) (by decide) ?_
     refine sc X40 hx hby at_27 ?_
     refine XS.istoreN X40.here hx rfl (hb hby at_28) rfl (l' := Lb42) rfl ?_
     refine sA X40 hx hby at_29 rfl rfl ?_
     refine st43.trans ?_
     refine sI X43 hx hby at_33 rfl ?_
     refine sn X43 hx hby at_34 (by decide) ?_
     refine sc X43 hx hby at_37 ?_
     refine sg (pc := 38) (pc' := 42) X43 hx hby at_38 (by decide) (by decide) ?_
     exact retN X43 hx (t := .boolean) Bd.returns (by simp) (hb hby at_42) hr
   · show Q0 n0 _ T43.heap _
     rw [e43]
     exact ⟨rfl, N43⟩
  ·
   rw [hs3] at pre2
   let Lb44 : Array Slot := #[.val (.int p0), .val (.int (8 : Int32)), .unset, .unset]
   obtain ⟨_, _, ⟨T45, L45, kk45, nn45⟩, -, X45, ⟨Lc45, hQ45, l45, y45, z45⟩, st45⟩ := Jvm.LawKit.callS X0 hx (y := ym0) hown (mvT hZ (wk1 hw)) (mvT hZ (wk2 hw)) (mvT hZ (wk3 hw)) (mvT hZ (wk4 hw)) (by decide) (backOf (W := 0) (rm1_17 l Z a0 hw w hW []  h0 n0 O0 ) hZ (wk4 hw) (wk3 hw) (by decide) (by decide)) (g := (mkF m 9 Lb44 [(.int (8 : Int32))])) rfl (by rw [hml]; rfl) (argsL := [(.int (8 : Int32))]) (rest := []) (lenOf pds_0 rfl) rfl (by show 2 * 0 + _ ≤ _; exact Nat.le_of_eq rfl) (hb hby at_9) (fun _ _ => ⟨rfl, e0, (by decide : 0 + 0 ≤ _), (by decide : 0 + 0 ≤ _)⟩)
   dsimp only [Pt.U, Pt.locs, Pt.cells, Pt.slots] at X45 l45 y45 z45 st45 hQ45
   subst l45 y45 z45
   obtain ⟨rfl, N45q, e45⟩ := hQ45
   have N45 := Fr.app N0 N45q
   let Lb46 : Array Slot := #[.val (.int p0), .val (.int (8 : Int32)), .val (.ref (w 2)), .unset]
   let Lb47 : Array Slot := #[.val (.int p0), .val (.int (8 : Int32)), .val (.ref (w 2)), .val (.int (1 : Int32))]
   obtain ⟨cq48, kq48, q48a, q48b, q48c⟩ := isOf hZ e45 ((wd5 hW).ext O0.2)
   obtain ⟨_, _, ⟨T48, L48, kk48, nn48⟩, -, X48, ⟨Lc48, hQ48, l48, y48, z48⟩, st48⟩ := X45.virtualBack hx (y := ym1) (z := ym1) hown (mvT hZ (wk8 hw)) (mvT hZ (wk9 hw)) (notFace_of_selects (args := #[]) (mvT hZ (wk11 hw))) (mvT hZ (wk11 hw)) (mvT hZ (wk10 hw)) (by decide) (backOf (W := 0) (rm2_18 l Z a0 hw w hW []  h0 n0 O0 ) hZ (wk12 hw) (wk6 hw) (by decide) (by decide)) q48a q48c (g := (mkF m 30 Lb47 [(.ref (w 2))])) rfl (by rw [hml]; rfl) (Steps.refl _) (argsL := []) (rest := []) (lenOf pds_1 rfl) rfl (by show 2 * 0 + _ ≤ _; exact Nat.le_of_eq rfl) (hb hby at_30) (fun _ _ => ⟨rfl, e45, (by decide : 0 + 0 ≤ _), (by decide : 0 + 0 ≤ _)⟩)
   dsimp only [Pt.U, Pt.locs, Pt.cells, Pt.slots] at X48 l48 y48 z48 st48 hQ48
   subst l48 y48 z48
   obtain ⟨rfl, N48q, e48⟩ := hQ48
   have N48 := Fr.app N45 N48q
   obtain ⟨fs, hr, hrun, hended, hWm, hsame⟩ := X48.leave (v := some (.int (1 : Int32))) (fun h => by rw [Bd.returns] at h; cases h)
   refine ⟨_, _, pre2 _ ?_, hrun, hended, _, _, rfl, ?_, ⟨_, rfl⟩, hWm, hsame.mono (by decide) (by decide)⟩
   · show Steps p.tables e below (s₁.setTop (mkF m 9 Lb44 [(.int (8 : Int32))])) _
     refine st45 _ ?_
     refine XS.astoreN X45.here hx rfl (hb hby at_12) rfl rfl (l' := Lb46) rfl ?_
     refine sI X45 hx hby at_13 rfl ?_
     refine sN X45 hx hby at_14 (by decide) ?_
     refine sI X45 hx hby at_17 rfl ?_
     refine XS.bipush X45.here hx rfl (hb hby at_18) ?_
     refine sn X45 hx hby at_20 (by decide) ?_
     refine sc X45 hx hby at_23 ?_
     refine sg (pc := 24) (pc' := 28) X45 hx hby at_24 (by decide) (by decide) ?_
     refine XS.istoreN X45.here hx rfl (hb hby at_28) rfl (l' := Lb47) rfl ?_
     refine sA X45 hx hby at_29 rfl rfl ?_
     refine st48.trans ?_
     refine sI X48 hx hby at_33 rfl ?_
     refine sn X48 hx hby at_34 (by decide) ?_
     refine sc X48 hx hby at_37 ?_
     refine sg (pc := 38) (pc' := 42) X48 hx hby at_38 (by decide) (by decide) ?_
     exact retN X48 hx (t := .boolean) Bd.returns (by simp) (hb hby at_42) hr
   · show Q0 n0 _ T48.heap _
     rw [e48]
     exact ⟨rfl, N48⟩
  ·
   rw [hs3] at pre2
   let Lb49 : Array Slot := #[.val (.int p0), .val (.int (9 : Int32)), .unset, .unset]
   obtain ⟨_, _, ⟨T50, L50, kk50, nn50⟩, -, X50, ⟨Lc50, hQ50, l50, y50, z50⟩, st50⟩ := Jvm.LawKit.callS X0 hx (y := ym0) hown (mvT hZ (wk1 hw)) (mvT hZ (wk2 hw)) (mvT hZ (wk3 hw)) (mvT hZ (wk4 hw)) (by decide) (backOf (W := 0) (rm1_19 l Z a0 hw w hW []  h0 n0 O0 ) hZ (wk4 hw) (wk3 hw) (by decide) (by decide)) (g := (mkF m 9 Lb49 [(.int (9 : Int32))])) rfl (by rw [hml]; rfl) (argsL := [(.int (9 : Int32))]) (rest := []) (lenOf pds_0 rfl) rfl (by show 2 * 0 + _ ≤ _; exact Nat.le_of_eq rfl) (hb hby at_9) (fun _ _ => ⟨rfl, e0, (by decide : 0 + 0 ≤ _), (by decide : 0 + 0 ≤ _)⟩)
   dsimp only [Pt.U, Pt.locs, Pt.cells, Pt.slots] at X50 l50 y50 z50 st50 hQ50
   subst l50 y50 z50
   obtain ⟨rfl, N50q, e50⟩ := hQ50
   have N50 := Fr.app N0 N50q
   let Lb51 : Array Slot := #[.val (.int p0), .val (.int (9 : Int32)), .val (.ref (w 6)), .unset]
   let Lb52 : Array Slot := #[.val (.int p0), .val (.int (9 : Int32)), .val (.ref (w 6)), .val (.int (0 : Int32))]
   obtain ⟨cq53, kq53, q53a, q53b, q53c⟩ := isOf hZ e50 ((wd13 hW).ext O0.2)
   obtain ⟨_, _, ⟨T53, L53, kk53, nn53⟩, -, X53, ⟨Lc53, hQ53, l53, y53, z53⟩, st53⟩ := X50.virtualBack hx (y := ym1) (z := ym1) hown (mvT hZ (wk8 hw)) (mvT hZ (wk9 hw)) (notFace_of_selects (args := #[]) (mvT hZ (wk11 hw))) (mvT hZ (wk11 hw)) (mvT hZ (wk10 hw)) (by decide) (backOf (W := 0) (rm2_20 l Z a0 hw w hW []  h0 n0 O0 ) hZ (wk12 hw) (wk6 hw) (by decide) (by decide)) q53a q53c (g := (mkF m 30 Lb52 [(.ref (w 6))])) rfl (by rw [hml]; rfl) (Steps.refl _) (argsL := []) (rest := []) (lenOf pds_1 rfl) rfl (by show 2 * 0 + _ ≤ _; exact Nat.le_of_eq rfl) (hb hby at_30) (fun _ _ => ⟨rfl, e50, (by decide : 0 + 0 ≤ _), (by decide : 0 + 0 ≤ _)⟩)
   dsimp only [Pt.U, Pt.locs, Pt.cells, Pt.slots] at X53 l53 y53 z53 st53 hQ53
   subst l53 y53 z53
   obtain ⟨rfl, N53q, e53⟩ := hQ53
   have N53 := Fr.app N50 N53q
   obtain ⟨fs, hr, hrun, hended, hWm, hsame⟩ := X53.leave (v := some (.int (1 : Int32))) (fun h => by rw [Bd.returns] at h; cases h)
   refine ⟨_, _, pre2 _ ?_, hrun, hended, _, _, rfl, ?_, ⟨_, rfl⟩, hWm, hsame.mono (by decide) (by decide)⟩
   · show Steps p.tables e below (s₁.setTop (mkF m 9 Lb49 [(.int (9 : Int32))])) _
     refine st50 _ ?_
     refine XS.astoreN X50.here hx rfl (hb hby at_12) rfl rfl (l' := Lb51) rfl ?_
     refine sI X50 hx hby at_13 rfl ?_
     refine sN X50 hx hby at_14 (by decide) ?_
     refine sI X50 hx hby at_17 rfl ?_
     refine XS.bipush X50.here hx rfl (hb hby at_18) ?_
     refine XS.icmpYes X50.here hx rfl (pc0 := 20) (pc' := 27) rfl (hb hby at_20) rfl (by decide) (by decide) (by decide) ?_
     refine sc X50 hx hby at_27 ?_
     refine XS.istoreN X50.here hx rfl (hb hby at_28) rfl (l' := Lb52) rfl ?_
     refine sA X50 hx hby at_29 rfl rfl ?_
     refine st53.trans ?_
     refine sI X53 hx hby at_33 rfl ?_
     refine sn X53 hx hby at_34 (by decide) ?_
     refine sc X53 hx hby at_37 ?_
     refine sg (pc := 38) (pc' := 42) X53 hx hby at_38 (by decide) (by decide) ?_
     exact retN X53 hx (t := .boolean) Bd.returns (by simp) (hb hby at_42) hr
   · show Q0 n0 _ T53.heap _
     rw [e53]
     exact ⟨rfl, N53⟩
  ·
   rw [hs3] at pre2
   let Lb54 : Array Slot := #[.val (.int p0), .val (.int (10 : Int32)), .unset, .unset]
   obtain ⟨_, _, ⟨T55, L55, kk55, nn55⟩, -, X55, ⟨Lc55, hQ55, l55, y55, z55⟩, st55⟩ := Jvm.LawKit.callS X0 hx (y := ym0) hown (mvT hZ (wk1 hw)) (mvT hZ (wk2 hw)) (mvT hZ (wk3 hw)) (mvT hZ (wk4 hw)) (by decide) (backOf (W := 0) (rm1_21 l Z a0 hw w hW []  h0 n0 O0 ) hZ (wk4 hw) (wk3 hw) (by decide) (by decide)) (g := (mkF m 9 Lb54 [(.int (10 : Int32))])) rfl (by rw [hml]; rfl) (argsL := [(.int (10 : Int32))]) (rest := []) (lenOf pds_0 rfl) rfl (by show 2 * 0 + _ ≤ _; exact Nat.le_of_eq rfl) (hb hby at_9) (fun _ _ => ⟨rfl, e0, (by decide : 0 + 0 ≤ _), (by decide : 0 + 0 ≤ _)⟩)
   dsimp only [Pt.U, Pt.locs, Pt.cells, Pt.slots] at X55 l55 y55 z55 st55 hQ55
   subst l55 y55 z55
   obtain ⟨rfl, N55q, e55⟩ := hQ55
   have N55 := Fr.app N0 N55q
   let Lb56 : Array Slot := #[.val (.int p0), .val (.int (10 : Int32)), .val (.ref (w 10)), .unset]
   let Lb57 : Array Slot := #[.val (.int p0), .val (.int (10 : Int32)), .val (.ref (w 10)), .val (.int (0 : Int32))]
   obtain ⟨cq58, kq58, q58a, q58b, q58c⟩ := isOf hZ e55 ((wd21 hW).ext O0.2)
   obtain ⟨_, _, ⟨T58, L58, kk58, nn58⟩, -, X58, ⟨Lc58, hQ58, l58, y58, z58⟩, st58⟩ := X55.virtualBack hx (y := ym1) (z := ym1) hown (mvT hZ (wk8 hw)) (mvT hZ (wk9 hw)) (notFace_of_selects (args := #[]) (mvT hZ (wk11 hw))) (mvT hZ (wk11 hw)) (mvT hZ (wk10 hw)) (by decide) (backOf (W := 0) (rm2_22 l Z a0 hw w hW []  h0 n0 O0 ) hZ (wk12 hw) (wk6 hw) (by decide) (by decide)) q58a q58c (g := (mkF m 30 Lb57 [(.ref (w 10))])) rfl (by rw [hml]; rfl) (Steps.refl _) (argsL := []) (rest := []) (lenOf pds_1 rfl) rfl (by show 2 * 0 + _ ≤ _; exact Nat.le_of_eq rfl) (hb hby at_30) (fun _ _ => ⟨rfl, e55, (by decide : 0 + 0 ≤ _), (by decide : 0 + 0 ≤ _)⟩)
   dsimp only [Pt.U, Pt.locs, Pt.cells, Pt.slots] at X58 l58 y58 z58 st58 hQ58
   subst l58 y58 z58
   obtain ⟨rfl, N58q, e58⟩ := hQ58
   have N58 := Fr.app N55 N58q
   obtain ⟨fs, hr, hrun, hended, hWm, hsame⟩ := X58.leave (v := some (.int (1 : Int32))) (fun h => by rw [Bd.returns] at h; cases h)
   refine ⟨_, _, pre2 _ ?_, hrun, hended, _, _, rfl, ?_, ⟨_, rfl⟩, hWm, hsame.mono (by decide) (by decide)⟩
   · show Steps p.tables e below (s₁.setTop (mkF m 9 Lb54 [(.int (10 : Int32))])) _
     refine st55 _ ?_
     refine XS.astoreN X55.here hx rfl (hb hby at_12) rfl rfl (l' := Lb56) rfl ?_
     refine sI X55 hx hby at_13 rfl ?_
     refine sN X55 hx hby at_14 (by decide) ?_
     refine sI X55 hx hby at_17 rfl ?_
     refine XS.bipush X55.here hx rfl (hb hby at_18) ?_
     refine XS.icmpYes X55.here hx rfl (pc0 := 20) (pc' := 27) rfl (hb hby at_20) rfl (by decide) (by decide) (by decide) ?_
     refine sc X55 hx hby at_27 ?_
     refine XS.istoreN X55.here hx rfl (hb hby at_28) rfl (l' := Lb57) rfl ?_
     refine sA X55 hx hby at_29 rfl rfl ?_
     refine st58.trans ?_
     refine sI X58 hx hby at_33 rfl ?_
     refine sn X58 hx hby at_34 (by decide) ?_
     refine sc X58 hx hby at_37 ?_
     refine sg (pc := 38) (pc' := 42) X58 hx hby at_38 (by decide) (by decide) ?_
     exact retN X58 hx (t := .boolean) Bd.returns (by simp) (hb hby at_42) hr
   · show Q0 n0 _ T58.heap _
     rw [e58]
     exact ⟨rfl, N58⟩
  ·
   rw [hs3] at pre2
   let Lb59 : Array Slot := #[.val (.int p0), .val (.int (11 : Int32)), .unset, .unset]
   obtain ⟨_, _, ⟨T60, L60, kk60, nn60⟩, -, X60, ⟨Lc60, hQ60, l60, y60, z60⟩, st60⟩ := Jvm.LawKit.callS X0 hx (y := ym0) hown (mvT hZ (wk1 hw)) (mvT hZ (wk2 hw)) (mvT hZ (wk3 hw)) (mvT hZ (wk4 hw)) (by decide) (backOf (W := 0) (rm1_23 l Z a0 hw w hW []  h0 n0 O0 ) hZ (wk4 hw) (wk3 hw) (by decide) (by decide)) (g := (mkF m 9 Lb59 [(.int (11 : Int32))])) rfl (by rw [hml]; rfl) (argsL := [(.int (11 : Int32))]) (rest := []) (lenOf pds_0 rfl) rfl (by show 2 * 0 + _ ≤ _; exact Nat.le_of_eq rfl) (hb hby at_9) (fun _ _ => ⟨rfl, e0, (by decide : 0 + 0 ≤ _), (by decide : 0 + 0 ≤ _)⟩)
   dsimp only [Pt.U, Pt.locs, Pt.cells, Pt.slots] at X60 l60 y60 z60 st60 hQ60
   subst l60 y60 z60
   obtain ⟨rfl, N60q, e60⟩ := hQ60
   have N60 := Fr.app N0 N60q
   let Lb61 : Array Slot := #[.val (.int p0), .val (.int (11 : Int32)), .val (.ref (w 8)), .unset]
   let Lb62 : Array Slot := #[.val (.int p0), .val (.int (11 : Int32)), .val (.ref (w 8)), .val (.int (0 : Int32))]
   obtain ⟨cq63, kq63, q63a, q63b, q63c⟩ := isOf hZ e60 ((wd17 hW).ext O0.2)
   obtain ⟨_, _, ⟨T63, L63, kk63, nn63⟩, -, X63, ⟨Lc63, hQ63, l63, y63, z63⟩, st63⟩ := X60.virtualBack hx (y := ym1) (z := ym1) hown (mvT hZ (wk8 hw)) (mvT hZ (wk9 hw)) (notFace_of_selects (args := #[]) (mvT hZ (wk11 hw))) (mvT hZ (wk11 hw)) (mvT hZ (wk10 hw)) (by decide) (backOf (W := 0) (rm2_24 l Z a0 hw w hW []  h0 n0 O0 ) hZ (wk12 hw) (wk6 hw) (by decide) (by decide)) q63a q63c (g := (mkF m 30 Lb62 [(.ref (w 8))])) rfl (by rw [hml]; rfl) (Steps.refl _) (argsL := []) (rest := []) (lenOf pds_1 rfl) rfl (by show 2 * 0 + _ ≤ _; exact Nat.le_of_eq rfl) (hb hby at_30) (fun _ _ => ⟨rfl, e60, (by decide : 0 + 0 ≤ _), (by decide : 0 + 0 ≤ _)⟩)
   dsimp only [Pt.U, Pt.locs, Pt.cells, Pt.slots] at X63 l63 y63 z63 st63 hQ63
   subst l63 y63 z63
   obtain ⟨rfl, N63q, e63⟩ := hQ63
   have N63 := Fr.app N60 N63q
   obtain ⟨fs, hr, hrun, hended, hWm, hsame⟩ := X63.leave (v := some (.int (1 : Int32))) (fun h => by rw [Bd.returns] at h; cases h)
   refine ⟨_, _, pre2 _ ?_, hrun, hended, _, _, rfl, ?_, ⟨_, rfl⟩, hWm, hsame.mono (by decide) (by decide)⟩
   · show Steps p.tables e below (s₁.setTop (mkF m 9 Lb59 [(.int (11 : Int32))])) _
     refine st60 _ ?_
     refine XS.astoreN X60.here hx rfl (hb hby at_12) rfl rfl (l' := Lb61) rfl ?_
     refine sI X60 hx hby at_13 rfl ?_
     refine sN X60 hx hby at_14 (by decide) ?_
     refine sI X60 hx hby at_17 rfl ?_
     refine XS.bipush X60.here hx rfl (hb hby at_18) ?_
     refine XS.icmpYes X60.here hx rfl (pc0 := 20) (pc' := 27) rfl (hb hby at_20) rfl (by decide) (by decide) (by decide) ?_
     refine sc X60 hx hby at_27 ?_
     refine XS.istoreN X60.here hx rfl (hb hby at_28) rfl (l' := Lb62) rfl ?_
     refine sA X60 hx hby at_29 rfl rfl ?_
     refine st63.trans ?_
     refine sI X63 hx hby at_33 rfl ?_
     refine sn X63 hx hby at_34 (by decide) ?_
     refine sc X63 hx hby at_37 ?_
     refine sg (pc := 38) (pc' := 42) X63 hx hby at_38 (by decide) (by decide) ?_
     exact retN X63 hx (t := .boolean) Bd.returns (by simp) (hb hby at_42) hr
   · show Q0 n0 _ T63.heap _
     rw [e63]
     exact ⟨rfl, N63⟩
  ·
   rw [hs3] at pre2
   let Lb64 : Array Slot := #[.val (.int p0), .val (.int (12 : Int32)), .unset, .unset]
   obtain ⟨_, _, ⟨T65, L65, kk65, nn65⟩, -, X65, ⟨Lc65, hQ65, l65, y65, z65⟩, st65⟩ := Jvm.LawKit.callS X0 hx (y := ym0) hown (mvT hZ (wk1 hw)) (mvT hZ (wk2 hw)) (mvT hZ (wk3 hw)) (mvT hZ (wk4 hw)) (by decide) (backOf (W := 0) (rm1_25 l Z a0 hw w hW []  h0 n0 O0 ) hZ (wk4 hw) (wk3 hw) (by decide) (by decide)) (g := (mkF m 9 Lb64 [(.int (12 : Int32))])) rfl (by rw [hml]; rfl) (argsL := [(.int (12 : Int32))]) (rest := []) (lenOf pds_0 rfl) rfl (by show 2 * 0 + _ ≤ _; exact Nat.le_of_eq rfl) (hb hby at_9) (fun _ _ => ⟨rfl, e0, (by decide : 0 + 0 ≤ _), (by decide : 0 + 0 ≤ _)⟩)
   dsimp only [Pt.U, Pt.locs, Pt.cells, Pt.slots] at X65 l65 y65 z65 st65 hQ65
   subst l65 y65 z65
   obtain ⟨rfl, N65q, e65⟩ := hQ65
   have N65 := Fr.app N0 N65q
   let Lb66 : Array Slot := #[.val (.int p0), .val (.int (12 : Int32)), .val (.ref (w 11)), .unset]
   let Lb67 : Array Slot := #[.val (.int p0), .val (.int (12 : Int32)), .val (.ref (w 11)), .val (.int (0 : Int32))]
   obtain ⟨cq68, kq68, q68a, q68b, q68c⟩ := isOf hZ e65 ((wd23 hW).ext O0.2)
   obtain ⟨_, _, ⟨T68, L68, kk68, nn68⟩, -, X68, ⟨Lc68, hQ68, l68, y68, z68⟩, st68⟩ := X65.virtualBack hx (y := ym1) (z := ym1) hown (mvT hZ (wk8 hw)) (mvT hZ (wk9 hw)) (notFace_of_selects (args := #[]) (mvT hZ (wk11 hw))) (mvT hZ (wk11 hw)) (mvT hZ (wk10 hw)) (by decide) (backOf (W := 0) (rm2_26 l Z a0 hw w hW []  h0 n0 O0 ) hZ (wk12 hw) (wk6 hw) (by decide) (by decide)) q68a q68c (g := (mkF m 30 Lb67 [(.ref (w 11))])) rfl (by rw [hml]; rfl) (Steps.refl _) (argsL := []) (rest := []) (lenOf pds_1 rfl) rfl (by show 2 * 0 + _ ≤ _; exact Nat.le_of_eq rfl) (hb hby at_30) (fun _ _ => ⟨rfl, e65, (by decide : 0 + 0 ≤ _), (by decide : 0 + 0 ≤ _)⟩)
   dsimp only [Pt.U, Pt.locs, Pt.cells, Pt.slots] at X68 l68 y68 z68 st68 hQ68
   subst l68 y68 z68
   obtain ⟨rfl, N68q, e68⟩ := hQ68
   have N68 := Fr.app N65 N68q
   obtain ⟨fs, hr, hrun, hended, hWm, hsame⟩ := X68.leave (v := some (.int (1 : Int32))) (fun h => by rw [Bd.returns] at h; cases h)
   refine ⟨_, _, pre2 _ ?_, hrun, hended, _, _, rfl, ?_, ⟨_, rfl⟩, hWm, hsame.mono (by decide) (by decide)⟩
   · show Steps p.tables e below (s₁.setTop (mkF m 9 Lb64 [(.int (12 : Int32))])) _
     refine st65 _ ?_
     refine XS.astoreN X65.here hx rfl (hb hby at_12) rfl rfl (l' := Lb66) rfl ?_
     refine sI X65 hx hby at_13 rfl ?_
     refine sN X65 hx hby at_14 (by decide) ?_
     refine sI X65 hx hby at_17 rfl ?_
     refine XS.bipush X65.here hx rfl (hb hby at_18) ?_
     refine XS.icmpYes X65.here hx rfl (pc0 := 20) (pc' := 27) rfl (hb hby at_20) rfl (by decide) (by decide) (by decide) ?_
     refine sc X65 hx hby at_27 ?_
     refine XS.istoreN X65.here hx rfl (hb hby at_28) rfl (l' := Lb67) rfl ?_
     refine sA X65 hx hby at_29 rfl rfl ?_
     refine st68.trans ?_
     refine sI X68 hx hby at_33 rfl ?_
     refine sn X68 hx hby at_34 (by decide) ?_
     refine sc X68 hx hby at_37 ?_
     refine sg (pc := 38) (pc' := 42) X68 hx hby at_38 (by decide) (by decide) ?_
     exact retN X68 hx (t := .boolean) Bd.returns (by simp) (hb hby at_42) hr
   · show Q0 n0 _ T68.heap _
     rw [e68]
     exact ⟨rfl, N68⟩
set_option maxRecDepth 65536 in
set_option maxHeartbeats 400000000 in
theorem comes_1 {Post : Tables → Env → Array Value → State → Outcome → State → Prop} (hpost : ∀ tb e args s v u, (limb_1_1.after args s (.returned v) u = true ∧ limb_1_2.after args s (.returned v) u = true ∧ True) → FrameEnd s (.returned v) u (Jvm.fieldLocs frame_1_writes args s ++ Jvm.arrayLocs frame_1_arrays args s ++ Jvm.staticLocs frame_1_statics s) 0 0 → Post tb e args s (.returned v) u) :
    ArmFor flags0 classFile x code maxLocals ret World_1 tables_1 room_1 Calls_1 rest_1 Pre_1 Post := by
  intro l hfl _ _ p e ha hc hk s m args below hf hA hF happ hP
  obtain ⟨hcalls, hrest, hpre⟩ := hP
  obtain ⟨-, -, -, hnamed, -, -, -, hat⟩ := (Spec.applies_iff hf).mp happ
  obtain ⟨hg, hn⟩ := and_e (Cond.before_iff.mp (show (Jvm.Cond.and given_1 narrow_1).before args s = true from hpre))
  obtain ⟨ga4, gb4⟩ := and_e hg
  obtain ⟨v0, rfl⟩ : ∃ v0 : Value, args = #[v0] := by
    have hs : args.size = 1 := by simpa [Cond.value, given_1] using ga4
    obtain ⟨L⟩ := args
    match L, hs with
    | [v0], _ => exact ⟨v0, rfl⟩
  have hw := fun d (hd : d ∈ tables_1) => atoms_spec (ws := Jvm.Cond.code x code maxLocals ret :: tables_1) hat d (List.mem_cons_of_mem _ hd)
  have hfit : Fit s := fun {y c} hc i hi => by
    obtain ⟨ha, rfl⟩ := Array.getElem?_eq_some_iff.mp hc
    have q := List.all_eq_true.mp ((Array.all_eq_true_iff_forall_mem.mp hF) _ (Array.getElem_mem ha)) i (List.mem_range.mpr hi)
    simpa [Array.getElem?_eq_getElem hi] using q
  obtain ⟨i0, ei0⟩ := is_v gb4
  obtain rfl : v0 = (.int i0) := Option.some.inj ei0
  obtain ⟨na0, nb0⟩ := and_e hn
  obtain ⟨na1, nb1⟩ := and_e nb0
  obtain ⟨na2, nb2⟩ := and_e nb1
  obtain ⟨na3, nb3⟩ := and_e nb2
  obtain ⟨na4, nb4⟩ := and_e nb3
  obtain ⟨na5, nb5⟩ := and_e nb4
  obtain ⟨na6, nb6⟩ := and_e nb5
  obtain ⟨na7, nb7⟩ := and_e nb6
  obtain ⟨na8, nb8⟩ := and_e nb7
  obtain ⟨na9, nb9⟩ := and_e nb8
  obtain ⟨na10, nb10⟩ := and_e nb9
  obtain ⟨na11, nb11⟩ := and_e nb10
  obtain ⟨na12, nb12⟩ := and_e nb11
  obtain ⟨na13, nb13⟩ := and_e nb12
  obtain ⟨na14, nb14⟩ := and_e nb13
  obtain ⟨na15, nb15⟩ := and_e nb14
  obtain ⟨na16, nb16⟩ := and_e nb15
  obtain ⟨na17, nb17⟩ := and_e nb16
  obtain ⟨na18, nb18⟩ := and_e nb17
  obtain ⟨na19, nb19⟩ := and_e nb18
  obtain ⟨na20, nb20⟩ := and_e nb19
  obtain ⟨na21, nb21⟩ := and_e nb20
  obtain ⟨na22, nb22⟩ := and_e nb21
  obtain ⟨na23, nb23⟩ := and_e nb22
  obtain ⟨na24, nb24⟩ := and_e nb23
  obtain ⟨x0, ev0⟩ := exa_v na0
  obtain ⟨x1, ev1⟩ := exa_v na1
  obtain ⟨x2, ev2⟩ := exa_v na4
  obtain ⟨x3, ev3⟩ := exa_v na6
  obtain ⟨x4, ev4⟩ := exa_v na8
  obtain ⟨x5, ev5⟩ := exa_v na10
  obtain ⟨x6, ev6⟩ := exa_v na12
  obtain ⟨x7, ev7⟩ := exa_v na14
  obtain ⟨x8, ev8⟩ := exa_v na16
  obtain ⟨x9, ev9⟩ := exa_v na18
  obtain ⟨x10, ev10⟩ := exa_v na20
  obtain ⟨x11, ev11⟩ := exa_v na22
  obtain ⟨x12, ev12⟩ := exa_v na24
  have hW : Wd s (fun i => ([x0, x1, x2, x3, x4, x5, x6, x7, x8, x9, x10, x11, x12] : List Addr).getD i 0) := ⟨(Sta.start ev0 (Or.inr ⟨(wk6 hw), (wk7 hw)⟩)), (Exa.start ev0 na0), (Sta.start ev1 (Or.inr ⟨(wk6 hw), (wk15 hw)⟩)), (Exa.start ev1 na1), (Sta.start ev2 (Or.inr ⟨(wk6 hw), (wk17 hw)⟩)), (Exa.start ev2 na4), (Sta.start ev3 (Or.inr ⟨(wk6 hw), (wk19 hw)⟩)), (Exa.start ev3 na6), (Sta.start ev4 (Or.inr ⟨(wk6 hw), (wk21 hw)⟩)), (Exa.start ev4 na8), (Sta.start ev5 (Or.inr ⟨(wk6 hw), (wk23 hw)⟩)), (Exa.start ev5 na10), (Sta.start ev6 (Or.inr ⟨(wk6 hw), (wk25 hw)⟩)), (Exa.start ev6 na12), (Sta.start ev7 (Or.inr ⟨(wk6 hw), (wk27 hw)⟩)), (Exa.start ev7 na14), (Sta.start ev8 (Or.inr ⟨(wk6 hw), (wk29 hw)⟩)), (Exa.start ev8 na16), (Sta.start ev9 (Or.inr ⟨(wk6 hw), (wk31 hw)⟩)), (Exa.start ev9 na18), (Sta.start ev10 (Or.inr ⟨(wk6 hw), (wk34 hw)⟩)), (Exa.start ev10 na20), (Sta.start ev11 (Or.inr ⟨(wk6 hw), (wk36 hw)⟩)), (Exa.start ev11 na22), (Sta.start ev12 (Or.inr ⟨(wk6 hw), (wk38 hw)⟩)), (Exa.start ev12 na24), (own_fldI ev1 na2), (own_fldI ev0 na3), (own_fldI ev2 na5), (own_fldI ev3 na7), (own_fldI ev4 na9), (own_fldI ev5 na11), (own_fldI ev6 na13), (own_fldI ev7 na15), (own_fldI ev8 na17), (own_fldI ev9 na19), (own_fldI ev10 na21), (own_fldI ev11 na23), (own_fldI ev12 nb24), trivial⟩
  obtain ⟨n, o, h1, h2, h3, _, L, rfl, ⟨rfl, N⟩, hq⟩ := rm0 l s _ hw _ hW tables_1 i0 s.heap s.heap.size (Old.start s) p e ha hc hk s m _ below hf ((Spec.applies_iff_loose hf).mp happ).1 ⟨rfl, State.Warmed39.refl s, rfl⟩ trivial
  refine ⟨n, _, h1, h2, h3, hpost _ _ _ _ _ _ ⟨Cond.after_iff.mpr rfl, Cond.after_iff.mpr (eq_i res_at (Term.int_eval (1)) rfl), trivial⟩ ⟨hq.1, hq.2.1, (hq.2.2.sift fun y hy => Or.inr (N y hy)).mono (by decide) (by decide)⟩⟩
theorem main_1_1 : Claimed_1_1 := comes_1 fun _ _ _ _ _ _ h hF => ⟨h.1, hF⟩
theorem main_1_2 : Claimed_1_2 := comes_1 fun _ _ _ _ _ _ h hF => ⟨h.2.1, hF⟩
end Jvm.Pilot.@@N@@
namespace Jvm.Pilot.@@N@@
open Jvm Jvm.ClassFile Sem Op Lib Jvm.Free Jvm.Stand Jvm.Pilot.@@N@@.Jvm.D
/-! MADE BY PROGRAM (witnessworld.py) out of the Statement's table words and the real class files: 12 classes; the members and pool entries that the words name. The judged class is class 1, her method 2. -/
namespace start1
open Jvm.ClassFile
def u (s : String) : CpInfo := .utf8 (stringToUtf16 s)
/-- a pool by its gaps: so many unusable entries, then the entry; so many at the end -/
def gap : Nat → List CpInfo → List CpInfo
  | 0, r => r
  | n + 1, r => .unusable :: gap n r
def poolList (es : List (Nat × CpInfo)) (last : Nat) : List CpInfo := es.foldr (fun e r => gap e.1 (e.2 :: r)) (gap last [])
def pool (es : List (Nat × CpInfo)) (last : Nat) : Array CpInfo := ⟨poolList es last⟩
def fileOf (pool : Array CpInfo) (this : Nat) (attrs : Array Attribute := #[]) (ms : Array MethodInfo := #[]) (fl : Nat := 33) (sup : Nat := 0) (ifs : Array Nat := #[]) (fds : Array FieldInfo := #[]) : ClassFile where
  minorVersion := 0
  majorVersion := 65
  constantPool := pool
  accessFlags := fl
  thisClass := this
  superClass := sup
  interfaces := ifs
  fields := fds
  methods := ms
  attributes := attrs
def plain (name : String) (sup : Option ClassId) : Class where
  name := name
  kind := .ordinary
  loader := none
  accessFlags := 33
  super := sup
  interfaces := #[]
  cf := none
  fields := #[]
  methods := #[]
  instanceTypes := #[]
  staticTypes := #[]
  resolved := #[]
  callSites := []
  init := .initialized
  statics := none
  mirror := none

def pool0 : Array CpInfo := pool [(5, u "<init>"), (0, u "()V"), (1, .class_ 10), (1, u "java/lang/Object")] 113

def k0m0 : Method := { name := "<init>", desc := "()V", sig := { parameters := [], returnType := none }, accessFlags := 1, code := none }
/-- java/lang/Object -/
def k0 : Class := { plain "java/lang/Object" none with
  accessFlags := 33
  interfaces := #[]
  cf := some (fileOf pool0 8 #[] #[{ accessFlags := 1, nameIndex := 5, descriptorIndex := 6, attributes := #[] }] 33 0 #[] #[])
  fields := #[]
  methods := #[k0m0]
  instanceTypes := #[]
  staticTypes := #[]
  resolved := Array.replicate 124 none
  statics := none }

def pool1 : Array CpInfo := pool [(2, .class_ 4), (1, u "java/lang/Object"), (0, u "<init>"), (0, u "()V"), (0, .fieldref 8 9), (0, .class_ 10), (0, .nameAndType 11 12), (0, u "com/example/weftcheck/weftcheck/OperationKind"), (0, u "MAP"), (0, u "Lcom/example/weftcheck/weftcheck/OperationKind;"), (0, .fieldref 8 14), (0, .nameAndType 15 12), (0, u "PREDICATE"), (0, .fieldref 8 17), (0, .nameAndType 18 12), (0, u "ISOLATION"), (0, .fieldref 8 20), (0, .nameAndType 21 12), (0, u "READ"), (0, .fieldref 8 23), (0, .nameAndType 24 12), (0, u "WRITE"), (0, .fieldref 8 26), (0, .nameAndType 27 12), (0, u "READ_WRITE"), (0, .fieldref 8 29), (0, .nameAndType 30 12), (0, u "INSERT"), (0, .fieldref 8 32), (0, .nameAndType 33 12), (0, u "DELETE"), (0, .fieldref 8 35), (0, .nameAndType 36 12), (0, u "PREDICATE_READ"), (0, .fieldref 8 38), (0, .nameAndType 39 12), (0, u "SQL_STATEMENT"), (0, .fieldref 8 41), (0, .nameAndType 42 12), (0, u "SQL_QUERY"), (0, .fieldref 8 44), (0, .nameAndType 45 12), (0, u "COMMIT"), (0, .fieldref 8 47), (0, .nameAndType 48 12), (0, u "ABORT"), (0, .integer 2147483647), (0, .methodref 51 52), (0, .class_ 53), (0, .nameAndType 54 55), (0, u "com/example/weftcheck/weftcheck/OperationKindBindsRowPinLaw"), (0, u "kindAt"), (0, u "(I)Lcom/example/weftcheck/weftcheck/OperationKind;"), (0, .methodref 8 57), (0, .nameAndType 58 59), (0, u "bindsRow"), (0, u "()Z"), (3, u "law"), (0, u "(I)Z")] 2

def k1m0 : Method := { name := "<init>", desc := "()V", sig := { parameters := [], returnType := none }, accessFlags := 1, code := none }
def k1c1 : Code := { maxStack := 2, maxLocals := 1, code := method_2_code, exceptionTable := #[], attributes := #[] }
def k1m1 : Method := { name := "kindAt", desc := "(I)Lcom/example/weftcheck/weftcheck/OperationKind;", sig := { parameters := [.int], returnType := some (.object "com/example/weftcheck/weftcheck/OperationKind") }, accessFlags := 10, code := some k1c1 }
def k1c2 : Code := { maxStack := 2, maxLocals := 4, code := code, exceptionTable := #[], attributes := #[] }
def k1m2 : Method := { name := "law", desc := "(I)Z", sig := { parameters := [.int], returnType := some .boolean }, accessFlags := 9, code := some k1c2 }
/-- com/example/weftcheck/weftcheck/OperationKindBindsRowPinLaw -/
def k1 : Class := { plain "com/example/weftcheck/weftcheck/OperationKindBindsRowPinLaw" (some 0) with
  accessFlags := 49
  interfaces := #[]
  cf := some (fileOf pool1 51 #[] #[{ accessFlags := 1, nameIndex := 5, descriptorIndex := 6, attributes := #[] }, { accessFlags := 10, nameIndex := 54, descriptorIndex := 55, attributes := #[] }, { accessFlags := 9, nameIndex := 63, descriptorIndex := 64, attributes := #[] }] 49 2 #[] #[])
  fields := #[]
  methods := #[k1m0, k1m1, k1m2]
  instanceTypes := #[]
  staticTypes := #[]
  resolved := Array.replicate 67 none
  statics := none }

def pool2 : Array CpInfo := pool [(1, .class_ 2), (0, u "java/lang/constant/Constable"), (0, .class_ 4), (0, u "java/lang/Object")] 6

/-- java/lang/constant/Constable -/
def k2 : Class := { plain "java/lang/constant/Constable" (some 0) with
  accessFlags := 1537
  interfaces := #[]
  cf := some (fileOf pool2 1 #[] #[] 1537 3 #[] #[])
  fields := #[]
  methods := #[]
  instanceTypes := #[]
  staticTypes := #[]
  resolved := Array.replicate 11 none
  statics := none }

def pool3 : Array CpInfo := pool [(1, .class_ 2), (0, u "java/lang/Comparable"), (0, .class_ 4), (0, u "java/lang/Object")] 7

/-- java/lang/Comparable -/
def k3 : Class := { plain "java/lang/Comparable" (some 0) with
  accessFlags := 1537
  interfaces := #[]
  cf := some (fileOf pool3 1 #[] #[] 1537 3 #[] #[])
  fields := #[]
  methods := #[]
  instanceTypes := #[]
  staticTypes := #[]
  resolved := Array.replicate 12 none
  statics := none }

def pool4 : Array CpInfo := pool [(1, .class_ 2), (0, u "java/io/Serializable"), (0, .class_ 4), (0, u "java/lang/Object")] 2

/-- java/io/Serializable -/
def k4 : Class := { plain "java/io/Serializable" (some 0) with
  accessFlags := 1537
  interfaces := #[]
  cf := some (fileOf pool4 1 #[] #[] 1537 3 #[] #[])
  fields := #[]
  methods := #[]
  instanceTypes := #[]
  staticTypes := #[]
  resolved := Array.replicate 7 none
  statics := none }

def pool5 : Array CpInfo := pool [(2, .class_ 4), (1, u "java/lang/Enum"), (0, u "name"), (0, u "Ljava/lang/String;"), (2, u "ordinal"), (0, u "I"), (1, .class_ 14), (1, u "java/lang/Object"), (4, u "hash"), (86, .class_ 108), (1, u "java/lang/Enum$EnumDesc"), (2, .class_ 112), (0, u "java/lang/constant/Constable"), (0, .class_ 114), (0, u "java/lang/Comparable"), (0, .class_ 116), (0, u "java/io/Serializable")] 87

/-- java/lang/Enum -/
def k5 : Class := { plain "java/lang/Enum" (some 0) with
  accessFlags := 1057
  interfaces := #[2, 3, 4]
  cf := some (fileOf pool5 2 #[.nestMembers #[106]] #[] 1057 12 #[111, 113, 115] #[{ accessFlags := 18, nameIndex := 5, descriptorIndex := 6, attributes := #[] }, { accessFlags := 18, nameIndex := 9, descriptorIndex := 10, attributes := #[] }, { accessFlags := 2, nameIndex := 19, descriptorIndex := 10, attributes := #[] }])
  fields := #[{ name := "name", type := (.object "java/lang/String"), accessFlags := 18, slot := 0, constantValue := 0 }, { name := "ordinal", type := .int, accessFlags := 18, slot := 1, constantValue := 0 }, { name := "hash", type := .int, accessFlags := 2, slot := 2, constantValue := 0 }]
  methods := #[]
  instanceTypes := #[(.object "java/lang/String"), .int, .int]
  staticTypes := #[]
  resolved := Array.replicate 204 none
  statics := none }

def pool6 : Array CpInfo := pool [(1, .class_ 2), (0, u "com/example/weftcheck/weftcheck/OperationKind"), (0, .fieldref 1 4), (0, .nameAndType 5 6), (0, u "MAP"), (0, u "Lcom/example/weftcheck/weftcheck/OperationKind;"), (2, u "PREDICATE"), (2, u "ISOLATION"), (2, u "READ"), (2, u "WRITE"), (2, u "READ_WRITE"), (2, u "INSERT"), (2, u "DELETE"), (0, .fieldref 1 29), (0, .nameAndType 30 6), (0, u "PREDICATE_READ"), (2, u "SQL_STATEMENT"), (2, u "SQL_QUERY"), (2, u "COMMIT"), (2, u "ABORT"), (2, u "$VALUES"), (0, u "[Lcom/example/weftcheck/weftcheck/OperationKind;"), (6, .class_ 55), (1, u "java/lang/Enum"), (8, u "notatio_"), (0, u "Ljava/lang/String;"), (23, u "()Z"), (60, u "bindsRow")] 8

def k6c0 : Code := { maxStack := 2, maxLocals := 1, code := prog_29_method_8_code, exceptionTable := #[], attributes := #[] }
def k6m0 : Method := { name := "bindsRow", desc := "()Z", sig := { parameters := [], returnType := some .boolean }, accessFlags := 0, code := some k6c0 }
/-- com/example/weftcheck/weftcheck/OperationKind -/
def k6 : Class := { plain "com/example/weftcheck/weftcheck/OperationKind" (some 5) with
  accessFlags := 16432
  interfaces := #[]
  cf := some (fileOf pool6 1 #[] #[{ accessFlags := 0, nameIndex := 150, descriptorIndex := 89, attributes := #[] }] 16432 53 #[] #[{ accessFlags := 16409, nameIndex := 5, descriptorIndex := 6, attributes := #[] }, { accessFlags := 16409, nameIndex := 9, descriptorIndex := 6, attributes := #[] }, { accessFlags := 16409, nameIndex := 12, descriptorIndex := 6, attributes := #[] }, { accessFlags := 16409, nameIndex := 15, descriptorIndex := 6, attributes := #[] }, { accessFlags := 16409, nameIndex := 18, descriptorIndex := 6, attributes := #[] }, { accessFlags := 16409, nameIndex := 21, descriptorIndex := 6, attributes := #[] }, { accessFlags := 16409, nameIndex := 24, descriptorIndex := 6, attributes := #[] }, { accessFlags := 16409, nameIndex := 27, descriptorIndex := 6, attributes := #[] }, { accessFlags := 16409, nameIndex := 30, descriptorIndex := 6, attributes := #[] }, { accessFlags := 16409, nameIndex := 33, descriptorIndex := 6, attributes := #[] }, { accessFlags := 16409, nameIndex := 36, descriptorIndex := 6, attributes := #[] }, { accessFlags := 16409, nameIndex := 39, descriptorIndex := 6, attributes := #[] }, { accessFlags := 16409, nameIndex := 42, descriptorIndex := 6, attributes := #[] }, { accessFlags := 18, nameIndex := 64, descriptorIndex := 65, attributes := #[] }, { accessFlags := 4122, nameIndex := 45, descriptorIndex := 46, attributes := #[] }])
  fields := #[{ name := "MAP", type := (.object "com/example/weftcheck/weftcheck/OperationKind"), accessFlags := 16409, slot := 0, constantValue := 0 }, { name := "PREDICATE", type := (.object "com/example/weftcheck/weftcheck/OperationKind"), accessFlags := 16409, slot := 1, constantValue := 0 }, { name := "ISOLATION", type := (.object "com/example/weftcheck/weftcheck/OperationKind"), accessFlags := 16409, slot := 2, constantValue := 0 }, { name := "READ", type := (.object "com/example/weftcheck/weftcheck/OperationKind"), accessFlags := 16409, slot := 3, constantValue := 0 }, { name := "WRITE", type := (.object "com/example/weftcheck/weftcheck/OperationKind"), accessFlags := 16409, slot := 4, constantValue := 0 }, { name := "READ_WRITE", type := (.object "com/example/weftcheck/weftcheck/OperationKind"), accessFlags := 16409, slot := 5, constantValue := 0 }, { name := "INSERT", type := (.object "com/example/weftcheck/weftcheck/OperationKind"), accessFlags := 16409, slot := 6, constantValue := 0 }, { name := "DELETE", type := (.object "com/example/weftcheck/weftcheck/OperationKind"), accessFlags := 16409, slot := 7, constantValue := 0 }, { name := "PREDICATE_READ", type := (.object "com/example/weftcheck/weftcheck/OperationKind"), accessFlags := 16409, slot := 8, constantValue := 0 }, { name := "SQL_STATEMENT", type := (.object "com/example/weftcheck/weftcheck/OperationKind"), accessFlags := 16409, slot := 9, constantValue := 0 }, { name := "SQL_QUERY", type := (.object "com/example/weftcheck/weftcheck/OperationKind"), accessFlags := 16409, slot := 10, constantValue := 0 }, { name := "COMMIT", type := (.object "com/example/weftcheck/weftcheck/OperationKind"), accessFlags := 16409, slot := 11, constantValue := 0 }, { name := "ABORT", type := (.object "com/example/weftcheck/weftcheck/OperationKind"), accessFlags := 16409, slot := 12, constantValue := 0 }, { name := "notatio_", type := (.object "java/lang/String"), accessFlags := 18, slot := 3, constantValue := 0 }, { name := "$VALUES", type := (.array (.object "com/example/weftcheck/weftcheck/OperationKind")), accessFlags := 4122, slot := 13, constantValue := 0 }]
  methods := #[k6m0]
  instanceTypes := #[(.object "java/lang/String"), .int, .int, (.object "java/lang/String")]
  staticTypes := #[(.object "com/example/weftcheck/weftcheck/OperationKind"), (.object "com/example/weftcheck/weftcheck/OperationKind"), (.object "com/example/weftcheck/weftcheck/OperationKind"), (.object "com/example/weftcheck/weftcheck/OperationKind"), (.object "com/example/weftcheck/weftcheck/OperationKind"), (.object "com/example/weftcheck/weftcheck/OperationKind"), (.object "com/example/weftcheck/weftcheck/OperationKind"), (.object "com/example/weftcheck/weftcheck/OperationKind"), (.object "com/example/weftcheck/weftcheck/OperationKind"), (.object "com/example/weftcheck/weftcheck/OperationKind"), (.object "com/example/weftcheck/weftcheck/OperationKind"), (.object "com/example/weftcheck/weftcheck/OperationKind"), (.object "com/example/weftcheck/weftcheck/OperationKind"), (.array (.object "com/example/weftcheck/weftcheck/OperationKind"))]
  resolved := Array.replicate 159 none
  statics := some 0 }

def pool7 : Array CpInfo := pool [(1, u "java/lang/Cloneable"), (0, .class_ 1), (0, u "java/lang/Object"), (0, .class_ 3)] 3

/-- java/lang/Cloneable -/
def k7 : Class := { plain "java/lang/Cloneable" (some 0) with
  accessFlags := 1537
  interfaces := #[]
  cf := some (fileOf pool7 2 #[] #[] 1537 4 #[] #[])
  fields := #[]
  methods := #[]
  instanceTypes := #[]
  staticTypes := #[]
  resolved := Array.replicate 8 none
  statics := none }

/-- the primitive byte -/
def k8 : Class := { plain "byte" none with kind := .primitive 'B', accessFlags := 0x411 }
/-- [B -/
def k9 : Class := { plain "[B" (some 0) with kind := .array 8 .byte, interfaces := #[7, 4], accessFlags := 1041 }

/-- the primitive int -/
def k10 : Class := { plain "int" none with kind := .primitive 'I', accessFlags := 0x411 }
/-- [I -/
def k11 : Class := { plain "[I" (some 0) with kind := .array 10 .int, interfaces := #[7, 4], accessFlags := 1041 }

def heap : Heap := #[{ cls := 6, slots := #[.ref 1, .ref 10, .ref 8, .ref 2, .ref 13, .ref 5, .ref 4, .ref 6, .ref 3, .ref 7, .ref 11, .ref 9, .ref 12, .null], vm := .statics 6 },
  { cls := 6, slots := #[.null, .int 0, .int 0, .null], vm := .none },
  { cls := 6, slots := #[.null, .int 3, .int 0, .null], vm := .none },
  { cls := 6, slots := #[.null, .int 8, .int 0, .null], vm := .none },
  { cls := 6, slots := #[.null, .int 6, .int 0, .null], vm := .none },
  { cls := 6, slots := #[.null, .int 5, .int 0, .null], vm := .none },
  { cls := 6, slots := #[.null, .int 7, .int 0, .null], vm := .none },
  { cls := 6, slots := #[.null, .int 9, .int 0, .null], vm := .none },
  { cls := 6, slots := #[.null, .int 2, .int 0, .null], vm := .none },
  { cls := 6, slots := #[.null, .int 11, .int 0, .null], vm := .none },
  { cls := 6, slots := #[.null, .int 1, .int 0, .null], vm := .none },
  { cls := 6, slots := #[.null, .int 10, .int 0, .null], vm := .none },
  { cls := 6, slots := #[.null, .int 12, .int 0, .null], vm := .none },
  { cls := 6, slots := #[.null, .int 4, .int 0, .null], vm := .none }]
def classes : Array Class := #[k0, k1, k2, k3, k4, k5, k6, k7, k8, k9, k10, k11]
def interned : List (Array UInt16 × Addr) := []
def slotsUsed : Nat := 66
def theMethod : MethodId := ⟨1, 2⟩
def args0 : Array Value := #[.int 5]
def aboutOver (below : List Frame) : State where
  vm := { classes := classes, interned := interned.toArray }
  heap := heap
  slotsUsed := slotsUsed
  threads := #[{ frames := .invoking theMethod args0 :: below }]
def below0 : List Frame := [.native { method := ⟨0, 0⟩, args := #[] }]
def about1 : State := aboutOver below0
def p0 : Program := .bare "" "" ""
def e0 : Env := launch0.env 0 0 0
theorem w_frames : about1.frames = Frame.invoking theMethod args0 :: below0 := rfl
set_option maxRecDepth 65536 in
theorem w_args : argsFit about1.vm theMethod args0 = true := by decide +kernel
set_option maxRecDepth 65536 in
theorem w_heap : heapFits about1 = true := by decide +kernel
set_option maxRecDepth 65536 in
theorem w_runnable : about1.curStatus? = some .runnable := by decide +kernel
set_option maxRecDepth 65536 in
theorem w_alone : about1.alone = true := by decide +kernel
set_option maxRecDepth 65536 in
theorem w_named : about1.methodNamed? x = some theMethod := by decide +kernel
set_option maxRecDepth 65536 in
theorem w_hears : about1.hears theMethod below0 = true := by decide +kernel
set_option maxRecDepth 65536 in
theorem w_ripe : about1.ripe theMethod args0 below0 = true := by decide +kernel
theorem w_running : about1.status = .running := rfl
set_option maxRecDepth 65536 in
theorem w_room : about1.hasRoom e0.platform room_1 = true :=
  launch0.hasRoom_least _ room_1 (by decide +kernel) (by decide +kernel) (by decide +kernel) (by decide +kernel) (by decide +kernel) (by decide +kernel)
theorem allAtoms_all (ts : List Jvm.Cond) (a : Array Jvm.Value) (st : Jvm.State) : (allAtoms ts).before a st = ts.all (fun c => c.before a st) := by
  induction ts with
  | nil => rfl
  | cons c t ih =>
    show (Jvm.Cond.and c (allAtoms t)).before a st = _
    rw [Jvm.Cond.before_and, ih, List.all_cons]
def words1 : List Jvm.Cond := Jvm.Cond.code x code maxLocals ret :: tables_1
/-- a 'code' word, met by the world's own term for the bytes: nothing is compared byte by byte -/
theorem code_word {y : MethodName} {bytes : ByteArray} {mx : Nat} {rt : Option FieldType} {a : Array Value} {s : State} {m : MethodId} {meth : Method} {c : Code} (h1 : s.methodNamed? y = some m) (h2 : s.vm.method? m = some meth) (h3 : meth.code = some c) (h4 : c.code = bytes)
    (h5 : (c.maxLocals == mx && c.exceptionTable.isEmpty && decide (c.maxStack ≤ mostOperands) && decide (meth.sig.returnType = rt) && !meth.locks && decide (parseMethodDescriptor y.desc = some meth.sig)) = true) : (Jvm.Cond.code y bytes mx rt).before a s = true := by
  simp only [Bool.and_eq_true, beq_iff_eq, Bool.not_eq_true', decide_eq_true_eq] at h5
  obtain ⟨⟨⟨⟨⟨g1, g2⟩, g3⟩, g4⟩, g5⟩, g6⟩ := h5
  simp [Cond.before, Cond.holds, Cond.value, h1, h2, h3, h4, g1, g2, g3, g4, g5, g6]
def isCode : Jvm.Cond → Bool
  | .code _ _ _ _ => true
  | _ => false
theorem all_split {L : List Jvm.Cond} {P : Jvm.Cond → Bool} (h1 : L.all (fun c => isCode c || P c) = true) (h2 : ∀ c ∈ L.filter isCode, P c = true) : L.all P = true := by
  refine List.all_eq_true.mpr fun c hc => ?_
  have h := List.all_eq_true.mp h1 c hc
  rcases Bool.eq_false_or_eq_true (isCode c) with hi | hi
  · exact h2 c (List.mem_filter.mpr ⟨hc, hi⟩)
  · simpa [hi] using h
set_option maxRecDepth 65536 in
theorem w_c0 : (Jvm.Cond.code x code maxLocals ret).before args0 about1 = true := code_word (m := ⟨1, 2⟩) (meth := k1m2) (c := k1c2) (by decide +kernel) rfl rfl rfl (by decide +kernel)
set_option maxRecDepth 65536 in
theorem w_c1 : (Jvm.Cond.code ({ cls := "com/example/weftcheck/weftcheck/OperationKindBindsRowPinLaw", name := "kindAt", desc := "(I)Lcom/example/weftcheck/weftcheck/OperationKind;" } : Jvm.MethodName) method_2_code (1 : Nat) (Option.some (Jvm.ClassFile.FieldType.object "com/example/weftcheck/weftcheck/OperationKind"))).before args0 about1 = true := code_word (m := ⟨1, 1⟩) (meth := k1m1) (c := k1c1) (by decide +kernel) rfl rfl rfl (by decide +kernel)
set_option maxRecDepth 65536 in
theorem w_c2 : (Jvm.Cond.code ({ cls := "com/example/weftcheck/weftcheck/OperationKind", name := "bindsRow", desc := "()Z" } : Jvm.MethodName) prog_29_method_8_code (1 : Nat) (Option.some Jvm.ClassFile.FieldType.boolean)).before args0 about1 = true := code_word (m := ⟨6, 0⟩) (meth := k6m0) (c := k6c0) (by decide +kernel) rfl rfl rfl (by decide +kernel)
def codes1 : List Jvm.Cond := [Jvm.Cond.code x code maxLocals ret, Jvm.Cond.code ({ cls := "com/example/weftcheck/weftcheck/OperationKindBindsRowPinLaw", name := "kindAt", desc := "(I)Lcom/example/weftcheck/weftcheck/OperationKind;" } : Jvm.MethodName) method_2_code (1 : Nat) (Option.some (Jvm.ClassFile.FieldType.object "com/example/weftcheck/weftcheck/OperationKind")), Jvm.Cond.code ({ cls := "com/example/weftcheck/weftcheck/OperationKind", name := "bindsRow", desc := "()Z" } : Jvm.MethodName) prog_29_method_8_code (1 : Nat) (Option.some Jvm.ClassFile.FieldType.boolean)]
set_option maxRecDepth 65536 in
theorem codes_eq : words1.filter isCode = codes1 := rfl
theorem w_codes : ∀ c ∈ words1.filter isCode, c.before args0 about1 = true := by
  rw [codes_eq]
  intro c hc
  simp only [codes1, List.mem_cons, List.not_mem_nil, or_false] at hc
  rcases hc with rfl | rfl | rfl
  · exact w_c0
  · exact w_c1
  · exact w_c2
set_option maxRecDepth 65536 in
theorem w_t1 : (words1.take 24).all (fun c => isCode c || c.before args0 about1) = true := by decide +kernel
set_option maxRecDepth 65536 in
theorem w_t2 : (words1.drop 24).all (fun c => isCode c || c.before args0 about1) = true := by decide +kernel
theorem w_tables : (allAtoms (Jvm.Cond.code x code maxLocals ret :: tables_1)).before args0 about1 = true := by
  rw [allAtoms_all]
  show words1.all (fun c => c.before args0 about1) = true
  refine all_split ?_ w_codes
  rw [← List.take_append_drop 24 words1, List.all_append, w_t1, w_t2]
  rfl
set_option maxRecDepth 65536 in
theorem w_case : (Jvm.Cond.and given_1 narrow_1).before args0 about1 = true := by decide +kernel
theorem w_applies : (headSpec (Jvm.Cond.code x code maxLocals ret :: tables_1) room_1).applies x e0.platform about1 = true :=
  (Spec.applies_iff w_frames).mpr ⟨w_running, w_runnable, w_alone, w_named, w_hears, w_ripe, w_room, w_tables⟩
theorem atStart : AtStart classFile x code maxLocals ret World_1 tables_1 room_1 Calls_1 rest_1 Pre_1 launch0 p0 e0 about1 theMethod args0 below0 :=
  ⟨lists_1, trivial, launch0.admits_env _ _ _, launch0.least_env, fairChoices_fair.cas, fairChoices_fair.clock, w_frames, w_args, w_heap, w_applies, trivial, trivial, w_case⟩
end start1
theorem witness_1 : WitnessClaimed_1 := ⟨start1.p0, start1.e0, start1.about1, start1.theMethod, start1.args0, start1.below0, start1.atStart⟩
end Jvm.Pilot.@@N@@
