import JvmDerived
import JvmDerived.Pilot.@@N@@Statement
import JvmDerived.Pilot.@@N@@Code
set_option linter.unusedVariables false
set_option linter.unusedSimpArgs false
namespace Jvm.RoadKit
open Sem ClassFile Op Lib Jvm.Stand Jvm.Free Jvm.LawKit
section New
variable {p : Program} {l : Launch} {e : Env} {R : Room} {s : State} {m : MethodId} {args : Array Value} {below : List Frame} {meth : Method} {c : Code} {T : State} {locs : List Loc} {cells slots : Nat}
theorem retI (X : Stand p l e R s m args below meth c T locs cells slots) (hx : p.tables.exec = Jvm.exec) {pc : Nat} {Ls : Array Slot} {z : Int32} {rest : List Value} (hret : meth.sig.returnType = some .int) (hd : decode c.code pc = .ok (.ireturn, 1)) {fs : List Frame}
    (hl : ∀ (f : JFrame) (acts : List Action), f.method = m → f.locked = none → f.entered = [] → (doReturn e (T.setTop f) acts (some (.int z))).1 = T.setFrames fs) : Steps p.tables e below (T.setTop (mkF m pc Ls (.int z :: rest))) (T.setFrames fs) := by
  have hm' : T.vm.method? m = some meth := X.method'
  have hn : narrow .int (.int z) = .int z := rfl
  show Steps p.tables e below (T.setTop { method := m, pc := pc, locals := Ls, stack := _ :: rest, locked := none }) _
  jvm_step X.here [X.here.top, hx, hd, hm', hret, hn]
  first | (intro acts; rw [hl _ acts rfl rfl rfl]) | rw [hl _ _ rfl rfl rfl]
  exact Steps.refl _
end New
end Jvm.RoadKit
namespace Jvm.Pilot.@@N@@
open Jvm Jvm.ClassFile Sem Op Lib Jvm.Free Jvm.Stand Jvm.LawKit Jvm.RoadKit Bundle Jvm.Pilot.@@N@@.Jvm.D
theorem own_irr32 (x : Int32) : ¬ x < x := Int32.lt_irrefl
theorem own_irr64 (x : Int64) : ¬ x < x := Int64.lt_irrefl
theorem own_fldI {args : Array Value} {s : State} {t : Term} {C n d : String} {x : Addr} {k : Int32} (ht : t.eval args s none [] s = some (.ref x)) (h : (Cond.eq (Term.field t C n d) (Term.int k)).value args s none s [] = some true) : Fld s s.heap x C n d (.int k) := Fld.start ((fld_at ht).symm.trans (eqv_i (Term.int_eval k) h))
theorem own_fldJ {args : Array Value} {s : State} {t : Term} {C n d : String} {x : Addr} {k : Int64} (ht : t.eval args s none [] s = some (.ref x)) (h : (Cond.eq (Term.field t C n d) (Term.long k)).value args s none s [] = some true) : Fld s s.heap x C n d (.long k) := Fld.start ((fld_at ht).symm.trans (eqv_l (long_at k) h))
theorem own_len {args : Array Value} {s : State} {t : Term} {x : Addr} {cl : Cell} {ty : FieldType} {k : Int32} (ht : t.eval args s none [] s = some (.ref x)) (A : Arr s s.heap x cl ty) (h : (Cond.eq (Term.length t) (Term.int k)).value args s none s [] = some true) : cl.slots.size.toInt32 = k ∧ cl.slots.size < 2 ^ 31 := by
  have e := eqv_i (Term.int_eval k) h
  have ha := A.fin (Vm.Alike.refl _)
  by_cases q : cl.slots.size < 2 ^ 31
  · have e2 := (len_f ht ha q).symm.trans e
    exact ⟨Value.int.inj (Option.some.inj e2), q⟩
  · simp [Term.eval, ht, ha, q] at e
theorem own_elem {args : Array Value} {s : State} {t u : Term} {x : Addr} {cl : Cell} {ty : FieldType} {k : Int32} {v : Value} (ht : t.eval args s none [] s = some (.ref x)) (A : Arr s s.heap x cl ty) (hu : u.eval args s none [] s = some v) (hv : v.isRef = true) (h : (Cond.eq (Term.elem t (Term.int k)) u).value args s none s [] = some true) : cl.slots[k.toNatClampNeg]? = some v := by
  obtain ⟨a, b, h1, h2, h3, h4⟩ := cmp_v (Or.inl h)
  have hb := Option.some.inj (h2.symm.trans hu)
  subst hb
  obtain ⟨c', e1, e2, e3⟩ := elem_at h1 ht (Term.int_eval k)
  have ec := Option.some.inj (e1.symm.trans A.1)
  subst ec
  have ha : a.isRef = true := by
    rcases ref_cases hv with rfl | ⟨y, rfl⟩
    · exact h4.2
    · exact h4.2
  rw [e3, gotT (eq_R h1 h2 ha hv) h]
def own_KL (h h' : Heap) (ls : List Loc) : Prop := h.size ≤ h'.size ∧ ∀ (x : Addr) (c : Cell), h[x]? = some c → ∃ c' : Cell, h'[x]? = some c' ∧ c'.cls = c.cls ∧ c'.vm = c.vm ∧ c'.slots.size = c.slots.size ∧ ((∀ y ∈ ls, y.base ≠ x) → c' = c) ∧ ∀ i, (⟨x, i⟩ : Loc) ∉ ls → c'.slots[i]? = c.slots[i]?
section OwnKL
variable {Z : State} {h0 h h' : Heap} {ls ls' : List Loc} {a b x : Addr} {i j sl n0 : Nat} {v : Value} {C n d : String}
theorem own_kl0 (h : Heap) (ls : List Loc) : own_KL h h ls := ⟨Nat.le_refl _, fun x c q => ⟨c, q, rfl, rfl, rfl, fun _ => rfl, fun _ _ => rfl⟩⟩
theorem own_klE (K : own_KL h0 h ls) (E : Ext h h') : own_KL h0 h' ls := ⟨Nat.le_trans K.1 E.1, fun x c q => by obtain ⟨c', q', r⟩ := K.2 x c q; exact ⟨c', E.2 x c' q', r⟩⟩
theorem own_klT (K : own_KL h0 h ls) (K' : own_KL h h' ls') (q : ∀ y ∈ ls', y ∈ ls ∨ h0.size ≤ y.base) : own_KL h0 h' ls := by
  refine ⟨Nat.le_trans K.1 K'.1, fun x c hc => ?_⟩
  obtain ⟨c1, a1, a2, a3, a4, a5, a6⟩ := K.2 x c hc
  obtain ⟨c2, b1, b2, b3, b4, b5, b6⟩ := K'.2 x c1 a1
  have hx : x < h0.size := (Array.getElem?_eq_some_iff.mp hc).1
  refine ⟨c2, b1, b2.trans a2, b3.trans a3, b4.trans a4, fun hn => ?_, fun i hi => ?_⟩
  · rw [← a5 hn]; exact b5 fun y hy e => (q y hy).elim (fun z => hn y z e) (fun z => absurd hx (Nat.not_lt.mpr (e ▸ z)))
  · rw [← a6 i hi]; exact b6 i fun z => (q _ z).elim hi (fun u => absurd hx (Nat.not_lt.mpr u))
theorem own_klofW (W : Wr h h' a sl v) : own_KL h h' [⟨a, sl⟩] := by
  refine ⟨Nat.le_of_eq W.size.symm, fun x c hc => ?_⟩
  obtain ⟨c', e1, e2, e3, e4, e5, e6, -⟩ := wr_at W hc
  refine ⟨c', e1, e2, e3, e4, fun hn => e5 fun q => hn _ (List.mem_singleton.mpr rfl) q.symm, fun i hi => ?_⟩
  by_cases q : x = a
  · exact e6 i fun r => hi (by rw [q, r]; exact List.mem_singleton.mpr rfl)
  · rw [e5 q]
theorem own_klW (K : own_KL h0 h ls) (W : Wr h h' a sl v) (q : (⟨a, sl⟩ : Loc) ∈ ls ∨ h0.size ≤ a) : own_KL h0 h' ls := own_klT K (own_klofW W) fun y hy => by cases List.mem_singleton.mp hy; exact q
theorem own_ka0 : ∀ y ∈ ([] : List Loc), y ∈ ls ∨ n0 ≤ y.base := fun _ q => nomatch q
theorem own_kac (q : (⟨a, sl⟩ : Loc) ∈ ls ∨ n0 ≤ a) (r : ∀ y ∈ ls', y ∈ ls ∨ n0 ≤ y.base) : ∀ y ∈ (⟨a, sl⟩ : Loc) :: ls', y ∈ ls ∨ n0 ≤ y.base := fun y z => (List.mem_cons.mp z).elim (fun u => u ▸ q) (r y)
theorem own_ng0 : ∀ y ∈ ([] : List Loc), n0 ≤ y.base := fun _ q => nomatch q
theorem own_ngc (q : n0 ≤ a) (r : ∀ y ∈ ls', n0 ≤ y.base) : ∀ y ∈ (⟨a, sl⟩ : Loc) :: ls', n0 ≤ y.base := fun y z => (List.mem_cons.mp z).elim (fun u => u ▸ q) (r y)
theorem own_nb0 : ∀ y ∈ ([] : List Loc), y.base ≠ a := fun _ q => nomatch q
theorem own_nbc (q : b ≠ a) (r : ∀ y ∈ ls', y.base ≠ a) : ∀ y ∈ (⟨b, sl⟩ : Loc) :: ls', y.base ≠ a := fun y z => (List.mem_cons.mp z).elim (fun u => u ▸ q) (r y)
theorem own_nl0 : (⟨a, i⟩ : Loc) ∉ ([] : List Loc) := fun q => nomatch q
theorem own_nlb (q : a ≠ b) (r : (⟨a, i⟩ : Loc) ∉ ls) : (⟨a, i⟩ : Loc) ∉ (⟨b, j⟩ : Loc) :: ls := fun z => (List.mem_cons.mp z).elim (fun u => q (congrArg Loc.base u)) r
theorem own_nls (q : i ≠ j) (r : (⟨a, i⟩ : Loc) ∉ ls) : (⟨a, i⟩ : Loc) ∉ (⟨b, j⟩ : Loc) :: ls := fun z => (List.mem_cons.mp z).elim (fun u => q (congrArg Loc.slot u)) r
theorem own_exa (F : Exa Z h a C) (K : own_KL h h' ls) : Exa Z h' a C := by
  obtain ⟨cell, k, h1, h2, h3, h4, h5⟩ := F
  obtain ⟨c', e1, e2, e3, e4, -⟩ := K.2 _ _ h1
  exact ⟨c', k, e1, by rw [e2]; exact h2, by rw [e2]; exact h3, by rw [e3]; exact h4, by rw [e4]; exact h5⟩
theorem own_fld (F : Fld Z h a C n d v) (K : own_KL h h' ls) (q : (⟨a, Jvm.RoadKit.slotOf Z C n d⟩ : Loc) ∉ ls) : Fld Z h' a C n d v := by
  obtain ⟨cell, cf, k, i, f, h1, h2, h3, h4, h5, h6, h7⟩ := F
  obtain ⟨c', e1, e2, e3, e4, -, e6⟩ := K.2 _ _ h1
  refine ⟨c', cf, k, i, f, e1, h2, h3, by rw [e3]; exact h4, by rw [e3]; exact h5, by rw [e2]; exact h6, ?_⟩
  rw [e6 _ (by simpa [Jvm.RoadKit.slotOf, h2] using q)]; exact h7
theorem own_arv {k : ClassId} {ty : FieldType} {z : Int32} {vs : List Value} {dv : Value} (F : Arv Z h a k ty z vs dv) (K : own_KL h h' ls) (q : ∀ y ∈ ls, y.base ≠ a) : Arv Z h' a k ty z vs dv := by
  obtain ⟨c, A, r⟩ := F
  obtain ⟨c', e1, -, -, -, e5, -⟩ := K.2 _ _ A.1
  cases e5 q
  exact ⟨c, ⟨e1, A.2⟩, r⟩
theorem own_old (O : Old Z n0 h) (K : own_KL h h' ls) (q : ∀ y ∈ ls, n0 ≤ y.base) : Old Z n0 h' := ⟨O.1, Nat.le_trans O.2.1 K.1, fun x c r => by
  obtain ⟨c', e1, -, -, -, e5, -⟩ := K.2 x c (O.2.2 x c r)
  have hx : x < n0 := O.1 ▸ (Array.getElem?_eq_some_iff.mp r).1
  rw [e1, e5 fun y hy e => absurd hx (Nat.not_lt.mpr (e ▸ q y hy))]⟩
end OwnKL
theorem own_NSroot {Z : State} {a0 : Array Value} {O K : String} {n : Nat} (w : (Cond.noSuperclass O).before a0 Z = true) (wk : (Cond.instantiable K n).before a0 Z = true) (hn : O ≠ K) : NS Z O K := by
  obtain ⟨c, k, h1, h2, h3, -, -⟩ := Cond.noSuperclass_spec w
  obtain ⟨t, -, g1, -⟩ := Cond.instantiable_spec wk
  have ne := ids_ne h1 g1 hn
  refine ⟨c, t, h1, g1, fun fuel => ?_⟩
  cases fuel with
  | zero => rfl
  | succ f => simp [Vm.isSubclassAux, ne, h2, h3]
theorem own_NSno {Z : State} {a0 : Array Value} {C S K : String} {n : Nat} (w : (Cond.superclass C S).before a0 Z = true) (wk : (Cond.instantiable K n).before a0 Z = true) (u : NS Z C K) (hn : C ≠ K) : ∃ c t, Z.vm.findClass C = some c ∧ Z.vm.findClass K = some t ∧ Z.vm.assignable c t = false := by
  obtain ⟨c, t, h0, g0, n3⟩ := u
  obtain ⟨p, k, kp, h1, h2, h3, h4, h5, -, h7⟩ := Cond.superclass_spec h0 w
  obtain ⟨t', k', g1, g2, g5, g7, -⟩ := Cond.instantiable_spec wk
  cases g0.symm.trans g1
  have ne := ids_ne h0 g0 hn
  have g8 : k'.isInterface = false := by cases hI : k'.isInterface <;> simp [hI] at g7 ⊢
  refine ⟨c, t, h0, g0, ?_⟩
  show Z.vm.assignableAux (255 + 1) c t = false
  simp [Vm.assignableAux, ne, h2, g2, h5, g5, g8, Vm.isSubclass, n3]
theorem own_boxI {Z : State} {args : Array Value} {t : Term} {a : Addr} {c : Cell} {K : String} {z : Int32} (et : ∀ idx, t.eval args Z none idx Z = some (.ref a)) (A : Arr Z Z.heap a c (.object K)) (q : c.slots.size.toInt32 = z ∧ c.slots.size < 2 ^ 31) (hz : ¬ z < 0)
    (h : (Cond.all t (.and (.exactly (.elem t (.index 0)) K) (.eq (.field (.elem t (.index 0)) K "value" "I") (.sub (.index 0) (.int 128))))).value args Z none Z [] = some true) : Bxs Z a c K "I" z (fun j => .int (j - 128)) :=
  Bxs.start et A q.2 q.1 hz h fun X j nn hh => eqv_i (by simp [Term.eval, idx_at nn, (back32 nn).1]) hh
theorem own_boxJ {Z : State} {args : Array Value} {t : Term} {a : Addr} {c : Cell} {K : String} {z : Int32} (et : ∀ idx, t.eval args Z none idx Z = some (.ref a)) (A : Arr Z Z.heap a c (.object K)) (q : c.slots.size.toInt32 = z ∧ c.slots.size < 2 ^ 31) (hz : ¬ z < 0)
    (h : (Cond.all t (.and (.exactly (.elem t (.index 0)) K) (.eq (.field (.elem t (.index 0)) K "value" "J") (.op1 .i2l (.sub (.index 0) (.int 128)))))).value args Z none Z [] = some true) : Bxs Z a c K "J" z (fun j => .long (j - 128).toInt64) :=
  Bxs.start et A q.2 q.1 hz h fun X j nn hh => eqv_l (i2l_at (by simp [Term.eval, idx_at nn, (back32 nn).1])) hh
theorem own_staI {s : State} {args : Array Value} {C n d : String} {k : Int32} (h : (Cond.eq (Term.static C n d) (Term.int k)).value args s none s [] = some true) : (Term.static C n d).eval args s none [] s = some (.int k) := eqv_i (Term.int_eval k) h
theorem own_selp {Z : State} {a0 : Array Value} {y : MethodName} {n : Nat} (wi : (Cond.instantiable y.cls n).before a0 Z = true) (wp : (Cond.privateMethod y).before a0 Z = true) (wm : (Cond.instanceMethod y).before a0 Z = true) (hy : y.cls ≠ "java/lang/invoke/MethodHandle" ∧ y.cls ≠ "java/lang/invoke/VarHandle") : (Cond.selects y.cls y y).before a0 Z = true := by
  obtain ⟨c, k, h1, h2, -, h4, -⟩ := Cond.instantiable_spec wi
  exact selects_self_of_private h1 h2 (by cases hI : k.isInterface <;> simp [hI] at h4 ⊢) (Cond.privateMethod_at wp) wm hy
def own_Gk (Z : State) (h : Heap) (a : Addr) (k : ClassId) (ty : FieldType) (n j : Int32) (v : Value) : Prop := ∃ c : Cell, Arr Z h a c ty ∧ c.cls = k ∧ c.slots.size = n.toNatClampNeg ∧ ¬ n < 0 ∧ c.slots[j.toNatClampNeg]? = some v
section OwnGk
variable {Z : State} {h h' : Heap} {ls : List Loc} {a b : Addr} {k : ClassId} {ty : FieldType} {n j : Int32} {v u : Value} {sl : Nat}
theorem own_Gk.lt (F : own_Gk Z h a k ty n j v) : a < h.size := by obtain ⟨c, A, -⟩ := F; exact A.lt
theorem own_gk_ext (F : own_Gk Z h a k ty n j v) (E : Ext h h') : own_Gk Z h' a k ty n j v := by obtain ⟨c, A, r⟩ := F; exact ⟨c, A.ext E, r⟩
theorem own_gk_oth (F : own_Gk Z h a k ty n j v) (W : Wr h h' b sl u) (q : a ≠ b) : own_Gk Z h' a k ty n j v := by obtain ⟨c, A, r⟩ := F; exact ⟨c, A.other W q, r⟩
theorem own_gk_kl (F : own_Gk Z h a k ty n j v) (K : own_KL h h' ls) (q : ∀ y ∈ ls, y.base ≠ a) : own_Gk Z h' a k ty n j v := by
  obtain ⟨c, A, r⟩ := F
  obtain ⟨c', e1, -, -, -, e5, -⟩ := K.2 _ _ A.1
  cases e5 q
  exact ⟨c, ⟨e1, A.2⟩, r⟩
theorem own_gk_set {c : Cell} (A : Arr Z h a c ty) (q1 : c.cls = k) (S : c.slots.size = n.toNatClampNeg) (N : ¬ n < 0) (W : Wr h h' a j.toNatClampNeg v) : own_Gk Z h' a k ty n j v := by
  obtain ⟨c', e1, e2, e3, e4, -, -, e7⟩ := wr_at W A.1
  have e8 := (e7 rfl).1
  exact ⟨_, A.same W, q1, by rw [sz_set]; exact S, N, by rw [← e8]; exact (e7 rfl).2.1⟩
end OwnGk
section OwnSteps
variable {p : Program} {l : Launch} {e : Env} {R : Room} {s : State} {m : MethodId} {args : Array Value} {below : List Frame} {meth : Method} {c : Code} {T target : State} {locs : List Loc} {cells slots : Nat} {code : ByteArray} {pc : Nat} {Ls : Array Slot} {K : List Value}
theorem sc (X : Stand p l e R s m args below meth c T locs cells slots) (hx : p.tables.exec = Jvm.exec) (hby : c.code = code) {i : Int} (hd : decode code pc = .ok (.iconst i, 1)) (hr : Steps p.tables e below (T.setTop (mkF m (pc + 1) Ls (.int (Int32.ofInt i) :: K))) target) : Steps p.tables e below (T.setTop (mkF m pc Ls K)) target := XS.iconst X.here hx rfl (hb hby hd) hr
theorem sa (X : Stand p l e R s m args below meth c T locs cells slots) (hx : p.tables.exec = Jvm.exec) (hby : c.code = code) {k : Nat} {v : Value} (hd : decode code pc = .ok (.aload k, 2)) (hl : Ls[k]? = some (.val v)) (hv : v.isRef = true) (hr : Steps p.tables e below (T.setTop (mkF m (pc + 2) Ls (v :: K))) target) : Steps p.tables e below (T.setTop (mkF m pc Ls K)) target := XS.aload X.here hx rfl (hb hby hd) hl hv hr
theorem sA (X : Stand p l e R s m args below meth c T locs cells slots) (hx : p.tables.exec = Jvm.exec) (hby : c.code = code) {k : Fin 4} {v : Value} (hd : decode code pc = .ok (.aload_n k, 1)) (hl : Ls[k.val]? = some (.val v)) (hv : v.isRef = true) (hr : Steps p.tables e below (T.setTop (mkF m (pc + 1) Ls (v :: K))) target) : Steps p.tables e below (T.setTop (mkF m pc Ls K)) target := XS.aloadN X.here hx rfl (hb hby hd) hl hv hr
theorem si (X : Stand p l e R s m args below meth c T locs cells slots) (hx : p.tables.exec = Jvm.exec) (hby : c.code = code) {k : Nat} {v : Int32} (hd : decode code pc = .ok (.iload k, 2)) (hl : Ls[k]? = some (.val (.int v))) (hr : Steps p.tables e below (T.setTop (mkF m (pc + 2) Ls (.int v :: K))) target) : Steps p.tables e below (T.setTop (mkF m pc Ls K)) target := XS.iload X.here hx rfl (hb hby hd) hl hr
theorem sI (X : Stand p l e R s m args below meth c T locs cells slots) (hx : p.tables.exec = Jvm.exec) (hby : c.code = code) {k : Fin 4} {v : Int32} (hd : decode code pc = .ok (.iload_n k, 1)) (hl : Ls[k.val]? = some (.val (.int v))) (hr : Steps p.tables e below (T.setTop (mkF m (pc + 1) Ls (.int v :: K))) target) : Steps p.tables e below (T.setTop (mkF m pc Ls K)) target := XS.iloadN X.here hx rfl (hb hby hd) hl hr
theorem sL (X : Stand p l e R s m args below meth c T locs cells slots) (hx : p.tables.exec = Jvm.exec) (hby : c.code = code) {k : Fin 4} {v : Int64} (hd : decode code pc = .ok (.lload_n k, 1)) (hl : Ls[k.val]? = some (.val (.long v))) (hr : Steps p.tables e below (T.setTop (mkF m (pc + 1) Ls (.long v :: K))) target) : Steps p.tables e below (T.setTop (mkF m pc Ls K)) target := XS.lloadN X.here hx rfl (hb hby hd) hl hr
theorem sg (X : Stand p l e R s m args below meth c T locs cells slots) (hx : p.tables.exec = Jvm.exec) (hby : c.code = code) {o : Int} {pc' : Nat} (hd : decode code pc = .ok (.goto o, 3)) (ho : 0 ≤ (pc : Int) + o) (hp : ((pc : Int) + o).toNat = pc') (hr : Steps p.tables e below (T.setTop (mkF m pc' Ls K)) target) : Steps p.tables e below (T.setTop (mkF m pc Ls K)) target := XS.goto X.here hx rfl rfl (hb hby hd) ho hp hr
theorem sn (X : Stand p l e R s m args below meth c T locs cells slots) (hx : p.tables.exec = Jvm.exec) (hby : c.code = code) {cd : ClassFile.Cond} {o : Int} {x y : Int32} (hd : decode code pc = .ok (.if_icmp cd o, 3)) (hc : if_icmp.holds cd x y = false) (hr : Steps p.tables e below (T.setTop (mkF m (pc + 3) Ls K)) target) : Steps p.tables e below (T.setTop (mkF m pc Ls (.int y :: .int x :: K))) target := XS.icmpNo X.here hx rfl (hb hby hd) rfl hc hr
theorem sN (X : Stand p l e R s m args below meth c T locs cells slots) (hx : p.tables.exec = Jvm.exec) (hby : c.code = code) {cd : ClassFile.Cond} {o : Int} {x : Int32} (hd : decode code pc = .ok (.ifCond cd o, 3)) (hc : ifCond.holds cd x = false) (hr : Steps p.tables e below (T.setTop (mkF m (pc + 3) Ls K)) target) : Steps p.tables e below (T.setTop (mkF m pc Ls (.int x :: K))) target := XS.ifNo X.here hx rfl (hb hby hd) rfl hc hr
end OwnSteps

abbrev ym0 : MethodName := ⟨"com/example/tidemark/tidemark/RecencyList", "<init>", "()V"⟩
abbrev ym1 : MethodName := ⟨"com/example/tidemark/tidemark/MemoryEntry", "restart", "(J)V"⟩
abbrev ym2 : MethodName := ⟨"com/example/tidemark/tidemark/Expiry", "canExpire", "()Z"⟩
abbrev ym3 : MethodName := ⟨"com/example/tidemark/tidemark/MemoryEntry", "write", "(Ljava/lang/Object;Lcom/example/tidemark/tidemark/Expiry;J)V"⟩
abbrev ym4 : MethodName := ⟨"com/example/tidemark/tidemark/MemoryEntry", "<init>", "(Ljava/lang/Object;Ljava/lang/Object;Lcom/example/tidemark/tidemark/Expiry;JJ)V"⟩
abbrev ym5 : MethodName := ⟨"com/example/tidemark/tidemark/RecencyList", "addNewest", "(Lcom/example/tidemark/tidemark/MemoryEntry;)V"⟩
abbrev ym6 : MethodName := ⟨"com/example/tidemark/tidemark/RecencyList", "size", "()J"⟩
abbrev ym7 : MethodName := ⟨"com/example/tidemark/tidemark/RecencyList", "weight", "()J"⟩
abbrev ym8 : MethodName := ⟨"com/example/tidemark/tidemark/RecencyList", "oldest", "()Lcom/example/tidemark/tidemark/MemoryEntry;"⟩
abbrev ym9 : MethodName := ⟨"com/example/tidemark/tidemark/RecencyList", "remove", "(Lcom/example/tidemark/tidemark/MemoryEntry;)V"⟩
theorem wk0 {Z : State} {a0 : Array Value} (hw : ∀ d ∈ tables_1, d.before a0 Z = true) : (Jvm.Cond.classLink "com/example/tidemark/tidemark/RecencyListAddNewestPinLaw" (7 : Nat) "com/example/tidemark/tidemark/RecencyList").before a0 Z = true := hw _ (List.mem_of_getElem? (i := 0) rfl)
theorem wk1 {Z : State} {a0 : Array Value} (hw : ∀ d ∈ tables_1, d.before a0 Z = true) : (Jvm.Cond.instantiable "com/example/tidemark/tidemark/RecencyList" (5 : Nat)).before a0 Z = true := hw _ (List.mem_of_getElem? (i := 1) rfl)
theorem wk2 {Z : State} {a0 : Array Value} (hw : ∀ d ∈ tables_1, d.before a0 Z = true) : (Jvm.Cond.initialized "com/example/tidemark/tidemark/RecencyList").before a0 Z = true := hw _ (List.mem_of_getElem? (i := 2) rfl)
theorem wk3 {Z : State} {a0 : Array Value} (hw : ∀ d ∈ tables_1, d.before a0 Z = true) : (Jvm.Cond.methodLink "com/example/tidemark/tidemark/RecencyListAddNewestPinLaw" (9 : Nat) ({ cls := "com/example/tidemark/tidemark/RecencyList", name := "<init>", desc := "()V" } : Jvm.MethodName)).before a0 Z = true := hw _ (List.mem_of_getElem? (i := 3) rfl)
theorem wk4 {Z : State} {a0 : Array Value} (hw : ∀ d ∈ tables_1, d.before a0 Z = true) : (Jvm.Cond.instanceMethod ({ cls := "com/example/tidemark/tidemark/RecencyList", name := "<init>", desc := "()V" } : Jvm.MethodName)).before a0 Z = true := hw _ (List.mem_of_getElem? (i := 4) rfl)
theorem wk5 {Z : State} {a0 : Array Value} (hw : ∀ d ∈ tables_1, d.before a0 Z = true) : (Jvm.Cond.code ({ cls := "com/example/tidemark/tidemark/RecencyList", name := "<init>", desc := "()V" } : Jvm.MethodName) prog_41_method_1_code (1 : Nat) (Option.none : Option Jvm.ClassFile.FieldType)).before a0 Z = true := hw _ (List.mem_of_getElem? (i := 5) rfl)
theorem wk6 {Z : State} {a0 : Array Value} (hw : ∀ d ∈ tables_1, d.before a0 Z = true) : (Jvm.Cond.methodLink "com/example/tidemark/tidemark/RecencyList" (1 : Nat) ({ cls := "java/lang/Object", name := "<init>", desc := "()V" } : Jvm.MethodName)).before a0 Z = true := hw _ (List.mem_of_getElem? (i := 6) rfl)
theorem wk7 {Z : State} {a0 : Array Value} (hw : ∀ d ∈ tables_1, d.before a0 Z = true) : (Jvm.Cond.instanceMethod ({ cls := "java/lang/Object", name := "<init>", desc := "()V" } : Jvm.MethodName)).before a0 Z = true := hw _ (List.mem_of_getElem? (i := 7) rfl)
theorem wk8 {Z : State} {a0 : Array Value} (hw : ∀ d ∈ tables_1, d.before a0 Z = true) : (Jvm.Cond.code ({ cls := "java/lang/Object", name := "<init>", desc := "()V" } : Jvm.MethodName) object_method_1_code (1 : Nat) (Option.none : Option Jvm.ClassFile.FieldType)).before a0 Z = true := hw _ (List.mem_of_getElem? (i := 8) rfl)
theorem wk9 {Z : State} {a0 : Array Value} (hw : ∀ d ∈ tables_1, d.before a0 Z = true) : (Jvm.Cond.classLink "com/example/tidemark/tidemark/RecencyListAddNewestPinLaw" (10 : Nat) "com/example/tidemark/tidemark/MemoryEntry").before a0 Z = true := hw _ (List.mem_of_getElem? (i := 9) rfl)
theorem wk10 {Z : State} {a0 : Array Value} (hw : ∀ d ∈ tables_1, d.before a0 Z = true) : (Jvm.Cond.instantiable "com/example/tidemark/tidemark/MemoryEntry" (18 : Nat)).before a0 Z = true := hw _ (List.mem_of_getElem? (i := 10) rfl)
theorem wk11 {Z : State} {a0 : Array Value} (hw : ∀ d ∈ tables_1, d.before a0 Z = true) : (Jvm.Cond.initialized "com/example/tidemark/tidemark/MemoryEntry").before a0 Z = true := hw _ (List.mem_of_getElem? (i := 11) rfl)
theorem wk12 {Z : State} {a0 : Array Value} (hw : ∀ d ∈ tables_1, d.before a0 Z = true) : (Jvm.Cond.fieldLink "com/example/tidemark/tidemark/RecencyListAddNewestPinLaw" (12 : Nat) "com/example/tidemark/tidemark/Expiry" "NEVER" "Lcom/example/tidemark/tidemark/Expiry;").before a0 Z = true := hw _ (List.mem_of_getElem? (i := 12) rfl)
theorem wk13 {Z : State} {a0 : Array Value} (hw : ∀ d ∈ tables_1, d.before a0 Z = true) : (Jvm.Cond.initialized "com/example/tidemark/tidemark/Expiry").before a0 Z = true := hw _ (List.mem_of_getElem? (i := 13) rfl)
theorem wk14 {Z : State} {a0 : Array Value} (hw : ∀ d ∈ tables_1, d.before a0 Z = true) : (Jvm.Cond.laysStatic "com/example/tidemark/tidemark/Expiry" "NEVER" "Lcom/example/tidemark/tidemark/Expiry;").before a0 Z = true := hw _ (List.mem_of_getElem? (i := 14) rfl)
theorem wk15 {Z : State} {a0 : Array Value} (hw : ∀ d ∈ tables_1, d.before a0 Z = true) : (Jvm.Cond.methodLink "com/example/tidemark/tidemark/RecencyListAddNewestPinLaw" (18 : Nat) ({ cls := "com/example/tidemark/tidemark/MemoryEntry", name := "<init>", desc := "(Ljava/lang/Object;Ljava/lang/Object;Lcom/example/tidemark/tidemark/Expiry;JJ)V" } : Jvm.MethodName)).before a0 Z = true := hw _ (List.mem_of_getElem? (i := 15) rfl)
theorem wk16 {Z : State} {a0 : Array Value} (hw : ∀ d ∈ tables_1, d.before a0 Z = true) : (Jvm.Cond.instanceMethod ({ cls := "com/example/tidemark/tidemark/MemoryEntry", name := "<init>", desc := "(Ljava/lang/Object;Ljava/lang/Object;Lcom/example/tidemark/tidemark/Expiry;JJ)V" } : Jvm.MethodName)).before a0 Z = true := hw _ (List.mem_of_getElem? (i := 16) rfl)
theorem wk17 {Z : State} {a0 : Array Value} (hw : ∀ d ∈ tables_1, d.before a0 Z = true) : (Jvm.Cond.code ({ cls := "com/example/tidemark/tidemark/MemoryEntry", name := "<init>", desc := "(Ljava/lang/Object;Ljava/lang/Object;Lcom/example/tidemark/tidemark/Expiry;JJ)V" } : Jvm.MethodName) prog_40_method_1_code (8 : Nat) (Option.none : Option Jvm.ClassFile.FieldType)).before a0 Z = true := hw _ (List.mem_of_getElem? (i := 17) rfl)
theorem wk18 {Z : State} {a0 : Array Value} (hw : ∀ d ∈ tables_1, d.before a0 Z = true) : (Jvm.Cond.methodLink "com/example/tidemark/tidemark/MemoryEntry" (1 : Nat) ({ cls := "java/lang/Object", name := "<init>", desc := "()V" } : Jvm.MethodName)).before a0 Z = true := hw _ (List.mem_of_getElem? (i := 18) rfl)
theorem wk19 {Z : State} {a0 : Array Value} (hw : ∀ d ∈ tables_1, d.before a0 Z = true) : (Jvm.Cond.fieldLink "com/example/tidemark/tidemark/MemoryEntry" (9 : Nat) "com/example/tidemark/tidemark/MemoryEntry" "slot" "I").before a0 Z = true := hw _ (List.mem_of_getElem? (i := 19) rfl)
theorem wk20 {Z : State} {a0 : Array Value} (hw : ∀ d ∈ tables_1, d.before a0 Z = true) : (Jvm.Cond.lays "com/example/tidemark/tidemark/MemoryEntry" "com/example/tidemark/tidemark/MemoryEntry" "slot" "I").before a0 Z = true := hw _ (List.mem_of_getElem? (i := 20) rfl)
theorem wk21 {Z : State} {a0 : Array Value} (hw : ∀ d ∈ tables_1, d.before a0 Z = true) : (Jvm.Cond.fieldLink "com/example/tidemark/tidemark/MemoryEntry" (15 : Nat) "com/example/tidemark/tidemark/MemoryEntry" "key" "Ljava/lang/Object;").before a0 Z = true := hw _ (List.mem_of_getElem? (i := 21) rfl)
theorem wk22 {Z : State} {a0 : Array Value} (hw : ∀ d ∈ tables_1, d.before a0 Z = true) : (Jvm.Cond.laysFinal "com/example/tidemark/tidemark/MemoryEntry" "com/example/tidemark/tidemark/MemoryEntry" "key" "Ljava/lang/Object;").before a0 Z = true := hw _ (List.mem_of_getElem? (i := 22) rfl)
theorem wk23 {Z : State} {a0 : Array Value} (hw : ∀ d ∈ tables_1, d.before a0 Z = true) : (Jvm.Cond.fieldLink "com/example/tidemark/tidemark/MemoryEntry" (19 : Nat) "com/example/tidemark/tidemark/MemoryEntry" "charge" "J").before a0 Z = true := hw _ (List.mem_of_getElem? (i := 23) rfl)
theorem wk24 {Z : State} {a0 : Array Value} (hw : ∀ d ∈ tables_1, d.before a0 Z = true) : (Jvm.Cond.lays "com/example/tidemark/tidemark/MemoryEntry" "com/example/tidemark/tidemark/MemoryEntry" "charge" "J").before a0 Z = true := hw _ (List.mem_of_getElem? (i := 24) rfl)
theorem wk25 {Z : State} {a0 : Array Value} (hw : ∀ d ∈ tables_1, d.before a0 Z = true) : (Jvm.Cond.methodLink "com/example/tidemark/tidemark/MemoryEntry" (23 : Nat) ({ cls := "com/example/tidemark/tidemark/MemoryEntry", name := "write", desc := "(Ljava/lang/Object;Lcom/example/tidemark/tidemark/Expiry;J)V" } : Jvm.MethodName)).before a0 Z = true := hw _ (List.mem_of_getElem? (i := 25) rfl)
theorem wk26 {Z : State} {a0 : Array Value} (hw : ∀ d ∈ tables_1, d.before a0 Z = true) : (Jvm.Cond.declares ({ cls := "com/example/tidemark/tidemark/MemoryEntry", name := "write", desc := "(Ljava/lang/Object;Lcom/example/tidemark/tidemark/Expiry;J)V" } : Jvm.MethodName)).before a0 Z = true := hw _ (List.mem_of_getElem? (i := 26) rfl)
theorem wk27 {Z : State} {a0 : Array Value} (hw : ∀ d ∈ tables_1, d.before a0 Z = true) : (Jvm.Cond.instanceMethod ({ cls := "com/example/tidemark/tidemark/MemoryEntry", name := "write", desc := "(Ljava/lang/Object;Lcom/example/tidemark/tidemark/Expiry;J)V" } : Jvm.MethodName)).before a0 Z = true := hw _ (List.mem_of_getElem? (i := 27) rfl)
theorem wk28 {Z : State} {a0 : Array Value} (hw : ∀ d ∈ tables_1, d.before a0 Z = true) : (Jvm.Cond.selects "com/example/tidemark/tidemark/MemoryEntry" ({ cls := "com/example/tidemark/tidemark/MemoryEntry", name := "write", desc := "(Ljava/lang/Object;Lcom/example/tidemark/tidemark/Expiry;J)V" } : Jvm.MethodName) ({ cls := "com/example/tidemark/tidemark/MemoryEntry", name := "write", desc := "(Ljava/lang/Object;Lcom/example/tidemark/tidemark/Expiry;J)V" } : Jvm.MethodName)).before a0 Z = true := hw _ (List.mem_of_getElem? (i := 28) rfl)
theorem wk29 {Z : State} {a0 : Array Value} (hw : ∀ d ∈ tables_1, d.before a0 Z = true) : (Jvm.Cond.code ({ cls := "com/example/tidemark/tidemark/MemoryEntry", name := "write", desc := "(Ljava/lang/Object;Lcom/example/tidemark/tidemark/Expiry;J)V" } : Jvm.MethodName) prog_40_method_2_code (5 : Nat) (Option.none : Option Jvm.ClassFile.FieldType)).before a0 Z = true := hw _ (List.mem_of_getElem? (i := 29) rfl)
theorem wk30 {Z : State} {a0 : Array Value} (hw : ∀ d ∈ tables_1, d.before a0 Z = true) : (Jvm.Cond.fieldLink "com/example/tidemark/tidemark/MemoryEntry" (27 : Nat) "com/example/tidemark/tidemark/MemoryEntry" "value" "Ljava/lang/Object;").before a0 Z = true := hw _ (List.mem_of_getElem? (i := 30) rfl)
theorem wk31 {Z : State} {a0 : Array Value} (hw : ∀ d ∈ tables_1, d.before a0 Z = true) : (Jvm.Cond.lays "com/example/tidemark/tidemark/MemoryEntry" "com/example/tidemark/tidemark/MemoryEntry" "value" "Ljava/lang/Object;").before a0 Z = true := hw _ (List.mem_of_getElem? (i := 31) rfl)
theorem wk32 {Z : State} {a0 : Array Value} (hw : ∀ d ∈ tables_1, d.before a0 Z = true) : (Jvm.Cond.fieldLink "com/example/tidemark/tidemark/MemoryEntry" (33 : Nat) "com/example/tidemark/tidemark/MemoryEntry" "expiry" "Lcom/example/tidemark/tidemark/Expiry;").before a0 Z = true := hw _ (List.mem_of_getElem? (i := 32) rfl)
theorem wk33 {Z : State} {a0 : Array Value} (hw : ∀ d ∈ tables_1, d.before a0 Z = true) : (Jvm.Cond.lays "com/example/tidemark/tidemark/MemoryEntry" "com/example/tidemark/tidemark/MemoryEntry" "expiry" "Lcom/example/tidemark/tidemark/Expiry;").before a0 Z = true := hw _ (List.mem_of_getElem? (i := 33) rfl)
theorem wk34 {Z : State} {a0 : Array Value} (hw : ∀ d ∈ tables_1, d.before a0 Z = true) : (Jvm.Cond.methodLink "com/example/tidemark/tidemark/MemoryEntry" (37 : Nat) ({ cls := "com/example/tidemark/tidemark/MemoryEntry", name := "restart", desc := "(J)V" } : Jvm.MethodName)).before a0 Z = true := hw _ (List.mem_of_getElem? (i := 34) rfl)
theorem wk35 {Z : State} {a0 : Array Value} (hw : ∀ d ∈ tables_1, d.before a0 Z = true) : (Jvm.Cond.declares ({ cls := "com/example/tidemark/tidemark/MemoryEntry", name := "restart", desc := "(J)V" } : Jvm.MethodName)).before a0 Z = true := hw _ (List.mem_of_getElem? (i := 35) rfl)
theorem wk36 {Z : State} {a0 : Array Value} (hw : ∀ d ∈ tables_1, d.before a0 Z = true) : (Jvm.Cond.instanceMethod ({ cls := "com/example/tidemark/tidemark/MemoryEntry", name := "restart", desc := "(J)V" } : Jvm.MethodName)).before a0 Z = true := hw _ (List.mem_of_getElem? (i := 36) rfl)
theorem wk37 {Z : State} {a0 : Array Value} (hw : ∀ d ∈ tables_1, d.before a0 Z = true) : (Jvm.Cond.selects "com/example/tidemark/tidemark/MemoryEntry" ({ cls := "com/example/tidemark/tidemark/MemoryEntry", name := "restart", desc := "(J)V" } : Jvm.MethodName) ({ cls := "com/example/tidemark/tidemark/MemoryEntry", name := "restart", desc := "(J)V" } : Jvm.MethodName)).before a0 Z = true := hw _ (List.mem_of_getElem? (i := 37) rfl)
theorem wk38 {Z : State} {a0 : Array Value} (hw : ∀ d ∈ tables_1, d.before a0 Z = true) : (Jvm.Cond.code ({ cls := "com/example/tidemark/tidemark/MemoryEntry", name := "restart", desc := "(J)V" } : Jvm.MethodName) prog_40_method_6_code (3 : Nat) (Option.none : Option Jvm.ClassFile.FieldType)).before a0 Z = true := hw _ (List.mem_of_getElem? (i := 38) rfl)
theorem wk39 {Z : State} {a0 : Array Value} (hw : ∀ d ∈ tables_1, d.before a0 Z = true) : (Jvm.Cond.fieldLink "com/example/tidemark/tidemark/MemoryEntry" (67 : Nat) "com/example/tidemark/tidemark/MemoryEntry" "created" "J").before a0 Z = true := hw _ (List.mem_of_getElem? (i := 39) rfl)
theorem wk40 {Z : State} {a0 : Array Value} (hw : ∀ d ∈ tables_1, d.before a0 Z = true) : (Jvm.Cond.lays "com/example/tidemark/tidemark/MemoryEntry" "com/example/tidemark/tidemark/MemoryEntry" "created" "J").before a0 Z = true := hw _ (List.mem_of_getElem? (i := 40) rfl)
theorem wk41 {Z : State} {a0 : Array Value} (hw : ∀ d ∈ tables_1, d.before a0 Z = true) : (Jvm.Cond.fieldLink "com/example/tidemark/tidemark/MemoryEntry" (30 : Nat) "com/example/tidemark/tidemark/MemoryEntry" "lastUsed" "J").before a0 Z = true := hw _ (List.mem_of_getElem? (i := 41) rfl)
theorem wk42 {Z : State} {a0 : Array Value} (hw : ∀ d ∈ tables_1, d.before a0 Z = true) : (Jvm.Cond.lays "com/example/tidemark/tidemark/MemoryEntry" "com/example/tidemark/tidemark/MemoryEntry" "lastUsed" "J").before a0 Z = true := hw _ (List.mem_of_getElem? (i := 42) rfl)
theorem wk43 {Z : State} {a0 : Array Value} (hw : ∀ d ∈ tables_1, d.before a0 Z = true) : (Jvm.Cond.methodLink "com/example/tidemark/tidemark/MemoryEntry" (41 : Nat) ({ cls := "com/example/tidemark/tidemark/Expiry", name := "canExpire", desc := "()Z" } : Jvm.MethodName)).before a0 Z = true := hw _ (List.mem_of_getElem? (i := 43) rfl)
theorem wk44 {Z : State} {a0 : Array Value} (hw : ∀ d ∈ tables_1, d.before a0 Z = true) : (Jvm.Cond.declares ({ cls := "com/example/tidemark/tidemark/Expiry", name := "canExpire", desc := "()Z" } : Jvm.MethodName)).before a0 Z = true := hw _ (List.mem_of_getElem? (i := 44) rfl)
theorem wk45 {Z : State} {a0 : Array Value} (hw : ∀ d ∈ tables_1, d.before a0 Z = true) : (Jvm.Cond.instanceMethod ({ cls := "com/example/tidemark/tidemark/Expiry", name := "canExpire", desc := "()Z" } : Jvm.MethodName)).before a0 Z = true := hw _ (List.mem_of_getElem? (i := 45) rfl)
theorem wk46 {Z : State} {a0 : Array Value} (hw : ∀ d ∈ tables_1, d.before a0 Z = true) : (Jvm.Cond.selects "com/example/tidemark/tidemark/Expiry" ({ cls := "com/example/tidemark/tidemark/Expiry", name := "canExpire", desc := "()Z" } : Jvm.MethodName) ({ cls := "com/example/tidemark/tidemark/Expiry", name := "canExpire", desc := "()Z" } : Jvm.MethodName)).before a0 Z = true := hw _ (List.mem_of_getElem? (i := 46) rfl)
theorem wk47 {Z : State} {a0 : Array Value} (hw : ∀ d ∈ tables_1, d.before a0 Z = true) : (Jvm.Cond.code ({ cls := "com/example/tidemark/tidemark/Expiry", name := "canExpire", desc := "()Z" } : Jvm.MethodName) prog_21_method_5_code (1 : Nat) (Option.some Jvm.ClassFile.FieldType.boolean)).before a0 Z = true := hw _ (List.mem_of_getElem? (i := 47) rfl)
theorem wk48 {Z : State} {a0 : Array Value} (hw : ∀ d ∈ tables_1, d.before a0 Z = true) : (Jvm.Cond.fieldLink "com/example/tidemark/tidemark/Expiry" (17 : Nat) "com/example/tidemark/tidemark/Expiry" "lifespan" "J").before a0 Z = true := hw _ (List.mem_of_getElem? (i := 48) rfl)
theorem wk50 {Z : State} {a0 : Array Value} (hw : ∀ d ∈ tables_1, d.before a0 Z = true) : (Jvm.Cond.constantLong "com/example/tidemark/tidemark/Expiry" (29 : Nat) (-1 : Int64)).before a0 Z = true := hw _ (List.mem_of_getElem? (i := 50) rfl)
theorem wk51 {Z : State} {a0 : Array Value} (hw : ∀ d ∈ tables_1, d.before a0 Z = true) : (Jvm.Cond.fieldLink "com/example/tidemark/tidemark/Expiry" (20 : Nat) "com/example/tidemark/tidemark/Expiry" "maxIdle" "J").before a0 Z = true := hw _ (List.mem_of_getElem? (i := 51) rfl)
theorem wk53 {Z : State} {a0 : Array Value} (hw : ∀ d ∈ tables_1, d.before a0 Z = true) : (Jvm.Cond.fieldLink "com/example/tidemark/tidemark/MemoryEntry" (47 : Nat) "com/example/tidemark/tidemark/MemoryEntry" "lockFreeValue" "Ljava/lang/Object;").before a0 Z = true := hw _ (List.mem_of_getElem? (i := 53) rfl)
theorem wk54 {Z : State} {a0 : Array Value} (hw : ∀ d ∈ tables_1, d.before a0 Z = true) : (Jvm.Cond.lays "com/example/tidemark/tidemark/MemoryEntry" "com/example/tidemark/tidemark/MemoryEntry" "lockFreeValue" "Ljava/lang/Object;").before a0 Z = true := hw _ (List.mem_of_getElem? (i := 54) rfl)
theorem wk55 {Z : State} {a0 : Array Value} (hw : ∀ d ∈ tables_1, d.before a0 Z = true) : (Jvm.Cond.methodLink "com/example/tidemark/tidemark/RecencyListAddNewestPinLaw" (21 : Nat) ({ cls := "com/example/tidemark/tidemark/RecencyList", name := "addNewest", desc := "(Lcom/example/tidemark/tidemark/MemoryEntry;)V" } : Jvm.MethodName)).before a0 Z = true := hw _ (List.mem_of_getElem? (i := 55) rfl)
theorem wk56 {Z : State} {a0 : Array Value} (hw : ∀ d ∈ tables_1, d.before a0 Z = true) : (Jvm.Cond.declares ({ cls := "com/example/tidemark/tidemark/RecencyList", name := "addNewest", desc := "(Lcom/example/tidemark/tidemark/MemoryEntry;)V" } : Jvm.MethodName)).before a0 Z = true := hw _ (List.mem_of_getElem? (i := 56) rfl)
theorem wk57 {Z : State} {a0 : Array Value} (hw : ∀ d ∈ tables_1, d.before a0 Z = true) : (Jvm.Cond.instanceMethod ({ cls := "com/example/tidemark/tidemark/RecencyList", name := "addNewest", desc := "(Lcom/example/tidemark/tidemark/MemoryEntry;)V" } : Jvm.MethodName)).before a0 Z = true := hw _ (List.mem_of_getElem? (i := 57) rfl)
theorem wk58 {Z : State} {a0 : Array Value} (hw : ∀ d ∈ tables_1, d.before a0 Z = true) : (Jvm.Cond.selects "com/example/tidemark/tidemark/RecencyList" ({ cls := "com/example/tidemark/tidemark/RecencyList", name := "addNewest", desc := "(Lcom/example/tidemark/tidemark/MemoryEntry;)V" } : Jvm.MethodName) ({ cls := "com/example/tidemark/tidemark/RecencyList", name := "addNewest", desc := "(Lcom/example/tidemark/tidemark/MemoryEntry;)V" } : Jvm.MethodName)).before a0 Z = true := hw _ (List.mem_of_getElem? (i := 58) rfl)
theorem wk59 {Z : State} {a0 : Array Value} (hw : ∀ d ∈ tables_1, d.before a0 Z = true) : (Jvm.Cond.code ({ cls := "com/example/tidemark/tidemark/RecencyList", name := "addNewest", desc := "(Lcom/example/tidemark/tidemark/MemoryEntry;)V" } : Jvm.MethodName) prog_41_method_7_code (2 : Nat) (Option.none : Option Jvm.ClassFile.FieldType)).before a0 Z = true := hw _ (List.mem_of_getElem? (i := 59) rfl)
theorem wk60 {Z : State} {a0 : Array Value} (hw : ∀ d ∈ tables_1, d.before a0 Z = true) : (Jvm.Cond.fieldLink "com/example/tidemark/tidemark/RecencyList" (25 : Nat) "com/example/tidemark/tidemark/RecencyList" "stamps" "J").before a0 Z = true := hw _ (List.mem_of_getElem? (i := 60) rfl)
theorem wk61 {Z : State} {a0 : Array Value} (hw : ∀ d ∈ tables_1, d.before a0 Z = true) : (Jvm.Cond.lays "com/example/tidemark/tidemark/RecencyList" "com/example/tidemark/tidemark/RecencyList" "stamps" "J").before a0 Z = true := hw _ (List.mem_of_getElem? (i := 61) rfl)
theorem wk62 {Z : State} {a0 : Array Value} (hw : ∀ d ∈ tables_1, d.before a0 Z = true) : (Jvm.Cond.fieldLink "com/example/tidemark/tidemark/RecencyList" (28 : Nat) "com/example/tidemark/tidemark/MemoryEntry" "stamp" "J").before a0 Z = true := hw _ (List.mem_of_getElem? (i := 62) rfl)
theorem wk63 {Z : State} {a0 : Array Value} (hw : ∀ d ∈ tables_1, d.before a0 Z = true) : (Jvm.Cond.lays "com/example/tidemark/tidemark/MemoryEntry" "com/example/tidemark/tidemark/MemoryEntry" "stamp" "J").before a0 Z = true := hw _ (List.mem_of_getElem? (i := 63) rfl)
theorem wk64 {Z : State} {a0 : Array Value} (hw : ∀ d ∈ tables_1, d.before a0 Z = true) : (Jvm.Cond.fieldLink "com/example/tidemark/tidemark/RecencyList" (31 : Nat) "com/example/tidemark/tidemark/MemoryEntry" "list" "Lcom/example/tidemark/tidemark/RecencyList;").before a0 Z = true := hw _ (List.mem_of_getElem? (i := 64) rfl)
theorem wk65 {Z : State} {a0 : Array Value} (hw : ∀ d ∈ tables_1, d.before a0 Z = true) : (Jvm.Cond.lays "com/example/tidemark/tidemark/MemoryEntry" "com/example/tidemark/tidemark/MemoryEntry" "list" "Lcom/example/tidemark/tidemark/RecencyList;").before a0 Z = true := hw _ (List.mem_of_getElem? (i := 65) rfl)
theorem wk66 {Z : State} {a0 : Array Value} (hw : ∀ d ∈ tables_1, d.before a0 Z = true) : (Jvm.Cond.fieldLink "com/example/tidemark/tidemark/RecencyList" (35 : Nat) "com/example/tidemark/tidemark/RecencyList" "newest" "Lcom/example/tidemark/tidemark/MemoryEntry;").before a0 Z = true := hw _ (List.mem_of_getElem? (i := 66) rfl)
theorem wk67 {Z : State} {a0 : Array Value} (hw : ∀ d ∈ tables_1, d.before a0 Z = true) : (Jvm.Cond.lays "com/example/tidemark/tidemark/RecencyList" "com/example/tidemark/tidemark/RecencyList" "newest" "Lcom/example/tidemark/tidemark/MemoryEntry;").before a0 Z = true := hw _ (List.mem_of_getElem? (i := 67) rfl)
theorem wk68 {Z : State} {a0 : Array Value} (hw : ∀ d ∈ tables_1, d.before a0 Z = true) : (Jvm.Cond.fieldLink "com/example/tidemark/tidemark/RecencyList" (38 : Nat) "com/example/tidemark/tidemark/MemoryEntry" "older" "Lcom/example/tidemark/tidemark/MemoryEntry;").before a0 Z = true := hw _ (List.mem_of_getElem? (i := 68) rfl)
theorem wk69 {Z : State} {a0 : Array Value} (hw : ∀ d ∈ tables_1, d.before a0 Z = true) : (Jvm.Cond.lays "com/example/tidemark/tidemark/MemoryEntry" "com/example/tidemark/tidemark/MemoryEntry" "older" "Lcom/example/tidemark/tidemark/MemoryEntry;").before a0 Z = true := hw _ (List.mem_of_getElem? (i := 69) rfl)
theorem wk70 {Z : State} {a0 : Array Value} (hw : ∀ d ∈ tables_1, d.before a0 Z = true) : (Jvm.Cond.fieldLink "com/example/tidemark/tidemark/RecencyList" (13 : Nat) "com/example/tidemark/tidemark/MemoryEntry" "newer" "Lcom/example/tidemark/tidemark/MemoryEntry;").before a0 Z = true := hw _ (List.mem_of_getElem? (i := 70) rfl)
theorem wk71 {Z : State} {a0 : Array Value} (hw : ∀ d ∈ tables_1, d.before a0 Z = true) : (Jvm.Cond.lays "com/example/tidemark/tidemark/MemoryEntry" "com/example/tidemark/tidemark/MemoryEntry" "newer" "Lcom/example/tidemark/tidemark/MemoryEntry;").before a0 Z = true := hw _ (List.mem_of_getElem? (i := 71) rfl)
theorem wk72 {Z : State} {a0 : Array Value} (hw : ∀ d ∈ tables_1, d.before a0 Z = true) : (Jvm.Cond.fieldLink "com/example/tidemark/tidemark/RecencyList" (7 : Nat) "com/example/tidemark/tidemark/RecencyList" "oldest" "Lcom/example/tidemark/tidemark/MemoryEntry;").before a0 Z = true := hw _ (List.mem_of_getElem? (i := 72) rfl)
theorem wk73 {Z : State} {a0 : Array Value} (hw : ∀ d ∈ tables_1, d.before a0 Z = true) : (Jvm.Cond.lays "com/example/tidemark/tidemark/RecencyList" "com/example/tidemark/tidemark/RecencyList" "oldest" "Lcom/example/tidemark/tidemark/MemoryEntry;").before a0 Z = true := hw _ (List.mem_of_getElem? (i := 73) rfl)
theorem wk74 {Z : State} {a0 : Array Value} (hw : ∀ d ∈ tables_1, d.before a0 Z = true) : (Jvm.Cond.fieldLink "com/example/tidemark/tidemark/RecencyList" (18 : Nat) "com/example/tidemark/tidemark/RecencyList" "size" "J").before a0 Z = true := hw _ (List.mem_of_getElem? (i := 74) rfl)
theorem wk75 {Z : State} {a0 : Array Value} (hw : ∀ d ∈ tables_1, d.before a0 Z = true) : (Jvm.Cond.lays "com/example/tidemark/tidemark/RecencyList" "com/example/tidemark/tidemark/RecencyList" "size" "J").before a0 Z = true := hw _ (List.mem_of_getElem? (i := 75) rfl)
theorem wk76 {Z : State} {a0 : Array Value} (hw : ∀ d ∈ tables_1, d.before a0 Z = true) : (Jvm.Cond.fieldLink "com/example/tidemark/tidemark/RecencyList" (22 : Nat) "com/example/tidemark/tidemark/RecencyList" "weight" "J").before a0 Z = true := hw _ (List.mem_of_getElem? (i := 76) rfl)
theorem wk77 {Z : State} {a0 : Array Value} (hw : ∀ d ∈ tables_1, d.before a0 Z = true) : (Jvm.Cond.lays "com/example/tidemark/tidemark/RecencyList" "com/example/tidemark/tidemark/RecencyList" "weight" "J").before a0 Z = true := hw _ (List.mem_of_getElem? (i := 77) rfl)
theorem wk78 {Z : State} {a0 : Array Value} (hw : ∀ d ∈ tables_1, d.before a0 Z = true) : (Jvm.Cond.fieldLink "com/example/tidemark/tidemark/RecencyList" (41 : Nat) "com/example/tidemark/tidemark/MemoryEntry" "charge" "J").before a0 Z = true := hw _ (List.mem_of_getElem? (i := 78) rfl)
theorem wk79 {Z : State} {a0 : Array Value} (hw : ∀ d ∈ tables_1, d.before a0 Z = true) : (Jvm.Cond.fieldLink "com/example/tidemark/tidemark/RecencyListAddNewestPinLaw" (25 : Nat) "com/example/tidemark/tidemark/MemoryEntry" "stamp" "J").before a0 Z = true := hw _ (List.mem_of_getElem? (i := 79) rfl)
theorem wk80 {Z : State} {a0 : Array Value} (hw : ∀ d ∈ tables_1, d.before a0 Z = true) : (Jvm.Cond.fieldLink "com/example/tidemark/tidemark/RecencyListAddNewestPinLaw" (29 : Nat) "com/example/tidemark/tidemark/MemoryEntry" "list" "Lcom/example/tidemark/tidemark/RecencyList;").before a0 Z = true := hw _ (List.mem_of_getElem? (i := 80) rfl)
theorem wk81 {Z : State} {a0 : Array Value} (hw : ∀ d ∈ tables_1, d.before a0 Z = true) : (Jvm.Cond.fieldLink "com/example/tidemark/tidemark/RecencyListAddNewestPinLaw" (33 : Nat) "com/example/tidemark/tidemark/MemoryEntry" "older" "Lcom/example/tidemark/tidemark/MemoryEntry;").before a0 Z = true := hw _ (List.mem_of_getElem? (i := 81) rfl)
theorem wk82 {Z : State} {a0 : Array Value} (hw : ∀ d ∈ tables_1, d.before a0 Z = true) : (Jvm.Cond.fieldLink "com/example/tidemark/tidemark/RecencyListAddNewestPinLaw" (37 : Nat) "com/example/tidemark/tidemark/MemoryEntry" "newer" "Lcom/example/tidemark/tidemark/MemoryEntry;").before a0 Z = true := hw _ (List.mem_of_getElem? (i := 82) rfl)
theorem wk83 {Z : State} {a0 : Array Value} (hw : ∀ d ∈ tables_1, d.before a0 Z = true) : (Jvm.Cond.methodLink "com/example/tidemark/tidemark/RecencyListAddNewestPinLaw" (40 : Nat) ({ cls := "com/example/tidemark/tidemark/RecencyList", name := "remove", desc := "(Lcom/example/tidemark/tidemark/MemoryEntry;)V" } : Jvm.MethodName)).before a0 Z = true := hw _ (List.mem_of_getElem? (i := 83) rfl)
theorem wk84 {Z : State} {a0 : Array Value} (hw : ∀ d ∈ tables_1, d.before a0 Z = true) : (Jvm.Cond.declares ({ cls := "com/example/tidemark/tidemark/RecencyList", name := "remove", desc := "(Lcom/example/tidemark/tidemark/MemoryEntry;)V" } : Jvm.MethodName)).before a0 Z = true := hw _ (List.mem_of_getElem? (i := 84) rfl)
theorem wk85 {Z : State} {a0 : Array Value} (hw : ∀ d ∈ tables_1, d.before a0 Z = true) : (Jvm.Cond.instanceMethod ({ cls := "com/example/tidemark/tidemark/RecencyList", name := "remove", desc := "(Lcom/example/tidemark/tidemark/MemoryEntry;)V" } : Jvm.MethodName)).before a0 Z = true := hw _ (List.mem_of_getElem? (i := 85) rfl)
theorem wk86 {Z : State} {a0 : Array Value} (hw : ∀ d ∈ tables_1, d.before a0 Z = true) : (Jvm.Cond.selects "com/example/tidemark/tidemark/RecencyList" ({ cls := "com/example/tidemark/tidemark/RecencyList", name := "remove", desc := "(Lcom/example/tidemark/tidemark/MemoryEntry;)V" } : Jvm.MethodName) ({ cls := "com/example/tidemark/tidemark/RecencyList", name := "remove", desc := "(Lcom/example/tidemark/tidemark/MemoryEntry;)V" } : Jvm.MethodName)).before a0 Z = true := hw _ (List.mem_of_getElem? (i := 86) rfl)
theorem wk87 {Z : State} {a0 : Array Value} (hw : ∀ d ∈ tables_1, d.before a0 Z = true) : (Jvm.Cond.code ({ cls := "com/example/tidemark/tidemark/RecencyList", name := "remove", desc := "(Lcom/example/tidemark/tidemark/MemoryEntry;)V" } : Jvm.MethodName) prog_41_method_10_code (2 : Nat) (Option.none : Option Jvm.ClassFile.FieldType)).before a0 Z = true := hw _ (List.mem_of_getElem? (i := 87) rfl)
theorem wk88 {Z : State} {a0 : Array Value} (hw : ∀ d ∈ tables_1, d.before a0 Z = true) : (Jvm.Cond.constantLong "com/example/tidemark/tidemark/RecencyListAddNewestPinLaw" (43 : Nat) (2 : Int64)).before a0 Z = true := hw _ (List.mem_of_getElem? (i := 88) rfl)
theorem wk89 {Z : State} {a0 : Array Value} (hw : ∀ d ∈ tables_1, d.before a0 Z = true) : (Jvm.Cond.methodLink "com/example/tidemark/tidemark/RecencyListAddNewestPinLaw" (47 : Nat) ({ cls := "com/example/tidemark/tidemark/RecencyList", name := "size", desc := "()J" } : Jvm.MethodName)).before a0 Z = true := hw _ (List.mem_of_getElem? (i := 89) rfl)
theorem wk90 {Z : State} {a0 : Array Value} (hw : ∀ d ∈ tables_1, d.before a0 Z = true) : (Jvm.Cond.declares ({ cls := "com/example/tidemark/tidemark/RecencyList", name := "size", desc := "()J" } : Jvm.MethodName)).before a0 Z = true := hw _ (List.mem_of_getElem? (i := 90) rfl)
theorem wk91 {Z : State} {a0 : Array Value} (hw : ∀ d ∈ tables_1, d.before a0 Z = true) : (Jvm.Cond.instanceMethod ({ cls := "com/example/tidemark/tidemark/RecencyList", name := "size", desc := "()J" } : Jvm.MethodName)).before a0 Z = true := hw _ (List.mem_of_getElem? (i := 91) rfl)
theorem wk92 {Z : State} {a0 : Array Value} (hw : ∀ d ∈ tables_1, d.before a0 Z = true) : (Jvm.Cond.selects "com/example/tidemark/tidemark/RecencyList" ({ cls := "com/example/tidemark/tidemark/RecencyList", name := "size", desc := "()J" } : Jvm.MethodName) ({ cls := "com/example/tidemark/tidemark/RecencyList", name := "size", desc := "()J" } : Jvm.MethodName)).before a0 Z = true := hw _ (List.mem_of_getElem? (i := 92) rfl)
theorem wk93 {Z : State} {a0 : Array Value} (hw : ∀ d ∈ tables_1, d.before a0 Z = true) : (Jvm.Cond.code ({ cls := "com/example/tidemark/tidemark/RecencyList", name := "size", desc := "()J" } : Jvm.MethodName) prog_41_method_4_code (1 : Nat) (Option.some Jvm.ClassFile.FieldType.long)).before a0 Z = true := hw _ (List.mem_of_getElem? (i := 93) rfl)
theorem wk94 {Z : State} {a0 : Array Value} (hw : ∀ d ∈ tables_1, d.before a0 Z = true) : (Jvm.Cond.methodLink "com/example/tidemark/tidemark/RecencyListAddNewestPinLaw" (51 : Nat) ({ cls := "com/example/tidemark/tidemark/RecencyList", name := "weight", desc := "()J" } : Jvm.MethodName)).before a0 Z = true := hw _ (List.mem_of_getElem? (i := 94) rfl)
theorem wk95 {Z : State} {a0 : Array Value} (hw : ∀ d ∈ tables_1, d.before a0 Z = true) : (Jvm.Cond.declares ({ cls := "com/example/tidemark/tidemark/RecencyList", name := "weight", desc := "()J" } : Jvm.MethodName)).before a0 Z = true := hw _ (List.mem_of_getElem? (i := 95) rfl)
theorem wk96 {Z : State} {a0 : Array Value} (hw : ∀ d ∈ tables_1, d.before a0 Z = true) : (Jvm.Cond.instanceMethod ({ cls := "com/example/tidemark/tidemark/RecencyList", name := "weight", desc := "()J" } : Jvm.MethodName)).before a0 Z = true := hw _ (List.mem_of_getElem? (i := 96) rfl)
theorem wk97 {Z : State} {a0 : Array Value} (hw : ∀ d ∈ tables_1, d.before a0 Z = true) : (Jvm.Cond.selects "com/example/tidemark/tidemark/RecencyList" ({ cls := "com/example/tidemark/tidemark/RecencyList", name := "weight", desc := "()J" } : Jvm.MethodName) ({ cls := "com/example/tidemark/tidemark/RecencyList", name := "weight", desc := "()J" } : Jvm.MethodName)).before a0 Z = true := hw _ (List.mem_of_getElem? (i := 97) rfl)
theorem wk98 {Z : State} {a0 : Array Value} (hw : ∀ d ∈ tables_1, d.before a0 Z = true) : (Jvm.Cond.code ({ cls := "com/example/tidemark/tidemark/RecencyList", name := "weight", desc := "()J" } : Jvm.MethodName) prog_41_method_5_code (1 : Nat) (Option.some Jvm.ClassFile.FieldType.long)).before a0 Z = true := hw _ (List.mem_of_getElem? (i := 98) rfl)
theorem wk99 {Z : State} {a0 : Array Value} (hw : ∀ d ∈ tables_1, d.before a0 Z = true) : (Jvm.Cond.methodLink "com/example/tidemark/tidemark/RecencyListAddNewestPinLaw" (54 : Nat) ({ cls := "com/example/tidemark/tidemark/RecencyList", name := "oldest", desc := "()Lcom/example/tidemark/tidemark/MemoryEntry;" } : Jvm.MethodName)).before a0 Z = true := hw _ (List.mem_of_getElem? (i := 99) rfl)
theorem wk100 {Z : State} {a0 : Array Value} (hw : ∀ d ∈ tables_1, d.before a0 Z = true) : (Jvm.Cond.declares ({ cls := "com/example/tidemark/tidemark/RecencyList", name := "oldest", desc := "()Lcom/example/tidemark/tidemark/MemoryEntry;" } : Jvm.MethodName)).before a0 Z = true := hw _ (List.mem_of_getElem? (i := 100) rfl)
theorem wk101 {Z : State} {a0 : Array Value} (hw : ∀ d ∈ tables_1, d.before a0 Z = true) : (Jvm.Cond.instanceMethod ({ cls := "com/example/tidemark/tidemark/RecencyList", name := "oldest", desc := "()Lcom/example/tidemark/tidemark/MemoryEntry;" } : Jvm.MethodName)).before a0 Z = true := hw _ (List.mem_of_getElem? (i := 101) rfl)
theorem wk102 {Z : State} {a0 : Array Value} (hw : ∀ d ∈ tables_1, d.before a0 Z = true) : (Jvm.Cond.selects "com/example/tidemark/tidemark/RecencyList" ({ cls := "com/example/tidemark/tidemark/RecencyList", name := "oldest", desc := "()Lcom/example/tidemark/tidemark/MemoryEntry;" } : Jvm.MethodName) ({ cls := "com/example/tidemark/tidemark/RecencyList", name := "oldest", desc := "()Lcom/example/tidemark/tidemark/MemoryEntry;" } : Jvm.MethodName)).before a0 Z = true := hw _ (List.mem_of_getElem? (i := 102) rfl)
theorem wk103 {Z : State} {a0 : Array Value} (hw : ∀ d ∈ tables_1, d.before a0 Z = true) : (Jvm.Cond.code ({ cls := "com/example/tidemark/tidemark/RecencyList", name := "oldest", desc := "()Lcom/example/tidemark/tidemark/MemoryEntry;" } : Jvm.MethodName) prog_41_method_2_code (1 : Nat) (Option.some (Jvm.ClassFile.FieldType.object "com/example/tidemark/tidemark/MemoryEntry"))).before a0 Z = true := hw _ (List.mem_of_getElem? (i := 103) rfl)
theorem wk104 {Z : State} {a0 : Array Value} (hw : ∀ d ∈ tables_1, d.before a0 Z = true) : (Jvm.Cond.constantLong "com/example/tidemark/tidemark/RecencyListAddNewestPinLaw" (45 : Nat) (3 : Int64)).before a0 Z = true := hw _ (List.mem_of_getElem? (i := 104) rfl)
theorem sn0 {Z : State} {a0 : Array Value} (hw : ∀ d ∈ tables_1, d.before a0 Z = true) : Jvm.RoadKit.slotOf Z "com/example/tidemark/tidemark/MemoryEntry" "key" "Ljava/lang/Object;" ≠ Jvm.RoadKit.slotOf Z "com/example/tidemark/tidemark/MemoryEntry" "slot" "I" := slot_ne (Or.inr (wk22 hw)) (Or.inl (wk20 hw)) (by decide) (t := (.object "java/lang/Object")) (t' := .int) (by decide) (by decide)
theorem sn1 {Z : State} {a0 : Array Value} (hw : ∀ d ∈ tables_1, d.before a0 Z = true) : Jvm.RoadKit.slotOf Z "com/example/tidemark/tidemark/MemoryEntry" "charge" "J" ≠ Jvm.RoadKit.slotOf Z "com/example/tidemark/tidemark/MemoryEntry" "slot" "I" := slot_ne (Or.inl (wk24 hw)) (Or.inl (wk20 hw)) (by decide) (t := .long) (t' := .int) (by decide) (by decide)
theorem sn2 {Z : State} {a0 : Array Value} (hw : ∀ d ∈ tables_1, d.before a0 Z = true) : Jvm.RoadKit.slotOf Z "com/example/tidemark/tidemark/MemoryEntry" "charge" "J" ≠ Jvm.RoadKit.slotOf Z "com/example/tidemark/tidemark/MemoryEntry" "key" "Ljava/lang/Object;" := slot_ne (Or.inl (wk24 hw)) (Or.inr (wk22 hw)) (by decide) (t := .long) (t' := (.object "java/lang/Object")) (by decide) (by decide)
theorem sn3 {Z : State} {a0 : Array Value} (hw : ∀ d ∈ tables_1, d.before a0 Z = true) : Jvm.RoadKit.slotOf Z "com/example/tidemark/tidemark/MemoryEntry" "expiry" "Lcom/example/tidemark/tidemark/Expiry;" ≠ Jvm.RoadKit.slotOf Z "com/example/tidemark/tidemark/MemoryEntry" "value" "Ljava/lang/Object;" := slot_ne (Or.inl (wk33 hw)) (Or.inl (wk31 hw)) (by decide) (t := (.object "com/example/tidemark/tidemark/Expiry")) (t' := (.object "java/lang/Object")) (by decide) (by decide)
theorem sn4 {Z : State} {a0 : Array Value} (hw : ∀ d ∈ tables_1, d.before a0 Z = true) : Jvm.RoadKit.slotOf Z "com/example/tidemark/tidemark/MemoryEntry" "lastUsed" "J" ≠ Jvm.RoadKit.slotOf Z "com/example/tidemark/tidemark/MemoryEntry" "created" "J" := slot_ne (Or.inl (wk42 hw)) (Or.inl (wk40 hw)) (by decide) (t := .long) (t' := .long) (by decide) (by decide)
theorem sn5 {Z : State} {a0 : Array Value} (hw : ∀ d ∈ tables_1, d.before a0 Z = true) : Jvm.RoadKit.slotOf Z "com/example/tidemark/tidemark/MemoryEntry" "created" "J" ≠ Jvm.RoadKit.slotOf Z "com/example/tidemark/tidemark/MemoryEntry" "lastUsed" "J" := slot_ne (Or.inl (wk40 hw)) (Or.inl (wk42 hw)) (by decide) (t := .long) (t' := .long) (by decide) (by decide)
theorem sn6 {Z : State} {a0 : Array Value} (hw : ∀ d ∈ tables_1, d.before a0 Z = true) : Jvm.RoadKit.slotOf Z "com/example/tidemark/tidemark/MemoryEntry" "created" "J" ≠ Jvm.RoadKit.slotOf Z "com/example/tidemark/tidemark/MemoryEntry" "value" "Ljava/lang/Object;" := slot_ne (Or.inl (wk40 hw)) (Or.inl (wk31 hw)) (by decide) (t := .long) (t' := (.object "java/lang/Object")) (by decide) (by decide)
theorem sn7 {Z : State} {a0 : Array Value} (hw : ∀ d ∈ tables_1, d.before a0 Z = true) : Jvm.RoadKit.slotOf Z "com/example/tidemark/tidemark/MemoryEntry" "created" "J" ≠ Jvm.RoadKit.slotOf Z "com/example/tidemark/tidemark/MemoryEntry" "expiry" "Lcom/example/tidemark/tidemark/Expiry;" := slot_ne (Or.inl (wk40 hw)) (Or.inl (wk33 hw)) (by decide) (t := .long) (t' := (.object "com/example/tidemark/tidemark/Expiry")) (by decide) (by decide)
theorem sn8 {Z : State} {a0 : Array Value} (hw : ∀ d ∈ tables_1, d.before a0 Z = true) : Jvm.RoadKit.slotOf Z "com/example/tidemark/tidemark/MemoryEntry" "lastUsed" "J" ≠ Jvm.RoadKit.slotOf Z "com/example/tidemark/tidemark/MemoryEntry" "value" "Ljava/lang/Object;" := slot_ne (Or.inl (wk42 hw)) (Or.inl (wk31 hw)) (by decide) (t := .long) (t' := (.object "java/lang/Object")) (by decide) (by decide)
theorem sn9 {Z : State} {a0 : Array Value} (hw : ∀ d ∈ tables_1, d.before a0 Z = true) : Jvm.RoadKit.slotOf Z "com/example/tidemark/tidemark/MemoryEntry" "lastUsed" "J" ≠ Jvm.RoadKit.slotOf Z "com/example/tidemark/tidemark/MemoryEntry" "expiry" "Lcom/example/tidemark/tidemark/Expiry;" := slot_ne (Or.inl (wk42 hw)) (Or.inl (wk33 hw)) (by decide) (t := .long) (t' := (.object "com/example/tidemark/tidemark/Expiry")) (by decide) (by decide)
theorem sn10 {Z : State} {a0 : Array Value} (hw : ∀ d ∈ tables_1, d.before a0 Z = true) : Jvm.RoadKit.slotOf Z "com/example/tidemark/tidemark/MemoryEntry" "expiry" "Lcom/example/tidemark/tidemark/Expiry;" ≠ Jvm.RoadKit.slotOf Z "com/example/tidemark/tidemark/MemoryEntry" "lastUsed" "J" := slot_ne (Or.inl (wk33 hw)) (Or.inl (wk42 hw)) (by decide) (t := (.object "com/example/tidemark/tidemark/Expiry")) (t' := .long) (by decide) (by decide)
theorem sn11 {Z : State} {a0 : Array Value} (hw : ∀ d ∈ tables_1, d.before a0 Z = true) : Jvm.RoadKit.slotOf Z "com/example/tidemark/tidemark/MemoryEntry" "expiry" "Lcom/example/tidemark/tidemark/Expiry;" ≠ Jvm.RoadKit.slotOf Z "com/example/tidemark/tidemark/MemoryEntry" "created" "J" := slot_ne (Or.inl (wk33 hw)) (Or.inl (wk40 hw)) (by decide) (t := (.object "com/example/tidemark/tidemark/Expiry")) (t' := .long) (by decide) (by decide)
theorem sn12 {Z : State} {a0 : Array Value} (hw : ∀ d ∈ tables_1, d.before a0 Z = true) : Jvm.RoadKit.slotOf Z "com/example/tidemark/tidemark/MemoryEntry" "lockFreeValue" "Ljava/lang/Object;" ≠ Jvm.RoadKit.slotOf Z "com/example/tidemark/tidemark/MemoryEntry" "value" "Ljava/lang/Object;" := slot_ne (Or.inl (wk54 hw)) (Or.inl (wk31 hw)) (by decide) (t := (.object "java/lang/Object")) (t' := (.object "java/lang/Object")) (by decide) (by decide)
theorem sn13 {Z : State} {a0 : Array Value} (hw : ∀ d ∈ tables_1, d.before a0 Z = true) : Jvm.RoadKit.slotOf Z "com/example/tidemark/tidemark/MemoryEntry" "lockFreeValue" "Ljava/lang/Object;" ≠ Jvm.RoadKit.slotOf Z "com/example/tidemark/tidemark/MemoryEntry" "expiry" "Lcom/example/tidemark/tidemark/Expiry;" := slot_ne (Or.inl (wk54 hw)) (Or.inl (wk33 hw)) (by decide) (t := (.object "java/lang/Object")) (t' := (.object "com/example/tidemark/tidemark/Expiry")) (by decide) (by decide)
theorem sn14 {Z : State} {a0 : Array Value} (hw : ∀ d ∈ tables_1, d.before a0 Z = true) : Jvm.RoadKit.slotOf Z "com/example/tidemark/tidemark/MemoryEntry" "lockFreeValue" "Ljava/lang/Object;" ≠ Jvm.RoadKit.slotOf Z "com/example/tidemark/tidemark/MemoryEntry" "lastUsed" "J" := slot_ne (Or.inl (wk54 hw)) (Or.inl (wk42 hw)) (by decide) (t := (.object "java/lang/Object")) (t' := .long) (by decide) (by decide)
theorem sn15 {Z : State} {a0 : Array Value} (hw : ∀ d ∈ tables_1, d.before a0 Z = true) : Jvm.RoadKit.slotOf Z "com/example/tidemark/tidemark/MemoryEntry" "lockFreeValue" "Ljava/lang/Object;" ≠ Jvm.RoadKit.slotOf Z "com/example/tidemark/tidemark/MemoryEntry" "created" "J" := slot_ne (Or.inl (wk54 hw)) (Or.inl (wk40 hw)) (by decide) (t := (.object "java/lang/Object")) (t' := .long) (by decide) (by decide)
theorem sn16 {Z : State} {a0 : Array Value} (hw : ∀ d ∈ tables_1, d.before a0 Z = true) : Jvm.RoadKit.slotOf Z "com/example/tidemark/tidemark/MemoryEntry" "value" "Ljava/lang/Object;" ≠ Jvm.RoadKit.slotOf Z "com/example/tidemark/tidemark/MemoryEntry" "expiry" "Lcom/example/tidemark/tidemark/Expiry;" := slot_ne (Or.inl (wk31 hw)) (Or.inl (wk33 hw)) (by decide) (t := (.object "java/lang/Object")) (t' := (.object "com/example/tidemark/tidemark/Expiry")) (by decide) (by decide)
theorem sn17 {Z : State} {a0 : Array Value} (hw : ∀ d ∈ tables_1, d.before a0 Z = true) : Jvm.RoadKit.slotOf Z "com/example/tidemark/tidemark/MemoryEntry" "value" "Ljava/lang/Object;" ≠ Jvm.RoadKit.slotOf Z "com/example/tidemark/tidemark/MemoryEntry" "lastUsed" "J" := slot_ne (Or.inl (wk31 hw)) (Or.inl (wk42 hw)) (by decide) (t := (.object "java/lang/Object")) (t' := .long) (by decide) (by decide)
theorem sn18 {Z : State} {a0 : Array Value} (hw : ∀ d ∈ tables_1, d.before a0 Z = true) : Jvm.RoadKit.slotOf Z "com/example/tidemark/tidemark/MemoryEntry" "value" "Ljava/lang/Object;" ≠ Jvm.RoadKit.slotOf Z "com/example/tidemark/tidemark/MemoryEntry" "created" "J" := slot_ne (Or.inl (wk31 hw)) (Or.inl (wk40 hw)) (by decide) (t := (.object "java/lang/Object")) (t' := .long) (by decide) (by decide)
theorem sn19 {Z : State} {a0 : Array Value} (hw : ∀ d ∈ tables_1, d.before a0 Z = true) : Jvm.RoadKit.slotOf Z "com/example/tidemark/tidemark/MemoryEntry" "value" "Ljava/lang/Object;" ≠ Jvm.RoadKit.slotOf Z "com/example/tidemark/tidemark/MemoryEntry" "lockFreeValue" "Ljava/lang/Object;" := slot_ne (Or.inl (wk31 hw)) (Or.inl (wk54 hw)) (by decide) (t := (.object "java/lang/Object")) (t' := (.object "java/lang/Object")) (by decide) (by decide)
theorem sn20 {Z : State} {a0 : Array Value} (hw : ∀ d ∈ tables_1, d.before a0 Z = true) : Jvm.RoadKit.slotOf Z "com/example/tidemark/tidemark/MemoryEntry" "expiry" "Lcom/example/tidemark/tidemark/Expiry;" ≠ Jvm.RoadKit.slotOf Z "com/example/tidemark/tidemark/MemoryEntry" "lockFreeValue" "Ljava/lang/Object;" := slot_ne (Or.inl (wk33 hw)) (Or.inl (wk54 hw)) (by decide) (t := (.object "com/example/tidemark/tidemark/Expiry")) (t' := (.object "java/lang/Object")) (by decide) (by decide)
theorem sn21 {Z : State} {a0 : Array Value} (hw : ∀ d ∈ tables_1, d.before a0 Z = true) : Jvm.RoadKit.slotOf Z "com/example/tidemark/tidemark/MemoryEntry" "created" "J" ≠ Jvm.RoadKit.slotOf Z "com/example/tidemark/tidemark/MemoryEntry" "lockFreeValue" "Ljava/lang/Object;" := slot_ne (Or.inl (wk40 hw)) (Or.inl (wk54 hw)) (by decide) (t := .long) (t' := (.object "java/lang/Object")) (by decide) (by decide)
theorem sn22 {Z : State} {a0 : Array Value} (hw : ∀ d ∈ tables_1, d.before a0 Z = true) : Jvm.RoadKit.slotOf Z "com/example/tidemark/tidemark/MemoryEntry" "lastUsed" "J" ≠ Jvm.RoadKit.slotOf Z "com/example/tidemark/tidemark/MemoryEntry" "lockFreeValue" "Ljava/lang/Object;" := slot_ne (Or.inl (wk42 hw)) (Or.inl (wk54 hw)) (by decide) (t := .long) (t' := (.object "java/lang/Object")) (by decide) (by decide)
theorem sn23 {Z : State} {a0 : Array Value} (hw : ∀ d ∈ tables_1, d.before a0 Z = true) : Jvm.RoadKit.slotOf Z "com/example/tidemark/tidemark/MemoryEntry" "value" "Ljava/lang/Object;" ≠ Jvm.RoadKit.slotOf Z "com/example/tidemark/tidemark/MemoryEntry" "slot" "I" := slot_ne (Or.inl (wk31 hw)) (Or.inl (wk20 hw)) (by decide) (t := (.object "java/lang/Object")) (t' := .int) (by decide) (by decide)
theorem sn24 {Z : State} {a0 : Array Value} (hw : ∀ d ∈ tables_1, d.before a0 Z = true) : Jvm.RoadKit.slotOf Z "com/example/tidemark/tidemark/MemoryEntry" "value" "Ljava/lang/Object;" ≠ Jvm.RoadKit.slotOf Z "com/example/tidemark/tidemark/MemoryEntry" "key" "Ljava/lang/Object;" := slot_ne (Or.inl (wk31 hw)) (Or.inr (wk22 hw)) (by decide) (t := (.object "java/lang/Object")) (t' := (.object "java/lang/Object")) (by decide) (by decide)
theorem sn25 {Z : State} {a0 : Array Value} (hw : ∀ d ∈ tables_1, d.before a0 Z = true) : Jvm.RoadKit.slotOf Z "com/example/tidemark/tidemark/MemoryEntry" "value" "Ljava/lang/Object;" ≠ Jvm.RoadKit.slotOf Z "com/example/tidemark/tidemark/MemoryEntry" "charge" "J" := slot_ne (Or.inl (wk31 hw)) (Or.inl (wk24 hw)) (by decide) (t := (.object "java/lang/Object")) (t' := .long) (by decide) (by decide)
theorem sn26 {Z : State} {a0 : Array Value} (hw : ∀ d ∈ tables_1, d.before a0 Z = true) : Jvm.RoadKit.slotOf Z "com/example/tidemark/tidemark/MemoryEntry" "expiry" "Lcom/example/tidemark/tidemark/Expiry;" ≠ Jvm.RoadKit.slotOf Z "com/example/tidemark/tidemark/MemoryEntry" "slot" "I" := slot_ne (Or.inl (wk33 hw)) (Or.inl (wk20 hw)) (by decide) (t := (.object "com/example/tidemark/tidemark/Expiry")) (t' := .int) (by decide) (by decide)
theorem sn27 {Z : State} {a0 : Array Value} (hw : ∀ d ∈ tables_1, d.before a0 Z = true) : Jvm.RoadKit.slotOf Z "com/example/tidemark/tidemark/MemoryEntry" "expiry" "Lcom/example/tidemark/tidemark/Expiry;" ≠ Jvm.RoadKit.slotOf Z "com/example/tidemark/tidemark/MemoryEntry" "key" "Ljava/lang/Object;" := slot_ne (Or.inl (wk33 hw)) (Or.inr (wk22 hw)) (by decide) (t := (.object "com/example/tidemark/tidemark/Expiry")) (t' := (.object "java/lang/Object")) (by decide) (by decide)
theorem sn28 {Z : State} {a0 : Array Value} (hw : ∀ d ∈ tables_1, d.before a0 Z = true) : Jvm.RoadKit.slotOf Z "com/example/tidemark/tidemark/MemoryEntry" "expiry" "Lcom/example/tidemark/tidemark/Expiry;" ≠ Jvm.RoadKit.slotOf Z "com/example/tidemark/tidemark/MemoryEntry" "charge" "J" := slot_ne (Or.inl (wk33 hw)) (Or.inl (wk24 hw)) (by decide) (t := (.object "com/example/tidemark/tidemark/Expiry")) (t' := .long) (by decide) (by decide)
theorem sn29 {Z : State} {a0 : Array Value} (hw : ∀ d ∈ tables_1, d.before a0 Z = true) : Jvm.RoadKit.slotOf Z "com/example/tidemark/tidemark/MemoryEntry" "created" "J" ≠ Jvm.RoadKit.slotOf Z "com/example/tidemark/tidemark/MemoryEntry" "slot" "I" := slot_ne (Or.inl (wk40 hw)) (Or.inl (wk20 hw)) (by decide) (t := .long) (t' := .int) (by decide) (by decide)
theorem sn30 {Z : State} {a0 : Array Value} (hw : ∀ d ∈ tables_1, d.before a0 Z = true) : Jvm.RoadKit.slotOf Z "com/example/tidemark/tidemark/MemoryEntry" "created" "J" ≠ Jvm.RoadKit.slotOf Z "com/example/tidemark/tidemark/MemoryEntry" "key" "Ljava/lang/Object;" := slot_ne (Or.inl (wk40 hw)) (Or.inr (wk22 hw)) (by decide) (t := .long) (t' := (.object "java/lang/Object")) (by decide) (by decide)
theorem sn31 {Z : State} {a0 : Array Value} (hw : ∀ d ∈ tables_1, d.before a0 Z = true) : Jvm.RoadKit.slotOf Z "com/example/tidemark/tidemark/MemoryEntry" "created" "J" ≠ Jvm.RoadKit.slotOf Z "com/example/tidemark/tidemark/MemoryEntry" "charge" "J" := slot_ne (Or.inl (wk40 hw)) (Or.inl (wk24 hw)) (by decide) (t := .long) (t' := .long) (by decide) (by decide)
theorem sn32 {Z : State} {a0 : Array Value} (hw : ∀ d ∈ tables_1, d.before a0 Z = true) : Jvm.RoadKit.slotOf Z "com/example/tidemark/tidemark/MemoryEntry" "lastUsed" "J" ≠ Jvm.RoadKit.slotOf Z "com/example/tidemark/tidemark/MemoryEntry" "slot" "I" := slot_ne (Or.inl (wk42 hw)) (Or.inl (wk20 hw)) (by decide) (t := .long) (t' := .int) (by decide) (by decide)
theorem sn33 {Z : State} {a0 : Array Value} (hw : ∀ d ∈ tables_1, d.before a0 Z = true) : Jvm.RoadKit.slotOf Z "com/example/tidemark/tidemark/MemoryEntry" "lastUsed" "J" ≠ Jvm.RoadKit.slotOf Z "com/example/tidemark/tidemark/MemoryEntry" "key" "Ljava/lang/Object;" := slot_ne (Or.inl (wk42 hw)) (Or.inr (wk22 hw)) (by decide) (t := .long) (t' := (.object "java/lang/Object")) (by decide) (by decide)
theorem sn34 {Z : State} {a0 : Array Value} (hw : ∀ d ∈ tables_1, d.before a0 Z = true) : Jvm.RoadKit.slotOf Z "com/example/tidemark/tidemark/MemoryEntry" "lastUsed" "J" ≠ Jvm.RoadKit.slotOf Z "com/example/tidemark/tidemark/MemoryEntry" "charge" "J" := slot_ne (Or.inl (wk42 hw)) (Or.inl (wk24 hw)) (by decide) (t := .long) (t' := .long) (by decide) (by decide)
theorem sn35 {Z : State} {a0 : Array Value} (hw : ∀ d ∈ tables_1, d.before a0 Z = true) : Jvm.RoadKit.slotOf Z "com/example/tidemark/tidemark/MemoryEntry" "lockFreeValue" "Ljava/lang/Object;" ≠ Jvm.RoadKit.slotOf Z "com/example/tidemark/tidemark/MemoryEntry" "slot" "I" := slot_ne (Or.inl (wk54 hw)) (Or.inl (wk20 hw)) (by decide) (t := (.object "java/lang/Object")) (t' := .int) (by decide) (by decide)
theorem sn36 {Z : State} {a0 : Array Value} (hw : ∀ d ∈ tables_1, d.before a0 Z = true) : Jvm.RoadKit.slotOf Z "com/example/tidemark/tidemark/MemoryEntry" "lockFreeValue" "Ljava/lang/Object;" ≠ Jvm.RoadKit.slotOf Z "com/example/tidemark/tidemark/MemoryEntry" "key" "Ljava/lang/Object;" := slot_ne (Or.inl (wk54 hw)) (Or.inr (wk22 hw)) (by decide) (t := (.object "java/lang/Object")) (t' := (.object "java/lang/Object")) (by decide) (by decide)
theorem sn37 {Z : State} {a0 : Array Value} (hw : ∀ d ∈ tables_1, d.before a0 Z = true) : Jvm.RoadKit.slotOf Z "com/example/tidemark/tidemark/MemoryEntry" "lockFreeValue" "Ljava/lang/Object;" ≠ Jvm.RoadKit.slotOf Z "com/example/tidemark/tidemark/MemoryEntry" "charge" "J" := slot_ne (Or.inl (wk54 hw)) (Or.inl (wk24 hw)) (by decide) (t := (.object "java/lang/Object")) (t' := .long) (by decide) (by decide)
theorem sn38 {Z : State} {a0 : Array Value} (hw : ∀ d ∈ tables_1, d.before a0 Z = true) : Jvm.RoadKit.slotOf Z "com/example/tidemark/tidemark/MemoryEntry" "slot" "I" ≠ Jvm.RoadKit.slotOf Z "com/example/tidemark/tidemark/MemoryEntry" "key" "Ljava/lang/Object;" := slot_ne (Or.inl (wk20 hw)) (Or.inr (wk22 hw)) (by decide) (t := .int) (t' := (.object "java/lang/Object")) (by decide) (by decide)
theorem sn39 {Z : State} {a0 : Array Value} (hw : ∀ d ∈ tables_1, d.before a0 Z = true) : Jvm.RoadKit.slotOf Z "com/example/tidemark/tidemark/MemoryEntry" "slot" "I" ≠ Jvm.RoadKit.slotOf Z "com/example/tidemark/tidemark/MemoryEntry" "charge" "J" := slot_ne (Or.inl (wk20 hw)) (Or.inl (wk24 hw)) (by decide) (t := .int) (t' := .long) (by decide) (by decide)
theorem sn40 {Z : State} {a0 : Array Value} (hw : ∀ d ∈ tables_1, d.before a0 Z = true) : Jvm.RoadKit.slotOf Z "com/example/tidemark/tidemark/MemoryEntry" "slot" "I" ≠ Jvm.RoadKit.slotOf Z "com/example/tidemark/tidemark/MemoryEntry" "lockFreeValue" "Ljava/lang/Object;" := slot_ne (Or.inl (wk20 hw)) (Or.inl (wk54 hw)) (by decide) (t := .int) (t' := (.object "java/lang/Object")) (by decide) (by decide)
theorem sn41 {Z : State} {a0 : Array Value} (hw : ∀ d ∈ tables_1, d.before a0 Z = true) : Jvm.RoadKit.slotOf Z "com/example/tidemark/tidemark/MemoryEntry" "slot" "I" ≠ Jvm.RoadKit.slotOf Z "com/example/tidemark/tidemark/MemoryEntry" "lastUsed" "J" := slot_ne (Or.inl (wk20 hw)) (Or.inl (wk42 hw)) (by decide) (t := .int) (t' := .long) (by decide) (by decide)
theorem sn42 {Z : State} {a0 : Array Value} (hw : ∀ d ∈ tables_1, d.before a0 Z = true) : Jvm.RoadKit.slotOf Z "com/example/tidemark/tidemark/MemoryEntry" "slot" "I" ≠ Jvm.RoadKit.slotOf Z "com/example/tidemark/tidemark/MemoryEntry" "created" "J" := slot_ne (Or.inl (wk20 hw)) (Or.inl (wk40 hw)) (by decide) (t := .int) (t' := .long) (by decide) (by decide)
theorem sn43 {Z : State} {a0 : Array Value} (hw : ∀ d ∈ tables_1, d.before a0 Z = true) : Jvm.RoadKit.slotOf Z "com/example/tidemark/tidemark/MemoryEntry" "slot" "I" ≠ Jvm.RoadKit.slotOf Z "com/example/tidemark/tidemark/MemoryEntry" "expiry" "Lcom/example/tidemark/tidemark/Expiry;" := slot_ne (Or.inl (wk20 hw)) (Or.inl (wk33 hw)) (by decide) (t := .int) (t' := (.object "com/example/tidemark/tidemark/Expiry")) (by decide) (by decide)
theorem sn44 {Z : State} {a0 : Array Value} (hw : ∀ d ∈ tables_1, d.before a0 Z = true) : Jvm.RoadKit.slotOf Z "com/example/tidemark/tidemark/MemoryEntry" "slot" "I" ≠ Jvm.RoadKit.slotOf Z "com/example/tidemark/tidemark/MemoryEntry" "value" "Ljava/lang/Object;" := slot_ne (Or.inl (wk20 hw)) (Or.inl (wk31 hw)) (by decide) (t := .int) (t' := (.object "java/lang/Object")) (by decide) (by decide)
theorem sn45 {Z : State} {a0 : Array Value} (hw : ∀ d ∈ tables_1, d.before a0 Z = true) : Jvm.RoadKit.slotOf Z "com/example/tidemark/tidemark/MemoryEntry" "key" "Ljava/lang/Object;" ≠ Jvm.RoadKit.slotOf Z "com/example/tidemark/tidemark/MemoryEntry" "charge" "J" := slot_ne (Or.inr (wk22 hw)) (Or.inl (wk24 hw)) (by decide) (t := (.object "java/lang/Object")) (t' := .long) (by decide) (by decide)
theorem sn46 {Z : State} {a0 : Array Value} (hw : ∀ d ∈ tables_1, d.before a0 Z = true) : Jvm.RoadKit.slotOf Z "com/example/tidemark/tidemark/MemoryEntry" "key" "Ljava/lang/Object;" ≠ Jvm.RoadKit.slotOf Z "com/example/tidemark/tidemark/MemoryEntry" "lockFreeValue" "Ljava/lang/Object;" := slot_ne (Or.inr (wk22 hw)) (Or.inl (wk54 hw)) (by decide) (t := (.object "java/lang/Object")) (t' := (.object "java/lang/Object")) (by decide) (by decide)
theorem sn47 {Z : State} {a0 : Array Value} (hw : ∀ d ∈ tables_1, d.before a0 Z = true) : Jvm.RoadKit.slotOf Z "com/example/tidemark/tidemark/MemoryEntry" "key" "Ljava/lang/Object;" ≠ Jvm.RoadKit.slotOf Z "com/example/tidemark/tidemark/MemoryEntry" "lastUsed" "J" := slot_ne (Or.inr (wk22 hw)) (Or.inl (wk42 hw)) (by decide) (t := (.object "java/lang/Object")) (t' := .long) (by decide) (by decide)
theorem sn48 {Z : State} {a0 : Array Value} (hw : ∀ d ∈ tables_1, d.before a0 Z = true) : Jvm.RoadKit.slotOf Z "com/example/tidemark/tidemark/MemoryEntry" "key" "Ljava/lang/Object;" ≠ Jvm.RoadKit.slotOf Z "com/example/tidemark/tidemark/MemoryEntry" "created" "J" := slot_ne (Or.inr (wk22 hw)) (Or.inl (wk40 hw)) (by decide) (t := (.object "java/lang/Object")) (t' := .long) (by decide) (by decide)
theorem sn49 {Z : State} {a0 : Array Value} (hw : ∀ d ∈ tables_1, d.before a0 Z = true) : Jvm.RoadKit.slotOf Z "com/example/tidemark/tidemark/MemoryEntry" "key" "Ljava/lang/Object;" ≠ Jvm.RoadKit.slotOf Z "com/example/tidemark/tidemark/MemoryEntry" "expiry" "Lcom/example/tidemark/tidemark/Expiry;" := slot_ne (Or.inr (wk22 hw)) (Or.inl (wk33 hw)) (by decide) (t := (.object "java/lang/Object")) (t' := (.object "com/example/tidemark/tidemark/Expiry")) (by decide) (by decide)
theorem sn50 {Z : State} {a0 : Array Value} (hw : ∀ d ∈ tables_1, d.before a0 Z = true) : Jvm.RoadKit.slotOf Z "com/example/tidemark/tidemark/MemoryEntry" "key" "Ljava/lang/Object;" ≠ Jvm.RoadKit.slotOf Z "com/example/tidemark/tidemark/MemoryEntry" "value" "Ljava/lang/Object;" := slot_ne (Or.inr (wk22 hw)) (Or.inl (wk31 hw)) (by decide) (t := (.object "java/lang/Object")) (t' := (.object "java/lang/Object")) (by decide) (by decide)
theorem sn51 {Z : State} {a0 : Array Value} (hw : ∀ d ∈ tables_1, d.before a0 Z = true) : Jvm.RoadKit.slotOf Z "com/example/tidemark/tidemark/MemoryEntry" "charge" "J" ≠ Jvm.RoadKit.slotOf Z "com/example/tidemark/tidemark/MemoryEntry" "lockFreeValue" "Ljava/lang/Object;" := slot_ne (Or.inl (wk24 hw)) (Or.inl (wk54 hw)) (by decide) (t := .long) (t' := (.object "java/lang/Object")) (by decide) (by decide)
theorem sn52 {Z : State} {a0 : Array Value} (hw : ∀ d ∈ tables_1, d.before a0 Z = true) : Jvm.RoadKit.slotOf Z "com/example/tidemark/tidemark/MemoryEntry" "charge" "J" ≠ Jvm.RoadKit.slotOf Z "com/example/tidemark/tidemark/MemoryEntry" "lastUsed" "J" := slot_ne (Or.inl (wk24 hw)) (Or.inl (wk42 hw)) (by decide) (t := .long) (t' := .long) (by decide) (by decide)
theorem sn53 {Z : State} {a0 : Array Value} (hw : ∀ d ∈ tables_1, d.before a0 Z = true) : Jvm.RoadKit.slotOf Z "com/example/tidemark/tidemark/MemoryEntry" "charge" "J" ≠ Jvm.RoadKit.slotOf Z "com/example/tidemark/tidemark/MemoryEntry" "created" "J" := slot_ne (Or.inl (wk24 hw)) (Or.inl (wk40 hw)) (by decide) (t := .long) (t' := .long) (by decide) (by decide)
theorem sn54 {Z : State} {a0 : Array Value} (hw : ∀ d ∈ tables_1, d.before a0 Z = true) : Jvm.RoadKit.slotOf Z "com/example/tidemark/tidemark/MemoryEntry" "charge" "J" ≠ Jvm.RoadKit.slotOf Z "com/example/tidemark/tidemark/MemoryEntry" "expiry" "Lcom/example/tidemark/tidemark/Expiry;" := slot_ne (Or.inl (wk24 hw)) (Or.inl (wk33 hw)) (by decide) (t := .long) (t' := (.object "com/example/tidemark/tidemark/Expiry")) (by decide) (by decide)
theorem sn55 {Z : State} {a0 : Array Value} (hw : ∀ d ∈ tables_1, d.before a0 Z = true) : Jvm.RoadKit.slotOf Z "com/example/tidemark/tidemark/MemoryEntry" "charge" "J" ≠ Jvm.RoadKit.slotOf Z "com/example/tidemark/tidemark/MemoryEntry" "value" "Ljava/lang/Object;" := slot_ne (Or.inl (wk24 hw)) (Or.inl (wk31 hw)) (by decide) (t := .long) (t' := (.object "java/lang/Object")) (by decide) (by decide)
theorem sn56 {Z : State} {a0 : Array Value} (hw : ∀ d ∈ tables_1, d.before a0 Z = true) : Jvm.RoadKit.slotOf Z "com/example/tidemark/tidemark/MemoryEntry" "list" "Lcom/example/tidemark/tidemark/RecencyList;" ≠ Jvm.RoadKit.slotOf Z "com/example/tidemark/tidemark/MemoryEntry" "stamp" "J" := slot_ne (Or.inl (wk65 hw)) (Or.inl (wk63 hw)) (by decide) (t := (.object "com/example/tidemark/tidemark/RecencyList")) (t' := .long) (by decide) (by decide)
theorem sn57 {Z : State} {a0 : Array Value} (hw : ∀ d ∈ tables_1, d.before a0 Z = true) : Jvm.RoadKit.slotOf Z "com/example/tidemark/tidemark/RecencyList" "newest" "Lcom/example/tidemark/tidemark/MemoryEntry;" ≠ Jvm.RoadKit.slotOf Z "com/example/tidemark/tidemark/RecencyList" "stamps" "J" := slot_ne (Or.inl (wk67 hw)) (Or.inl (wk61 hw)) (by decide) (t := (.object "com/example/tidemark/tidemark/MemoryEntry")) (t' := .long) (by decide) (by decide)
theorem sn58 {Z : State} {a0 : Array Value} (hw : ∀ d ∈ tables_1, d.before a0 Z = true) : Jvm.RoadKit.slotOf Z "com/example/tidemark/tidemark/MemoryEntry" "older" "Lcom/example/tidemark/tidemark/MemoryEntry;" ≠ Jvm.RoadKit.slotOf Z "com/example/tidemark/tidemark/MemoryEntry" "stamp" "J" := slot_ne (Or.inl (wk69 hw)) (Or.inl (wk63 hw)) (by decide) (t := (.object "com/example/tidemark/tidemark/MemoryEntry")) (t' := .long) (by decide) (by decide)
theorem sn59 {Z : State} {a0 : Array Value} (hw : ∀ d ∈ tables_1, d.before a0 Z = true) : Jvm.RoadKit.slotOf Z "com/example/tidemark/tidemark/MemoryEntry" "older" "Lcom/example/tidemark/tidemark/MemoryEntry;" ≠ Jvm.RoadKit.slotOf Z "com/example/tidemark/tidemark/MemoryEntry" "list" "Lcom/example/tidemark/tidemark/RecencyList;" := slot_ne (Or.inl (wk69 hw)) (Or.inl (wk65 hw)) (by decide) (t := (.object "com/example/tidemark/tidemark/MemoryEntry")) (t' := (.object "com/example/tidemark/tidemark/RecencyList")) (by decide) (by decide)
theorem sn60 {Z : State} {a0 : Array Value} (hw : ∀ d ∈ tables_1, d.before a0 Z = true) : Jvm.RoadKit.slotOf Z "com/example/tidemark/tidemark/MemoryEntry" "newer" "Lcom/example/tidemark/tidemark/MemoryEntry;" ≠ Jvm.RoadKit.slotOf Z "com/example/tidemark/tidemark/MemoryEntry" "stamp" "J" := slot_ne (Or.inl (wk71 hw)) (Or.inl (wk63 hw)) (by decide) (t := (.object "com/example/tidemark/tidemark/MemoryEntry")) (t' := .long) (by decide) (by decide)
theorem sn61 {Z : State} {a0 : Array Value} (hw : ∀ d ∈ tables_1, d.before a0 Z = true) : Jvm.RoadKit.slotOf Z "com/example/tidemark/tidemark/MemoryEntry" "newer" "Lcom/example/tidemark/tidemark/MemoryEntry;" ≠ Jvm.RoadKit.slotOf Z "com/example/tidemark/tidemark/MemoryEntry" "list" "Lcom/example/tidemark/tidemark/RecencyList;" := slot_ne (Or.inl (wk71 hw)) (Or.inl (wk65 hw)) (by decide) (t := (.object "com/example/tidemark/tidemark/MemoryEntry")) (t' := (.object "com/example/tidemark/tidemark/RecencyList")) (by decide) (by decide)
theorem sn62 {Z : State} {a0 : Array Value} (hw : ∀ d ∈ tables_1, d.before a0 Z = true) : Jvm.RoadKit.slotOf Z "com/example/tidemark/tidemark/MemoryEntry" "newer" "Lcom/example/tidemark/tidemark/MemoryEntry;" ≠ Jvm.RoadKit.slotOf Z "com/example/tidemark/tidemark/MemoryEntry" "older" "Lcom/example/tidemark/tidemark/MemoryEntry;" := slot_ne (Or.inl (wk71 hw)) (Or.inl (wk69 hw)) (by decide) (t := (.object "com/example/tidemark/tidemark/MemoryEntry")) (t' := (.object "com/example/tidemark/tidemark/MemoryEntry")) (by decide) (by decide)
theorem sn63 {Z : State} {a0 : Array Value} (hw : ∀ d ∈ tables_1, d.before a0 Z = true) : Jvm.RoadKit.slotOf Z "com/example/tidemark/tidemark/RecencyList" "oldest" "Lcom/example/tidemark/tidemark/MemoryEntry;" ≠ Jvm.RoadKit.slotOf Z "com/example/tidemark/tidemark/RecencyList" "stamps" "J" := slot_ne (Or.inl (wk73 hw)) (Or.inl (wk61 hw)) (by decide) (t := (.object "com/example/tidemark/tidemark/MemoryEntry")) (t' := .long) (by decide) (by decide)
theorem sn64 {Z : State} {a0 : Array Value} (hw : ∀ d ∈ tables_1, d.before a0 Z = true) : Jvm.RoadKit.slotOf Z "com/example/tidemark/tidemark/RecencyList" "newest" "Lcom/example/tidemark/tidemark/MemoryEntry;" ≠ Jvm.RoadKit.slotOf Z "com/example/tidemark/tidemark/RecencyList" "oldest" "Lcom/example/tidemark/tidemark/MemoryEntry;" := slot_ne (Or.inl (wk67 hw)) (Or.inl (wk73 hw)) (by decide) (t := (.object "com/example/tidemark/tidemark/MemoryEntry")) (t' := (.object "com/example/tidemark/tidemark/MemoryEntry")) (by decide) (by decide)
theorem sn65 {Z : State} {a0 : Array Value} (hw : ∀ d ∈ tables_1, d.before a0 Z = true) : Jvm.RoadKit.slotOf Z "com/example/tidemark/tidemark/RecencyList" "size" "J" ≠ Jvm.RoadKit.slotOf Z "com/example/tidemark/tidemark/RecencyList" "stamps" "J" := slot_ne (Or.inl (wk75 hw)) (Or.inl (wk61 hw)) (by decide) (t := .long) (t' := .long) (by decide) (by decide)
theorem sn66 {Z : State} {a0 : Array Value} (hw : ∀ d ∈ tables_1, d.before a0 Z = true) : Jvm.RoadKit.slotOf Z "com/example/tidemark/tidemark/RecencyList" "size" "J" ≠ Jvm.RoadKit.slotOf Z "com/example/tidemark/tidemark/RecencyList" "oldest" "Lcom/example/tidemark/tidemark/MemoryEntry;" := slot_ne (Or.inl (wk75 hw)) (Or.inl (wk73 hw)) (by decide) (t := .long) (t' := (.object "com/example/tidemark/tidemark/MemoryEntry")) (by decide) (by decide)
theorem sn67 {Z : State} {a0 : Array Value} (hw : ∀ d ∈ tables_1, d.before a0 Z = true) : Jvm.RoadKit.slotOf Z "com/example/tidemark/tidemark/RecencyList" "size" "J" ≠ Jvm.RoadKit.slotOf Z "com/example/tidemark/tidemark/RecencyList" "newest" "Lcom/example/tidemark/tidemark/MemoryEntry;" := slot_ne (Or.inl (wk75 hw)) (Or.inl (wk67 hw)) (by decide) (t := .long) (t' := (.object "com/example/tidemark/tidemark/MemoryEntry")) (by decide) (by decide)
theorem sn68 {Z : State} {a0 : Array Value} (hw : ∀ d ∈ tables_1, d.before a0 Z = true) : Jvm.RoadKit.slotOf Z "com/example/tidemark/tidemark/RecencyList" "weight" "J" ≠ Jvm.RoadKit.slotOf Z "com/example/tidemark/tidemark/RecencyList" "stamps" "J" := slot_ne (Or.inl (wk77 hw)) (Or.inl (wk61 hw)) (by decide) (t := .long) (t' := .long) (by decide) (by decide)
theorem sn69 {Z : State} {a0 : Array Value} (hw : ∀ d ∈ tables_1, d.before a0 Z = true) : Jvm.RoadKit.slotOf Z "com/example/tidemark/tidemark/RecencyList" "weight" "J" ≠ Jvm.RoadKit.slotOf Z "com/example/tidemark/tidemark/RecencyList" "oldest" "Lcom/example/tidemark/tidemark/MemoryEntry;" := slot_ne (Or.inl (wk77 hw)) (Or.inl (wk73 hw)) (by decide) (t := .long) (t' := (.object "com/example/tidemark/tidemark/MemoryEntry")) (by decide) (by decide)
theorem sn70 {Z : State} {a0 : Array Value} (hw : ∀ d ∈ tables_1, d.before a0 Z = true) : Jvm.RoadKit.slotOf Z "com/example/tidemark/tidemark/RecencyList" "weight" "J" ≠ Jvm.RoadKit.slotOf Z "com/example/tidemark/tidemark/RecencyList" "newest" "Lcom/example/tidemark/tidemark/MemoryEntry;" := slot_ne (Or.inl (wk77 hw)) (Or.inl (wk67 hw)) (by decide) (t := .long) (t' := (.object "com/example/tidemark/tidemark/MemoryEntry")) (by decide) (by decide)
theorem sn71 {Z : State} {a0 : Array Value} (hw : ∀ d ∈ tables_1, d.before a0 Z = true) : Jvm.RoadKit.slotOf Z "com/example/tidemark/tidemark/RecencyList" "weight" "J" ≠ Jvm.RoadKit.slotOf Z "com/example/tidemark/tidemark/RecencyList" "size" "J" := slot_ne (Or.inl (wk77 hw)) (Or.inl (wk75 hw)) (by decide) (t := .long) (t' := .long) (by decide) (by decide)
theorem sn72 {Z : State} {a0 : Array Value} (hw : ∀ d ∈ tables_1, d.before a0 Z = true) : Jvm.RoadKit.slotOf Z "com/example/tidemark/tidemark/MemoryEntry" "charge" "J" ≠ Jvm.RoadKit.slotOf Z "com/example/tidemark/tidemark/MemoryEntry" "stamp" "J" := slot_ne (Or.inl (wk24 hw)) (Or.inl (wk63 hw)) (by decide) (t := .long) (t' := .long) (by decide) (by decide)
theorem sn73 {Z : State} {a0 : Array Value} (hw : ∀ d ∈ tables_1, d.before a0 Z = true) : Jvm.RoadKit.slotOf Z "com/example/tidemark/tidemark/MemoryEntry" "charge" "J" ≠ Jvm.RoadKit.slotOf Z "com/example/tidemark/tidemark/MemoryEntry" "list" "Lcom/example/tidemark/tidemark/RecencyList;" := slot_ne (Or.inl (wk24 hw)) (Or.inl (wk65 hw)) (by decide) (t := .long) (t' := (.object "com/example/tidemark/tidemark/RecencyList")) (by decide) (by decide)
theorem sn74 {Z : State} {a0 : Array Value} (hw : ∀ d ∈ tables_1, d.before a0 Z = true) : Jvm.RoadKit.slotOf Z "com/example/tidemark/tidemark/MemoryEntry" "charge" "J" ≠ Jvm.RoadKit.slotOf Z "com/example/tidemark/tidemark/MemoryEntry" "older" "Lcom/example/tidemark/tidemark/MemoryEntry;" := slot_ne (Or.inl (wk24 hw)) (Or.inl (wk69 hw)) (by decide) (t := .long) (t' := (.object "com/example/tidemark/tidemark/MemoryEntry")) (by decide) (by decide)
theorem sn75 {Z : State} {a0 : Array Value} (hw : ∀ d ∈ tables_1, d.before a0 Z = true) : Jvm.RoadKit.slotOf Z "com/example/tidemark/tidemark/MemoryEntry" "charge" "J" ≠ Jvm.RoadKit.slotOf Z "com/example/tidemark/tidemark/MemoryEntry" "newer" "Lcom/example/tidemark/tidemark/MemoryEntry;" := slot_ne (Or.inl (wk24 hw)) (Or.inl (wk71 hw)) (by decide) (t := .long) (t' := (.object "com/example/tidemark/tidemark/MemoryEntry")) (by decide) (by decide)
theorem sn76 {Z : State} {a0 : Array Value} (hw : ∀ d ∈ tables_1, d.before a0 Z = true) : Jvm.RoadKit.slotOf Z "com/example/tidemark/tidemark/RecencyList" "stamps" "J" ≠ Jvm.RoadKit.slotOf Z "com/example/tidemark/tidemark/RecencyList" "oldest" "Lcom/example/tidemark/tidemark/MemoryEntry;" := slot_ne (Or.inl (wk61 hw)) (Or.inl (wk73 hw)) (by decide) (t := .long) (t' := (.object "com/example/tidemark/tidemark/MemoryEntry")) (by decide) (by decide)
theorem sn77 {Z : State} {a0 : Array Value} (hw : ∀ d ∈ tables_1, d.before a0 Z = true) : Jvm.RoadKit.slotOf Z "com/example/tidemark/tidemark/RecencyList" "stamps" "J" ≠ Jvm.RoadKit.slotOf Z "com/example/tidemark/tidemark/RecencyList" "newest" "Lcom/example/tidemark/tidemark/MemoryEntry;" := slot_ne (Or.inl (wk61 hw)) (Or.inl (wk67 hw)) (by decide) (t := .long) (t' := (.object "com/example/tidemark/tidemark/MemoryEntry")) (by decide) (by decide)
theorem sn78 {Z : State} {a0 : Array Value} (hw : ∀ d ∈ tables_1, d.before a0 Z = true) : Jvm.RoadKit.slotOf Z "com/example/tidemark/tidemark/RecencyList" "stamps" "J" ≠ Jvm.RoadKit.slotOf Z "com/example/tidemark/tidemark/RecencyList" "size" "J" := slot_ne (Or.inl (wk61 hw)) (Or.inl (wk75 hw)) (by decide) (t := .long) (t' := .long) (by decide) (by decide)
theorem sn79 {Z : State} {a0 : Array Value} (hw : ∀ d ∈ tables_1, d.before a0 Z = true) : Jvm.RoadKit.slotOf Z "com/example/tidemark/tidemark/RecencyList" "stamps" "J" ≠ Jvm.RoadKit.slotOf Z "com/example/tidemark/tidemark/RecencyList" "weight" "J" := slot_ne (Or.inl (wk61 hw)) (Or.inl (wk77 hw)) (by decide) (t := .long) (t' := .long) (by decide) (by decide)
theorem sn80 {Z : State} {a0 : Array Value} (hw : ∀ d ∈ tables_1, d.before a0 Z = true) : Jvm.RoadKit.slotOf Z "com/example/tidemark/tidemark/MemoryEntry" "stamp" "J" ≠ Jvm.RoadKit.slotOf Z "com/example/tidemark/tidemark/MemoryEntry" "list" "Lcom/example/tidemark/tidemark/RecencyList;" := slot_ne (Or.inl (wk63 hw)) (Or.inl (wk65 hw)) (by decide) (t := .long) (t' := (.object "com/example/tidemark/tidemark/RecencyList")) (by decide) (by decide)
theorem sn81 {Z : State} {a0 : Array Value} (hw : ∀ d ∈ tables_1, d.before a0 Z = true) : Jvm.RoadKit.slotOf Z "com/example/tidemark/tidemark/MemoryEntry" "stamp" "J" ≠ Jvm.RoadKit.slotOf Z "com/example/tidemark/tidemark/MemoryEntry" "older" "Lcom/example/tidemark/tidemark/MemoryEntry;" := slot_ne (Or.inl (wk63 hw)) (Or.inl (wk69 hw)) (by decide) (t := .long) (t' := (.object "com/example/tidemark/tidemark/MemoryEntry")) (by decide) (by decide)
theorem sn82 {Z : State} {a0 : Array Value} (hw : ∀ d ∈ tables_1, d.before a0 Z = true) : Jvm.RoadKit.slotOf Z "com/example/tidemark/tidemark/MemoryEntry" "stamp" "J" ≠ Jvm.RoadKit.slotOf Z "com/example/tidemark/tidemark/MemoryEntry" "newer" "Lcom/example/tidemark/tidemark/MemoryEntry;" := slot_ne (Or.inl (wk63 hw)) (Or.inl (wk71 hw)) (by decide) (t := .long) (t' := (.object "com/example/tidemark/tidemark/MemoryEntry")) (by decide) (by decide)
theorem sn83 {Z : State} {a0 : Array Value} (hw : ∀ d ∈ tables_1, d.before a0 Z = true) : Jvm.RoadKit.slotOf Z "com/example/tidemark/tidemark/MemoryEntry" "list" "Lcom/example/tidemark/tidemark/RecencyList;" ≠ Jvm.RoadKit.slotOf Z "com/example/tidemark/tidemark/MemoryEntry" "older" "Lcom/example/tidemark/tidemark/MemoryEntry;" := slot_ne (Or.inl (wk65 hw)) (Or.inl (wk69 hw)) (by decide) (t := (.object "com/example/tidemark/tidemark/RecencyList")) (t' := (.object "com/example/tidemark/tidemark/MemoryEntry")) (by decide) (by decide)
theorem sn84 {Z : State} {a0 : Array Value} (hw : ∀ d ∈ tables_1, d.before a0 Z = true) : Jvm.RoadKit.slotOf Z "com/example/tidemark/tidemark/MemoryEntry" "list" "Lcom/example/tidemark/tidemark/RecencyList;" ≠ Jvm.RoadKit.slotOf Z "com/example/tidemark/tidemark/MemoryEntry" "newer" "Lcom/example/tidemark/tidemark/MemoryEntry;" := slot_ne (Or.inl (wk65 hw)) (Or.inl (wk71 hw)) (by decide) (t := (.object "com/example/tidemark/tidemark/RecencyList")) (t' := (.object "com/example/tidemark/tidemark/MemoryEntry")) (by decide) (by decide)
theorem sn85 {Z : State} {a0 : Array Value} (hw : ∀ d ∈ tables_1, d.before a0 Z = true) : Jvm.RoadKit.slotOf Z "com/example/tidemark/tidemark/RecencyList" "newest" "Lcom/example/tidemark/tidemark/MemoryEntry;" ≠ Jvm.RoadKit.slotOf Z "com/example/tidemark/tidemark/RecencyList" "size" "J" := slot_ne (Or.inl (wk67 hw)) (Or.inl (wk75 hw)) (by decide) (t := (.object "com/example/tidemark/tidemark/MemoryEntry")) (t' := .long) (by decide) (by decide)
theorem sn86 {Z : State} {a0 : Array Value} (hw : ∀ d ∈ tables_1, d.before a0 Z = true) : Jvm.RoadKit.slotOf Z "com/example/tidemark/tidemark/RecencyList" "newest" "Lcom/example/tidemark/tidemark/MemoryEntry;" ≠ Jvm.RoadKit.slotOf Z "com/example/tidemark/tidemark/RecencyList" "weight" "J" := slot_ne (Or.inl (wk67 hw)) (Or.inl (wk77 hw)) (by decide) (t := (.object "com/example/tidemark/tidemark/MemoryEntry")) (t' := .long) (by decide) (by decide)
theorem sn87 {Z : State} {a0 : Array Value} (hw : ∀ d ∈ tables_1, d.before a0 Z = true) : Jvm.RoadKit.slotOf Z "com/example/tidemark/tidemark/MemoryEntry" "older" "Lcom/example/tidemark/tidemark/MemoryEntry;" ≠ Jvm.RoadKit.slotOf Z "com/example/tidemark/tidemark/MemoryEntry" "newer" "Lcom/example/tidemark/tidemark/MemoryEntry;" := slot_ne (Or.inl (wk69 hw)) (Or.inl (wk71 hw)) (by decide) (t := (.object "com/example/tidemark/tidemark/MemoryEntry")) (t' := (.object "com/example/tidemark/tidemark/MemoryEntry")) (by decide) (by decide)
theorem sn88 {Z : State} {a0 : Array Value} (hw : ∀ d ∈ tables_1, d.before a0 Z = true) : Jvm.RoadKit.slotOf Z "com/example/tidemark/tidemark/RecencyList" "oldest" "Lcom/example/tidemark/tidemark/MemoryEntry;" ≠ Jvm.RoadKit.slotOf Z "com/example/tidemark/tidemark/RecencyList" "newest" "Lcom/example/tidemark/tidemark/MemoryEntry;" := slot_ne (Or.inl (wk73 hw)) (Or.inl (wk67 hw)) (by decide) (t := (.object "com/example/tidemark/tidemark/MemoryEntry")) (t' := (.object "com/example/tidemark/tidemark/MemoryEntry")) (by decide) (by decide)
theorem sn89 {Z : State} {a0 : Array Value} (hw : ∀ d ∈ tables_1, d.before a0 Z = true) : Jvm.RoadKit.slotOf Z "com/example/tidemark/tidemark/RecencyList" "oldest" "Lcom/example/tidemark/tidemark/MemoryEntry;" ≠ Jvm.RoadKit.slotOf Z "com/example/tidemark/tidemark/RecencyList" "size" "J" := slot_ne (Or.inl (wk73 hw)) (Or.inl (wk75 hw)) (by decide) (t := (.object "com/example/tidemark/tidemark/MemoryEntry")) (t' := .long) (by decide) (by decide)
theorem sn90 {Z : State} {a0 : Array Value} (hw : ∀ d ∈ tables_1, d.before a0 Z = true) : Jvm.RoadKit.slotOf Z "com/example/tidemark/tidemark/RecencyList" "oldest" "Lcom/example/tidemark/tidemark/MemoryEntry;" ≠ Jvm.RoadKit.slotOf Z "com/example/tidemark/tidemark/RecencyList" "weight" "J" := slot_ne (Or.inl (wk73 hw)) (Or.inl (wk77 hw)) (by decide) (t := (.object "com/example/tidemark/tidemark/MemoryEntry")) (t' := .long) (by decide) (by decide)
theorem sn91 {Z : State} {a0 : Array Value} (hw : ∀ d ∈ tables_1, d.before a0 Z = true) : Jvm.RoadKit.slotOf Z "com/example/tidemark/tidemark/RecencyList" "size" "J" ≠ Jvm.RoadKit.slotOf Z "com/example/tidemark/tidemark/RecencyList" "weight" "J" := slot_ne (Or.inl (wk75 hw)) (Or.inl (wk77 hw)) (by decide) (t := .long) (t' := .long) (by decide) (by decide)
theorem sn92 {Z : State} {a0 : Array Value} (hw : ∀ d ∈ tables_1, d.before a0 Z = true) : Jvm.RoadKit.slotOf Z "com/example/tidemark/tidemark/MemoryEntry" "stamp" "J" ≠ Jvm.RoadKit.slotOf Z "com/example/tidemark/tidemark/MemoryEntry" "lockFreeValue" "Ljava/lang/Object;" := slot_ne (Or.inl (wk63 hw)) (Or.inl (wk54 hw)) (by decide) (t := .long) (t' := (.object "java/lang/Object")) (by decide) (by decide)
theorem sn93 {Z : State} {a0 : Array Value} (hw : ∀ d ∈ tables_1, d.before a0 Z = true) : Jvm.RoadKit.slotOf Z "com/example/tidemark/tidemark/MemoryEntry" "stamp" "J" ≠ Jvm.RoadKit.slotOf Z "com/example/tidemark/tidemark/MemoryEntry" "lastUsed" "J" := slot_ne (Or.inl (wk63 hw)) (Or.inl (wk42 hw)) (by decide) (t := .long) (t' := .long) (by decide) (by decide)
theorem sn94 {Z : State} {a0 : Array Value} (hw : ∀ d ∈ tables_1, d.before a0 Z = true) : Jvm.RoadKit.slotOf Z "com/example/tidemark/tidemark/MemoryEntry" "stamp" "J" ≠ Jvm.RoadKit.slotOf Z "com/example/tidemark/tidemark/MemoryEntry" "created" "J" := slot_ne (Or.inl (wk63 hw)) (Or.inl (wk40 hw)) (by decide) (t := .long) (t' := .long) (by decide) (by decide)
theorem sn95 {Z : State} {a0 : Array Value} (hw : ∀ d ∈ tables_1, d.before a0 Z = true) : Jvm.RoadKit.slotOf Z "com/example/tidemark/tidemark/MemoryEntry" "stamp" "J" ≠ Jvm.RoadKit.slotOf Z "com/example/tidemark/tidemark/MemoryEntry" "expiry" "Lcom/example/tidemark/tidemark/Expiry;" := slot_ne (Or.inl (wk63 hw)) (Or.inl (wk33 hw)) (by decide) (t := .long) (t' := (.object "com/example/tidemark/tidemark/Expiry")) (by decide) (by decide)
theorem sn96 {Z : State} {a0 : Array Value} (hw : ∀ d ∈ tables_1, d.before a0 Z = true) : Jvm.RoadKit.slotOf Z "com/example/tidemark/tidemark/MemoryEntry" "stamp" "J" ≠ Jvm.RoadKit.slotOf Z "com/example/tidemark/tidemark/MemoryEntry" "value" "Ljava/lang/Object;" := slot_ne (Or.inl (wk63 hw)) (Or.inl (wk31 hw)) (by decide) (t := .long) (t' := (.object "java/lang/Object")) (by decide) (by decide)
theorem sn97 {Z : State} {a0 : Array Value} (hw : ∀ d ∈ tables_1, d.before a0 Z = true) : Jvm.RoadKit.slotOf Z "com/example/tidemark/tidemark/MemoryEntry" "stamp" "J" ≠ Jvm.RoadKit.slotOf Z "com/example/tidemark/tidemark/MemoryEntry" "charge" "J" := slot_ne (Or.inl (wk63 hw)) (Or.inl (wk24 hw)) (by decide) (t := .long) (t' := .long) (by decide) (by decide)
theorem sn98 {Z : State} {a0 : Array Value} (hw : ∀ d ∈ tables_1, d.before a0 Z = true) : Jvm.RoadKit.slotOf Z "com/example/tidemark/tidemark/MemoryEntry" "stamp" "J" ≠ Jvm.RoadKit.slotOf Z "com/example/tidemark/tidemark/MemoryEntry" "key" "Ljava/lang/Object;" := slot_ne (Or.inl (wk63 hw)) (Or.inr (wk22 hw)) (by decide) (t := .long) (t' := (.object "java/lang/Object")) (by decide) (by decide)
theorem sn99 {Z : State} {a0 : Array Value} (hw : ∀ d ∈ tables_1, d.before a0 Z = true) : Jvm.RoadKit.slotOf Z "com/example/tidemark/tidemark/MemoryEntry" "stamp" "J" ≠ Jvm.RoadKit.slotOf Z "com/example/tidemark/tidemark/MemoryEntry" "slot" "I" := slot_ne (Or.inl (wk63 hw)) (Or.inl (wk20 hw)) (by decide) (t := .long) (t' := .int) (by decide) (by decide)
theorem sn100 {Z : State} {a0 : Array Value} (hw : ∀ d ∈ tables_1, d.before a0 Z = true) : Jvm.RoadKit.slotOf Z "com/example/tidemark/tidemark/MemoryEntry" "list" "Lcom/example/tidemark/tidemark/RecencyList;" ≠ Jvm.RoadKit.slotOf Z "com/example/tidemark/tidemark/MemoryEntry" "lockFreeValue" "Ljava/lang/Object;" := slot_ne (Or.inl (wk65 hw)) (Or.inl (wk54 hw)) (by decide) (t := (.object "com/example/tidemark/tidemark/RecencyList")) (t' := (.object "java/lang/Object")) (by decide) (by decide)
theorem sn101 {Z : State} {a0 : Array Value} (hw : ∀ d ∈ tables_1, d.before a0 Z = true) : Jvm.RoadKit.slotOf Z "com/example/tidemark/tidemark/MemoryEntry" "list" "Lcom/example/tidemark/tidemark/RecencyList;" ≠ Jvm.RoadKit.slotOf Z "com/example/tidemark/tidemark/MemoryEntry" "lastUsed" "J" := slot_ne (Or.inl (wk65 hw)) (Or.inl (wk42 hw)) (by decide) (t := (.object "com/example/tidemark/tidemark/RecencyList")) (t' := .long) (by decide) (by decide)
theorem sn102 {Z : State} {a0 : Array Value} (hw : ∀ d ∈ tables_1, d.before a0 Z = true) : Jvm.RoadKit.slotOf Z "com/example/tidemark/tidemark/MemoryEntry" "list" "Lcom/example/tidemark/tidemark/RecencyList;" ≠ Jvm.RoadKit.slotOf Z "com/example/tidemark/tidemark/MemoryEntry" "created" "J" := slot_ne (Or.inl (wk65 hw)) (Or.inl (wk40 hw)) (by decide) (t := (.object "com/example/tidemark/tidemark/RecencyList")) (t' := .long) (by decide) (by decide)
theorem sn103 {Z : State} {a0 : Array Value} (hw : ∀ d ∈ tables_1, d.before a0 Z = true) : Jvm.RoadKit.slotOf Z "com/example/tidemark/tidemark/MemoryEntry" "list" "Lcom/example/tidemark/tidemark/RecencyList;" ≠ Jvm.RoadKit.slotOf Z "com/example/tidemark/tidemark/MemoryEntry" "expiry" "Lcom/example/tidemark/tidemark/Expiry;" := slot_ne (Or.inl (wk65 hw)) (Or.inl (wk33 hw)) (by decide) (t := (.object "com/example/tidemark/tidemark/RecencyList")) (t' := (.object "com/example/tidemark/tidemark/Expiry")) (by decide) (by decide)
theorem sn104 {Z : State} {a0 : Array Value} (hw : ∀ d ∈ tables_1, d.before a0 Z = true) : Jvm.RoadKit.slotOf Z "com/example/tidemark/tidemark/MemoryEntry" "list" "Lcom/example/tidemark/tidemark/RecencyList;" ≠ Jvm.RoadKit.slotOf Z "com/example/tidemark/tidemark/MemoryEntry" "value" "Ljava/lang/Object;" := slot_ne (Or.inl (wk65 hw)) (Or.inl (wk31 hw)) (by decide) (t := (.object "com/example/tidemark/tidemark/RecencyList")) (t' := (.object "java/lang/Object")) (by decide) (by decide)
theorem sn105 {Z : State} {a0 : Array Value} (hw : ∀ d ∈ tables_1, d.before a0 Z = true) : Jvm.RoadKit.slotOf Z "com/example/tidemark/tidemark/MemoryEntry" "list" "Lcom/example/tidemark/tidemark/RecencyList;" ≠ Jvm.RoadKit.slotOf Z "com/example/tidemark/tidemark/MemoryEntry" "charge" "J" := slot_ne (Or.inl (wk65 hw)) (Or.inl (wk24 hw)) (by decide) (t := (.object "com/example/tidemark/tidemark/RecencyList")) (t' := .long) (by decide) (by decide)
theorem sn106 {Z : State} {a0 : Array Value} (hw : ∀ d ∈ tables_1, d.before a0 Z = true) : Jvm.RoadKit.slotOf Z "com/example/tidemark/tidemark/MemoryEntry" "list" "Lcom/example/tidemark/tidemark/RecencyList;" ≠ Jvm.RoadKit.slotOf Z "com/example/tidemark/tidemark/MemoryEntry" "key" "Ljava/lang/Object;" := slot_ne (Or.inl (wk65 hw)) (Or.inr (wk22 hw)) (by decide) (t := (.object "com/example/tidemark/tidemark/RecencyList")) (t' := (.object "java/lang/Object")) (by decide) (by decide)
theorem sn107 {Z : State} {a0 : Array Value} (hw : ∀ d ∈ tables_1, d.before a0 Z = true) : Jvm.RoadKit.slotOf Z "com/example/tidemark/tidemark/MemoryEntry" "list" "Lcom/example/tidemark/tidemark/RecencyList;" ≠ Jvm.RoadKit.slotOf Z "com/example/tidemark/tidemark/MemoryEntry" "slot" "I" := slot_ne (Or.inl (wk65 hw)) (Or.inl (wk20 hw)) (by decide) (t := (.object "com/example/tidemark/tidemark/RecencyList")) (t' := .int) (by decide) (by decide)
theorem sn108 {Z : State} {a0 : Array Value} (hw : ∀ d ∈ tables_1, d.before a0 Z = true) : Jvm.RoadKit.slotOf Z "com/example/tidemark/tidemark/MemoryEntry" "older" "Lcom/example/tidemark/tidemark/MemoryEntry;" ≠ Jvm.RoadKit.slotOf Z "com/example/tidemark/tidemark/MemoryEntry" "lockFreeValue" "Ljava/lang/Object;" := slot_ne (Or.inl (wk69 hw)) (Or.inl (wk54 hw)) (by decide) (t := (.object "com/example/tidemark/tidemark/MemoryEntry")) (t' := (.object "java/lang/Object")) (by decide) (by decide)
theorem sn109 {Z : State} {a0 : Array Value} (hw : ∀ d ∈ tables_1, d.before a0 Z = true) : Jvm.RoadKit.slotOf Z "com/example/tidemark/tidemark/MemoryEntry" "older" "Lcom/example/tidemark/tidemark/MemoryEntry;" ≠ Jvm.RoadKit.slotOf Z "com/example/tidemark/tidemark/MemoryEntry" "lastUsed" "J" := slot_ne (Or.inl (wk69 hw)) (Or.inl (wk42 hw)) (by decide) (t := (.object "com/example/tidemark/tidemark/MemoryEntry")) (t' := .long) (by decide) (by decide)
theorem sn110 {Z : State} {a0 : Array Value} (hw : ∀ d ∈ tables_1, d.before a0 Z = true) : Jvm.RoadKit.slotOf Z "com/example/tidemark/tidemark/MemoryEntry" "older" "Lcom/example/tidemark/tidemark/MemoryEntry;" ≠ Jvm.RoadKit.slotOf Z "com/example/tidemark/tidemark/MemoryEntry" "created" "J" := slot_ne (Or.inl (wk69 hw)) (Or.inl (wk40 hw)) (by decide) (t := (.object "com/example/tidemark/tidemark/MemoryEntry")) (t' := .long) (by decide) (by decide)
theorem sn111 {Z : State} {a0 : Array Value} (hw : ∀ d ∈ tables_1, d.before a0 Z = true) : Jvm.RoadKit.slotOf Z "com/example/tidemark/tidemark/MemoryEntry" "older" "Lcom/example/tidemark/tidemark/MemoryEntry;" ≠ Jvm.RoadKit.slotOf Z "com/example/tidemark/tidemark/MemoryEntry" "expiry" "Lcom/example/tidemark/tidemark/Expiry;" := slot_ne (Or.inl (wk69 hw)) (Or.inl (wk33 hw)) (by decide) (t := (.object "com/example/tidemark/tidemark/MemoryEntry")) (t' := (.object "com/example/tidemark/tidemark/Expiry")) (by decide) (by decide)
theorem sn112 {Z : State} {a0 : Array Value} (hw : ∀ d ∈ tables_1, d.before a0 Z = true) : Jvm.RoadKit.slotOf Z "com/example/tidemark/tidemark/MemoryEntry" "older" "Lcom/example/tidemark/tidemark/MemoryEntry;" ≠ Jvm.RoadKit.slotOf Z "com/example/tidemark/tidemark/MemoryEntry" "value" "Ljava/lang/Object;" := slot_ne (Or.inl (wk69 hw)) (Or.inl (wk31 hw)) (by decide) (t := (.object "com/example/tidemark/tidemark/MemoryEntry")) (t' := (.object "java/lang/Object")) (by decide) (by decide)
theorem sn113 {Z : State} {a0 : Array Value} (hw : ∀ d ∈ tables_1, d.before a0 Z = true) : Jvm.RoadKit.slotOf Z "com/example/tidemark/tidemark/MemoryEntry" "older" "Lcom/example/tidemark/tidemark/MemoryEntry;" ≠ Jvm.RoadKit.slotOf Z "com/example/tidemark/tidemark/MemoryEntry" "charge" "J" := slot_ne (Or.inl (wk69 hw)) (Or.inl (wk24 hw)) (by decide) (t := (.object "com/example/tidemark/tidemark/MemoryEntry")) (t' := .long) (by decide) (by decide)
theorem sn114 {Z : State} {a0 : Array Value} (hw : ∀ d ∈ tables_1, d.before a0 Z = true) : Jvm.RoadKit.slotOf Z "com/example/tidemark/tidemark/MemoryEntry" "older" "Lcom/example/tidemark/tidemark/MemoryEntry;" ≠ Jvm.RoadKit.slotOf Z "com/example/tidemark/tidemark/MemoryEntry" "key" "Ljava/lang/Object;" := slot_ne (Or.inl (wk69 hw)) (Or.inr (wk22 hw)) (by decide) (t := (.object "com/example/tidemark/tidemark/MemoryEntry")) (t' := (.object "java/lang/Object")) (by decide) (by decide)
theorem sn115 {Z : State} {a0 : Array Value} (hw : ∀ d ∈ tables_1, d.before a0 Z = true) : Jvm.RoadKit.slotOf Z "com/example/tidemark/tidemark/MemoryEntry" "older" "Lcom/example/tidemark/tidemark/MemoryEntry;" ≠ Jvm.RoadKit.slotOf Z "com/example/tidemark/tidemark/MemoryEntry" "slot" "I" := slot_ne (Or.inl (wk69 hw)) (Or.inl (wk20 hw)) (by decide) (t := (.object "com/example/tidemark/tidemark/MemoryEntry")) (t' := .int) (by decide) (by decide)
theorem sn116 {Z : State} {a0 : Array Value} (hw : ∀ d ∈ tables_1, d.before a0 Z = true) : Jvm.RoadKit.slotOf Z "com/example/tidemark/tidemark/MemoryEntry" "newer" "Lcom/example/tidemark/tidemark/MemoryEntry;" ≠ Jvm.RoadKit.slotOf Z "com/example/tidemark/tidemark/MemoryEntry" "lockFreeValue" "Ljava/lang/Object;" := slot_ne (Or.inl (wk71 hw)) (Or.inl (wk54 hw)) (by decide) (t := (.object "com/example/tidemark/tidemark/MemoryEntry")) (t' := (.object "java/lang/Object")) (by decide) (by decide)
theorem sn117 {Z : State} {a0 : Array Value} (hw : ∀ d ∈ tables_1, d.before a0 Z = true) : Jvm.RoadKit.slotOf Z "com/example/tidemark/tidemark/MemoryEntry" "newer" "Lcom/example/tidemark/tidemark/MemoryEntry;" ≠ Jvm.RoadKit.slotOf Z "com/example/tidemark/tidemark/MemoryEntry" "lastUsed" "J" := slot_ne (Or.inl (wk71 hw)) (Or.inl (wk42 hw)) (by decide) (t := (.object "com/example/tidemark/tidemark/MemoryEntry")) (t' := .long) (by decide) (by decide)
theorem sn118 {Z : State} {a0 : Array Value} (hw : ∀ d ∈ tables_1, d.before a0 Z = true) : Jvm.RoadKit.slotOf Z "com/example/tidemark/tidemark/MemoryEntry" "newer" "Lcom/example/tidemark/tidemark/MemoryEntry;" ≠ Jvm.RoadKit.slotOf Z "com/example/tidemark/tidemark/MemoryEntry" "created" "J" := slot_ne (Or.inl (wk71 hw)) (Or.inl (wk40 hw)) (by decide) (t := (.object "com/example/tidemark/tidemark/MemoryEntry")) (t' := .long) (by decide) (by decide)
theorem sn119 {Z : State} {a0 : Array Value} (hw : ∀ d ∈ tables_1, d.before a0 Z = true) : Jvm.RoadKit.slotOf Z "com/example/tidemark/tidemark/MemoryEntry" "newer" "Lcom/example/tidemark/tidemark/MemoryEntry;" ≠ Jvm.RoadKit.slotOf Z "com/example/tidemark/tidemark/MemoryEntry" "expiry" "Lcom/example/tidemark/tidemark/Expiry;" := slot_ne (Or.inl (wk71 hw)) (Or.inl (wk33 hw)) (by decide) (t := (.object "com/example/tidemark/tidemark/MemoryEntry")) (t' := (.object "com/example/tidemark/tidemark/Expiry")) (by decide) (by decide)
theorem sn120 {Z : State} {a0 : Array Value} (hw : ∀ d ∈ tables_1, d.before a0 Z = true) : Jvm.RoadKit.slotOf Z "com/example/tidemark/tidemark/MemoryEntry" "newer" "Lcom/example/tidemark/tidemark/MemoryEntry;" ≠ Jvm.RoadKit.slotOf Z "com/example/tidemark/tidemark/MemoryEntry" "value" "Ljava/lang/Object;" := slot_ne (Or.inl (wk71 hw)) (Or.inl (wk31 hw)) (by decide) (t := (.object "com/example/tidemark/tidemark/MemoryEntry")) (t' := (.object "java/lang/Object")) (by decide) (by decide)
theorem sn121 {Z : State} {a0 : Array Value} (hw : ∀ d ∈ tables_1, d.before a0 Z = true) : Jvm.RoadKit.slotOf Z "com/example/tidemark/tidemark/MemoryEntry" "newer" "Lcom/example/tidemark/tidemark/MemoryEntry;" ≠ Jvm.RoadKit.slotOf Z "com/example/tidemark/tidemark/MemoryEntry" "charge" "J" := slot_ne (Or.inl (wk71 hw)) (Or.inl (wk24 hw)) (by decide) (t := (.object "com/example/tidemark/tidemark/MemoryEntry")) (t' := .long) (by decide) (by decide)
theorem sn122 {Z : State} {a0 : Array Value} (hw : ∀ d ∈ tables_1, d.before a0 Z = true) : Jvm.RoadKit.slotOf Z "com/example/tidemark/tidemark/MemoryEntry" "newer" "Lcom/example/tidemark/tidemark/MemoryEntry;" ≠ Jvm.RoadKit.slotOf Z "com/example/tidemark/tidemark/MemoryEntry" "key" "Ljava/lang/Object;" := slot_ne (Or.inl (wk71 hw)) (Or.inr (wk22 hw)) (by decide) (t := (.object "com/example/tidemark/tidemark/MemoryEntry")) (t' := (.object "java/lang/Object")) (by decide) (by decide)
theorem sn123 {Z : State} {a0 : Array Value} (hw : ∀ d ∈ tables_1, d.before a0 Z = true) : Jvm.RoadKit.slotOf Z "com/example/tidemark/tidemark/MemoryEntry" "newer" "Lcom/example/tidemark/tidemark/MemoryEntry;" ≠ Jvm.RoadKit.slotOf Z "com/example/tidemark/tidemark/MemoryEntry" "slot" "I" := slot_ne (Or.inl (wk71 hw)) (Or.inl (wk20 hw)) (by decide) (t := (.object "com/example/tidemark/tidemark/MemoryEntry")) (t' := .int) (by decide) (by decide)
def Wd (Z : State) (w : Nat → Addr) : Prop := Sta Z Z.heap "com/example/tidemark/tidemark/Expiry" "NEVER" "Lcom/example/tidemark/tidemark/Expiry;" (.ref (w 0)) ∧ Exa Z Z.heap (w 0) "com/example/tidemark/tidemark/Expiry" ∧ Fld Z Z.heap (w 0) "com/example/tidemark/tidemark/Expiry" "lifespan" "J" (.long (-1 : Int64)) ∧ Fld Z Z.heap (w 0) "com/example/tidemark/tidemark/Expiry" "maxIdle" "J" (.long (-1 : Int64)) ∧ True
theorem wd0 {Z : State} {w : Nat → Addr} (hW : Wd Z w) : Sta Z Z.heap "com/example/tidemark/tidemark/Expiry" "NEVER" "Lcom/example/tidemark/tidemark/Expiry;" (.ref (w 0)) := hW.1
theorem wd1 {Z : State} {w : Nat → Addr} (hW : Wd Z w) : Exa Z Z.heap (w 0) "com/example/tidemark/tidemark/Expiry" := hW.2.1
theorem wd2 {Z : State} {w : Nat → Addr} (hW : Wd Z w) : Fld Z Z.heap (w 0) "com/example/tidemark/tidemark/Expiry" "lifespan" "J" (.long (-1 : Int64)) := hW.2.2.1
theorem wd3 {Z : State} {w : Nat → Addr} (hW : Wd Z w) : Fld Z Z.heap (w 0) "com/example/tidemark/tidemark/Expiry" "maxIdle" "J" (.long (-1 : Int64)) := hW.2.2.2.1
theorem d1_0 : decode prog_41_method_1_code 0 = .ok (.aload_n 0, 1) := by decide +kernel
theorem d1_1 : decode prog_41_method_1_code 1 = .ok (.invokespecial 1, 3) := by decide +kernel
theorem d1_4 : decode prog_41_method_1_code 4 = .ok (.return_, 1) := by decide +kernel
theorem ef_1_1 (m : MethodId) (o1 : Addr) : entryFrame m #[(.ref o1)] 1 = mkF m 0 #[.val (.ref o1)] [] := by first | (simp [entryFrame, mkF, argsToLocals, Value.category]; done) | rfl
theorem pnc_0 : plainName "com/example/tidemark/tidemark/RecencyList" = true := by first | (simp [plainName, overriddenIn]; done) | decide +kernel
def Q1_1 (Z : State) (w : Nat → Addr) (o1 : Addr) (h0 : Heap) (n0 : Nat) (v : Option Value) (h : Heap) (L : List Loc) : Prop := v = none ∧ Fr n0 L ∧ h = h0
set_option maxRecDepth 65536 in
set_option maxHeartbeats 40000000 in
theorem rm1_1 (l : Launch) (Z : State) (a0 : Array Value) (hw : ∀ d ∈ tables_1, d.before a0 Z = true) (w : Nat → Addr) (hW : Wd Z w) (ws : List Jvm.Cond) (o1 : Addr) (h0 : Heap) (n0 : Nat) (O0 : Old Z n0 h0) :
    MetFree l ym0 (head1 (Jvm.Cond.code ym0 prog_41_method_1_code 1 none :: ws) ({ frames := 1, cells := 0, slots := 0, locals := 12 } : Room)) (fun a U => a = #[(.ref o1)] ∧ Z.Warmed39 U.vm ∧ U.heap = h0) (fun _ _ _ _ _ => True) (fun _ U o U' => ∃ v L, o = .returned v ∧ Q1_1 Z w o1 h0 n0 v U'.heap L ∧ FrameEnd U o U' L ({ frames := 1, cells := 0, slots := 0, locals := 12 } : Room).cells ({ frames := 1, cells := 0, slots := 0, locals := 12 } : Room).slots) := by
  refine MetFree.of_bodySF (plainFor_of_name pnc_0) hisR ?_
  intro p e s m args below meth c s₁ Bd hml0 hP hK
  obtain ⟨rfl, hZ, hh⟩ := hP
  have hx := Bd.exec
  have hby := Bd.bytes
  have hml : c.maxLocals = 1 := hml0
  have hown : s.vm.findClass "com/example/tidemark/tidemark/RecencyList" = some m.cls := findClass_of_methodNamed Bd.named
  have hnm := (name_of_methodNamed Bd.named Bd.method).1
  have X0 : Stand p l e ({ frames := 1, cells := 0, slots := 0, locals := 12 } : Room) s m #[(.ref o1)] below meth c s₁ [] 0 0 := Stand.of_body Bd
  have e0 : s₁.heap = h0 := by rw [← hh, Bd.state]; rfl
  have N0 := Fr.nil n0
  skip
  have pre0 : ∀ t, Steps p.tables e below (s₁.setTop (mkF m 0 #[.val (.ref o1)] [])) t → Steps p.tables e below (s₁.setTop (entryFrame m #[(.ref o1)] 1)) t := fun t k => castTop (ef_1_1 m o1) k
  obtain ⟨T1, X1, e1, st1⟩ := initO X0 hx hZ hown (wk6 hw) (wk7 hw) (wk8 hw) e0 (g := (mkF m 1 #[.val (.ref o1)] [(.ref o1)])) rfl (by rw [hml]; rfl) rfl (hb hby d1_1) (by decide) (W := 0) (by show 2 * 0 + _ ≤ _; exact Nat.le_of_eq rfl) (by decide)
  obtain ⟨fs, hr, hrun, hended, hWm, hsame⟩ := X1.leave (v := none) (fun _ => rfl)
  refine ⟨_, _, pre0 _ ?_, hrun, hended, _, _, rfl, ?_, ⟨_, rfl⟩, hWm, hsame.mono (by decide) (by decide)⟩
  · show Steps p.tables e below (s₁.setTop (mkF m 0 #[.val (.ref o1)] [])) _
    refine sA X0 hx hby d1_0 rfl rfl ?_
    refine st1 _ ?_
    exact X1.returnOut hx Bd.returns (hb hby d1_4) hr
  · show Q1_1 Z w o1 h0 n0 _ T1.heap _
    rw [e1]
    exact ⟨rfl, N0, rfl⟩
theorem pds_0 : parseMethodDescriptor "()V" = some ⟨[], none⟩ := by decide +kernel
theorem d3_0 : decode prog_40_method_1_code 0 = .ok (.aload_n 0, 1) := by decide +kernel
theorem d3_1 : decode prog_40_method_1_code 1 = .ok (.invokespecial 1, 3) := by decide +kernel
theorem d3_4 : decode prog_40_method_1_code 4 = .ok (.aload_n 0, 1) := by decide +kernel
theorem d3_5 : decode prog_40_method_1_code 5 = .ok (.iconst (-1), 1) := by decide +kernel
theorem d3_6 : decode prog_40_method_1_code 6 = .ok (.putfield 9, 3) := by decide +kernel
theorem d3_9 : decode prog_40_method_1_code 9 = .ok (.aload_n 0, 1) := by decide +kernel
theorem d3_10 : decode prog_40_method_1_code 10 = .ok (.aload_n 1, 1) := by decide +kernel
theorem d3_11 : decode prog_40_method_1_code 11 = .ok (.putfield 15, 3) := by decide +kernel
theorem d3_14 : decode prog_40_method_1_code 14 = .ok (.aload_n 0, 1) := by decide +kernel
theorem d3_15 : decode prog_40_method_1_code 15 = .ok (.lload 6, 2) := by decide +kernel
theorem d3_17 : decode prog_40_method_1_code 17 = .ok (.putfield 19, 3) := by decide +kernel
theorem d3_20 : decode prog_40_method_1_code 20 = .ok (.aload_n 0, 1) := by decide +kernel
theorem d3_21 : decode prog_40_method_1_code 21 = .ok (.aload_n 2, 1) := by decide +kernel
theorem d3_22 : decode prog_40_method_1_code 22 = .ok (.aload_n 3, 1) := by decide +kernel
theorem d3_23 : decode prog_40_method_1_code 23 = .ok (.lload 4, 2) := by decide +kernel
theorem d3_25 : decode prog_40_method_1_code 25 = .ok (.invokevirtual 23, 3) := by decide +kernel
theorem d4_0 : decode prog_40_method_2_code 0 = .ok (.aload_n 0, 1) := by decide +kernel
theorem d4_1 : decode prog_40_method_2_code 1 = .ok (.aload_n 1, 1) := by decide +kernel
theorem d4_2 : decode prog_40_method_2_code 2 = .ok (.putfield 27, 3) := by decide +kernel
theorem d4_5 : decode prog_40_method_2_code 5 = .ok (.aload_n 2, 1) := by decide +kernel
theorem d4_6 : decode prog_40_method_2_code 6 = .ok (.ifnonnull 11, 3) := by decide +kernel
theorem d4_17 : decode prog_40_method_2_code 17 = .ok (.aload_n 0, 1) := by decide +kernel
theorem d4_18 : decode prog_40_method_2_code 18 = .ok (.aload_n 2, 1) := by decide +kernel
theorem d4_19 : decode prog_40_method_2_code 19 = .ok (.putfield 33, 3) := by decide +kernel
theorem d4_22 : decode prog_40_method_2_code 22 = .ok (.aload_n 0, 1) := by decide +kernel
theorem d4_23 : decode prog_40_method_2_code 23 = .ok (.lload_n 3, 1) := by decide +kernel
theorem d4_24 : decode prog_40_method_2_code 24 = .ok (.invokevirtual 37, 3) := by decide +kernel
theorem d5_0 : decode prog_40_method_6_code 0 = .ok (.aload_n 0, 1) := by decide +kernel
theorem d5_1 : decode prog_40_method_6_code 1 = .ok (.lload_n 1, 1) := by decide +kernel
theorem d5_2 : decode prog_40_method_6_code 2 = .ok (.putfield 67, 3) := by decide +kernel
theorem d5_5 : decode prog_40_method_6_code 5 = .ok (.aload_n 0, 1) := by decide +kernel
theorem d5_6 : decode prog_40_method_6_code 6 = .ok (.lload_n 1, 1) := by decide +kernel
theorem d5_7 : decode prog_40_method_6_code 7 = .ok (.putfield 30, 3) := by decide +kernel
theorem d5_10 : decode prog_40_method_6_code 10 = .ok (.return_, 1) := by decide +kernel
theorem ef_5_2 (m : MethodId) (o1 : Addr) : entryFrame m #[(.ref o1), (.long (0 : Int64))] 3 = mkF m 0 #[.val (.ref o1), .val (.long (0 : Int64)), .second] [] := by first | (simp [entryFrame, mkF, argsToLocals, Value.category]; done) | rfl
theorem pnc_1 : plainName "com/example/tidemark/tidemark/MemoryEntry" = true := by first | (simp [plainName, overriddenIn]; done) | decide +kernel
def Q5_2 (Z : State) (w : Nat → Addr) (o1 : Addr) (h0 : Heap) (n0 : Nat) (v : Option Value) (h : Heap) (L : List Loc) : Prop := v = none ∧ Fr n0 L ∧ own_KL h0 h [⟨o1, Jvm.RoadKit.slotOf Z "com/example/tidemark/tidemark/MemoryEntry" "created" "J"⟩, ⟨o1, Jvm.RoadKit.slotOf Z "com/example/tidemark/tidemark/MemoryEntry" "lastUsed" "J"⟩] ∧ Fld Z h o1 "com/example/tidemark/tidemark/MemoryEntry" "created" "J" (.long (0 : Int64)) ∧ Fld Z h o1 "com/example/tidemark/tidemark/MemoryEntry" "lastUsed" "J" (.long (0 : Int64))
set_option maxRecDepth 65536 in
set_option maxHeartbeats 40000000 in
theorem rm5_2 (l : Launch) (Z : State) (a0 : Array Value) (hw : ∀ d ∈ tables_1, d.before a0 Z = true) (w : Nat → Addr) (hW : Wd Z w) (ws : List Jvm.Cond) (o1 : Addr) (h0 : Heap) (n0 : Nat) (O0 : Old Z n0 h0) (f1 : Exa Z h0 o1 "com/example/tidemark/tidemark/MemoryEntry") (f2 : Fld Z h0 o1 "com/example/tidemark/tidemark/MemoryEntry" "created" "J" (.long (0 : Int64))) (g3 : n0 ≤ o1) (f4 : Fld Z h0 o1 "com/example/tidemark/tidemark/MemoryEntry" "lastUsed" "J" (.long (0 : Int64))) :
    MetFree l ym1 (head1 (Jvm.Cond.code ym1 prog_40_method_6_code 3 none :: ws) ({ frames := 0, cells := 0, slots := 0, locals := 0 } : Room)) (fun a U => a = #[(.ref o1), (.long (0 : Int64))] ∧ Z.Warmed39 U.vm ∧ U.heap = h0) (fun _ _ _ _ _ => True) (fun _ U o U' => ∃ v L, o = .returned v ∧ Q5_2 Z w o1 h0 n0 v U'.heap L ∧ FrameEnd U o U' L ({ frames := 0, cells := 0, slots := 0, locals := 0 } : Room).cells ({ frames := 0, cells := 0, slots := 0, locals := 0 } : Room).slots) := by
  refine MetFree.of_bodySF (plainFor_of_name pnc_1) hisR ?_
  intro p e s m args below meth c s₁ Bd hml0 hP hK
  obtain ⟨rfl, hZ, hh⟩ := hP
  have hx := Bd.exec
  have hby := Bd.bytes
  have hml : c.maxLocals = 3 := hml0
  have hown : s.vm.findClass "com/example/tidemark/tidemark/MemoryEntry" = some m.cls := findClass_of_methodNamed Bd.named
  have hnm := (name_of_methodNamed Bd.named Bd.method).1
  have X0 : Stand p l e ({ frames := 0, cells := 0, slots := 0, locals := 0 } : Room) s m #[(.ref o1), (.long (0 : Int64))] below meth c s₁ [] 0 0 := Stand.of_body Bd
  have e0 : s₁.heap = h0 := by rw [← hh, Bd.state]; rfl
  have N0 := Fr.nil n0
  let La : Array Slot := #[.val (.ref o1), .val (.long (0 : Int64)), .second]
  have pre0 : ∀ t, Steps p.tables e below (s₁.setTop (mkF m 0 #[.val (.ref o1), .val (.long (0 : Int64)), .second] [])) t → Steps p.tables e below (s₁.setTop (entryFrame m #[(.ref o1), (.long (0 : Int64))] 3)) t := fun t k => castTop (ef_5_2 m o1) k
  obtain ⟨T1, h1, X1, e1, W1, st1⟩ := putF X0 hx hZ hown (host := "") (Or.inl (wk39 hw)) Via.refl e0 f2 f1 (Or.inl (wk40 hw)) (wk10 hw) (ty := .long) (by decide) rfl rfl (g := (mkF m 2 La [(.long (0 : Int64)), (.ref o1)])) rfl rfl (hb hby d5_2)
  have F1 : Fld Z h1 o1 "com/example/tidemark/tidemark/MemoryEntry" "created" "J" (.long (0 : Int64)) := f2.same W1
  have N1 := Fr.snoc X1 N0 g3
  have O2 := O0.wr W1 g3
  have t3 := (f4.other W1 (Or.inr (sn4 hw)))
  have t4 := (f1.wr W1)
  obtain ⟨T5, h5, X5, e5, W5, st5⟩ := putF X1 hx hZ hown (host := "") (Or.inl (wk41 hw)) Via.refl e1 t3 t4 (Or.inl (wk42 hw)) (wk10 hw) (ty := .long) (by decide) rfl rfl (g := (mkF m 7 La [(.long (0 : Int64)), (.ref o1)])) rfl rfl (hb hby d5_7)
  have F5 : Fld Z h5 o1 "com/example/tidemark/tidemark/MemoryEntry" "lastUsed" "J" (.long (0 : Int64)) := t3.same W5
  have N5 := Fr.snoc X5 N1 g3
  have O6 := O2.wr W5 g3
  obtain ⟨fs, hr, hrun, hended, hWm, hsame⟩ := X5.leave (v := none) (fun _ => rfl)
  have Kf7 : own_KL h0 h5 [⟨o1, Jvm.RoadKit.slotOf Z "com/example/tidemark/tidemark/MemoryEntry" "created" "J"⟩, ⟨o1, Jvm.RoadKit.slotOf Z "com/example/tidemark/tidemark/MemoryEntry" "lastUsed" "J"⟩] := (own_klW (own_klW (own_kl0 h0 [⟨o1, Jvm.RoadKit.slotOf Z "com/example/tidemark/tidemark/MemoryEntry" "created" "J"⟩, ⟨o1, Jvm.RoadKit.slotOf Z "com/example/tidemark/tidemark/MemoryEntry" "lastUsed" "J"⟩]) W1 (Or.inl (List.mem_of_getElem? (i := 0) rfl))) W5 (Or.inl (List.mem_of_getElem? (i := 1) rfl)))
  have t8 := (F1.other W5 (Or.inr (sn5 hw)))
  refine ⟨_, _, pre0 _ ?_, hrun, hended, _, _, rfl, ?_, ⟨_, rfl⟩, hWm, hsame.mono (by decide) (by decide)⟩
  · show Steps p.tables e below (s₁.setTop (mkF m 0 La [])) _
    refine sA X0 hx hby d5_0 rfl rfl ?_
    refine sL X0 hx hby d5_1 rfl ?_
    refine st1 _ ?_
    refine sA X1 hx hby d5_5 rfl rfl ?_
    refine sL X1 hx hby d5_6 rfl ?_
    refine st5 _ ?_
    exact X5.returnOut hx Bd.returns (hb hby d5_10) hr
  · show Q5_2 Z w o1 h0 n0 _ T5.heap _
    rw [e5]
    exact ⟨rfl, N5, Kf7, t8, F5⟩
theorem pds_1 : parseMethodDescriptor "(J)V" = some ⟨[.long], none⟩ := by decide +kernel
theorem d4_27 : decode prog_40_method_2_code 27 = .ok (.aload_n 0, 1) := by decide +kernel
theorem d4_28 : decode prog_40_method_2_code 28 = .ok (.aload_n 0, 1) := by decide +kernel
theorem d4_29 : decode prog_40_method_2_code 29 = .ok (.getfield 33, 3) := by decide +kernel
theorem d4_32 : decode prog_40_method_2_code 32 = .ok (.invokevirtual 41, 3) := by decide +kernel
theorem d6_0 : decode prog_21_method_5_code 0 = .ok (.aload_n 0, 1) := by decide +kernel
theorem d6_1 : decode prog_21_method_5_code 1 = .ok (.getfield 17, 3) := by decide +kernel
theorem d6_4 : decode prog_21_method_5_code 4 = .ok (.ldc2_w 29, 3) := by decide +kernel
theorem d6_7 : decode prog_21_method_5_code 7 = .ok (.lcmp, 1) := by decide +kernel
theorem d6_8 : decode prog_21_method_5_code 8 = .ok (.ifCond .ne 14, 3) := by decide +kernel
theorem d6_11 : decode prog_21_method_5_code 11 = .ok (.aload_n 0, 1) := by decide +kernel
theorem d6_12 : decode prog_21_method_5_code 12 = .ok (.getfield 20, 3) := by decide +kernel
theorem d6_15 : decode prog_21_method_5_code 15 = .ok (.ldc2_w 29, 3) := by decide +kernel
theorem d6_18 : decode prog_21_method_5_code 18 = .ok (.lcmp, 1) := by decide +kernel
theorem d6_19 : decode prog_21_method_5_code 19 = .ok (.ifCond .eq 7, 3) := by decide +kernel
theorem d6_26 : decode prog_21_method_5_code 26 = .ok (.iconst 0, 1) := by decide +kernel
theorem d6_27 : decode prog_21_method_5_code 27 = .ok (.ireturn, 1) := by decide +kernel
theorem ef_6_3 (m : MethodId) (w : Nat → Addr) : entryFrame m #[(.ref (w 0))] 1 = mkF m 0 #[.val (.ref (w 0))] [] := by first | (simp [entryFrame, mkF, argsToLocals, Value.category]; done) | rfl
theorem pnc_2 : plainName "com/example/tidemark/tidemark/Expiry" = true := by first | (simp [plainName, overriddenIn]; done) | decide +kernel
def Q6_3 (Z : State) (w : Nat → Addr) (h0 : Heap) (n0 : Nat) (v : Option Value) (h : Heap) (L : List Loc) : Prop := v = some (.int (0 : Int32)) ∧ Fr n0 L ∧ h = h0
set_option maxRecDepth 65536 in
set_option maxHeartbeats 40000000 in
theorem rm6_3 (l : Launch) (Z : State) (a0 : Array Value) (hw : ∀ d ∈ tables_1, d.before a0 Z = true) (w : Nat → Addr) (hW : Wd Z w) (ws : List Jvm.Cond) (h0 : Heap) (n0 : Nat) (O0 : Old Z n0 h0) :
    MetFree l ym2 (head1 (Jvm.Cond.code ym2 prog_21_method_5_code 1 (some .boolean) :: ws) ({ frames := 0, cells := 0, slots := 0, locals := 0 } : Room)) (fun a U => a = #[(.ref (w 0))] ∧ Z.Warmed39 U.vm ∧ U.heap = h0) (fun _ _ _ _ _ => True) (fun _ U o U' => ∃ v L, o = .returned v ∧ Q6_3 Z w h0 n0 v U'.heap L ∧ FrameEnd U o U' L ({ frames := 0, cells := 0, slots := 0, locals := 0 } : Room).cells ({ frames := 0, cells := 0, slots := 0, locals := 0 } : Room).slots) := by
  refine MetFree.of_bodySF (plainFor_of_name pnc_2) hisR ?_
  intro p e s m args below meth c s₁ Bd hml0 hP hK
  obtain ⟨rfl, hZ, hh⟩ := hP
  have hx := Bd.exec
  have hby := Bd.bytes
  have hml : c.maxLocals = 1 := hml0
  have hown : s.vm.findClass "com/example/tidemark/tidemark/Expiry" = some m.cls := findClass_of_methodNamed Bd.named
  have hnm := (name_of_methodNamed Bd.named Bd.method).1
  have X0 : Stand p l e ({ frames := 0, cells := 0, slots := 0, locals := 0 } : Room) s m #[(.ref (w 0))] below meth c s₁ [] 0 0 := Stand.of_body Bd
  have e0 : s₁.heap = h0 := by rw [← hh, Bd.state]; rfl
  have N0 := Fr.nil n0
  skip
  have pre0 : ∀ t, Steps p.tables e below (s₁.setTop (mkF m 0 #[.val (.ref (w 0))] [])) t → Steps p.tables e below (s₁.setTop (entryFrame m #[(.ref (w 0))] 1)) t := fun t k => castTop (ef_6_3 m w) k
  obtain ⟨T1, X1, e1, st1⟩ := getF X0 hx hZ hown (host := "") (Or.inl (wk48 hw)) Via.refl e0 ((wd2 hW).ext O0.2) (g := (mkF m 1 #[.val (.ref (w 0))] [(.ref (w 0))])) rfl rfl (hb hby d6_1)
  obtain ⟨T2, X2, e2, st2⟩ := getF X1 hx hZ hown (host := "") (Or.inl (wk51 hw)) Via.refl e1 ((wd3 hW).ext O0.2) (g := (mkF m 12 #[.val (.ref (w 0))] [(.ref (w 0))])) rfl rfl (hb hby d6_12)
  obtain ⟨fs, hr, hrun, hended, hWm, hsame⟩ := X2.leave (v := some (.int (0 : Int32))) (fun h => by rw [Bd.returns] at h; cases h)
  refine ⟨_, _, pre0 _ ?_, hrun, hended, _, _, rfl, ?_, ⟨_, rfl⟩, hWm, hsame.mono (by decide) (by decide)⟩
  · show Steps p.tables e below (s₁.setTop (mkF m 0 #[.val (.ref (w 0))] [])) _
    refine sA X0 hx hby d6_0 rfl rfl ?_
    refine st1 _ ?_
    refine X1.ldc2Long hx hown (mvT hZ (wk50 hw)) (g := (mkF m 4 #[.val (.ref (w 0))] [(.long (-1 : Int64))])) rfl (hb hby d6_4) _ ?_
    refine XS.lcmp X1.here hx rfl (hb hby d6_7) rfl ?_
    refine sN X1 hx hby d6_8 (by decide) ?_
    refine sA X1 hx hby d6_11 rfl rfl ?_
    refine st2 _ ?_
    refine X2.ldc2Long hx hown (mvT hZ (wk50 hw)) (g := (mkF m 15 #[.val (.ref (w 0))] [(.long (-1 : Int64))])) rfl (hb hby d6_15) _ ?_
    refine XS.lcmp X2.here hx rfl (hb hby d6_18) rfl ?_
    refine XS.ifYes X2.here hx rfl (pc0 := 19) (pc' := 26) rfl (hb hby d6_19) rfl (by decide) (by decide) (by decide) ?_
    refine sc X2 hx hby d6_26 ?_
    exact retN X2 hx (t := .boolean) Bd.returns (by simp) (hb hby d6_27) hr
  · show Q6_3 Z w h0 n0 _ T2.heap _
    rw [e2]
    exact ⟨rfl, N0, rfl⟩
theorem pds_2 : parseMethodDescriptor "()Z" = some ⟨[], some .boolean⟩ := by decide +kernel
theorem d4_35 : decode prog_40_method_2_code 35 = .ok (.ifCond .eq 7, 3) := by decide +kernel
theorem d4_42 : decode prog_40_method_2_code 42 = .ok (.aload_n 1, 1) := by decide +kernel
theorem d4_43 : decode prog_40_method_2_code 43 = .ok (.putfield 47, 3) := by decide +kernel
theorem d4_46 : decode prog_40_method_2_code 46 = .ok (.return_, 1) := by decide +kernel
theorem ef_4_4 (m : MethodId) (w : Nat → Addr) (o1 : Addr) : entryFrame m #[(.ref o1), .null, (.ref (w 0)), (.long (0 : Int64))] 5 = mkF m 0 #[.val (.ref o1), .val .null, .val (.ref (w 0)), .val (.long (0 : Int64)), .second] [] := by first | (simp [entryFrame, mkF, argsToLocals, Value.category]; done) | rfl
def Q4_4 (Z : State) (w : Nat → Addr) (o1 : Addr) (h0 : Heap) (n0 : Nat) (v : Option Value) (h : Heap) (L : List Loc) : Prop := v = none ∧ Fr n0 L ∧ own_KL h0 h [⟨o1, Jvm.RoadKit.slotOf Z "com/example/tidemark/tidemark/MemoryEntry" "value" "Ljava/lang/Object;"⟩, ⟨o1, Jvm.RoadKit.slotOf Z "com/example/tidemark/tidemark/MemoryEntry" "expiry" "Lcom/example/tidemark/tidemark/Expiry;"⟩, ⟨o1, Jvm.RoadKit.slotOf Z "com/example/tidemark/tidemark/MemoryEntry" "created" "J"⟩, ⟨o1, Jvm.RoadKit.slotOf Z "com/example/tidemark/tidemark/MemoryEntry" "lastUsed" "J"⟩, ⟨o1, Jvm.RoadKit.slotOf Z "com/example/tidemark/tidemark/MemoryEntry" "lockFreeValue" "Ljava/lang/Object;"⟩] ∧ Fld Z h o1 "com/example/tidemark/tidemark/MemoryEntry" "value" "Ljava/lang/Object;" .null ∧ Fld Z h o1 "com/example/tidemark/tidemark/MemoryEntry" "expiry" "Lcom/example/tidemark/tidemark/Expiry;" (.ref (w 0)) ∧ Fld Z h o1 "com/example/tidemark/tidemark/MemoryEntry" "created" "J" (.long (0 : Int64)) ∧ Fld Z h o1 "com/example/tidemark/tidemark/MemoryEntry" "lastUsed" "J" (.long (0 : Int64)) ∧ Fld Z h o1 "com/example/tidemark/tidemark/MemoryEntry" "lockFreeValue" "Ljava/lang/Object;" .null
set_option maxRecDepth 65536 in
set_option maxHeartbeats 40000000 in
theorem rm4_4 (l : Launch) (Z : State) (a0 : Array Value) (hw : ∀ d ∈ tables_1, d.before a0 Z = true) (w : Nat → Addr) (hW : Wd Z w) (ws : List Jvm.Cond) (o1 : Addr) (h0 : Heap) (n0 : Nat) (O0 : Old Z n0 h0) (f1 : Exa Z h0 o1 "com/example/tidemark/tidemark/MemoryEntry") (f2 : Fld Z h0 o1 "com/example/tidemark/tidemark/MemoryEntry" "value" "Ljava/lang/Object;" .null) (g3 : n0 ≤ o1) (f4 : Fld Z h0 o1 "com/example/tidemark/tidemark/MemoryEntry" "expiry" "Lcom/example/tidemark/tidemark/Expiry;" .null) (f5 : Fld Z h0 o1 "com/example/tidemark/tidemark/MemoryEntry" "created" "J" (.long (0 : Int64))) (f6 : Fld Z h0 o1 "com/example/tidemark/tidemark/MemoryEntry" "lastUsed" "J" (.long (0 : Int64))) (f7 : Fld Z h0 o1 "com/example/tidemark/tidemark/MemoryEntry" "lockFreeValue" "Ljava/lang/Object;" .null) :
    MetFree l ym3 (head1 (Jvm.Cond.code ym3 prog_40_method_2_code 5 none :: ws) ({ frames := 1, cells := 0, slots := 0, locals := 14 } : Room)) (fun a U => a = #[(.ref o1), .null, (.ref (w 0)), (.long (0 : Int64))] ∧ Z.Warmed39 U.vm ∧ U.heap = h0) (fun _ _ _ _ _ => True) (fun _ U o U' => ∃ v L, o = .returned v ∧ Q4_4 Z w o1 h0 n0 v U'.heap L ∧ FrameEnd U o U' L ({ frames := 1, cells := 0, slots := 0, locals := 14 } : Room).cells ({ frames := 1, cells := 0, slots := 0, locals := 14 } : Room).slots) := by
  refine MetFree.of_bodySF (plainFor_of_name pnc_1) hisR ?_
  intro p e s m args below meth c s₁ Bd hml0 hP hK
  obtain ⟨rfl, hZ, hh⟩ := hP
  have hx := Bd.exec
  have hby := Bd.bytes
  have hml : c.maxLocals = 5 := hml0
  have hown : s.vm.findClass "com/example/tidemark/tidemark/MemoryEntry" = some m.cls := findClass_of_methodNamed Bd.named
  have hnm := (name_of_methodNamed Bd.named Bd.method).1
  have X0 : Stand p l e ({ frames := 1, cells := 0, slots := 0, locals := 14 } : Room) s m #[(.ref o1), .null, (.ref (w 0)), (.long (0 : Int64))] below meth c s₁ [] 0 0 := Stand.of_body Bd
  have e0 : s₁.heap = h0 := by rw [← hh, Bd.state]; rfl
  have N0 := Fr.nil n0
  let La : Array Slot := #[.val (.ref o1), .val .null, .val (.ref (w 0)), .val (.long (0 : Int64)), .second]
  have pre0 : ∀ t, Steps p.tables e below (s₁.setTop (mkF m 0 #[.val (.ref o1), .val .null, .val (.ref (w 0)), .val (.long (0 : Int64)), .second] [])) t → Steps p.tables e below (s₁.setTop (entryFrame m #[(.ref o1), .null, (.ref (w 0)), (.long (0 : Int64))] 5)) t := fun t k => castTop (ef_4_4 m w o1) k
  obtain ⟨T1, h1, X1, e1, W1, st1⟩ := putF X0 hx hZ hown (host := "") (Or.inl (wk30 hw)) Via.refl e0 f2 f1 (Or.inl (wk31 hw)) (wk10 hw) (ty := (.object "java/lang/Object")) (by decide) rfl rfl (g := (mkF m 2 La [.null, (.ref o1)])) rfl rfl (hb hby d4_2)
  have F1 : Fld Z h1 o1 "com/example/tidemark/tidemark/MemoryEntry" "value" "Ljava/lang/Object;" .null := f2.same W1
  have N1 := Fr.snoc X1 N0 g3
  have O2 := O0.wr W1 g3
  have t3 := (f4.other W1 (Or.inr (sn3 hw)))
  have t4 := (f1.wr W1)
  obtain ⟨T5, h5, X5, e5, W5, st5⟩ := putF X1 hx hZ hown (host := "") (Or.inl (wk32 hw)) Via.refl e1 t3 t4 (Or.inl (wk33 hw)) (wk10 hw) (ty := (.object "com/example/tidemark/tidemark/Expiry")) (by decide) rfl rfl (g := (mkF m 19 La [(.ref (w 0)), (.ref o1)])) rfl rfl (hb hby d4_19)
  have F5 : Fld Z h5 o1 "com/example/tidemark/tidemark/MemoryEntry" "expiry" "Lcom/example/tidemark/tidemark/Expiry;" (.ref (w 0)) := t3.same W5
  have N5 := Fr.snoc X5 N1 g3
  have O6 := O2.wr W5 g3
  have t7 := (t4.wr W5)
  have t8 := ((f5.other W1 (Or.inr (sn6 hw))).other W5 (Or.inr (sn7 hw)))
  have t9 := ((f6.other W1 (Or.inr (sn8 hw))).other W5 (Or.inr (sn9 hw)))
  obtain ⟨cq10, kq10, q10a, q10b, q10c⟩ := isOf hZ e5 t7
  obtain ⟨_, _, ⟨T10, L10, kk10, nn10⟩, -, X10, ⟨Lc10, hQ10, l10, y10, z10⟩, st10⟩ := X5.virtualBack hx (y := ym1) (z := ym1) hown (mvT hZ (wk34 hw)) (mvT hZ (wk35 hw)) (notFace_of_selects (args := #[]) (mvT hZ (wk37 hw))) (mvT hZ (wk37 hw)) (mvT hZ (wk36 hw)) (by decide) (backOf (W := 0) (rm5_2 l Z a0 hw w hW [] o1 h5 n0 O6 t7 t8 g3 t9) hZ (wk38 hw) (wk11 hw) (by decide) (by decide)) q10a q10c (g := (mkF m 24 La [(.long (0 : Int64)), (.ref o1)])) rfl (by rw [hml]; rfl) (Steps.refl _) (argsL := [(.long (0 : Int64))]) (rest := []) (lenOf pds_1 rfl) rfl (by show 2 * 0 + _ ≤ _; exact Nat.le_of_eq rfl) (hb hby d4_24) (fun _ _ => ⟨rfl, e5, (by decide : 0 + 0 ≤ _), (by decide : 0 + 0 ≤ _)⟩)
  dsimp only [Pt.U, Pt.locs, Pt.cells, Pt.slots] at X10 l10 y10 z10 st10 hQ10
  subst l10 y10 z10
  obtain ⟨rfl, N10q, K10, r10_0, r10_1⟩ := hQ10
  have N10 := Fr.app N5 N10q
  have O11 := own_old O6 K10 (own_ngc g3 (own_ngc g3 own_ng0))
  have t12 := (own_fld F5 K10 (own_nls (sn11 hw) (own_nls (sn10 hw) own_nl0)))
  obtain ⟨T13, X13, e13, st13⟩ := getF X10 hx hZ hown (host := "") (Or.inl (wk32 hw)) Via.refl rfl t12 (g := (mkF m 29 La [(.ref o1), (.ref o1)])) rfl rfl (hb hby d4_29)
  obtain ⟨cq14, kq14, q14a, q14b, q14c⟩ := isOf hZ e13 ((wd1 hW).ext O11.2)
  obtain ⟨_, _, ⟨T14, L14, kk14, nn14⟩, -, X14, ⟨Lc14, hQ14, l14, y14, z14⟩, st14⟩ := X13.virtualBack hx (y := ym2) (z := ym2) hown (mvT hZ (wk43 hw)) (mvT hZ (wk44 hw)) (notFace_of_selects (args := #[]) (mvT hZ (wk46 hw))) (mvT hZ (wk46 hw)) (mvT hZ (wk45 hw)) (by decide) (backOf (W := 1) (rm6_3 l Z a0 hw w hW []  T10.heap n0 O11 ) hZ (wk47 hw) (wk13 hw) (by decide) (by decide)) q14a q14c (g := (mkF m 32 La [(.ref (w 0)), (.ref o1)])) rfl (by rw [hml]; rfl) (Steps.refl _) (argsL := []) (rest := [(.ref o1)]) (lenOf pds_2 rfl) rfl (by show 2 * 0 + _ ≤ _; exact Nat.le_of_eq rfl) (hb hby d4_32) (fun _ _ => ⟨rfl, e13, (by decide : 0 + 0 ≤ _), (by decide : 0 + 0 ≤ _)⟩)
  dsimp only [Pt.U, Pt.locs, Pt.cells, Pt.slots] at X14 l14 y14 z14 st14 hQ14
  subst l14 y14 z14
  obtain ⟨rfl, N14q, e14⟩ := hQ14
  have N14 := Fr.app N10 N14q
  have t15 := (own_fld ((f7.other W1 (Or.inr (sn12 hw))).other W5 (Or.inr (sn13 hw))) K10 (own_nls (sn15 hw) (own_nls (sn14 hw) own_nl0)))
  have t16 := (own_exa t7 K10)
  obtain ⟨T17, h17, X17, e17, W17, st17⟩ := putF X14 hx hZ hown (host := "") (Or.inl (wk53 hw)) Via.refl e14 t15 t16 (Or.inl (wk54 hw)) (wk10 hw) (ty := (.object "java/lang/Object")) (by decide) rfl rfl (g := (mkF m 43 La [.null, (.ref o1)])) rfl rfl (hb hby d4_43)
  have F17 : Fld Z h17 o1 "com/example/tidemark/tidemark/MemoryEntry" "lockFreeValue" "Ljava/lang/Object;" .null := t15.same W17
  have N17 := Fr.snoc X17 N14 g3
  have O18 := O11.wr W17 g3
  obtain ⟨fs, hr, hrun, hended, hWm, hsame⟩ := X17.leave (v := none) (fun _ => rfl)
  have Kf19 : own_KL h0 h17 [⟨o1, Jvm.RoadKit.slotOf Z "com/example/tidemark/tidemark/MemoryEntry" "value" "Ljava/lang/Object;"⟩, ⟨o1, Jvm.RoadKit.slotOf Z "com/example/tidemark/tidemark/MemoryEntry" "expiry" "Lcom/example/tidemark/tidemark/Expiry;"⟩, ⟨o1, Jvm.RoadKit.slotOf Z "com/example/tidemark/tidemark/MemoryEntry" "created" "J"⟩, ⟨o1, Jvm.RoadKit.slotOf Z "com/example/tidemark/tidemark/MemoryEntry" "lastUsed" "J"⟩, ⟨o1, Jvm.RoadKit.slotOf Z "com/example/tidemark/tidemark/MemoryEntry" "lockFreeValue" "Ljava/lang/Object;"⟩] := (own_klW (own_klT (own_klW (own_klW (own_kl0 h0 [⟨o1, Jvm.RoadKit.slotOf Z "com/example/tidemark/tidemark/MemoryEntry" "value" "Ljava/lang/Object;"⟩, ⟨o1, Jvm.RoadKit.slotOf Z "com/example/tidemark/tidemark/MemoryEntry" "expiry" "Lcom/example/tidemark/tidemark/Expiry;"⟩, ⟨o1, Jvm.RoadKit.slotOf Z "com/example/tidemark/tidemark/MemoryEntry" "created" "J"⟩, ⟨o1, Jvm.RoadKit.slotOf Z "com/example/tidemark/tidemark/MemoryEntry" "lastUsed" "J"⟩, ⟨o1, Jvm.RoadKit.slotOf Z "com/example/tidemark/tidemark/MemoryEntry" "lockFreeValue" "Ljava/lang/Object;"⟩]) W1 (Or.inl (List.mem_of_getElem? (i := 0) rfl))) W5 (Or.inl (List.mem_of_getElem? (i := 1) rfl))) K10 (own_kac (Or.inl (List.mem_of_getElem? (i := 2) rfl)) (own_kac (Or.inl (List.mem_of_getElem? (i := 3) rfl)) own_ka0))) W17 (Or.inl (List.mem_of_getElem? (i := 4) rfl)))
  have t20 := ((own_fld (F1.other W5 (Or.inr (sn16 hw))) K10 (own_nls (sn18 hw) (own_nls (sn17 hw) own_nl0))).other W17 (Or.inr (sn19 hw)))
  have t21 := (t12.other W17 (Or.inr (sn20 hw)))
  have t22 := (r10_0.other W17 (Or.inr (sn21 hw)))
  have t23 := (r10_1.other W17 (Or.inr (sn22 hw)))
  refine ⟨_, _, pre0 _ ?_, hrun, hended, _, _, rfl, ?_, ⟨_, rfl⟩, hWm, hsame.mono (by decide) (by decide)⟩
  · show Steps p.tables e below (s₁.setTop (mkF m 0 La [])) _
    refine sA X0 hx hby d4_0 rfl rfl ?_
    refine sA X0 hx hby d4_1 rfl rfl ?_
    refine st1 _ ?_
    refine sA X1 hx hby d4_5 rfl rfl ?_
    refine XS.ifnonnullYes X1.here hx rfl (pc0 := 6) (pc' := 17) rfl (hb hby d4_6) rfl (by decide) (by decide) ?_
    refine sA X1 hx hby d4_17 rfl rfl ?_
    refine sA X1 hx hby d4_18 rfl rfl ?_
    refine st5 _ ?_
    refine sA X5 hx hby d4_22 rfl rfl ?_
    refine sL X5 hx hby d4_23 rfl ?_
    refine st10.trans ?_
    refine sA X10 hx hby d4_27 rfl rfl ?_
    refine sA X10 hx hby d4_28 rfl rfl ?_
    refine st13 _ ?_
    refine st14.trans ?_
    refine XS.ifYes X14.here hx rfl (pc0 := 35) (pc' := 42) rfl (hb hby d4_35) rfl (by decide) (by decide) (by decide) ?_
    refine sA X14 hx hby d4_42 rfl rfl ?_
    refine st17 _ ?_
    exact X17.returnOut hx Bd.returns (hb hby d4_46) hr
  · show Q4_4 Z w o1 h0 n0 _ T17.heap _
    rw [e17]
    exact ⟨rfl, N17, Kf19, t20, t21, t22, t23, F17⟩
theorem pds_3 : parseMethodDescriptor "(Ljava/lang/Object;Lcom/example/tidemark/tidemark/Expiry;J)V" = some ⟨[(.object "java/lang/Object"), (.object "com/example/tidemark/tidemark/Expiry"), .long], none⟩ := by decide +kernel
theorem d3_28 : decode prog_40_method_1_code 28 = .ok (.return_, 1) := by decide +kernel
theorem ef_3_5 (m : MethodId) (w : Nat → Addr) (o1 : Addr) (q2 : Int64) : entryFrame m #[(.ref o1), .null, .null, (.ref (w 0)), (.long (0 : Int64)), (.long q2)] 8 = mkF m 0 #[.val (.ref o1), .val .null, .val .null, .val (.ref (w 0)), .val (.long (0 : Int64)), .second, .val (.long q2), .second] [] := by first | (simp [entryFrame, mkF, argsToLocals, Value.category]; done) | rfl
def Q3_5 (Z : State) (w : Nat → Addr) (o1 : Addr) (q2 : Int64) (h0 : Heap) (n0 : Nat) (v : Option Value) (h : Heap) (L : List Loc) : Prop := v = none ∧ Fr n0 L ∧ own_KL h0 h [⟨o1, Jvm.RoadKit.slotOf Z "com/example/tidemark/tidemark/MemoryEntry" "slot" "I"⟩, ⟨o1, Jvm.RoadKit.slotOf Z "com/example/tidemark/tidemark/MemoryEntry" "key" "Ljava/lang/Object;"⟩, ⟨o1, Jvm.RoadKit.slotOf Z "com/example/tidemark/tidemark/MemoryEntry" "charge" "J"⟩, ⟨o1, Jvm.RoadKit.slotOf Z "com/example/tidemark/tidemark/MemoryEntry" "value" "Ljava/lang/Object;"⟩, ⟨o1, Jvm.RoadKit.slotOf Z "com/example/tidemark/tidemark/MemoryEntry" "expiry" "Lcom/example/tidemark/tidemark/Expiry;"⟩, ⟨o1, Jvm.RoadKit.slotOf Z "com/example/tidemark/tidemark/MemoryEntry" "created" "J"⟩, ⟨o1, Jvm.RoadKit.slotOf Z "com/example/tidemark/tidemark/MemoryEntry" "lastUsed" "J"⟩, ⟨o1, Jvm.RoadKit.slotOf Z "com/example/tidemark/tidemark/MemoryEntry" "lockFreeValue" "Ljava/lang/Object;"⟩] ∧ Fld Z h o1 "com/example/tidemark/tidemark/MemoryEntry" "slot" "I" (.int (-1 : Int32)) ∧ Fld Z h o1 "com/example/tidemark/tidemark/MemoryEntry" "key" "Ljava/lang/Object;" .null ∧ Fld Z h o1 "com/example/tidemark/tidemark/MemoryEntry" "charge" "J" (.long q2) ∧ Fld Z h o1 "com/example/tidemark/tidemark/MemoryEntry" "value" "Ljava/lang/Object;" .null ∧ Fld Z h o1 "com/example/tidemark/tidemark/MemoryEntry" "expiry" "Lcom/example/tidemark/tidemark/Expiry;" (.ref (w 0)) ∧ Fld Z h o1 "com/example/tidemark/tidemark/MemoryEntry" "created" "J" (.long (0 : Int64)) ∧ Fld Z h o1 "com/example/tidemark/tidemark/MemoryEntry" "lastUsed" "J" (.long (0 : Int64)) ∧ Fld Z h o1 "com/example/tidemark/tidemark/MemoryEntry" "lockFreeValue" "Ljava/lang/Object;" .null
set_option maxRecDepth 65536 in
set_option maxHeartbeats 40000000 in
theorem rm3_5 (l : Launch) (Z : State) (a0 : Array Value) (hw : ∀ d ∈ tables_1, d.before a0 Z = true) (w : Nat → Addr) (hW : Wd Z w) (ws : List Jvm.Cond) (o1 : Addr) (q2 : Int64) (h0 : Heap) (n0 : Nat) (O0 : Old Z n0 h0) (f1 : Exa Z h0 o1 "com/example/tidemark/tidemark/MemoryEntry") (f2 : Fld Z h0 o1 "com/example/tidemark/tidemark/MemoryEntry" "slot" "I" (.int (0 : Int32))) (g3 : n0 ≤ o1) (f4 : Fld Z h0 o1 "com/example/tidemark/tidemark/MemoryEntry" "key" "Ljava/lang/Object;" .null) (f5 : Fld Z h0 o1 "com/example/tidemark/tidemark/MemoryEntry" "charge" "J" (.long (0 : Int64))) (f6 : Fld Z h0 o1 "com/example/tidemark/tidemark/MemoryEntry" "value" "Ljava/lang/Object;" .null) (f7 : Fld Z h0 o1 "com/example/tidemark/tidemark/MemoryEntry" "expiry" "Lcom/example/tidemark/tidemark/Expiry;" .null) (f8 : Fld Z h0 o1 "com/example/tidemark/tidemark/MemoryEntry" "created" "J" (.long (0 : Int64))) (f9 : Fld Z h0 o1 "com/example/tidemark/tidemark/MemoryEntry" "lastUsed" "J" (.long (0 : Int64))) (f10 : Fld Z h0 o1 "com/example/tidemark/tidemark/MemoryEntry" "lockFreeValue" "Ljava/lang/Object;" .null) :
    MetFree l ym4 (head1 (Jvm.Cond.code ym4 prog_40_method_1_code 8 none :: ws) ({ frames := 2, cells := 0, slots := 0, locals := 30 } : Room)) (fun a U => a = #[(.ref o1), .null, .null, (.ref (w 0)), (.long (0 : Int64)), (.long q2)] ∧ Z.Warmed39 U.vm ∧ U.heap = h0) (fun _ _ _ _ _ => True) (fun _ U o U' => ∃ v L, o = .returned v ∧ Q3_5 Z w o1 q2 h0 n0 v U'.heap L ∧ FrameEnd U o U' L ({ frames := 2, cells := 0, slots := 0, locals := 30 } : Room).cells ({ frames := 2, cells := 0, slots := 0, locals := 30 } : Room).slots) := by
  refine MetFree.of_bodySF (plainFor_of_name pnc_1) hisR ?_
  intro p e s m args below meth c s₁ Bd hml0 hP hK
  obtain ⟨rfl, hZ, hh⟩ := hP
  have hx := Bd.exec
  have hby := Bd.bytes
  have hml : c.maxLocals = 8 := hml0
  have hown : s.vm.findClass "com/example/tidemark/tidemark/MemoryEntry" = some m.cls := findClass_of_methodNamed Bd.named
  have hnm := (name_of_methodNamed Bd.named Bd.method).1
  have X0 : Stand p l e ({ frames := 2, cells := 0, slots := 0, locals := 30 } : Room) s m #[(.ref o1), .null, .null, (.ref (w 0)), (.long (0 : Int64)), (.long q2)] below meth c s₁ [] 0 0 := Stand.of_body Bd
  have e0 : s₁.heap = h0 := by rw [← hh, Bd.state]; rfl
  have N0 := Fr.nil n0
  let La : Array Slot := #[.val (.ref o1), .val .null, .val .null, .val (.ref (w 0)), .val (.long (0 : Int64)), .second, .val (.long q2), .second]
  have pre0 : ∀ t, Steps p.tables e below (s₁.setTop (mkF m 0 #[.val (.ref o1), .val .null, .val .null, .val (.ref (w 0)), .val (.long (0 : Int64)), .second, .val (.long q2), .second] [])) t → Steps p.tables e below (s₁.setTop (entryFrame m #[(.ref o1), .null, .null, (.ref (w 0)), (.long (0 : Int64)), (.long q2)] 8)) t := fun t k => castTop (ef_3_5 m w o1 q2) k
  obtain ⟨T1, X1, e1, st1⟩ := initO X0 hx hZ hown (wk18 hw) (wk7 hw) (wk8 hw) e0 (g := (mkF m 1 La [(.ref o1)])) rfl (by rw [hml]; rfl) rfl (hb hby d3_1) (by decide) (W := 0) (by show 2 * 0 + _ ≤ _; exact Nat.le_of_eq rfl) (by decide)
  obtain ⟨T2, h2, X2, e2, W2, st2⟩ := putF X1 hx hZ hown (host := "") (Or.inl (wk19 hw)) Via.refl e1 f2 f1 (Or.inl (wk20 hw)) (wk10 hw) (ty := .int) (by decide) rfl rfl (g := (mkF m 6 La [(.int (-1 : Int32)), (.ref o1)])) rfl rfl (hb hby d3_6)
  have F2 : Fld Z h2 o1 "com/example/tidemark/tidemark/MemoryEntry" "slot" "I" (.int (-1 : Int32)) := f2.same W2
  have N2 := Fr.snoc X2 N0 g3
  have O3 := O0.wr W2 g3
  have t4 := (f4.other W2 (Or.inr (sn0 hw)))
  have t5 := (f1.wr W2)
  obtain ⟨T6, h6, X6, e6, W6, st6⟩ := putF X2 hx hZ hown (host := "") (Or.inl (wk21 hw)) Via.refl e2 t4 t5 (Or.inr ⟨(wk22 hw), rfl, hnm⟩) (wk10 hw) (ty := (.object "java/lang/Object")) (by decide) rfl rfl (g := (mkF m 11 La [.null, (.ref o1)])) rfl rfl (hb hby d3_11)
  have F6 : Fld Z h6 o1 "com/example/tidemark/tidemark/MemoryEntry" "key" "Ljava/lang/Object;" .null := t4.same W6
  have N6 := Fr.snoc X6 N2 g3
  have O7 := O3.wr W6 g3
  have t8 := ((f5.other W2 (Or.inr (sn1 hw))).other W6 (Or.inr (sn2 hw)))
  have t9 := (t5.wr W6)
  obtain ⟨T10, h10, X10, e10, W10, st10⟩ := putF X6 hx hZ hown (host := "") (Or.inl (wk23 hw)) Via.refl e6 t8 t9 (Or.inl (wk24 hw)) (wk10 hw) (ty := .long) (by decide) rfl rfl (g := (mkF m 17 La [(.long q2), (.ref o1)])) rfl rfl (hb hby d3_17)
  have F10 : Fld Z h10 o1 "com/example/tidemark/tidemark/MemoryEntry" "charge" "J" (.long q2) := t8.same W10
  have N10 := Fr.snoc X10 N6 g3
  have O11 := O7.wr W10 g3
  have t12 := (t9.wr W10)
  have t13 := (((f6.other W2 (Or.inr (sn23 hw))).other W6 (Or.inr (sn24 hw))).other W10 (Or.inr (sn25 hw)))
  have t14 := (((f7.other W2 (Or.inr (sn26 hw))).other W6 (Or.inr (sn27 hw))).other W10 (Or.inr (sn28 hw)))
  have t15 := (((f8.other W2 (Or.inr (sn29 hw))).other W6 (Or.inr (sn30 hw))).other W10 (Or.inr (sn31 hw)))
  have t16 := (((f9.other W2 (Or.inr (sn32 hw))).other W6 (Or.inr (sn33 hw))).other W10 (Or.inr (sn34 hw)))
  have t17 := (((f10.other W2 (Or.inr (sn35 hw))).other W6 (Or.inr (sn36 hw))).other W10 (Or.inr (sn37 hw)))
  obtain ⟨cq18, kq18, q18a, q18b, q18c⟩ := isOf hZ e10 t12
  obtain ⟨_, _, ⟨T18, L18, kk18, nn18⟩, -, X18, ⟨Lc18, hQ18, l18, y18, z18⟩, st18⟩ := X10.virtualBack hx (y := ym3) (z := ym3) hown (mvT hZ (wk25 hw)) (mvT hZ (wk26 hw)) (notFace_of_selects (args := #[]) (mvT hZ (wk28 hw))) (mvT hZ (wk28 hw)) (mvT hZ (wk27 hw)) (by decide) (backOf (W := 0) (rm4_4 l Z a0 hw w hW [] o1 h10 n0 O11 t12 t13 g3 t14 t15 t16 t17) hZ (wk29 hw) (wk11 hw) (by decide) (by decide)) q18a q18c (g := (mkF m 25 La [(.long (0 : Int64)), (.ref (w 0)), .null, (.ref o1)])) rfl (by rw [hml]; rfl) (Steps.refl _) (argsL := [.null, (.ref (w 0)), (.long (0 : Int64))]) (rest := []) (lenOf pds_3 rfl) rfl (by show 2 * 0 + _ ≤ _; exact Nat.le_of_eq rfl) (hb hby d3_25) (fun _ _ => ⟨rfl, e10, (by decide : 0 + 0 ≤ _), (by decide : 0 + 0 ≤ _)⟩)
  dsimp only [Pt.U, Pt.locs, Pt.cells, Pt.slots] at X18 l18 y18 z18 st18 hQ18
  subst l18 y18 z18
  obtain ⟨rfl, N18q, K18, r18_0, r18_1, r18_2, r18_3, r18_4⟩ := hQ18
  have N18 := Fr.app N10 N18q
  have O19 := own_old O11 K18 (own_ngc g3 (own_ngc g3 (own_ngc g3 (own_ngc g3 (own_ngc g3 own_ng0)))))
  obtain ⟨fs, hr, hrun, hended, hWm, hsame⟩ := X18.leave (v := none) (fun _ => rfl)
  have Kf20 : own_KL h0 T18.heap [⟨o1, Jvm.RoadKit.slotOf Z "com/example/tidemark/tidemark/MemoryEntry" "slot" "I"⟩, ⟨o1, Jvm.RoadKit.slotOf Z "com/example/tidemark/tidemark/MemoryEntry" "key" "Ljava/lang/Object;"⟩, ⟨o1, Jvm.RoadKit.slotOf Z "com/example/tidemark/tidemark/MemoryEntry" "charge" "J"⟩, ⟨o1, Jvm.RoadKit.slotOf Z "com/example/tidemark/tidemark/MemoryEntry" "value" "Ljava/lang/Object;"⟩, ⟨o1, Jvm.RoadKit.slotOf Z "com/example/tidemark/tidemark/MemoryEntry" "expiry" "Lcom/example/tidemark/tidemark/Expiry;"⟩, ⟨o1, Jvm.RoadKit.slotOf Z "com/example/tidemark/tidemark/MemoryEntry" "created" "J"⟩, ⟨o1, Jvm.RoadKit.slotOf Z "com/example/tidemark/tidemark/MemoryEntry" "lastUsed" "J"⟩, ⟨o1, Jvm.RoadKit.slotOf Z "com/example/tidemark/tidemark/MemoryEntry" "lockFreeValue" "Ljava/lang/Object;"⟩] := (own_klT (own_klW (own_klW (own_klW (own_kl0 h0 [⟨o1, Jvm.RoadKit.slotOf Z "com/example/tidemark/tidemark/MemoryEntry" "slot" "I"⟩, ⟨o1, Jvm.RoadKit.slotOf Z "com/example/tidemark/tidemark/MemoryEntry" "key" "Ljava/lang/Object;"⟩, ⟨o1, Jvm.RoadKit.slotOf Z "com/example/tidemark/tidemark/MemoryEntry" "charge" "J"⟩, ⟨o1, Jvm.RoadKit.slotOf Z "com/example/tidemark/tidemark/MemoryEntry" "value" "Ljava/lang/Object;"⟩, ⟨o1, Jvm.RoadKit.slotOf Z "com/example/tidemark/tidemark/MemoryEntry" "expiry" "Lcom/example/tidemark/tidemark/Expiry;"⟩, ⟨o1, Jvm.RoadKit.slotOf Z "com/example/tidemark/tidemark/MemoryEntry" "created" "J"⟩, ⟨o1, Jvm.RoadKit.slotOf Z "com/example/tidemark/tidemark/MemoryEntry" "lastUsed" "J"⟩, ⟨o1, Jvm.RoadKit.slotOf Z "com/example/tidemark/tidemark/MemoryEntry" "lockFreeValue" "Ljava/lang/Object;"⟩]) W2 (Or.inl (List.mem_of_getElem? (i := 0) rfl))) W6 (Or.inl (List.mem_of_getElem? (i := 1) rfl))) W10 (Or.inl (List.mem_of_getElem? (i := 2) rfl))) K18 (own_kac (Or.inl (List.mem_of_getElem? (i := 3) rfl)) (own_kac (Or.inl (List.mem_of_getElem? (i := 4) rfl)) (own_kac (Or.inl (List.mem_of_getElem? (i := 5) rfl)) (own_kac (Or.inl (List.mem_of_getElem? (i := 6) rfl)) (own_kac (Or.inl (List.mem_of_getElem? (i := 7) rfl)) own_ka0))))))
  have t21 := (own_fld ((F2.other W6 (Or.inr (sn38 hw))).other W10 (Or.inr (sn39 hw))) K18 (own_nls (sn44 hw) (own_nls (sn43 hw) (own_nls (sn42 hw) (own_nls (sn41 hw) (own_nls (sn40 hw) own_nl0))))))
  have t22 := (own_fld (F6.other W10 (Or.inr (sn45 hw))) K18 (own_nls (sn50 hw) (own_nls (sn49 hw) (own_nls (sn48 hw) (own_nls (sn47 hw) (own_nls (sn46 hw) own_nl0))))))
  have t23 := (own_fld F10 K18 (own_nls (sn55 hw) (own_nls (sn54 hw) (own_nls (sn53 hw) (own_nls (sn52 hw) (own_nls (sn51 hw) own_nl0))))))
  refine ⟨_, _, pre0 _ ?_, hrun, hended, _, _, rfl, ?_, ⟨_, rfl⟩, hWm, hsame.mono (by decide) (by decide)⟩
  · show Steps p.tables e below (s₁.setTop (mkF m 0 La [])) _
    refine sA X0 hx hby d3_0 rfl rfl ?_
    refine st1 _ ?_
    refine sA X1 hx hby d3_4 rfl rfl ?_
    refine sc X1 hx hby d3_5 ?_
    refine st2 _ ?_
    refine sA X2 hx hby d3_9 rfl rfl ?_
    refine sA X2 hx hby d3_10 rfl rfl ?_
    refine st6 _ ?_
    refine sA X6 hx hby d3_14 rfl rfl ?_
    refine XS.lload X6.here hx rfl (hb hby d3_15) rfl ?_
    refine st10 _ ?_
    refine sA X10 hx hby d3_20 rfl rfl ?_
    refine sA X10 hx hby d3_21 rfl rfl ?_
    refine sA X10 hx hby d3_22 rfl rfl ?_
    refine XS.lload X10.here hx rfl (hb hby d3_23) rfl ?_
    refine st18.trans ?_
    exact X18.returnOut hx Bd.returns (hb hby d3_28) hr
  · show Q3_5 Z w o1 q2 h0 n0 _ T18.heap _
    exact ⟨rfl, N18, Kf20, t21, t22, t23, r18_0, r18_1, r18_2, r18_3, r18_4⟩
theorem pds_4 : parseMethodDescriptor "(Ljava/lang/Object;Ljava/lang/Object;Lcom/example/tidemark/tidemark/Expiry;JJ)V" = some ⟨[(.object "java/lang/Object"), (.object "java/lang/Object"), (.object "com/example/tidemark/tidemark/Expiry"), .long, .long], none⟩ := by decide +kernel
theorem d7_0 : decode prog_41_method_7_code 0 = .ok (.aload_n 1, 1) := by decide +kernel
theorem d7_1 : decode prog_41_method_7_code 1 = .ok (.aload_n 0, 1) := by decide +kernel
theorem d7_2 : decode prog_41_method_7_code 2 = .ok (.dup, 1) := by decide +kernel
theorem d7_3 : decode prog_41_method_7_code 3 = .ok (.getfield 25, 3) := by decide +kernel
theorem d7_6 : decode prog_41_method_7_code 6 = .ok (.lconst 1, 1) := by decide +kernel
theorem d7_7 : decode prog_41_method_7_code 7 = .ok (.ladd, 1) := by decide +kernel
theorem d7_8 : decode prog_41_method_7_code 8 = .ok (.dup2_x1, 1) := by decide +kernel
theorem d7_9 : decode prog_41_method_7_code 9 = .ok (.putfield 25, 3) := by decide +kernel
theorem d7_12 : decode prog_41_method_7_code 12 = .ok (.putfield 28, 3) := by decide +kernel
theorem d7_15 : decode prog_41_method_7_code 15 = .ok (.aload_n 1, 1) := by decide +kernel
theorem d7_16 : decode prog_41_method_7_code 16 = .ok (.aload_n 0, 1) := by decide +kernel
theorem d7_17 : decode prog_41_method_7_code 17 = .ok (.putfield 31, 3) := by decide +kernel
theorem d7_20 : decode prog_41_method_7_code 20 = .ok (.aload_n 1, 1) := by decide +kernel
theorem d7_21 : decode prog_41_method_7_code 21 = .ok (.aload_n 0, 1) := by decide +kernel
theorem d7_22 : decode prog_41_method_7_code 22 = .ok (.getfield 35, 3) := by decide +kernel
theorem d7_25 : decode prog_41_method_7_code 25 = .ok (.putfield 38, 3) := by decide +kernel
theorem d7_28 : decode prog_41_method_7_code 28 = .ok (.aload_n 1, 1) := by decide +kernel
theorem d7_29 : decode prog_41_method_7_code 29 = .ok (.aconst_null, 1) := by decide +kernel
theorem d7_30 : decode prog_41_method_7_code 30 = .ok (.putfield 13, 3) := by decide +kernel
theorem d7_33 : decode prog_41_method_7_code 33 = .ok (.aload_n 0, 1) := by decide +kernel
theorem d7_34 : decode prog_41_method_7_code 34 = .ok (.getfield 35, 3) := by decide +kernel
theorem d7_37 : decode prog_41_method_7_code 37 = .ok (.ifnonnull 11, 3) := by decide +kernel
theorem d7_40 : decode prog_41_method_7_code 40 = .ok (.aload_n 0, 1) := by decide +kernel
theorem d7_41 : decode prog_41_method_7_code 41 = .ok (.aload_n 1, 1) := by decide +kernel
theorem d7_42 : decode prog_41_method_7_code 42 = .ok (.putfield 7, 3) := by decide +kernel
theorem d7_45 : decode prog_41_method_7_code 45 = .ok (.goto 11, 3) := by decide +kernel
theorem d7_56 : decode prog_41_method_7_code 56 = .ok (.aload_n 0, 1) := by decide +kernel
theorem d7_57 : decode prog_41_method_7_code 57 = .ok (.aload_n 1, 1) := by decide +kernel
theorem d7_58 : decode prog_41_method_7_code 58 = .ok (.putfield 35, 3) := by decide +kernel
theorem d7_61 : decode prog_41_method_7_code 61 = .ok (.aload_n 0, 1) := by decide +kernel
theorem d7_62 : decode prog_41_method_7_code 62 = .ok (.dup, 1) := by decide +kernel
theorem d7_63 : decode prog_41_method_7_code 63 = .ok (.getfield 18, 3) := by decide +kernel
theorem d7_66 : decode prog_41_method_7_code 66 = .ok (.lconst 1, 1) := by decide +kernel
theorem d7_67 : decode prog_41_method_7_code 67 = .ok (.ladd, 1) := by decide +kernel
theorem d7_68 : decode prog_41_method_7_code 68 = .ok (.putfield 18, 3) := by decide +kernel
theorem d7_71 : decode prog_41_method_7_code 71 = .ok (.aload_n 0, 1) := by decide +kernel
theorem d7_72 : decode prog_41_method_7_code 72 = .ok (.dup, 1) := by decide +kernel
theorem d7_73 : decode prog_41_method_7_code 73 = .ok (.getfield 22, 3) := by decide +kernel
theorem d7_76 : decode prog_41_method_7_code 76 = .ok (.aload_n 1, 1) := by decide +kernel
theorem d7_77 : decode prog_41_method_7_code 77 = .ok (.getfield 41, 3) := by decide +kernel
theorem d7_80 : decode prog_41_method_7_code 80 = .ok (.ladd, 1) := by decide +kernel
theorem d7_81 : decode prog_41_method_7_code 81 = .ok (.putfield 22, 3) := by decide +kernel
theorem d7_84 : decode prog_41_method_7_code 84 = .ok (.return_, 1) := by decide +kernel
theorem ef_7_6 (m : MethodId) (o1 : Addr) (o2 : Addr) : entryFrame m #[(.ref o1), (.ref o2)] 2 = mkF m 0 #[.val (.ref o1), .val (.ref o2)] [] := by first | (simp [entryFrame, mkF, argsToLocals, Value.category]; done) | rfl
def Q7_6 (Z : State) (w : Nat → Addr) (o1 : Addr) (o2 : Addr) (q3 : Int64) (h0 : Heap) (n0 : Nat) (v : Option Value) (h : Heap) (L : List Loc) : Prop := v = none ∧ Fr n0 L ∧ own_KL h0 h [⟨o1, Jvm.RoadKit.slotOf Z "com/example/tidemark/tidemark/RecencyList" "stamps" "J"⟩, ⟨o2, Jvm.RoadKit.slotOf Z "com/example/tidemark/tidemark/MemoryEntry" "stamp" "J"⟩, ⟨o2, Jvm.RoadKit.slotOf Z "com/example/tidemark/tidemark/MemoryEntry" "list" "Lcom/example/tidemark/tidemark/RecencyList;"⟩, ⟨o2, Jvm.RoadKit.slotOf Z "com/example/tidemark/tidemark/MemoryEntry" "older" "Lcom/example/tidemark/tidemark/MemoryEntry;"⟩, ⟨o2, Jvm.RoadKit.slotOf Z "com/example/tidemark/tidemark/MemoryEntry" "newer" "Lcom/example/tidemark/tidemark/MemoryEntry;"⟩, ⟨o1, Jvm.RoadKit.slotOf Z "com/example/tidemark/tidemark/RecencyList" "oldest" "Lcom/example/tidemark/tidemark/MemoryEntry;"⟩, ⟨o1, Jvm.RoadKit.slotOf Z "com/example/tidemark/tidemark/RecencyList" "newest" "Lcom/example/tidemark/tidemark/MemoryEntry;"⟩, ⟨o1, Jvm.RoadKit.slotOf Z "com/example/tidemark/tidemark/RecencyList" "size" "J"⟩, ⟨o1, Jvm.RoadKit.slotOf Z "com/example/tidemark/tidemark/RecencyList" "weight" "J"⟩] ∧ Fld Z h o1 "com/example/tidemark/tidemark/RecencyList" "stamps" "J" (.long (1 : Int64)) ∧ Fld Z h o2 "com/example/tidemark/tidemark/MemoryEntry" "stamp" "J" (.long (1 : Int64)) ∧ Fld Z h o2 "com/example/tidemark/tidemark/MemoryEntry" "list" "Lcom/example/tidemark/tidemark/RecencyList;" (.ref o1) ∧ Fld Z h o1 "com/example/tidemark/tidemark/RecencyList" "newest" "Lcom/example/tidemark/tidemark/MemoryEntry;" (.ref o2) ∧ Fld Z h o2 "com/example/tidemark/tidemark/MemoryEntry" "older" "Lcom/example/tidemark/tidemark/MemoryEntry;" .null ∧ Fld Z h o2 "com/example/tidemark/tidemark/MemoryEntry" "newer" "Lcom/example/tidemark/tidemark/MemoryEntry;" .null ∧ Fld Z h o1 "com/example/tidemark/tidemark/RecencyList" "oldest" "Lcom/example/tidemark/tidemark/MemoryEntry;" (.ref o2) ∧ Fld Z h o1 "com/example/tidemark/tidemark/RecencyList" "size" "J" (.long (1 : Int64)) ∧ Fld Z h o1 "com/example/tidemark/tidemark/RecencyList" "weight" "J" (.long ((0 : Int64) + q3))
set_option maxRecDepth 65536 in
set_option maxHeartbeats 40000000 in
theorem rm7_6 (l : Launch) (Z : State) (a0 : Array Value) (hw : ∀ d ∈ tables_1, d.before a0 Z = true) (w : Nat → Addr) (hW : Wd Z w) (ws : List Jvm.Cond) (o1 : Addr) (o2 : Addr) (q3 : Int64) (h0 : Heap) (n0 : Nat) (O0 : Old Z n0 h0) (f1 : Fld Z h0 o1 "com/example/tidemark/tidemark/RecencyList" "stamps" "J" (.long (0 : Int64))) (f2 : Exa Z h0 o1 "com/example/tidemark/tidemark/RecencyList") (g3 : n0 ≤ o1) (f4 : Exa Z h0 o2 "com/example/tidemark/tidemark/MemoryEntry") (f5 : Fld Z h0 o2 "com/example/tidemark/tidemark/MemoryEntry" "stamp" "J" (.long (0 : Int64))) (u6 : o2 ≠ o1) (g7 : n0 ≤ o2) (f8 : Fld Z h0 o2 "com/example/tidemark/tidemark/MemoryEntry" "list" "Lcom/example/tidemark/tidemark/RecencyList;" .null) (f9 : Fld Z h0 o1 "com/example/tidemark/tidemark/RecencyList" "newest" "Lcom/example/tidemark/tidemark/MemoryEntry;" .null) (f10 : Fld Z h0 o2 "com/example/tidemark/tidemark/MemoryEntry" "older" "Lcom/example/tidemark/tidemark/MemoryEntry;" .null) (f11 : Fld Z h0 o2 "com/example/tidemark/tidemark/MemoryEntry" "newer" "Lcom/example/tidemark/tidemark/MemoryEntry;" .null) (f12 : Fld Z h0 o1 "com/example/tidemark/tidemark/RecencyList" "oldest" "Lcom/example/tidemark/tidemark/MemoryEntry;" .null) (f13 : Fld Z h0 o1 "com/example/tidemark/tidemark/RecencyList" "size" "J" (.long (0 : Int64))) (f14 : Fld Z h0 o1 "com/example/tidemark/tidemark/RecencyList" "weight" "J" (.long (0 : Int64))) (f15 : Fld Z h0 o2 "com/example/tidemark/tidemark/MemoryEntry" "charge" "J" (.long q3)) :
    MetFree l ym5 (head1 (Jvm.Cond.code ym5 prog_41_method_7_code 2 none :: ws) ({ frames := 0, cells := 0, slots := 0, locals := 0 } : Room)) (fun a U => a = #[(.ref o1), (.ref o2)] ∧ Z.Warmed39 U.vm ∧ U.heap = h0) (fun _ _ _ _ _ => True) (fun _ U o U' => ∃ v L, o = .returned v ∧ Q7_6 Z w o1 o2 q3 h0 n0 v U'.heap L ∧ FrameEnd U o U' L ({ frames := 0, cells := 0, slots := 0, locals := 0 } : Room).cells ({ frames := 0, cells := 0, slots := 0, locals := 0 } : Room).slots) := by
  refine MetFree.of_bodySF (plainFor_of_name pnc_0) hisR ?_
  intro p e s m args below meth c s₁ Bd hml0 hP hK
  obtain ⟨rfl, hZ, hh⟩ := hP
  have hx := Bd.exec
  have hby := Bd.bytes
  have hml : c.maxLocals = 2 := hml0
  have hown : s.vm.findClass "com/example/tidemark/tidemark/RecencyList" = some m.cls := findClass_of_methodNamed Bd.named
  have hnm := (name_of_methodNamed Bd.named Bd.method).1
  have X0 : Stand p l e ({ frames := 0, cells := 0, slots := 0, locals := 0 } : Room) s m #[(.ref o1), (.ref o2)] below meth c s₁ [] 0 0 := Stand.of_body Bd
  have e0 : s₁.heap = h0 := by rw [← hh, Bd.state]; rfl
  have N0 := Fr.nil n0
  skip
  have pre0 : ∀ t, Steps p.tables e below (s₁.setTop (mkF m 0 #[.val (.ref o1), .val (.ref o2)] [])) t → Steps p.tables e below (s₁.setTop (entryFrame m #[(.ref o1), (.ref o2)] 2)) t := fun t k => castTop (ef_7_6 m o1 o2) k
  obtain ⟨T1, X1, e1, st1⟩ := getF X0 hx hZ hown (host := "") (Or.inl (wk60 hw)) Via.refl e0 f1 (g := (mkF m 3 #[.val (.ref o1), .val (.ref o2)] [(.ref o1), (.ref o1), (.ref o2)])) rfl rfl (hb hby d7_3)
  obtain ⟨T2, h2, X2, e2, W2, st2⟩ := putF X1 hx hZ hown (host := "") (Or.inl (wk60 hw)) Via.refl e1 f1 f2 (Or.inl (wk61 hw)) (wk1 hw) (ty := .long) (by decide) rfl rfl (g := (mkF m 9 #[.val (.ref o1), .val (.ref o2)] [(.long (1 : Int64)), (.ref o1), (.long (1 : Int64)), (.ref o2)])) rfl rfl (hb hby d7_9)
  have F2 : Fld Z h2 o1 "com/example/tidemark/tidemark/RecencyList" "stamps" "J" (.long (1 : Int64)) := f1.same W2
  have N2 := Fr.snoc X2 N0 g3
  have O3 := O0.wr W2 g3
  have t4 := (f5.other W2 (Or.inl u6))
  have t5 := (f4.wr W2)
  obtain ⟨T6, h6, X6, e6, W6, st6⟩ := putF X2 hx hZ hown (host := "") (Or.inl (wk62 hw)) Via.refl e2 t4 t5 (Or.inl (wk63 hw)) (wk10 hw) (ty := .long) (by decide) rfl rfl (g := (mkF m 12 #[.val (.ref o1), .val (.ref o2)] [(.long (1 : Int64)), (.ref o2)])) rfl rfl (hb hby d7_12)
  have F6 : Fld Z h6 o2 "com/example/tidemark/tidemark/MemoryEntry" "stamp" "J" (.long (1 : Int64)) := t4.same W6
  have N6 := Fr.snoc X6 N2 g7
  have O7 := O3.wr W6 g7
  have t8 := ((f8.other W2 (Or.inl u6)).other W6 (Or.inr (sn56 hw)))
  have t9 := (t5.wr W6)
  obtain ⟨T10, h10, X10, e10, W10, st10⟩ := putF X6 hx hZ hown (host := "") (Or.inl (wk64 hw)) Via.refl e6 t8 t9 (Or.inl (wk65 hw)) (wk10 hw) (ty := (.object "com/example/tidemark/tidemark/RecencyList")) (by decide) rfl rfl (g := (mkF m 17 #[.val (.ref o1), .val (.ref o2)] [(.ref o1), (.ref o2)])) rfl rfl (hb hby d7_17)
  have F10 : Fld Z h10 o2 "com/example/tidemark/tidemark/MemoryEntry" "list" "Lcom/example/tidemark/tidemark/RecencyList;" (.ref o1) := t8.same W10
  have N10 := Fr.snoc X10 N6 g7
  have O11 := O7.wr W10 g7
  have t12 := (((f9.other W2 (Or.inr (sn57 hw))).other W6 (Or.inl (Ne.symm u6))).other W10 (Or.inl (Ne.symm u6)))
  obtain ⟨T13, X13, e13, st13⟩ := getF X10 hx hZ hown (host := "") (Or.inl (wk66 hw)) Via.refl e10 t12 (g := (mkF m 22 #[.val (.ref o1), .val (.ref o2)] [(.ref o1), (.ref o2)])) rfl rfl (hb hby d7_22)
  have t14 := (((f10.other W2 (Or.inl u6)).other W6 (Or.inr (sn58 hw))).other W10 (Or.inr (sn59 hw)))
  have t15 := (t9.wr W10)
  obtain ⟨T16, h16, X16, e16, W16, st16⟩ := putF X13 hx hZ hown (host := "") (Or.inl (wk68 hw)) Via.refl e13 t14 t15 (Or.inl (wk69 hw)) (wk10 hw) (ty := (.object "com/example/tidemark/tidemark/MemoryEntry")) (by decide) rfl rfl (g := (mkF m 25 #[.val (.ref o1), .val (.ref o2)] [.null, (.ref o2)])) rfl rfl (hb hby d7_25)
  have F16 : Fld Z h16 o2 "com/example/tidemark/tidemark/MemoryEntry" "older" "Lcom/example/tidemark/tidemark/MemoryEntry;" .null := t14.same W16
  have N16 := Fr.snoc X16 N10 g7
  have O17 := O11.wr W16 g7
  have t18 := ((((f11.other W2 (Or.inl u6)).other W6 (Or.inr (sn60 hw))).other W10 (Or.inr (sn61 hw))).other W16 (Or.inr (sn62 hw)))
  have t19 := (t15.wr W16)
  obtain ⟨T20, h20, X20, e20, W20, st20⟩ := putF X16 hx hZ hown (host := "") (Or.inl (wk70 hw)) Via.refl e16 t18 t19 (Or.inl (wk71 hw)) (wk10 hw) (ty := (.object "com/example/tidemark/tidemark/MemoryEntry")) (by decide) rfl rfl (g := (mkF m 30 #[.val (.ref o1), .val (.ref o2)] [.null, (.ref o2)])) rfl rfl (hb hby d7_30)
  have F20 : Fld Z h20 o2 "com/example/tidemark/tidemark/MemoryEntry" "newer" "Lcom/example/tidemark/tidemark/MemoryEntry;" .null := t18.same W20
  have N20 := Fr.snoc X20 N16 g7
  have O21 := O17.wr W20 g7
  have t22 := ((t12.other W16 (Or.inl (Ne.symm u6))).other W20 (Or.inl (Ne.symm u6)))
  obtain ⟨T23, X23, e23, st23⟩ := getF X20 hx hZ hown (host := "") (Or.inl (wk66 hw)) Via.refl e20 t22 (g := (mkF m 34 #[.val (.ref o1), .val (.ref o2)] [(.ref o1)])) rfl rfl (hb hby d7_34)
  have t24 := (((((f12.other W2 (Or.inr (sn63 hw))).other W6 (Or.inl (Ne.symm u6))).other W10 (Or.inl (Ne.symm u6))).other W16 (Or.inl (Ne.symm u6))).other W20 (Or.inl (Ne.symm u6)))
  have t25 := (((((f2.wr W2).wr W6).wr W10).wr W16).wr W20)
  obtain ⟨T26, h26, X26, e26, W26, st26⟩ := putF X23 hx hZ hown (host := "") (Or.inl (wk72 hw)) Via.refl e23 t24 t25 (Or.inl (wk73 hw)) (wk1 hw) (ty := (.object "com/example/tidemark/tidemark/MemoryEntry")) (by decide) rfl rfl (g := (mkF m 42 #[.val (.ref o1), .val (.ref o2)] [(.ref o2), (.ref o1)])) rfl rfl (hb hby d7_42)
  have F26 : Fld Z h26 o1 "com/example/tidemark/tidemark/RecencyList" "oldest" "Lcom/example/tidemark/tidemark/MemoryEntry;" (.ref o2) := t24.same W26
  have N26 := Fr.snoc X26 N20 g3
  have O27 := O21.wr W26 g3
  have t28 := (t22.other W26 (Or.inr (sn64 hw)))
  have t29 := (t25.wr W26)
  obtain ⟨T30, h30, X30, e30, W30, st30⟩ := putF X26 hx hZ hown (host := "") (Or.inl (wk66 hw)) Via.refl e26 t28 t29 (Or.inl (wk67 hw)) (wk1 hw) (ty := (.object "com/example/tidemark/tidemark/MemoryEntry")) (by decide) rfl rfl (g := (mkF m 58 #[.val (.ref o1), .val (.ref o2)] [(.ref o2), (.ref o1)])) rfl rfl (hb hby d7_58)
  have F30 : Fld Z h30 o1 "com/example/tidemark/tidemark/RecencyList" "newest" "Lcom/example/tidemark/tidemark/MemoryEntry;" (.ref o2) := t28.same W30
  have N30 := Fr.snoc X30 N26 g3
  have O31 := O27.wr W30 g3
  have t32 := (((((((f13.other W2 (Or.inr (sn65 hw))).other W6 (Or.inl (Ne.symm u6))).other W10 (Or.inl (Ne.symm u6))).other W16 (Or.inl (Ne.symm u6))).other W20 (Or.inl (Ne.symm u6))).other W26 (Or.inr (sn66 hw))).other W30 (Or.inr (sn67 hw)))
  obtain ⟨T33, X33, e33, st33⟩ := getF X30 hx hZ hown (host := "") (Or.inl (wk74 hw)) Via.refl e30 t32 (g := (mkF m 63 #[.val (.ref o1), .val (.ref o2)] [(.ref o1), (.ref o1)])) rfl rfl (hb hby d7_63)
  have t34 := (t29.wr W30)
  obtain ⟨T35, h35, X35, e35, W35, st35⟩ := putF X33 hx hZ hown (host := "") (Or.inl (wk74 hw)) Via.refl e33 t32 t34 (Or.inl (wk75 hw)) (wk1 hw) (ty := .long) (by decide) rfl rfl (g := (mkF m 68 #[.val (.ref o1), .val (.ref o2)] [(.long (1 : Int64)), (.ref o1)])) rfl rfl (hb hby d7_68)
  have F35 : Fld Z h35 o1 "com/example/tidemark/tidemark/RecencyList" "size" "J" (.long (1 : Int64)) := t32.same W35
  have N35 := Fr.snoc X35 N30 g3
  have O36 := O31.wr W35 g3
  have t37 := ((((((((f14.other W2 (Or.inr (sn68 hw))).other W6 (Or.inl (Ne.symm u6))).other W10 (Or.inl (Ne.symm u6))).other W16 (Or.inl (Ne.symm u6))).other W20 (Or.inl (Ne.symm u6))).other W26 (Or.inr (sn69 hw))).other W30 (Or.inr (sn70 hw))).other W35 (Or.inr (sn71 hw)))
  obtain ⟨T38, X38, e38, st38⟩ := getF X35 hx hZ hown (host := "") (Or.inl (wk76 hw)) Via.refl e35 t37 (g := (mkF m 73 #[.val (.ref o1), .val (.ref o2)] [(.ref o1), (.ref o1)])) rfl rfl (hb hby d7_73)
  have t39 := ((((((((f15.other W2 (Or.inl u6)).other W6 (Or.inr (sn72 hw))).other W10 (Or.inr (sn73 hw))).other W16 (Or.inr (sn74 hw))).other W20 (Or.inr (sn75 hw))).other W26 (Or.inl u6)).other W30 (Or.inl u6)).other W35 (Or.inl u6))
  obtain ⟨T40, X40, e40, st40⟩ := getF X38 hx hZ hown (host := "") (Or.inl (wk78 hw)) Via.refl e38 t39 (g := (mkF m 77 #[.val (.ref o1), .val (.ref o2)] [(.ref o2), (.long (0 : Int64)), (.ref o1)])) rfl rfl (hb hby d7_77)
  have t41 := (t34.wr W35)
  obtain ⟨T42, h42, X42, e42, W42, st42⟩ := putF X40 hx hZ hown (host := "") (Or.inl (wk76 hw)) Via.refl e40 t37 t41 (Or.inl (wk77 hw)) (wk1 hw) (ty := .long) (by decide) rfl rfl (g := (mkF m 81 #[.val (.ref o1), .val (.ref o2)] [(.long ((0 : Int64) + q3)), (.ref o1)])) rfl rfl (hb hby d7_81)
  have F42 : Fld Z h42 o1 "com/example/tidemark/tidemark/RecencyList" "weight" "J" (.long ((0 : Int64) + q3)) := t37.same W42
  have N42 := Fr.snoc X42 N35 g3
  have O43 := O36.wr W42 g3
  obtain ⟨fs, hr, hrun, hended, hWm, hsame⟩ := X42.leave (v := none) (fun _ => rfl)
  have Kf44 : own_KL h0 h42 [⟨o1, Jvm.RoadKit.slotOf Z "com/example/tidemark/tidemark/RecencyList" "stamps" "J"⟩, ⟨o2, Jvm.RoadKit.slotOf Z "com/example/tidemark/tidemark/MemoryEntry" "stamp" "J"⟩, ⟨o2, Jvm.RoadKit.slotOf Z "com/example/tidemark/tidemark/MemoryEntry" "list" "Lcom/example/tidemark/tidemark/RecencyList;"⟩, ⟨o2, Jvm.RoadKit.slotOf Z "com/example/tidemark/tidemark/MemoryEntry" "older" "Lcom/example/tidemark/tidemark/MemoryEntry;"⟩, ⟨o2, Jvm.RoadKit.slotOf Z "com/example/tidemark/tidemark/MemoryEntry" "newer" "Lcom/example/tidemark/tidemark/MemoryEntry;"⟩, ⟨o1, Jvm.RoadKit.slotOf Z "com/example/tidemark/tidemark/RecencyList" "oldest" "Lcom/example/tidemark/tidemark/MemoryEntry;"⟩, ⟨o1, Jvm.RoadKit.slotOf Z "com/example/tidemark/tidemark/RecencyList" "newest" "Lcom/example/tidemark/tidemark/MemoryEntry;"⟩, ⟨o1, Jvm.RoadKit.slotOf Z "com/example/tidemark/tidemark/RecencyList" "size" "J"⟩, ⟨o1, Jvm.RoadKit.slotOf Z "com/example/tidemark/tidemark/RecencyList" "weight" "J"⟩] := (own_klW (own_klW (own_klW (own_klW (own_klW (own_klW (own_klW (own_klW (own_klW (own_kl0 h0 [⟨o1, Jvm.RoadKit.slotOf Z "com/example/tidemark/tidemark/RecencyList" "stamps" "J"⟩, ⟨o2, Jvm.RoadKit.slotOf Z "com/example/tidemark/tidemark/MemoryEntry" "stamp" "J"⟩, ⟨o2, Jvm.RoadKit.slotOf Z "com/example/tidemark/tidemark/MemoryEntry" "list" "Lcom/example/tidemark/tidemark/RecencyList;"⟩, ⟨o2, Jvm.RoadKit.slotOf Z "com/example/tidemark/tidemark/MemoryEntry" "older" "Lcom/example/tidemark/tidemark/MemoryEntry;"⟩, ⟨o2, Jvm.RoadKit.slotOf Z "com/example/tidemark/tidemark/MemoryEntry" "newer" "Lcom/example/tidemark/tidemark/MemoryEntry;"⟩, ⟨o1, Jvm.RoadKit.slotOf Z "com/example/tidemark/tidemark/RecencyList" "oldest" "Lcom/example/tidemark/tidemark/MemoryEntry;"⟩, ⟨o1, Jvm.RoadKit.slotOf Z "com/example/tidemark/tidemark/RecencyList" "newest" "Lcom/example/tidemark/tidemark/MemoryEntry;"⟩, ⟨o1, Jvm.RoadKit.slotOf Z "com/example/tidemark/tidemark/RecencyList" "size" "J"⟩, ⟨o1, Jvm.RoadKit.slotOf Z "com/example/tidemark/tidemark/RecencyList" "weight" "J"⟩]) W2 (Or.inl (List.mem_of_getElem? (i := 0) rfl))) W6 (Or.inl (List.mem_of_getElem? (i := 1) rfl))) W10 (Or.inl (List.mem_of_getElem? (i := 2) rfl))) W16 (Or.inl (List.mem_of_getElem? (i := 3) rfl))) W20 (Or.inl (List.mem_of_getElem? (i := 4) rfl))) W26 (Or.inl (List.mem_of_getElem? (i := 5) rfl))) W30 (Or.inl (List.mem_of_getElem? (i := 6) rfl))) W35 (Or.inl (List.mem_of_getElem? (i := 7) rfl))) W42 (Or.inl (List.mem_of_getElem? (i := 8) rfl)))
  have t45 := ((((((((F2.other W6 (Or.inl (Ne.symm u6))).other W10 (Or.inl (Ne.symm u6))).other W16 (Or.inl (Ne.symm u6))).other W20 (Or.inl (Ne.symm u6))).other W26 (Or.inr (sn76 hw))).other W30 (Or.inr (sn77 hw))).other W35 (Or.inr (sn78 hw))).other W42 (Or.inr (sn79 hw)))
  have t46 := (((((((F6.other W10 (Or.inr (sn80 hw))).other W16 (Or.inr (sn81 hw))).other W20 (Or.inr (sn82 hw))).other W26 (Or.inl u6)).other W30 (Or.inl u6)).other W35 (Or.inl u6)).other W42 (Or.inl u6))
  have t47 := ((((((F10.other W16 (Or.inr (sn83 hw))).other W20 (Or.inr (sn84 hw))).other W26 (Or.inl u6)).other W30 (Or.inl u6)).other W35 (Or.inl u6)).other W42 (Or.inl u6))
  have t48 := ((F30.other W35 (Or.inr (sn85 hw))).other W42 (Or.inr (sn86 hw)))
  have t49 := (((((F16.other W20 (Or.inr (sn87 hw))).other W26 (Or.inl u6)).other W30 (Or.inl u6)).other W35 (Or.inl u6)).other W42 (Or.inl u6))
  have t50 := ((((F20.other W26 (Or.inl u6)).other W30 (Or.inl u6)).other W35 (Or.inl u6)).other W42 (Or.inl u6))
  have t51 := (((F26.other W30 (Or.inr (sn88 hw))).other W35 (Or.inr (sn89 hw))).other W42 (Or.inr (sn90 hw)))
  have t52 := (F35.other W42 (Or.inr (sn91 hw)))
  refine ⟨_, _, pre0 _ ?_, hrun, hended, _, _, rfl, ?_, ⟨_, rfl⟩, hWm, hsame.mono (by decide) (by decide)⟩
  · show Steps p.tables e below (s₁.setTop (mkF m 0 #[.val (.ref o1), .val (.ref o2)] [])) _
    refine sA X0 hx hby d7_0 rfl rfl ?_
    refine sA X0 hx hby d7_1 rfl rfl ?_
    refine XS.dup X0.here hx rfl (hb hby d7_2) rfl rfl ?_
    refine st1 _ ?_
    refine XS.lconst X1.here hx rfl (hb hby d7_6) ?_
    refine XS.ladd X1.here hx rfl (hb hby d7_7) rfl ?_
    jvm_step X1.here [X1.here.top, hx, (hb hby d7_8), Value.category]
    show Steps p.tables e below (T1.setTop (mkF m 9 #[.val (.ref o1), .val (.ref o2)] [(.long (1 : Int64)), (.ref o1), (.long (1 : Int64)), (.ref o2)])) _
    refine st2 _ ?_
    refine st6 _ ?_
    refine sA X6 hx hby d7_15 rfl rfl ?_
    refine sA X6 hx hby d7_16 rfl rfl ?_
    refine st10 _ ?_
    refine sA X10 hx hby d7_20 rfl rfl ?_
    refine sA X10 hx hby d7_21 rfl rfl ?_
    refine st13 _ ?_
    refine st16 _ ?_
    refine sA X16 hx hby d7_28 rfl rfl ?_
    refine XS.aconstNull X16.here hx rfl (hb hby d7_29) ?_
    refine st20 _ ?_
    refine sA X20 hx hby d7_33 rfl rfl ?_
    refine st23 _ ?_
    refine XS.ifnonnullNo X23.here hx rfl (hb hby d7_37) rfl ?_
    refine sA X23 hx hby d7_40 rfl rfl ?_
    refine sA X23 hx hby d7_41 rfl rfl ?_
    refine st26 _ ?_
    refine sg (pc := 45) (pc' := 56) X26 hx hby d7_45 (by decide) (by decide) ?_
    refine sA X26 hx hby d7_56 rfl rfl ?_
    refine sA X26 hx hby d7_57 rfl rfl ?_
    refine st30 _ ?_
    refine sA X30 hx hby d7_61 rfl rfl ?_
    refine XS.dup X30.here hx rfl (hb hby d7_62) rfl rfl ?_
    refine st33 _ ?_
    refine XS.lconst X33.here hx rfl (hb hby d7_66) ?_
    refine XS.ladd X33.here hx rfl (hb hby d7_67) rfl ?_
    refine st35 _ ?_
    refine sA X35 hx hby d7_71 rfl rfl ?_
    refine XS.dup X35.here hx rfl (hb hby d7_72) rfl rfl ?_
    refine st38 _ ?_
    refine sA X38 hx hby d7_76 rfl rfl ?_
    refine st40 _ ?_
    refine XS.ladd X40.here hx rfl (hb hby d7_80) rfl ?_
    refine st42 _ ?_
    exact X42.returnOut hx Bd.returns (hb hby d7_84) hr
  · show Q7_6 Z w o1 o2 q3 h0 n0 _ T42.heap _
    rw [e42]
    exact ⟨rfl, N42, Kf44, t45, t46, t47, t48, t49, t50, t51, t52, F42⟩
theorem pds_5 : parseMethodDescriptor "(Lcom/example/tidemark/tidemark/MemoryEntry;)V" = some ⟨[(.object "com/example/tidemark/tidemark/MemoryEntry")], none⟩ := by decide +kernel
theorem d7_48 : decode prog_41_method_7_code 48 = .ok (.aload_n 0, 1) := by decide +kernel
theorem d7_49 : decode prog_41_method_7_code 49 = .ok (.getfield 35, 3) := by decide +kernel
theorem d7_52 : decode prog_41_method_7_code 52 = .ok (.aload_n 1, 1) := by decide +kernel
theorem d7_53 : decode prog_41_method_7_code 53 = .ok (.putfield 13, 3) := by decide +kernel
theorem ef_7_7 (m : MethodId) (o1 : Addr) (o2 : Addr) : entryFrame m #[(.ref o1), (.ref o2)] 2 = mkF m 0 #[.val (.ref o1), .val (.ref o2)] [] := by first | (simp [entryFrame, mkF, argsToLocals, Value.category]; done) | rfl
def Q7_7 (Z : State) (w : Nat → Addr) (o1 : Addr) (o2 : Addr) (o3 : Addr) (q4 : Int64) (q5 : Int64) (h0 : Heap) (n0 : Nat) (v : Option Value) (h : Heap) (L : List Loc) : Prop := v = none ∧ Fr n0 L ∧ own_KL h0 h [⟨o1, Jvm.RoadKit.slotOf Z "com/example/tidemark/tidemark/RecencyList" "stamps" "J"⟩, ⟨o2, Jvm.RoadKit.slotOf Z "com/example/tidemark/tidemark/MemoryEntry" "stamp" "J"⟩, ⟨o2, Jvm.RoadKit.slotOf Z "com/example/tidemark/tidemark/MemoryEntry" "list" "Lcom/example/tidemark/tidemark/RecencyList;"⟩, ⟨o2, Jvm.RoadKit.slotOf Z "com/example/tidemark/tidemark/MemoryEntry" "older" "Lcom/example/tidemark/tidemark/MemoryEntry;"⟩, ⟨o2, Jvm.RoadKit.slotOf Z "com/example/tidemark/tidemark/MemoryEntry" "newer" "Lcom/example/tidemark/tidemark/MemoryEntry;"⟩, ⟨o3, Jvm.RoadKit.slotOf Z "com/example/tidemark/tidemark/MemoryEntry" "newer" "Lcom/example/tidemark/tidemark/MemoryEntry;"⟩, ⟨o1, Jvm.RoadKit.slotOf Z "com/example/tidemark/tidemark/RecencyList" "newest" "Lcom/example/tidemark/tidemark/MemoryEntry;"⟩, ⟨o1, Jvm.RoadKit.slotOf Z "com/example/tidemark/tidemark/RecencyList" "size" "J"⟩, ⟨o1, Jvm.RoadKit.slotOf Z "com/example/tidemark/tidemark/RecencyList" "weight" "J"⟩] ∧ Fld Z h o1 "com/example/tidemark/tidemark/RecencyList" "stamps" "J" (.long (2 : Int64)) ∧ Fld Z h o2 "com/example/tidemark/tidemark/MemoryEntry" "stamp" "J" (.long (2 : Int64)) ∧ Fld Z h o2 "com/example/tidemark/tidemark/MemoryEntry" "list" "Lcom/example/tidemark/tidemark/RecencyList;" (.ref o1) ∧ Fld Z h o1 "com/example/tidemark/tidemark/RecencyList" "newest" "Lcom/example/tidemark/tidemark/MemoryEntry;" (.ref o2) ∧ Fld Z h o2 "com/example/tidemark/tidemark/MemoryEntry" "older" "Lcom/example/tidemark/tidemark/MemoryEntry;" (.ref o3) ∧ Fld Z h o2 "com/example/tidemark/tidemark/MemoryEntry" "newer" "Lcom/example/tidemark/tidemark/MemoryEntry;" .null ∧ Fld Z h o3 "com/example/tidemark/tidemark/MemoryEntry" "newer" "Lcom/example/tidemark/tidemark/MemoryEntry;" (.ref o2) ∧ Fld Z h o1 "com/example/tidemark/tidemark/RecencyList" "size" "J" (.long (2 : Int64)) ∧ Fld Z h o1 "com/example/tidemark/tidemark/RecencyList" "weight" "J" (.long (q4 + q5))
set_option maxRecDepth 65536 in
set_option maxHeartbeats 40000000 in
theorem rm7_7 (l : Launch) (Z : State) (a0 : Array Value) (hw : ∀ d ∈ tables_1, d.before a0 Z = true) (w : Nat → Addr) (hW : Wd Z w) (ws : List Jvm.Cond) (o1 : Addr) (o2 : Addr) (o3 : Addr) (q4 : Int64) (q5 : Int64) (h0 : Heap) (n0 : Nat) (O0 : Old Z n0 h0) (f1 : Fld Z h0 o1 "com/example/tidemark/tidemark/RecencyList" "stamps" "J" (.long (1 : Int64))) (f2 : Exa Z h0 o1 "com/example/tidemark/tidemark/RecencyList") (g3 : n0 ≤ o1) (f4 : Exa Z h0 o2 "com/example/tidemark/tidemark/MemoryEntry") (f5 : Fld Z h0 o2 "com/example/tidemark/tidemark/MemoryEntry" "stamp" "J" (.long (0 : Int64))) (u6 : o2 ≠ o1) (g7 : n0 ≤ o2) (f8 : Fld Z h0 o2 "com/example/tidemark/tidemark/MemoryEntry" "list" "Lcom/example/tidemark/tidemark/RecencyList;" .null) (f9 : Fld Z h0 o1 "com/example/tidemark/tidemark/RecencyList" "newest" "Lcom/example/tidemark/tidemark/MemoryEntry;" (.ref o3)) (f10 : Fld Z h0 o2 "com/example/tidemark/tidemark/MemoryEntry" "older" "Lcom/example/tidemark/tidemark/MemoryEntry;" .null) (f11 : Fld Z h0 o2 "com/example/tidemark/tidemark/MemoryEntry" "newer" "Lcom/example/tidemark/tidemark/MemoryEntry;" .null) (f12 : Exa Z h0 o3 "com/example/tidemark/tidemark/MemoryEntry") (f13 : Fld Z h0 o3 "com/example/tidemark/tidemark/MemoryEntry" "newer" "Lcom/example/tidemark/tidemark/MemoryEntry;" .null) (u14 : o3 ≠ o1) (u15 : o3 ≠ o2) (g16 : n0 ≤ o3) (f17 : Fld Z h0 o1 "com/example/tidemark/tidemark/RecencyList" "size" "J" (.long (1 : Int64))) (f18 : Fld Z h0 o1 "com/example/tidemark/tidemark/RecencyList" "weight" "J" (.long q4)) (f19 : Fld Z h0 o2 "com/example/tidemark/tidemark/MemoryEntry" "charge" "J" (.long q5)) :
    MetFree l ym5 (head1 (Jvm.Cond.code ym5 prog_41_method_7_code 2 none :: ws) ({ frames := 0, cells := 0, slots := 0, locals := 0 } : Room)) (fun a U => a = #[(.ref o1), (.ref o2)] ∧ Z.Warmed39 U.vm ∧ U.heap = h0) (fun _ _ _ _ _ => True) (fun _ U o U' => ∃ v L, o = .returned v ∧ Q7_7 Z w o1 o2 o3 q4 q5 h0 n0 v U'.heap L ∧ FrameEnd U o U' L ({ frames := 0, cells := 0, slots := 0, locals := 0 } : Room).cells ({ frames := 0, cells := 0, slots := 0, locals := 0 } : Room).slots) := by
  refine MetFree.of_bodySF (plainFor_of_name pnc_0) hisR ?_
  intro p e s m args below meth c s₁ Bd hml0 hP hK
  obtain ⟨rfl, hZ, hh⟩ := hP
  have hx := Bd.exec
  have hby := Bd.bytes
  have hml : c.maxLocals = 2 := hml0
  have hown : s.vm.findClass "com/example/tidemark/tidemark/RecencyList" = some m.cls := findClass_of_methodNamed Bd.named
  have hnm := (name_of_methodNamed Bd.named Bd.method).1
  have X0 : Stand p l e ({ frames := 0, cells := 0, slots := 0, locals := 0 } : Room) s m #[(.ref o1), (.ref o2)] below meth c s₁ [] 0 0 := Stand.of_body Bd
  have e0 : s₁.heap = h0 := by rw [← hh, Bd.state]; rfl
  have N0 := Fr.nil n0
  skip
  have pre0 : ∀ t, Steps p.tables e below (s₁.setTop (mkF m 0 #[.val (.ref o1), .val (.ref o2)] [])) t → Steps p.tables e below (s₁.setTop (entryFrame m #[(.ref o1), (.ref o2)] 2)) t := fun t k => castTop (ef_7_7 m o1 o2) k
  obtain ⟨T1, X1, e1, st1⟩ := getF X0 hx hZ hown (host := "") (Or.inl (wk60 hw)) Via.refl e0 f1 (g := (mkF m 3 #[.val (.ref o1), .val (.ref o2)] [(.ref o1), (.ref o1), (.ref o2)])) rfl rfl (hb hby d7_3)
  obtain ⟨T2, h2, X2, e2, W2, st2⟩ := putF X1 hx hZ hown (host := "") (Or.inl (wk60 hw)) Via.refl e1 f1 f2 (Or.inl (wk61 hw)) (wk1 hw) (ty := .long) (by decide) rfl rfl (g := (mkF m 9 #[.val (.ref o1), .val (.ref o2)] [(.long (2 : Int64)), (.ref o1), (.long (2 : Int64)), (.ref o2)])) rfl rfl (hb hby d7_9)
  have F2 : Fld Z h2 o1 "com/example/tidemark/tidemark/RecencyList" "stamps" "J" (.long (2 : Int64)) := f1.same W2
  have N2 := Fr.snoc X2 N0 g3
  have O3 := O0.wr W2 g3
  have t4 := (f5.other W2 (Or.inl u6))
  have t5 := (f4.wr W2)
  obtain ⟨T6, h6, X6, e6, W6, st6⟩ := putF X2 hx hZ hown (host := "") (Or.inl (wk62 hw)) Via.refl e2 t4 t5 (Or.inl (wk63 hw)) (wk10 hw) (ty := .long) (by decide) rfl rfl (g := (mkF m 12 #[.val (.ref o1), .val (.ref o2)] [(.long (2 : Int64)), (.ref o2)])) rfl rfl (hb hby d7_12)
  have F6 : Fld Z h6 o2 "com/example/tidemark/tidemark/MemoryEntry" "stamp" "J" (.long (2 : Int64)) := t4.same W6
  have N6 := Fr.snoc X6 N2 g7
  have O7 := O3.wr W6 g7
  have t8 := ((f8.other W2 (Or.inl u6)).other W6 (Or.inr (sn56 hw)))
  have t9 := (t5.wr W6)
  obtain ⟨T10, h10, X10, e10, W10, st10⟩ := putF X6 hx hZ hown (host := "") (Or.inl (wk64 hw)) Via.refl e6 t8 t9 (Or.inl (wk65 hw)) (wk10 hw) (ty := (.object "com/example/tidemark/tidemark/RecencyList")) (by decide) rfl rfl (g := (mkF m 17 #[.val (.ref o1), .val (.ref o2)] [(.ref o1), (.ref o2)])) rfl rfl (hb hby d7_17)
  have F10 : Fld Z h10 o2 "com/example/tidemark/tidemark/MemoryEntry" "list" "Lcom/example/tidemark/tidemark/RecencyList;" (.ref o1) := t8.same W10
  have N10 := Fr.snoc X10 N6 g7
  have O11 := O7.wr W10 g7
  have t12 := (((f9.other W2 (Or.inr (sn57 hw))).other W6 (Or.inl (Ne.symm u6))).other W10 (Or.inl (Ne.symm u6)))
  obtain ⟨T13, X13, e13, st13⟩ := getF X10 hx hZ hown (host := "") (Or.inl (wk66 hw)) Via.refl e10 t12 (g := (mkF m 22 #[.val (.ref o1), .val (.ref o2)] [(.ref o1), (.ref o2)])) rfl rfl (hb hby d7_22)
  have t14 := (((f10.other W2 (Or.inl u6)).other W6 (Or.inr (sn58 hw))).other W10 (Or.inr (sn59 hw)))
  have t15 := (t9.wr W10)
  obtain ⟨T16, h16, X16, e16, W16, st16⟩ := putF X13 hx hZ hown (host := "") (Or.inl (wk68 hw)) Via.refl e13 t14 t15 (Or.inl (wk69 hw)) (wk10 hw) (ty := (.object "com/example/tidemark/tidemark/MemoryEntry")) (by decide) rfl rfl (g := (mkF m 25 #[.val (.ref o1), .val (.ref o2)] [(.ref o3), (.ref o2)])) rfl rfl (hb hby d7_25)
  have F16 : Fld Z h16 o2 "com/example/tidemark/tidemark/MemoryEntry" "older" "Lcom/example/tidemark/tidemark/MemoryEntry;" (.ref o3) := t14.same W16
  have N16 := Fr.snoc X16 N10 g7
  have O17 := O11.wr W16 g7
  have t18 := ((((f11.other W2 (Or.inl u6)).other W6 (Or.inr (sn60 hw))).other W10 (Or.inr (sn61 hw))).other W16 (Or.inr (sn62 hw)))
  have t19 := (t15.wr W16)
  obtain ⟨T20, h20, X20, e20, W20, st20⟩ := putF X16 hx hZ hown (host := "") (Or.inl (wk70 hw)) Via.refl e16 t18 t19 (Or.inl (wk71 hw)) (wk10 hw) (ty := (.object "com/example/tidemark/tidemark/MemoryEntry")) (by decide) rfl rfl (g := (mkF m 30 #[.val (.ref o1), .val (.ref o2)] [.null, (.ref o2)])) rfl rfl (hb hby d7_30)
  have F20 : Fld Z h20 o2 "com/example/tidemark/tidemark/MemoryEntry" "newer" "Lcom/example/tidemark/tidemark/MemoryEntry;" .null := t18.same W20
  have N20 := Fr.snoc X20 N16 g7
  have O21 := O17.wr W20 g7
  have t22 := ((t12.other W16 (Or.inl (Ne.symm u6))).other W20 (Or.inl (Ne.symm u6)))
  obtain ⟨T23, X23, e23, st23⟩ := getF X20 hx hZ hown (host := "") (Or.inl (wk66 hw)) Via.refl e20 t22 (g := (mkF m 34 #[.val (.ref o1), .val (.ref o2)] [(.ref o1)])) rfl rfl (hb hby d7_34)
  obtain ⟨T24, X24, e24, st24⟩ := getF X23 hx hZ hown (host := "") (Or.inl (wk66 hw)) Via.refl e23 t22 (g := (mkF m 49 #[.val (.ref o1), .val (.ref o2)] [(.ref o1)])) rfl rfl (hb hby d7_49)
  have t25 := (((((f13.other W2 (Or.inl u14)).other W6 (Or.inl u15)).other W10 (Or.inl u15)).other W16 (Or.inl u15)).other W20 (Or.inl u15))
  have t26 := (((((f12.wr W2).wr W6).wr W10).wr W16).wr W20)
  obtain ⟨T27, h27, X27, e27, W27, st27⟩ := putF X24 hx hZ hown (host := "") (Or.inl (wk70 hw)) Via.refl e24 t25 t26 (Or.inl (wk71 hw)) (wk10 hw) (ty := (.object "com/example/tidemark/tidemark/MemoryEntry")) (by decide) rfl rfl (g := (mkF m 53 #[.val (.ref o1), .val (.ref o2)] [(.ref o2), (.ref o3)])) rfl rfl (hb hby d7_53)
  have F27 : Fld Z h27 o3 "com/example/tidemark/tidemark/MemoryEntry" "newer" "Lcom/example/tidemark/tidemark/MemoryEntry;" (.ref o2) := t25.same W27
  have N27 := Fr.snoc X27 N20 g16
  have O28 := O21.wr W27 g16
  have t29 := (t22.other W27 (Or.inl (Ne.symm u14)))
  have t30 := ((((((f2.wr W2).wr W6).wr W10).wr W16).wr W20).wr W27)
  obtain ⟨T31, h31, X31, e31, W31, st31⟩ := putF X27 hx hZ hown (host := "") (Or.inl (wk66 hw)) Via.refl e27 t29 t30 (Or.inl (wk67 hw)) (wk1 hw) (ty := (.object "com/example/tidemark/tidemark/MemoryEntry")) (by decide) rfl rfl (g := (mkF m 58 #[.val (.ref o1), .val (.ref o2)] [(.ref o2), (.ref o1)])) rfl rfl (hb hby d7_58)
  have F31 : Fld Z h31 o1 "com/example/tidemark/tidemark/RecencyList" "newest" "Lcom/example/tidemark/tidemark/MemoryEntry;" (.ref o2) := t29.same W31
  have N31 := Fr.snoc X31 N27 g3
  have O32 := O28.wr W31 g3
  have t33 := (((((((f17.other W2 (Or.inr (sn65 hw))).other W6 (Or.inl (Ne.symm u6))).other W10 (Or.inl (Ne.symm u6))).other W16 (Or.inl (Ne.symm u6))).other W20 (Or.inl (Ne.symm u6))).other W27 (Or.inl (Ne.symm u14))).other W31 (Or.inr (sn67 hw)))
  obtain ⟨T34, X34, e34, st34⟩ := getF X31 hx hZ hown (host := "") (Or.inl (wk74 hw)) Via.refl e31 t33 (g := (mkF m 63 #[.val (.ref o1), .val (.ref o2)] [(.ref o1), (.ref o1)])) rfl rfl (hb hby d7_63)
  have t35 := (t30.wr W31)
  obtain ⟨T36, h36, X36, e36, W36, st36⟩ := putF X34 hx hZ hown (host := "") (Or.inl (wk74 hw)) Via.refl e34 t33 t35 (Or.inl (wk75 hw)) (wk1 hw) (ty := .long) (by decide) rfl rfl (g := (mkF m 68 #[.val (.ref o1), .val (.ref o2)] [(.long (2 : Int64)), (.ref o1)])) rfl rfl (hb hby d7_68)
  have F36 : Fld Z h36 o1 "com/example/tidemark/tidemark/RecencyList" "size" "J" (.long (2 : Int64)) := t33.same W36
  have N36 := Fr.snoc X36 N31 g3
  have O37 := O32.wr W36 g3
  have t38 := ((((((((f18.other W2 (Or.inr (sn68 hw))).other W6 (Or.inl (Ne.symm u6))).other W10 (Or.inl (Ne.symm u6))).other W16 (Or.inl (Ne.symm u6))).other W20 (Or.inl (Ne.symm u6))).other W27 (Or.inl (Ne.symm u14))).other W31 (Or.inr (sn70 hw))).other W36 (Or.inr (sn71 hw)))
  obtain ⟨T39, X39, e39, st39⟩ := getF X36 hx hZ hown (host := "") (Or.inl (wk76 hw)) Via.refl e36 t38 (g := (mkF m 73 #[.val (.ref o1), .val (.ref o2)] [(.ref o1), (.ref o1)])) rfl rfl (hb hby d7_73)
  have t40 := ((((((((f19.other W2 (Or.inl u6)).other W6 (Or.inr (sn72 hw))).other W10 (Or.inr (sn73 hw))).other W16 (Or.inr (sn74 hw))).other W20 (Or.inr (sn75 hw))).other W27 (Or.inl (Ne.symm u15))).other W31 (Or.inl u6)).other W36 (Or.inl u6))
  obtain ⟨T41, X41, e41, st41⟩ := getF X39 hx hZ hown (host := "") (Or.inl (wk78 hw)) Via.refl e39 t40 (g := (mkF m 77 #[.val (.ref o1), .val (.ref o2)] [(.ref o2), (.long q4), (.ref o1)])) rfl rfl (hb hby d7_77)
  have t42 := (t35.wr W36)
  obtain ⟨T43, h43, X43, e43, W43, st43⟩ := putF X41 hx hZ hown (host := "") (Or.inl (wk76 hw)) Via.refl e41 t38 t42 (Or.inl (wk77 hw)) (wk1 hw) (ty := .long) (by decide) rfl rfl (g := (mkF m 81 #[.val (.ref o1), .val (.ref o2)] [(.long (q4 + q5)), (.ref o1)])) rfl rfl (hb hby d7_81)
  have F43 : Fld Z h43 o1 "com/example/tidemark/tidemark/RecencyList" "weight" "J" (.long (q4 + q5)) := t38.same W43
  have N43 := Fr.snoc X43 N36 g3
  have O44 := O37.wr W43 g3
  obtain ⟨fs, hr, hrun, hended, hWm, hsame⟩ := X43.leave (v := none) (fun _ => rfl)
  have Kf45 : own_KL h0 h43 [⟨o1, Jvm.RoadKit.slotOf Z "com/example/tidemark/tidemark/RecencyList" "stamps" "J"⟩, ⟨o2, Jvm.RoadKit.slotOf Z "com/example/tidemark/tidemark/MemoryEntry" "stamp" "J"⟩, ⟨o2, Jvm.RoadKit.slotOf Z "com/example/tidemark/tidemark/MemoryEntry" "list" "Lcom/example/tidemark/tidemark/RecencyList;"⟩, ⟨o2, Jvm.RoadKit.slotOf Z "com/example/tidemark/tidemark/MemoryEntry" "older" "Lcom/example/tidemark/tidemark/MemoryEntry;"⟩, ⟨o2, Jvm.RoadKit.slotOf Z "com/example/tidemark/tidemark/MemoryEntry" "newer" "Lcom/example/tidemark/tidemark/MemoryEntry;"⟩, ⟨o3, Jvm.RoadKit.slotOf Z "com/example/tidemark/tidemark/MemoryEntry" "newer" "Lcom/example/tidemark/tidemark/MemoryEntry;"⟩, ⟨o1, Jvm.RoadKit.slotOf Z "com/example/tidemark/tidemark/RecencyList" "newest" "Lcom/example/tidemark/tidemark/MemoryEntry;"⟩, ⟨o1, Jvm.RoadKit.slotOf Z "com/example/tidemark/tidemark/RecencyList" "size" "J"⟩, ⟨o1, Jvm.RoadKit.slotOf Z "com/example/tidemark/tidemark/RecencyList" "weight" "J"⟩] := (own_klW (own_klW (own_klW (own_klW (own_klW (own_klW (own_klW (own_klW (own_klW (own_kl0 h0 [⟨o1, Jvm.RoadKit.slotOf Z "com/example/tidemark/tidemark/RecencyList" "stamps" "J"⟩, ⟨o2, Jvm.RoadKit.slotOf Z "com/example/tidemark/tidemark/MemoryEntry" "stamp" "J"⟩, ⟨o2, Jvm.RoadKit.slotOf Z "com/example/tidemark/tidemark/MemoryEntry" "list" "Lcom/example/tidemark/tidemark/RecencyList;"⟩, ⟨o2, Jvm.RoadKit.slotOf Z "com/example/tidemark/tidemark/MemoryEntry" "older" "Lcom/example/tidemark/tidemark/MemoryEntry;"⟩, ⟨o2, Jvm.RoadKit.slotOf Z "com/example/tidemark/tidemark/MemoryEntry" "newer" "Lcom/example/tidemark/tidemark/MemoryEntry;"⟩, ⟨o3, Jvm.RoadKit.slotOf Z "com/example/tidemark/tidemark/MemoryEntry" "newer" "Lcom/example/tidemark/tidemark/MemoryEntry;"⟩, ⟨o1, Jvm.RoadKit.slotOf Z "com/example/tidemark/tidemark/RecencyList" "newest" "Lcom/example/tidemark/tidemark/MemoryEntry;"⟩, ⟨o1, Jvm.RoadKit.slotOf Z "com/example/tidemark/tidemark/RecencyList" "size" "J"⟩, ⟨o1, Jvm.RoadKit.slotOf Z "com/example/tidemark/tidemark/RecencyList" "weight" "J"⟩]) W2 (Or.inl (List.mem_of_getElem? (i := 0) rfl))) W6 (Or.inl (List.mem_of_getElem? (i := 1) rfl))) W10 (Or.inl (List.mem_of_getElem? (i := 2) rfl))) W16 (Or.inl (List.mem_of_getElem? (i := 3) rfl))) W20 (Or.inl (List.mem_of_getElem? (i := 4) rfl))) W27 (Or.inl (List.mem_of_getElem? (i := 5) rfl))) W31 (Or.inl (List.mem_of_getElem? (i := 6) rfl))) W36 (Or.inl (List.mem_of_getElem? (i := 7) rfl))) W43 (Or.inl (List.mem_of_getElem? (i := 8) rfl)))
  have t46 := ((((((((F2.other W6 (Or.inl (Ne.symm u6))).other W10 (Or.inl (Ne.symm u6))).other W16 (Or.inl (Ne.symm u6))).other W20 (Or.inl (Ne.symm u6))).other W27 (Or.inl (Ne.symm u14))).other W31 (Or.inr (sn77 hw))).other W36 (Or.inr (sn78 hw))).other W43 (Or.inr (sn79 hw)))
  have t47 := (((((((F6.other W10 (Or.inr (sn80 hw))).other W16 (Or.inr (sn81 hw))).other W20 (Or.inr (sn82 hw))).other W27 (Or.inl (Ne.symm u15))).other W31 (Or.inl u6)).other W36 (Or.inl u6)).other W43 (Or.inl u6))
  have t48 := ((((((F10.other W16 (Or.inr (sn83 hw))).other W20 (Or.inr (sn84 hw))).other W27 (Or.inl (Ne.symm u15))).other W31 (Or.inl u6)).other W36 (Or.inl u6)).other W43 (Or.inl u6))
  have t49 := ((F31.other W36 (Or.inr (sn85 hw))).other W43 (Or.inr (sn86 hw)))
  have t50 := (((((F16.other W20 (Or.inr (sn87 hw))).other W27 (Or.inl (Ne.symm u15))).other W31 (Or.inl u6)).other W36 (Or.inl u6)).other W43 (Or.inl u6))
  have t51 := ((((F20.other W27 (Or.inl (Ne.symm u15))).other W31 (Or.inl u6)).other W36 (Or.inl u6)).other W43 (Or.inl u6))
  have t52 := (((F27.other W31 (Or.inl u14)).other W36 (Or.inl u14)).other W43 (Or.inl u14))
  have t53 := (F36.other W43 (Or.inr (sn91 hw)))
  refine ⟨_, _, pre0 _ ?_, hrun, hended, _, _, rfl, ?_, ⟨_, rfl⟩, hWm, hsame.mono (by decide) (by decide)⟩
  · show Steps p.tables e below (s₁.setTop (mkF m 0 #[.val (.ref o1), .val (.ref o2)] [])) _
    refine sA X0 hx hby d7_0 rfl rfl ?_
    refine sA X0 hx hby d7_1 rfl rfl ?_
    refine XS.dup X0.here hx rfl (hb hby d7_2) rfl rfl ?_
    refine st1 _ ?_
    refine XS.lconst X1.here hx rfl (hb hby d7_6) ?_
    refine XS.ladd X1.here hx rfl (hb hby d7_7) rfl ?_
    jvm_step X1.here [X1.here.top, hx, (hb hby d7_8), Value.category]
    show Steps p.tables e below (T1.setTop (mkF m 9 #[.val (.ref o1), .val (.ref o2)] [(.long (2 : Int64)), (.ref o1), (.long (2 : Int64)), (.ref o2)])) _
    refine st2 _ ?_
    refine st6 _ ?_
    refine sA X6 hx hby d7_15 rfl rfl ?_
    refine sA X6 hx hby d7_16 rfl rfl ?_
    refine st10 _ ?_
    refine sA X10 hx hby d7_20 rfl rfl ?_
    refine sA X10 hx hby d7_21 rfl rfl ?_
    refine st13 _ ?_
    refine st16 _ ?_
    refine sA X16 hx hby d7_28 rfl rfl ?_
    refine XS.aconstNull X16.here hx rfl (hb hby d7_29) ?_
    refine st20 _ ?_
    refine sA X20 hx hby d7_33 rfl rfl ?_
    refine st23 _ ?_
    refine XS.ifnonnullYes X23.here hx rfl (pc0 := 37) (pc' := 48) rfl (hb hby d7_37) rfl (by decide) (by decide) ?_
    refine sA X23 hx hby d7_48 rfl rfl ?_
    refine st24 _ ?_
    refine sA X24 hx hby d7_52 rfl rfl ?_
    refine st27 _ ?_
    refine sA X27 hx hby d7_56 rfl rfl ?_
    refine sA X27 hx hby d7_57 rfl rfl ?_
    refine st31 _ ?_
    refine sA X31 hx hby d7_61 rfl rfl ?_
    refine XS.dup X31.here hx rfl (hb hby d7_62) rfl rfl ?_
    refine st34 _ ?_
    refine XS.lconst X34.here hx rfl (hb hby d7_66) ?_
    refine XS.ladd X34.here hx rfl (hb hby d7_67) rfl ?_
    refine st36 _ ?_
    refine sA X36 hx hby d7_71 rfl rfl ?_
    refine XS.dup X36.here hx rfl (hb hby d7_72) rfl rfl ?_
    refine st39 _ ?_
    refine sA X39 hx hby d7_76 rfl rfl ?_
    refine st41 _ ?_
    refine XS.ladd X41.here hx rfl (hb hby d7_80) rfl ?_
    refine st43 _ ?_
    exact X43.returnOut hx Bd.returns (hb hby d7_84) hr
  · show Q7_7 Z w o1 o2 o3 q4 q5 h0 n0 _ T43.heap _
    rw [e43]
    exact ⟨rfl, N43, Kf45, t46, t47, t48, t49, t50, t51, t52, t53, F43⟩
theorem d9_0 : decode prog_41_method_4_code 0 = .ok (.aload_n 0, 1) := by decide +kernel
theorem d9_1 : decode prog_41_method_4_code 1 = .ok (.getfield 18, 3) := by decide +kernel
theorem d9_4 : decode prog_41_method_4_code 4 = .ok (.lreturn, 1) := by decide +kernel
theorem ef_9_8 (m : MethodId) (o1 : Addr) : entryFrame m #[(.ref o1)] 1 = mkF m 0 #[.val (.ref o1)] [] := by first | (simp [entryFrame, mkF, argsToLocals, Value.category]; done) | rfl
def Q9_8 (Z : State) (w : Nat → Addr) (o1 : Addr) (h0 : Heap) (n0 : Nat) (v : Option Value) (h : Heap) (L : List Loc) : Prop := v = some (.long (2 : Int64)) ∧ Fr n0 L ∧ h = h0
set_option maxRecDepth 65536 in
set_option maxHeartbeats 40000000 in
theorem rm9_8 (l : Launch) (Z : State) (a0 : Array Value) (hw : ∀ d ∈ tables_1, d.before a0 Z = true) (w : Nat → Addr) (hW : Wd Z w) (ws : List Jvm.Cond) (o1 : Addr) (h0 : Heap) (n0 : Nat) (O0 : Old Z n0 h0) (f1 : Fld Z h0 o1 "com/example/tidemark/tidemark/RecencyList" "size" "J" (.long (2 : Int64))) :
    MetFree l ym6 (head1 (Jvm.Cond.code ym6 prog_41_method_4_code 1 (some .long) :: ws) ({ frames := 0, cells := 0, slots := 0, locals := 0 } : Room)) (fun a U => a = #[(.ref o1)] ∧ Z.Warmed39 U.vm ∧ U.heap = h0) (fun _ _ _ _ _ => True) (fun _ U o U' => ∃ v L, o = .returned v ∧ Q9_8 Z w o1 h0 n0 v U'.heap L ∧ FrameEnd U o U' L ({ frames := 0, cells := 0, slots := 0, locals := 0 } : Room).cells ({ frames := 0, cells := 0, slots := 0, locals := 0 } : Room).slots) := by
  refine MetFree.of_bodySF (plainFor_of_name pnc_0) hisR ?_
  intro p e s m args below meth c s₁ Bd hml0 hP hK
  obtain ⟨rfl, hZ, hh⟩ := hP
  have hx := Bd.exec
  have hby := Bd.bytes
  have hml : c.maxLocals = 1 := hml0
  have hown : s.vm.findClass "com/example/tidemark/tidemark/RecencyList" = some m.cls := findClass_of_methodNamed Bd.named
  have hnm := (name_of_methodNamed Bd.named Bd.method).1
  have X0 : Stand p l e ({ frames := 0, cells := 0, slots := 0, locals := 0 } : Room) s m #[(.ref o1)] below meth c s₁ [] 0 0 := Stand.of_body Bd
  have e0 : s₁.heap = h0 := by rw [← hh, Bd.state]; rfl
  have N0 := Fr.nil n0
  skip
  have pre0 : ∀ t, Steps p.tables e below (s₁.setTop (mkF m 0 #[.val (.ref o1)] [])) t → Steps p.tables e below (s₁.setTop (entryFrame m #[(.ref o1)] 1)) t := fun t k => castTop (ef_9_8 m o1) k
  obtain ⟨T1, X1, e1, st1⟩ := getF X0 hx hZ hown (host := "") (Or.inl (wk74 hw)) Via.refl e0 f1 (g := (mkF m 1 #[.val (.ref o1)] [(.ref o1)])) rfl rfl (hb hby d9_1)
  obtain ⟨fs, hr, hrun, hended, hWm, hsame⟩ := X1.leave (v := some (.long (2 : Int64))) (fun h => by rw [Bd.returns] at h; cases h)
  refine ⟨_, _, pre0 _ ?_, hrun, hended, _, _, rfl, ?_, ⟨_, rfl⟩, hWm, hsame.mono (by decide) (by decide)⟩
  · show Steps p.tables e below (s₁.setTop (mkF m 0 #[.val (.ref o1)] [])) _
    refine sA X0 hx hby d9_0 rfl rfl ?_
    refine st1 _ ?_
    jvm_step X1.here [X1.here.top, hx, (hb hby d9_4), X1.method', Bd.returns, narrow]
    first | (intro acts; rw [hr _ acts rfl rfl rfl]) | rw [hr _ _ rfl rfl rfl]
    exact Steps.refl _
  · show Q9_8 Z w o1 h0 n0 _ T1.heap _
    rw [e1]
    exact ⟨rfl, N0, rfl⟩
theorem pds_6 : parseMethodDescriptor "()J" = some ⟨[], some .long⟩ := by decide +kernel
theorem d10_0 : decode prog_41_method_5_code 0 = .ok (.aload_n 0, 1) := by decide +kernel
theorem d10_1 : decode prog_41_method_5_code 1 = .ok (.getfield 22, 3) := by decide +kernel
theorem d10_4 : decode prog_41_method_5_code 4 = .ok (.lreturn, 1) := by decide +kernel
theorem ef_10_9 (m : MethodId) (o1 : Addr) : entryFrame m #[(.ref o1)] 1 = mkF m 0 #[.val (.ref o1)] [] := by first | (simp [entryFrame, mkF, argsToLocals, Value.category]; done) | rfl
def Q10_9 (Z : State) (w : Nat → Addr) (o1 : Addr) (q2 : Int64) (h0 : Heap) (n0 : Nat) (v : Option Value) (h : Heap) (L : List Loc) : Prop := v = some (.long q2) ∧ Fr n0 L ∧ h = h0
set_option maxRecDepth 65536 in
set_option maxHeartbeats 40000000 in
theorem rm10_9 (l : Launch) (Z : State) (a0 : Array Value) (hw : ∀ d ∈ tables_1, d.before a0 Z = true) (w : Nat → Addr) (hW : Wd Z w) (ws : List Jvm.Cond) (o1 : Addr) (q2 : Int64) (h0 : Heap) (n0 : Nat) (O0 : Old Z n0 h0) (f1 : Fld Z h0 o1 "com/example/tidemark/tidemark/RecencyList" "weight" "J" (.long q2)) :
    MetFree l ym7 (head1 (Jvm.Cond.code ym7 prog_41_method_5_code 1 (some .long) :: ws) ({ frames := 0, cells := 0, slots := 0, locals := 0 } : Room)) (fun a U => a = #[(.ref o1)] ∧ Z.Warmed39 U.vm ∧ U.heap = h0) (fun _ _ _ _ _ => True) (fun _ U o U' => ∃ v L, o = .returned v ∧ Q10_9 Z w o1 q2 h0 n0 v U'.heap L ∧ FrameEnd U o U' L ({ frames := 0, cells := 0, slots := 0, locals := 0 } : Room).cells ({ frames := 0, cells := 0, slots := 0, locals := 0 } : Room).slots) := by
  refine MetFree.of_bodySF (plainFor_of_name pnc_0) hisR ?_
  intro p e s m args below meth c s₁ Bd hml0 hP hK
  obtain ⟨rfl, hZ, hh⟩ := hP
  have hx := Bd.exec
  have hby := Bd.bytes
  have hml : c.maxLocals = 1 := hml0
  have hown : s.vm.findClass "com/example/tidemark/tidemark/RecencyList" = some m.cls := findClass_of_methodNamed Bd.named
  have hnm := (name_of_methodNamed Bd.named Bd.method).1
  have X0 : Stand p l e ({ frames := 0, cells := 0, slots := 0, locals := 0 } : Room) s m #[(.ref o1)] below meth c s₁ [] 0 0 := Stand.of_body Bd
  have e0 : s₁.heap = h0 := by rw [← hh, Bd.state]; rfl
  have N0 := Fr.nil n0
  skip
  have pre0 : ∀ t, Steps p.tables e below (s₁.setTop (mkF m 0 #[.val (.ref o1)] [])) t → Steps p.tables e below (s₁.setTop (entryFrame m #[(.ref o1)] 1)) t := fun t k => castTop (ef_10_9 m o1) k
  obtain ⟨T1, X1, e1, st1⟩ := getF X0 hx hZ hown (host := "") (Or.inl (wk76 hw)) Via.refl e0 f1 (g := (mkF m 1 #[.val (.ref o1)] [(.ref o1)])) rfl rfl (hb hby d10_1)
  obtain ⟨fs, hr, hrun, hended, hWm, hsame⟩ := X1.leave (v := some (.long q2)) (fun h => by rw [Bd.returns] at h; cases h)
  refine ⟨_, _, pre0 _ ?_, hrun, hended, _, _, rfl, ?_, ⟨_, rfl⟩, hWm, hsame.mono (by decide) (by decide)⟩
  · show Steps p.tables e below (s₁.setTop (mkF m 0 #[.val (.ref o1)] [])) _
    refine sA X0 hx hby d10_0 rfl rfl ?_
    refine st1 _ ?_
    jvm_step X1.here [X1.here.top, hx, (hb hby d10_4), X1.method', Bd.returns, narrow]
    first | (intro acts; rw [hr _ acts rfl rfl rfl]) | rw [hr _ _ rfl rfl rfl]
    exact Steps.refl _
  · show Q10_9 Z w o1 q2 h0 n0 _ T1.heap _
    rw [e1]
    exact ⟨rfl, N0, rfl⟩
theorem d11_0 : decode prog_41_method_2_code 0 = .ok (.aload_n 0, 1) := by decide +kernel
theorem d11_1 : decode prog_41_method_2_code 1 = .ok (.getfield 7, 3) := by decide +kernel
theorem d11_4 : decode prog_41_method_2_code 4 = .ok (.areturn, 1) := by decide +kernel
theorem ef_11_10 (m : MethodId) (o1 : Addr) : entryFrame m #[(.ref o1)] 1 = mkF m 0 #[.val (.ref o1)] [] := by first | (simp [entryFrame, mkF, argsToLocals, Value.category]; done) | rfl
def Q11_10 (Z : State) (w : Nat → Addr) (o1 : Addr) (o2 : Addr) (h0 : Heap) (n0 : Nat) (v : Option Value) (h : Heap) (L : List Loc) : Prop := v = some (.ref o2) ∧ Fr n0 L ∧ h = h0
set_option maxRecDepth 65536 in
set_option maxHeartbeats 40000000 in
theorem rm11_10 (l : Launch) (Z : State) (a0 : Array Value) (hw : ∀ d ∈ tables_1, d.before a0 Z = true) (w : Nat → Addr) (hW : Wd Z w) (ws : List Jvm.Cond) (o1 : Addr) (o2 : Addr) (h0 : Heap) (n0 : Nat) (O0 : Old Z n0 h0) (f1 : Fld Z h0 o1 "com/example/tidemark/tidemark/RecencyList" "oldest" "Lcom/example/tidemark/tidemark/MemoryEntry;" (.ref o2)) :
    MetFree l ym8 (head1 (Jvm.Cond.code ym8 prog_41_method_2_code 1 (some (.object "com/example/tidemark/tidemark/MemoryEntry")) :: ws) ({ frames := 0, cells := 0, slots := 0, locals := 0 } : Room)) (fun a U => a = #[(.ref o1)] ∧ Z.Warmed39 U.vm ∧ U.heap = h0) (fun _ _ _ _ _ => True) (fun _ U o U' => ∃ v L, o = .returned v ∧ Q11_10 Z w o1 o2 h0 n0 v U'.heap L ∧ FrameEnd U o U' L ({ frames := 0, cells := 0, slots := 0, locals := 0 } : Room).cells ({ frames := 0, cells := 0, slots := 0, locals := 0 } : Room).slots) := by
  refine MetFree.of_bodySF (plainFor_of_name pnc_0) hisR ?_
  intro p e s m args below meth c s₁ Bd hml0 hP hK
  obtain ⟨rfl, hZ, hh⟩ := hP
  have hx := Bd.exec
  have hby := Bd.bytes
  have hml : c.maxLocals = 1 := hml0
  have hown : s.vm.findClass "com/example/tidemark/tidemark/RecencyList" = some m.cls := findClass_of_methodNamed Bd.named
  have hnm := (name_of_methodNamed Bd.named Bd.method).1
  have X0 : Stand p l e ({ frames := 0, cells := 0, slots := 0, locals := 0 } : Room) s m #[(.ref o1)] below meth c s₁ [] 0 0 := Stand.of_body Bd
  have e0 : s₁.heap = h0 := by rw [← hh, Bd.state]; rfl
  have N0 := Fr.nil n0
  skip
  have pre0 : ∀ t, Steps p.tables e below (s₁.setTop (mkF m 0 #[.val (.ref o1)] [])) t → Steps p.tables e below (s₁.setTop (entryFrame m #[(.ref o1)] 1)) t := fun t k => castTop (ef_11_10 m o1) k
  obtain ⟨T1, X1, e1, st1⟩ := getF X0 hx hZ hown (host := "") (Or.inl (wk72 hw)) Via.refl e0 f1 (g := (mkF m 1 #[.val (.ref o1)] [(.ref o1)])) rfl rfl (hb hby d11_1)
  obtain ⟨fs, hr, hrun, hended, hWm, hsame⟩ := X1.leave (v := some (.ref o2)) (fun h => by rw [Bd.returns] at h; cases h)
  refine ⟨_, _, pre0 _ ?_, hrun, hended, _, _, rfl, ?_, ⟨_, rfl⟩, hWm, hsame.mono (by decide) (by decide)⟩
  · show Steps p.tables e below (s₁.setTop (mkF m 0 #[.val (.ref o1)] [])) _
    refine sA X0 hx hby d11_0 rfl rfl ?_
    refine st1 _ ?_
    jvm_step X1.here [X1.here.top, hx, (hb hby d11_4), X1.method', Bd.returns, Value.isRef, FieldType.isReference]
    first | (intro acts; rw [hr _ acts rfl rfl rfl]) | rw [hr _ _ rfl rfl rfl]
    exact Steps.refl _
  · show Q11_10 Z w o1 o2 h0 n0 _ T1.heap _
    rw [e1]
    exact ⟨rfl, N0, rfl⟩
theorem pds_7 : parseMethodDescriptor "()Lcom/example/tidemark/tidemark/MemoryEntry;" = some ⟨[], some (.object "com/example/tidemark/tidemark/MemoryEntry")⟩ := by decide +kernel
theorem d8_0 : decode prog_41_method_10_code 0 = .ok (.aload_n 1, 1) := by decide +kernel
theorem d8_1 : decode prog_41_method_10_code 1 = .ok (.getfield 38, 3) := by decide +kernel
theorem d8_4 : decode prog_41_method_10_code 4 = .ok (.ifnonnull 14, 3) := by decide +kernel
theorem d8_7 : decode prog_41_method_10_code 7 = .ok (.aload_n 0, 1) := by decide +kernel
theorem d8_8 : decode prog_41_method_10_code 8 = .ok (.aload_n 1, 1) := by decide +kernel
theorem d8_9 : decode prog_41_method_10_code 9 = .ok (.getfield 13, 3) := by decide +kernel
theorem d8_12 : decode prog_41_method_10_code 12 = .ok (.putfield 7, 3) := by decide +kernel
theorem d8_15 : decode prog_41_method_10_code 15 = .ok (.goto 14, 3) := by decide +kernel
theorem d8_29 : decode prog_41_method_10_code 29 = .ok (.aload_n 1, 1) := by decide +kernel
theorem d8_30 : decode prog_41_method_10_code 30 = .ok (.getfield 13, 3) := by decide +kernel
theorem d8_33 : decode prog_41_method_10_code 33 = .ok (.ifnonnull 14, 3) := by decide +kernel
theorem d8_36 : decode prog_41_method_10_code 36 = .ok (.aload_n 0, 1) := by decide +kernel
theorem d8_37 : decode prog_41_method_10_code 37 = .ok (.aload_n 1, 1) := by decide +kernel
theorem d8_38 : decode prog_41_method_10_code 38 = .ok (.getfield 38, 3) := by decide +kernel
theorem d8_41 : decode prog_41_method_10_code 41 = .ok (.putfield 35, 3) := by decide +kernel
theorem d8_44 : decode prog_41_method_10_code 44 = .ok (.goto 14, 3) := by decide +kernel
theorem d8_58 : decode prog_41_method_10_code 58 = .ok (.aload_n 1, 1) := by decide +kernel
theorem d8_59 : decode prog_41_method_10_code 59 = .ok (.aconst_null, 1) := by decide +kernel
theorem d8_60 : decode prog_41_method_10_code 60 = .ok (.putfield 38, 3) := by decide +kernel
theorem d8_63 : decode prog_41_method_10_code 63 = .ok (.aload_n 1, 1) := by decide +kernel
theorem d8_64 : decode prog_41_method_10_code 64 = .ok (.aconst_null, 1) := by decide +kernel
theorem d8_65 : decode prog_41_method_10_code 65 = .ok (.putfield 13, 3) := by decide +kernel
theorem d8_68 : decode prog_41_method_10_code 68 = .ok (.aload_n 1, 1) := by decide +kernel
theorem d8_69 : decode prog_41_method_10_code 69 = .ok (.aconst_null, 1) := by decide +kernel
theorem d8_70 : decode prog_41_method_10_code 70 = .ok (.putfield 31, 3) := by decide +kernel
theorem d8_73 : decode prog_41_method_10_code 73 = .ok (.aload_n 0, 1) := by decide +kernel
theorem d8_74 : decode prog_41_method_10_code 74 = .ok (.dup, 1) := by decide +kernel
theorem d8_75 : decode prog_41_method_10_code 75 = .ok (.getfield 18, 3) := by decide +kernel
theorem d8_78 : decode prog_41_method_10_code 78 = .ok (.lconst 1, 1) := by decide +kernel
theorem d8_79 : decode prog_41_method_10_code 79 = .ok (.lsub, 1) := by decide +kernel
theorem d8_80 : decode prog_41_method_10_code 80 = .ok (.putfield 18, 3) := by decide +kernel
theorem d8_83 : decode prog_41_method_10_code 83 = .ok (.aload_n 0, 1) := by decide +kernel
theorem d8_84 : decode prog_41_method_10_code 84 = .ok (.dup, 1) := by decide +kernel
theorem d8_85 : decode prog_41_method_10_code 85 = .ok (.getfield 22, 3) := by decide +kernel
theorem d8_88 : decode prog_41_method_10_code 88 = .ok (.aload_n 1, 1) := by decide +kernel
theorem d8_89 : decode prog_41_method_10_code 89 = .ok (.getfield 41, 3) := by decide +kernel
theorem d8_92 : decode prog_41_method_10_code 92 = .ok (.lsub, 1) := by decide +kernel
theorem d8_93 : decode prog_41_method_10_code 93 = .ok (.putfield 22, 3) := by decide +kernel
theorem d8_96 : decode prog_41_method_10_code 96 = .ok (.return_, 1) := by decide +kernel
theorem ef_8_11 (m : MethodId) (o1 : Addr) (o2 : Addr) : entryFrame m #[(.ref o1), (.ref o2)] 2 = mkF m 0 #[.val (.ref o1), .val (.ref o2)] [] := by first | (simp [entryFrame, mkF, argsToLocals, Value.category]; done) | rfl
def Q8_11 (Z : State) (w : Nat → Addr) (o1 : Addr) (o2 : Addr) (q3 : Int64) (q4 : Int64) (h0 : Heap) (n0 : Nat) (v : Option Value) (h : Heap) (L : List Loc) : Prop := v = none ∧ Fr n0 L ∧ own_KL h0 h [⟨o1, Jvm.RoadKit.slotOf Z "com/example/tidemark/tidemark/RecencyList" "oldest" "Lcom/example/tidemark/tidemark/MemoryEntry;"⟩, ⟨o1, Jvm.RoadKit.slotOf Z "com/example/tidemark/tidemark/RecencyList" "newest" "Lcom/example/tidemark/tidemark/MemoryEntry;"⟩, ⟨o2, Jvm.RoadKit.slotOf Z "com/example/tidemark/tidemark/MemoryEntry" "older" "Lcom/example/tidemark/tidemark/MemoryEntry;"⟩, ⟨o2, Jvm.RoadKit.slotOf Z "com/example/tidemark/tidemark/MemoryEntry" "newer" "Lcom/example/tidemark/tidemark/MemoryEntry;"⟩, ⟨o2, Jvm.RoadKit.slotOf Z "com/example/tidemark/tidemark/MemoryEntry" "list" "Lcom/example/tidemark/tidemark/RecencyList;"⟩, ⟨o1, Jvm.RoadKit.slotOf Z "com/example/tidemark/tidemark/RecencyList" "size" "J"⟩, ⟨o1, Jvm.RoadKit.slotOf Z "com/example/tidemark/tidemark/RecencyList" "weight" "J"⟩] ∧ Fld Z h o2 "com/example/tidemark/tidemark/MemoryEntry" "older" "Lcom/example/tidemark/tidemark/MemoryEntry;" .null ∧ Fld Z h o2 "com/example/tidemark/tidemark/MemoryEntry" "newer" "Lcom/example/tidemark/tidemark/MemoryEntry;" .null ∧ Fld Z h o1 "com/example/tidemark/tidemark/RecencyList" "oldest" "Lcom/example/tidemark/tidemark/MemoryEntry;" .null ∧ Fld Z h o1 "com/example/tidemark/tidemark/RecencyList" "newest" "Lcom/example/tidemark/tidemark/MemoryEntry;" .null ∧ Fld Z h o2 "com/example/tidemark/tidemark/MemoryEntry" "list" "Lcom/example/tidemark/tidemark/RecencyList;" .null ∧ Fld Z h o1 "com/example/tidemark/tidemark/RecencyList" "size" "J" (.long (0 : Int64)) ∧ Fld Z h o1 "com/example/tidemark/tidemark/RecencyList" "weight" "J" (.long (q3 - q4))
set_option maxRecDepth 65536 in
set_option maxHeartbeats 40000000 in
theorem rm8_11 (l : Launch) (Z : State) (a0 : Array Value) (hw : ∀ d ∈ tables_1, d.before a0 Z = true) (w : Nat → Addr) (hW : Wd Z w) (ws : List Jvm.Cond) (o1 : Addr) (o2 : Addr) (q3 : Int64) (q4 : Int64) (h0 : Heap) (n0 : Nat) (O0 : Old Z n0 h0) (f1 : Fld Z h0 o2 "com/example/tidemark/tidemark/MemoryEntry" "older" "Lcom/example/tidemark/tidemark/MemoryEntry;" .null) (f2 : Fld Z h0 o2 "com/example/tidemark/tidemark/MemoryEntry" "newer" "Lcom/example/tidemark/tidemark/MemoryEntry;" .null) (f3 : Exa Z h0 o1 "com/example/tidemark/tidemark/RecencyList") (f4 : Fld Z h0 o1 "com/example/tidemark/tidemark/RecencyList" "oldest" "Lcom/example/tidemark/tidemark/MemoryEntry;" (.ref o2)) (g5 : n0 ≤ o1) (u6 : o2 ≠ o1) (f7 : Fld Z h0 o1 "com/example/tidemark/tidemark/RecencyList" "newest" "Lcom/example/tidemark/tidemark/MemoryEntry;" (.ref o2)) (f8 : Exa Z h0 o2 "com/example/tidemark/tidemark/MemoryEntry") (g9 : n0 ≤ o2) (f10 : Fld Z h0 o2 "com/example/tidemark/tidemark/MemoryEntry" "list" "Lcom/example/tidemark/tidemark/RecencyList;" (.ref o1)) (f11 : Fld Z h0 o1 "com/example/tidemark/tidemark/RecencyList" "size" "J" (.long (1 : Int64))) (f12 : Fld Z h0 o1 "com/example/tidemark/tidemark/RecencyList" "weight" "J" (.long q3)) (f13 : Fld Z h0 o2 "com/example/tidemark/tidemark/MemoryEntry" "charge" "J" (.long q4)) :
    MetFree l ym9 (head1 (Jvm.Cond.code ym9 prog_41_method_10_code 2 none :: ws) ({ frames := 0, cells := 0, slots := 0, locals := 0 } : Room)) (fun a U => a = #[(.ref o1), (.ref o2)] ∧ Z.Warmed39 U.vm ∧ U.heap = h0) (fun _ _ _ _ _ => True) (fun _ U o U' => ∃ v L, o = .returned v ∧ Q8_11 Z w o1 o2 q3 q4 h0 n0 v U'.heap L ∧ FrameEnd U o U' L ({ frames := 0, cells := 0, slots := 0, locals := 0 } : Room).cells ({ frames := 0, cells := 0, slots := 0, locals := 0 } : Room).slots) := by
  refine MetFree.of_bodySF (plainFor_of_name pnc_0) hisR ?_
  intro p e s m args below meth c s₁ Bd hml0 hP hK
  obtain ⟨rfl, hZ, hh⟩ := hP
  have hx := Bd.exec
  have hby := Bd.bytes
  have hml : c.maxLocals = 2 := hml0
  have hown : s.vm.findClass "com/example/tidemark/tidemark/RecencyList" = some m.cls := findClass_of_methodNamed Bd.named
  have hnm := (name_of_methodNamed Bd.named Bd.method).1
  have X0 : Stand p l e ({ frames := 0, cells := 0, slots := 0, locals := 0 } : Room) s m #[(.ref o1), (.ref o2)] below meth c s₁ [] 0 0 := Stand.of_body Bd
  have e0 : s₁.heap = h0 := by rw [← hh, Bd.state]; rfl
  have N0 := Fr.nil n0
  skip
  have pre0 : ∀ t, Steps p.tables e below (s₁.setTop (mkF m 0 #[.val (.ref o1), .val (.ref o2)] [])) t → Steps p.tables e below (s₁.setTop (entryFrame m #[(.ref o1), (.ref o2)] 2)) t := fun t k => castTop (ef_8_11 m o1 o2) k
  obtain ⟨T1, X1, e1, st1⟩ := getF X0 hx hZ hown (host := "") (Or.inl (wk68 hw)) Via.refl e0 f1 (g := (mkF m 1 #[.val (.ref o1), .val (.ref o2)] [(.ref o2)])) rfl rfl (hb hby d8_1)
  obtain ⟨T2, X2, e2, st2⟩ := getF X1 hx hZ hown (host := "") (Or.inl (wk70 hw)) Via.refl e1 f2 (g := (mkF m 9 #[.val (.ref o1), .val (.ref o2)] [(.ref o2), (.ref o1)])) rfl rfl (hb hby d8_9)
  obtain ⟨T3, h3, X3, e3, W3, st3⟩ := putF X2 hx hZ hown (host := "") (Or.inl (wk72 hw)) Via.refl e2 f4 f3 (Or.inl (wk73 hw)) (wk1 hw) (ty := (.object "com/example/tidemark/tidemark/MemoryEntry")) (by decide) rfl rfl (g := (mkF m 12 #[.val (.ref o1), .val (.ref o2)] [.null, (.ref o1)])) rfl rfl (hb hby d8_12)
  have F3 : Fld Z h3 o1 "com/example/tidemark/tidemark/RecencyList" "oldest" "Lcom/example/tidemark/tidemark/MemoryEntry;" .null := f4.same W3
  have N3 := Fr.snoc X3 N0 g5
  have O4 := O0.wr W3 g5
  have t5 := (f2.other W3 (Or.inl u6))
  obtain ⟨T6, X6, e6, st6⟩ := getF X3 hx hZ hown (host := "") (Or.inl (wk70 hw)) Via.refl e3 t5 (g := (mkF m 30 #[.val (.ref o1), .val (.ref o2)] [(.ref o2)])) rfl rfl (hb hby d8_30)
  have t7 := (f1.other W3 (Or.inl u6))
  obtain ⟨T8, X8, e8, st8⟩ := getF X6 hx hZ hown (host := "") (Or.inl (wk68 hw)) Via.refl e6 t7 (g := (mkF m 38 #[.val (.ref o1), .val (.ref o2)] [(.ref o2), (.ref o1)])) rfl rfl (hb hby d8_38)
  have t9 := (f7.other W3 (Or.inr (sn64 hw)))
  have t10 := (f3.wr W3)
  obtain ⟨T11, h11, X11, e11, W11, st11⟩ := putF X8 hx hZ hown (host := "") (Or.inl (wk66 hw)) Via.refl e8 t9 t10 (Or.inl (wk67 hw)) (wk1 hw) (ty := (.object "com/example/tidemark/tidemark/MemoryEntry")) (by decide) rfl rfl (g := (mkF m 41 #[.val (.ref o1), .val (.ref o2)] [.null, (.ref o1)])) rfl rfl (hb hby d8_41)
  have F11 : Fld Z h11 o1 "com/example/tidemark/tidemark/RecencyList" "newest" "Lcom/example/tidemark/tidemark/MemoryEntry;" .null := t9.same W11
  have N11 := Fr.snoc X11 N3 g5
  have O12 := O4.wr W11 g5
  have t13 := (t7.other W11 (Or.inl u6))
  have t14 := ((f8.wr W3).wr W11)
  obtain ⟨T15, h15, X15, e15, W15, st15⟩ := putF X11 hx hZ hown (host := "") (Or.inl (wk68 hw)) Via.refl e11 t13 t14 (Or.inl (wk69 hw)) (wk10 hw) (ty := (.object "com/example/tidemark/tidemark/MemoryEntry")) (by decide) rfl rfl (g := (mkF m 60 #[.val (.ref o1), .val (.ref o2)] [.null, (.ref o2)])) rfl rfl (hb hby d8_60)
  have F15 : Fld Z h15 o2 "com/example/tidemark/tidemark/MemoryEntry" "older" "Lcom/example/tidemark/tidemark/MemoryEntry;" .null := t13.same W15
  have N15 := Fr.snoc X15 N11 g9
  have O16 := O12.wr W15 g9
  have t17 := ((t5.other W11 (Or.inl u6)).other W15 (Or.inr (sn62 hw)))
  have t18 := (t14.wr W15)
  obtain ⟨T19, h19, X19, e19, W19, st19⟩ := putF X15 hx hZ hown (host := "") (Or.inl (wk70 hw)) Via.refl e15 t17 t18 (Or.inl (wk71 hw)) (wk10 hw) (ty := (.object "com/example/tidemark/tidemark/MemoryEntry")) (by decide) rfl rfl (g := (mkF m 65 #[.val (.ref o1), .val (.ref o2)] [.null, (.ref o2)])) rfl rfl (hb hby d8_65)
  have F19 : Fld Z h19 o2 "com/example/tidemark/tidemark/MemoryEntry" "newer" "Lcom/example/tidemark/tidemark/MemoryEntry;" .null := t17.same W19
  have N19 := Fr.snoc X19 N15 g9
  have O20 := O16.wr W19 g9
  have t21 := ((((f10.other W3 (Or.inl u6)).other W11 (Or.inl u6)).other W15 (Or.inr (sn83 hw))).other W19 (Or.inr (sn84 hw)))
  have t22 := (t18.wr W19)
  obtain ⟨T23, h23, X23, e23, W23, st23⟩ := putF X19 hx hZ hown (host := "") (Or.inl (wk64 hw)) Via.refl e19 t21 t22 (Or.inl (wk65 hw)) (wk10 hw) (ty := (.object "com/example/tidemark/tidemark/RecencyList")) (by decide) rfl rfl (g := (mkF m 70 #[.val (.ref o1), .val (.ref o2)] [.null, (.ref o2)])) rfl rfl (hb hby d8_70)
  have F23 : Fld Z h23 o2 "com/example/tidemark/tidemark/MemoryEntry" "list" "Lcom/example/tidemark/tidemark/RecencyList;" .null := t21.same W23
  have N23 := Fr.snoc X23 N19 g9
  have O24 := O20.wr W23 g9
  have t25 := (((((f11.other W3 (Or.inr (sn66 hw))).other W11 (Or.inr (sn67 hw))).other W15 (Or.inl (Ne.symm u6))).other W19 (Or.inl (Ne.symm u6))).other W23 (Or.inl (Ne.symm u6)))
  obtain ⟨T26, X26, e26, st26⟩ := getF X23 hx hZ hown (host := "") (Or.inl (wk74 hw)) Via.refl e23 t25 (g := (mkF m 75 #[.val (.ref o1), .val (.ref o2)] [(.ref o1), (.ref o1)])) rfl rfl (hb hby d8_75)
  have t27 := ((((t10.wr W11).wr W15).wr W19).wr W23)
  obtain ⟨T28, h28, X28, e28, W28, st28⟩ := putF X26 hx hZ hown (host := "") (Or.inl (wk74 hw)) Via.refl e26 t25 t27 (Or.inl (wk75 hw)) (wk1 hw) (ty := .long) (by decide) rfl rfl (g := (mkF m 80 #[.val (.ref o1), .val (.ref o2)] [(.long (0 : Int64)), (.ref o1)])) rfl rfl (hb hby d8_80)
  have F28 : Fld Z h28 o1 "com/example/tidemark/tidemark/RecencyList" "size" "J" (.long (0 : Int64)) := t25.same W28
  have N28 := Fr.snoc X28 N23 g5
  have O29 := O24.wr W28 g5
  have t30 := ((((((f12.other W3 (Or.inr (sn69 hw))).other W11 (Or.inr (sn70 hw))).other W15 (Or.inl (Ne.symm u6))).other W19 (Or.inl (Ne.symm u6))).other W23 (Or.inl (Ne.symm u6))).other W28 (Or.inr (sn71 hw)))
  obtain ⟨T31, X31, e31, st31⟩ := getF X28 hx hZ hown (host := "") (Or.inl (wk76 hw)) Via.refl e28 t30 (g := (mkF m 85 #[.val (.ref o1), .val (.ref o2)] [(.ref o1), (.ref o1)])) rfl rfl (hb hby d8_85)
  have t32 := ((((((f13.other W3 (Or.inl u6)).other W11 (Or.inl u6)).other W15 (Or.inr (sn74 hw))).other W19 (Or.inr (sn75 hw))).other W23 (Or.inr (sn73 hw))).other W28 (Or.inl u6))
  obtain ⟨T33, X33, e33, st33⟩ := getF X31 hx hZ hown (host := "") (Or.inl (wk78 hw)) Via.refl e31 t32 (g := (mkF m 89 #[.val (.ref o1), .val (.ref o2)] [(.ref o2), (.long q3), (.ref o1)])) rfl rfl (hb hby d8_89)
  have t34 := (t27.wr W28)
  obtain ⟨T35, h35, X35, e35, W35, st35⟩ := putF X33 hx hZ hown (host := "") (Or.inl (wk76 hw)) Via.refl e33 t30 t34 (Or.inl (wk77 hw)) (wk1 hw) (ty := .long) (by decide) rfl rfl (g := (mkF m 93 #[.val (.ref o1), .val (.ref o2)] [(.long (q3 - q4)), (.ref o1)])) rfl rfl (hb hby d8_93)
  have F35 : Fld Z h35 o1 "com/example/tidemark/tidemark/RecencyList" "weight" "J" (.long (q3 - q4)) := t30.same W35
  have N35 := Fr.snoc X35 N28 g5
  have O36 := O29.wr W35 g5
  obtain ⟨fs, hr, hrun, hended, hWm, hsame⟩ := X35.leave (v := none) (fun _ => rfl)
  have Kf37 : own_KL h0 h35 [⟨o1, Jvm.RoadKit.slotOf Z "com/example/tidemark/tidemark/RecencyList" "oldest" "Lcom/example/tidemark/tidemark/MemoryEntry;"⟩, ⟨o1, Jvm.RoadKit.slotOf Z "com/example/tidemark/tidemark/RecencyList" "newest" "Lcom/example/tidemark/tidemark/MemoryEntry;"⟩, ⟨o2, Jvm.RoadKit.slotOf Z "com/example/tidemark/tidemark/MemoryEntry" "older" "Lcom/example/tidemark/tidemark/MemoryEntry;"⟩, ⟨o2, Jvm.RoadKit.slotOf Z "com/example/tidemark/tidemark/MemoryEntry" "newer" "Lcom/example/tidemark/tidemark/MemoryEntry;"⟩, ⟨o2, Jvm.RoadKit.slotOf Z "com/example/tidemark/tidemark/MemoryEntry" "list" "Lcom/example/tidemark/tidemark/RecencyList;"⟩, ⟨o1, Jvm.RoadKit.slotOf Z "com/example/tidemark/tidemark/RecencyList" "size" "J"⟩, ⟨o1, Jvm.RoadKit.slotOf Z "com/example/tidemark/tidemark/RecencyList" "weight" "J"⟩] := (own_klW (own_klW (own_klW (own_klW (own_klW (own_klW (own_klW (own_kl0 h0 [⟨o1, Jvm.RoadKit.slotOf Z "com/example/tidemark/tidemark/RecencyList" "oldest" "Lcom/example/tidemark/tidemark/MemoryEntry;"⟩, ⟨o1, Jvm.RoadKit.slotOf Z "com/example/tidemark/tidemark/RecencyList" "newest" "Lcom/example/tidemark/tidemark/MemoryEntry;"⟩, ⟨o2, Jvm.RoadKit.slotOf Z "com/example/tidemark/tidemark/MemoryEntry" "older" "Lcom/example/tidemark/tidemark/MemoryEntry;"⟩, ⟨o2, Jvm.RoadKit.slotOf Z "com/example/tidemark/tidemark/MemoryEntry" "newer" "Lcom/example/tidemark/tidemark/MemoryEntry;"⟩, ⟨o2, Jvm.RoadKit.slotOf Z "com/example/tidemark/tidemark/MemoryEntry" "list" "Lcom/example/tidemark/tidemark/RecencyList;"⟩, ⟨o1, Jvm.RoadKit.slotOf Z "com/example/tidemark/tidemark/RecencyList" "size" "J"⟩, ⟨o1, Jvm.RoadKit.slotOf Z "com/example/tidemark/tidemark/RecencyList" "weight" "J"⟩]) W3 (Or.inl (List.mem_of_getElem? (i := 0) rfl))) W11 (Or.inl (List.mem_of_getElem? (i := 1) rfl))) W15 (Or.inl (List.mem_of_getElem? (i := 2) rfl))) W19 (Or.inl (List.mem_of_getElem? (i := 3) rfl))) W23 (Or.inl (List.mem_of_getElem? (i := 4) rfl))) W28 (Or.inl (List.mem_of_getElem? (i := 5) rfl))) W35 (Or.inl (List.mem_of_getElem? (i := 6) rfl)))
  have t38 := ((((F15.other W19 (Or.inr (sn87 hw))).other W23 (Or.inr (sn59 hw))).other W28 (Or.inl u6)).other W35 (Or.inl u6))
  have t39 := (((F19.other W23 (Or.inr (sn61 hw))).other W28 (Or.inl u6)).other W35 (Or.inl u6))
  have t40 := ((((((F3.other W11 (Or.inr (sn88 hw))).other W15 (Or.inl (Ne.symm u6))).other W19 (Or.inl (Ne.symm u6))).other W23 (Or.inl (Ne.symm u6))).other W28 (Or.inr (sn89 hw))).other W35 (Or.inr (sn90 hw)))
  have t41 := (((((F11.other W15 (Or.inl (Ne.symm u6))).other W19 (Or.inl (Ne.symm u6))).other W23 (Or.inl (Ne.symm u6))).other W28 (Or.inr (sn85 hw))).other W35 (Or.inr (sn86 hw)))
  have t42 := ((F23.other W28 (Or.inl u6)).other W35 (Or.inl u6))
  have t43 := (F28.other W35 (Or.inr (sn91 hw)))
  refine ⟨_, _, pre0 _ ?_, hrun, hended, _, _, rfl, ?_, ⟨_, rfl⟩, hWm, hsame.mono (by decide) (by decide)⟩
  · show Steps p.tables e below (s₁.setTop (mkF m 0 #[.val (.ref o1), .val (.ref o2)] [])) _
    refine sA X0 hx hby d8_0 rfl rfl ?_
    refine st1 _ ?_
    refine XS.ifnonnullNo X1.here hx rfl (hb hby d8_4) rfl ?_
    refine sA X1 hx hby d8_7 rfl rfl ?_
    refine sA X1 hx hby d8_8 rfl rfl ?_
    refine st2 _ ?_
    refine st3 _ ?_
    refine sg (pc := 15) (pc' := 29) X3 hx hby d8_15 (by decide) (by decide) ?_
    refine sA X3 hx hby d8_29 rfl rfl ?_
    refine st6 _ ?_
    refine XS.ifnonnullNo X6.here hx rfl (hb hby d8_33) rfl ?_
    refine sA X6 hx hby d8_36 rfl rfl ?_
    refine sA X6 hx hby d8_37 rfl rfl ?_
    refine st8 _ ?_
    refine st11 _ ?_
    refine sg (pc := 44) (pc' := 58) X11 hx hby d8_44 (by decide) (by decide) ?_
    refine sA X11 hx hby d8_58 rfl rfl ?_
    refine XS.aconstNull X11.here hx rfl (hb hby d8_59) ?_
    refine st15 _ ?_
    refine sA X15 hx hby d8_63 rfl rfl ?_
    refine XS.aconstNull X15.here hx rfl (hb hby d8_64) ?_
    refine st19 _ ?_
    refine sA X19 hx hby d8_68 rfl rfl ?_
    refine XS.aconstNull X19.here hx rfl (hb hby d8_69) ?_
    refine st23 _ ?_
    refine sA X23 hx hby d8_73 rfl rfl ?_
    refine XS.dup X23.here hx rfl (hb hby d8_74) rfl rfl ?_
    refine st26 _ ?_
    refine XS.lconst X26.here hx rfl (hb hby d8_78) ?_
    refine XS.lsub X26.here hx rfl (hb hby d8_79) rfl ?_
    refine st28 _ ?_
    refine sA X28 hx hby d8_83 rfl rfl ?_
    refine XS.dup X28.here hx rfl (hb hby d8_84) rfl rfl ?_
    refine st31 _ ?_
    refine sA X31 hx hby d8_88 rfl rfl ?_
    refine st33 _ ?_
    refine XS.lsub X33.here hx rfl (hb hby d8_92) rfl ?_
    refine st35 _ ?_
    exact X35.returnOut hx Bd.returns (hb hby d8_96) hr
  · show Q8_11 Z w o1 o2 q3 q4 h0 n0 _ T35.heap _
    rw [e35]
    exact ⟨rfl, N35, Kf37, t38, t39, t40, t41, t42, t43, F35⟩
theorem ef_7_12 (m : MethodId) (o1 : Addr) (o2 : Addr) : entryFrame m #[(.ref o1), (.ref o2)] 2 = mkF m 0 #[.val (.ref o1), .val (.ref o2)] [] := by first | (simp [entryFrame, mkF, argsToLocals, Value.category]; done) | rfl
def Q7_12 (Z : State) (w : Nat → Addr) (o1 : Addr) (o2 : Addr) (q3 : Int64) (q4 : Int64) (h0 : Heap) (n0 : Nat) (v : Option Value) (h : Heap) (L : List Loc) : Prop := v = none ∧ Fr n0 L ∧ own_KL h0 h [⟨o1, Jvm.RoadKit.slotOf Z "com/example/tidemark/tidemark/RecencyList" "stamps" "J"⟩, ⟨o2, Jvm.RoadKit.slotOf Z "com/example/tidemark/tidemark/MemoryEntry" "stamp" "J"⟩, ⟨o2, Jvm.RoadKit.slotOf Z "com/example/tidemark/tidemark/MemoryEntry" "list" "Lcom/example/tidemark/tidemark/RecencyList;"⟩, ⟨o2, Jvm.RoadKit.slotOf Z "com/example/tidemark/tidemark/MemoryEntry" "older" "Lcom/example/tidemark/tidemark/MemoryEntry;"⟩, ⟨o2, Jvm.RoadKit.slotOf Z "com/example/tidemark/tidemark/MemoryEntry" "newer" "Lcom/example/tidemark/tidemark/MemoryEntry;"⟩, ⟨o1, Jvm.RoadKit.slotOf Z "com/example/tidemark/tidemark/RecencyList" "oldest" "Lcom/example/tidemark/tidemark/MemoryEntry;"⟩, ⟨o1, Jvm.RoadKit.slotOf Z "com/example/tidemark/tidemark/RecencyList" "newest" "Lcom/example/tidemark/tidemark/MemoryEntry;"⟩, ⟨o1, Jvm.RoadKit.slotOf Z "com/example/tidemark/tidemark/RecencyList" "size" "J"⟩, ⟨o1, Jvm.RoadKit.slotOf Z "com/example/tidemark/tidemark/RecencyList" "weight" "J"⟩] ∧ Fld Z h o1 "com/example/tidemark/tidemark/RecencyList" "stamps" "J" (.long (2 : Int64)) ∧ Fld Z h o2 "com/example/tidemark/tidemark/MemoryEntry" "stamp" "J" (.long (2 : Int64)) ∧ Fld Z h o2 "com/example/tidemark/tidemark/MemoryEntry" "list" "Lcom/example/tidemark/tidemark/RecencyList;" (.ref o1) ∧ Fld Z h o1 "com/example/tidemark/tidemark/RecencyList" "newest" "Lcom/example/tidemark/tidemark/MemoryEntry;" (.ref o2) ∧ Fld Z h o2 "com/example/tidemark/tidemark/MemoryEntry" "older" "Lcom/example/tidemark/tidemark/MemoryEntry;" .null ∧ Fld Z h o2 "com/example/tidemark/tidemark/MemoryEntry" "newer" "Lcom/example/tidemark/tidemark/MemoryEntry;" .null ∧ Fld Z h o1 "com/example/tidemark/tidemark/RecencyList" "oldest" "Lcom/example/tidemark/tidemark/MemoryEntry;" (.ref o2) ∧ Fld Z h o1 "com/example/tidemark/tidemark/RecencyList" "size" "J" (.long (1 : Int64)) ∧ Fld Z h o1 "com/example/tidemark/tidemark/RecencyList" "weight" "J" (.long (q3 + q4))
set_option maxRecDepth 65536 in
set_option maxHeartbeats 40000000 in
theorem rm7_12 (l : Launch) (Z : State) (a0 : Array Value) (hw : ∀ d ∈ tables_1, d.before a0 Z = true) (w : Nat → Addr) (hW : Wd Z w) (ws : List Jvm.Cond) (o1 : Addr) (o2 : Addr) (q3 : Int64) (q4 : Int64) (h0 : Heap) (n0 : Nat) (O0 : Old Z n0 h0) (f1 : Fld Z h0 o1 "com/example/tidemark/tidemark/RecencyList" "stamps" "J" (.long (1 : Int64))) (f2 : Exa Z h0 o1 "com/example/tidemark/tidemark/RecencyList") (g3 : n0 ≤ o1) (f4 : Exa Z h0 o2 "com/example/tidemark/tidemark/MemoryEntry") (f5 : Fld Z h0 o2 "com/example/tidemark/tidemark/MemoryEntry" "stamp" "J" (.long (1 : Int64))) (u6 : o2 ≠ o1) (g7 : n0 ≤ o2) (f8 : Fld Z h0 o2 "com/example/tidemark/tidemark/MemoryEntry" "list" "Lcom/example/tidemark/tidemark/RecencyList;" .null) (f9 : Fld Z h0 o1 "com/example/tidemark/tidemark/RecencyList" "newest" "Lcom/example/tidemark/tidemark/MemoryEntry;" .null) (f10 : Fld Z h0 o2 "com/example/tidemark/tidemark/MemoryEntry" "older" "Lcom/example/tidemark/tidemark/MemoryEntry;" .null) (f11 : Fld Z h0 o2 "com/example/tidemark/tidemark/MemoryEntry" "newer" "Lcom/example/tidemark/tidemark/MemoryEntry;" .null) (f12 : Fld Z h0 o1 "com/example/tidemark/tidemark/RecencyList" "oldest" "Lcom/example/tidemark/tidemark/MemoryEntry;" .null) (f13 : Fld Z h0 o1 "com/example/tidemark/tidemark/RecencyList" "size" "J" (.long (0 : Int64))) (f14 : Fld Z h0 o1 "com/example/tidemark/tidemark/RecencyList" "weight" "J" (.long q3)) (f15 : Fld Z h0 o2 "com/example/tidemark/tidemark/MemoryEntry" "charge" "J" (.long q4)) :
    MetFree l ym5 (head1 (Jvm.Cond.code ym5 prog_41_method_7_code 2 none :: ws) ({ frames := 0, cells := 0, slots := 0, locals := 0 } : Room)) (fun a U => a = #[(.ref o1), (.ref o2)] ∧ Z.Warmed39 U.vm ∧ U.heap = h0) (fun _ _ _ _ _ => True) (fun _ U o U' => ∃ v L, o = .returned v ∧ Q7_12 Z w o1 o2 q3 q4 h0 n0 v U'.heap L ∧ FrameEnd U o U' L ({ frames := 0, cells := 0, slots := 0, locals := 0 } : Room).cells ({ frames := 0, cells := 0, slots := 0, locals := 0 } : Room).slots) := by
  refine MetFree.of_bodySF (plainFor_of_name pnc_0) hisR ?_
  intro p e s m args below meth c s₁ Bd hml0 hP hK
  obtain ⟨rfl, hZ, hh⟩ := hP
  have hx := Bd.exec
  have hby := Bd.bytes
  have hml : c.maxLocals = 2 := hml0
  have hown : s.vm.findClass "com/example/tidemark/tidemark/RecencyList" = some m.cls := findClass_of_methodNamed Bd.named
  have hnm := (name_of_methodNamed Bd.named Bd.method).1
  have X0 : Stand p l e ({ frames := 0, cells := 0, slots := 0, locals := 0 } : Room) s m #[(.ref o1), (.ref o2)] below meth c s₁ [] 0 0 := Stand.of_body Bd
  have e0 : s₁.heap = h0 := by rw [← hh, Bd.state]; rfl
  have N0 := Fr.nil n0
  skip
  have pre0 : ∀ t, Steps p.tables e below (s₁.setTop (mkF m 0 #[.val (.ref o1), .val (.ref o2)] [])) t → Steps p.tables e below (s₁.setTop (entryFrame m #[(.ref o1), (.ref o2)] 2)) t := fun t k => castTop (ef_7_12 m o1 o2) k
  obtain ⟨T1, X1, e1, st1⟩ := getF X0 hx hZ hown (host := "") (Or.inl (wk60 hw)) Via.refl e0 f1 (g := (mkF m 3 #[.val (.ref o1), .val (.ref o2)] [(.ref o1), (.ref o1), (.ref o2)])) rfl rfl (hb hby d7_3)
  obtain ⟨T2, h2, X2, e2, W2, st2⟩ := putF X1 hx hZ hown (host := "") (Or.inl (wk60 hw)) Via.refl e1 f1 f2 (Or.inl (wk61 hw)) (wk1 hw) (ty := .long) (by decide) rfl rfl (g := (mkF m 9 #[.val (.ref o1), .val (.ref o2)] [(.long (2 : Int64)), (.ref o1), (.long (2 : Int64)), (.ref o2)])) rfl rfl (hb hby d7_9)
  have F2 : Fld Z h2 o1 "com/example/tidemark/tidemark/RecencyList" "stamps" "J" (.long (2 : Int64)) := f1.same W2
  have N2 := Fr.snoc X2 N0 g3
  have O3 := O0.wr W2 g3
  have t4 := (f5.other W2 (Or.inl u6))
  have t5 := (f4.wr W2)
  obtain ⟨T6, h6, X6, e6, W6, st6⟩ := putF X2 hx hZ hown (host := "") (Or.inl (wk62 hw)) Via.refl e2 t4 t5 (Or.inl (wk63 hw)) (wk10 hw) (ty := .long) (by decide) rfl rfl (g := (mkF m 12 #[.val (.ref o1), .val (.ref o2)] [(.long (2 : Int64)), (.ref o2)])) rfl rfl (hb hby d7_12)
  have F6 : Fld Z h6 o2 "com/example/tidemark/tidemark/MemoryEntry" "stamp" "J" (.long (2 : Int64)) := t4.same W6
  have N6 := Fr.snoc X6 N2 g7
  have O7 := O3.wr W6 g7
  have t8 := ((f8.other W2 (Or.inl u6)).other W6 (Or.inr (sn56 hw)))
  have t9 := (t5.wr W6)
  obtain ⟨T10, h10, X10, e10, W10, st10⟩ := putF X6 hx hZ hown (host := "") (Or.inl (wk64 hw)) Via.refl e6 t8 t9 (Or.inl (wk65 hw)) (wk10 hw) (ty := (.object "com/example/tidemark/tidemark/RecencyList")) (by decide) rfl rfl (g := (mkF m 17 #[.val (.ref o1), .val (.ref o2)] [(.ref o1), (.ref o2)])) rfl rfl (hb hby d7_17)
  have F10 : Fld Z h10 o2 "com/example/tidemark/tidemark/MemoryEntry" "list" "Lcom/example/tidemark/tidemark/RecencyList;" (.ref o1) := t8.same W10
  have N10 := Fr.snoc X10 N6 g7
  have O11 := O7.wr W10 g7
  have t12 := (((f9.other W2 (Or.inr (sn57 hw))).other W6 (Or.inl (Ne.symm u6))).other W10 (Or.inl (Ne.symm u6)))
  obtain ⟨T13, X13, e13, st13⟩ := getF X10 hx hZ hown (host := "") (Or.inl (wk66 hw)) Via.refl e10 t12 (g := (mkF m 22 #[.val (.ref o1), .val (.ref o2)] [(.ref o1), (.ref o2)])) rfl rfl (hb hby d7_22)
  have t14 := (((f10.other W2 (Or.inl u6)).other W6 (Or.inr (sn58 hw))).other W10 (Or.inr (sn59 hw)))
  have t15 := (t9.wr W10)
  obtain ⟨T16, h16, X16, e16, W16, st16⟩ := putF X13 hx hZ hown (host := "") (Or.inl (wk68 hw)) Via.refl e13 t14 t15 (Or.inl (wk69 hw)) (wk10 hw) (ty := (.object "com/example/tidemark/tidemark/MemoryEntry")) (by decide) rfl rfl (g := (mkF m 25 #[.val (.ref o1), .val (.ref o2)] [.null, (.ref o2)])) rfl rfl (hb hby d7_25)
  have F16 : Fld Z h16 o2 "com/example/tidemark/tidemark/MemoryEntry" "older" "Lcom/example/tidemark/tidemark/MemoryEntry;" .null := t14.same W16
  have N16 := Fr.snoc X16 N10 g7
  have O17 := O11.wr W16 g7
  have t18 := ((((f11.other W2 (Or.inl u6)).other W6 (Or.inr (sn60 hw))).other W10 (Or.inr (sn61 hw))).other W16 (Or.inr (sn62 hw)))
  have t19 := (t15.wr W16)
  obtain ⟨T20, h20, X20, e20, W20, st20⟩ := putF X16 hx hZ hown (host := "") (Or.inl (wk70 hw)) Via.refl e16 t18 t19 (Or.inl (wk71 hw)) (wk10 hw) (ty := (.object "com/example/tidemark/tidemark/MemoryEntry")) (by decide) rfl rfl (g := (mkF m 30 #[.val (.ref o1), .val (.ref o2)] [.null, (.ref o2)])) rfl rfl (hb hby d7_30)
  have F20 : Fld Z h20 o2 "com/example/tidemark/tidemark/MemoryEntry" "newer" "Lcom/example/tidemark/tidemark/MemoryEntry;" .null := t18.same W20
  have N20 := Fr.snoc X20 N16 g7
  have O21 := O17.wr W20 g7
  have t22 := ((t12.other W16 (Or.inl (Ne.symm u6))).other W20 (Or.inl (Ne.symm u6)))
  obtain ⟨T23, X23, e23, st23⟩ := getF X20 hx hZ hown (host := "") (Or.inl (wk66 hw)) Via.refl e20 t22 (g := (mkF m 34 #[.val (.ref o1), .val (.ref o2)] [(.ref o1)])) rfl rfl (hb hby d7_34)
  have t24 := (((((f12.other W2 (Or.inr (sn63 hw))).other W6 (Or.inl (Ne.symm u6))).other W10 (Or.inl (Ne.symm u6))).other W16 (Or.inl (Ne.symm u6))).other W20 (Or.inl (Ne.symm u6)))
  have t25 := (((((f2.wr W2).wr W6).wr W10).wr W16).wr W20)
  obtain ⟨T26, h26, X26, e26, W26, st26⟩ := putF X23 hx hZ hown (host := "") (Or.inl (wk72 hw)) Via.refl e23 t24 t25 (Or.inl (wk73 hw)) (wk1 hw) (ty := (.object "com/example/tidemark/tidemark/MemoryEntry")) (by decide) rfl rfl (g := (mkF m 42 #[.val (.ref o1), .val (.ref o2)] [(.ref o2), (.ref o1)])) rfl rfl (hb hby d7_42)
  have F26 : Fld Z h26 o1 "com/example/tidemark/tidemark/RecencyList" "oldest" "Lcom/example/tidemark/tidemark/MemoryEntry;" (.ref o2) := t24.same W26
  have N26 := Fr.snoc X26 N20 g3
  have O27 := O21.wr W26 g3
  have t28 := (t22.other W26 (Or.inr (sn64 hw)))
  have t29 := (t25.wr W26)
  obtain ⟨T30, h30, X30, e30, W30, st30⟩ := putF X26 hx hZ hown (host := "") (Or.inl (wk66 hw)) Via.refl e26 t28 t29 (Or.inl (wk67 hw)) (wk1 hw) (ty := (.object "com/example/tidemark/tidemark/MemoryEntry")) (by decide) rfl rfl (g := (mkF m 58 #[.val (.ref o1), .val (.ref o2)] [(.ref o2), (.ref o1)])) rfl rfl (hb hby d7_58)
  have F30 : Fld Z h30 o1 "com/example/tidemark/tidemark/RecencyList" "newest" "Lcom/example/tidemark/tidemark/MemoryEntry;" (.ref o2) := t28.same W30
  have N30 := Fr.snoc X30 N26 g3
  have O31 := O27.wr W30 g3
  have t32 := (((((((f13.other W2 (Or.inr (sn65 hw))).other W6 (Or.inl (Ne.symm u6))).other W10 (Or.inl (Ne.symm u6))).other W16 (Or.inl (Ne.symm u6))).other W20 (Or.inl (Ne.symm u6))).other W26 (Or.inr (sn66 hw))).other W30 (Or.inr (sn67 hw)))
  obtain ⟨T33, X33, e33, st33⟩ := getF X30 hx hZ hown (host := "") (Or.inl (wk74 hw)) Via.refl e30 t32 (g := (mkF m 63 #[.val (.ref o1), .val (.ref o2)] [(.ref o1), (.ref o1)])) rfl rfl (hb hby d7_63)
  have t34 := (t29.wr W30)
  obtain ⟨T35, h35, X35, e35, W35, st35⟩ := putF X33 hx hZ hown (host := "") (Or.inl (wk74 hw)) Via.refl e33 t32 t34 (Or.inl (wk75 hw)) (wk1 hw) (ty := .long) (by decide) rfl rfl (g := (mkF m 68 #[.val (.ref o1), .val (.ref o2)] [(.long (1 : Int64)), (.ref o1)])) rfl rfl (hb hby d7_68)
  have F35 : Fld Z h35 o1 "com/example/tidemark/tidemark/RecencyList" "size" "J" (.long (1 : Int64)) := t32.same W35
  have N35 := Fr.snoc X35 N30 g3
  have O36 := O31.wr W35 g3
  have t37 := ((((((((f14.other W2 (Or.inr (sn68 hw))).other W6 (Or.inl (Ne.symm u6))).other W10 (Or.inl (Ne.symm u6))).other W16 (Or.inl (Ne.symm u6))).other W20 (Or.inl (Ne.symm u6))).other W26 (Or.inr (sn69 hw))).other W30 (Or.inr (sn70 hw))).other W35 (Or.inr (sn71 hw)))
  obtain ⟨T38, X38, e38, st38⟩ := getF X35 hx hZ hown (host := "") (Or.inl (wk76 hw)) Via.refl e35 t37 (g := (mkF m 73 #[.val (.ref o1), .val (.ref o2)] [(.ref o1), (.ref o1)])) rfl rfl (hb hby d7_73)
  have t39 := ((((((((f15.other W2 (Or.inl u6)).other W6 (Or.inr (sn72 hw))).other W10 (Or.inr (sn73 hw))).other W16 (Or.inr (sn74 hw))).other W20 (Or.inr (sn75 hw))).other W26 (Or.inl u6)).other W30 (Or.inl u6)).other W35 (Or.inl u6))
  obtain ⟨T40, X40, e40, st40⟩ := getF X38 hx hZ hown (host := "") (Or.inl (wk78 hw)) Via.refl e38 t39 (g := (mkF m 77 #[.val (.ref o1), .val (.ref o2)] [(.ref o2), (.long q3), (.ref o1)])) rfl rfl (hb hby d7_77)
  have t41 := (t34.wr W35)
  obtain ⟨T42, h42, X42, e42, W42, st42⟩ := putF X40 hx hZ hown (host := "") (Or.inl (wk76 hw)) Via.refl e40 t37 t41 (Or.inl (wk77 hw)) (wk1 hw) (ty := .long) (by decide) rfl rfl (g := (mkF m 81 #[.val (.ref o1), .val (.ref o2)] [(.long (q3 + q4)), (.ref o1)])) rfl rfl (hb hby d7_81)
  have F42 : Fld Z h42 o1 "com/example/tidemark/tidemark/RecencyList" "weight" "J" (.long (q3 + q4)) := t37.same W42
  have N42 := Fr.snoc X42 N35 g3
  have O43 := O36.wr W42 g3
  obtain ⟨fs, hr, hrun, hended, hWm, hsame⟩ := X42.leave (v := none) (fun _ => rfl)
  have Kf44 : own_KL h0 h42 [⟨o1, Jvm.RoadKit.slotOf Z "com/example/tidemark/tidemark/RecencyList" "stamps" "J"⟩, ⟨o2, Jvm.RoadKit.slotOf Z "com/example/tidemark/tidemark/MemoryEntry" "stamp" "J"⟩, ⟨o2, Jvm.RoadKit.slotOf Z "com/example/tidemark/tidemark/MemoryEntry" "list" "Lcom/example/tidemark/tidemark/RecencyList;"⟩, ⟨o2, Jvm.RoadKit.slotOf Z "com/example/tidemark/tidemark/MemoryEntry" "older" "Lcom/example/tidemark/tidemark/MemoryEntry;"⟩, ⟨o2, Jvm.RoadKit.slotOf Z "com/example/tidemark/tidemark/MemoryEntry" "newer" "Lcom/example/tidemark/tidemark/MemoryEntry;"⟩, ⟨o1, Jvm.RoadKit.slotOf Z "com/example/tidemark/tidemark/RecencyList" "oldest" "Lcom/example/tidemark/tidemark/MemoryEntry;"⟩, ⟨o1, Jvm.RoadKit.slotOf Z "com/example/tidemark/tidemark/RecencyList" "newest" "Lcom/example/tidemark/tidemark/MemoryEntry;"⟩, ⟨o1, Jvm.RoadKit.slotOf Z "com/example/tidemark/tidemark/RecencyList" "size" "J"⟩, ⟨o1, Jvm.RoadKit.slotOf Z "com/example/tidemark/tidemark/RecencyList" "weight" "J"⟩] := (own_klW (own_klW (own_klW (own_klW (own_klW (own_klW (own_klW (own_klW (own_klW (own_kl0 h0 [⟨o1, Jvm.RoadKit.slotOf Z "com/example/tidemark/tidemark/RecencyList" "stamps" "J"⟩, ⟨o2, Jvm.RoadKit.slotOf Z "com/example/tidemark/tidemark/MemoryEntry" "stamp" "J"⟩, ⟨o2, Jvm.RoadKit.slotOf Z "com/example/tidemark/tidemark/MemoryEntry" "list" "Lcom/example/tidemark/tidemark/RecencyList;"⟩, ⟨o2, Jvm.RoadKit.slotOf Z "com/example/tidemark/tidemark/MemoryEntry" "older" "Lcom/example/tidemark/tidemark/MemoryEntry;"⟩, ⟨o2, Jvm.RoadKit.slotOf Z "com/example/tidemark/tidemark/MemoryEntry" "newer" "Lcom/example/tidemark/tidemark/MemoryEntry;"⟩, ⟨o1, Jvm.RoadKit.slotOf Z "com/example/tidemark/tidemark/RecencyList" "oldest" "Lcom/example/tidemark/tidemark/MemoryEntry;"⟩, ⟨o1, Jvm.RoadKit.slotOf Z "com/example/tidemark/tidemark/RecencyList" "newest" "Lcom/example/tidemark/tidemark/MemoryEntry;"⟩, ⟨o1, Jvm.RoadKit.slotOf Z "com/example/tidemark/tidemark/RecencyList" "size" "J"⟩, ⟨o1, Jvm.RoadKit.slotOf Z "com/example/tidemark/tidemark/RecencyList" "weight" "J"⟩]) W2 (Or.inl (List.mem_of_getElem? (i := 0) rfl))) W6 (Or.inl (List.mem_of_getElem? (i := 1) rfl))) W10 (Or.inl (List.mem_of_getElem? (i := 2) rfl))) W16 (Or.inl (List.mem_of_getElem? (i := 3) rfl))) W20 (Or.inl (List.mem_of_getElem? (i := 4) rfl))) W26 (Or.inl (List.mem_of_getElem? (i := 5) rfl))) W30 (Or.inl (List.mem_of_getElem? (i := 6) rfl))) W35 (Or.inl (List.mem_of_getElem? (i := 7) rfl))) W42 (Or.inl (List.mem_of_getElem? (i := 8) rfl)))
  have t45 := ((((((((F2.other W6 (Or.inl (Ne.symm u6))).other W10 (Or.inl (Ne.symm u6))).other W16 (Or.inl (Ne.symm u6))).other W20 (Or.inl (Ne.symm u6))).other W26 (Or.inr (sn76 hw))).other W30 (Or.inr (sn77 hw))).other W35 (Or.inr (sn78 hw))).other W42 (Or.inr (sn79 hw)))
  have t46 := (((((((F6.other W10 (Or.inr (sn80 hw))).other W16 (Or.inr (sn81 hw))).other W20 (Or.inr (sn82 hw))).other W26 (Or.inl u6)).other W30 (Or.inl u6)).other W35 (Or.inl u6)).other W42 (Or.inl u6))
  have t47 := ((((((F10.other W16 (Or.inr (sn83 hw))).other W20 (Or.inr (sn84 hw))).other W26 (Or.inl u6)).other W30 (Or.inl u6)).other W35 (Or.inl u6)).other W42 (Or.inl u6))
  have t48 := ((F30.other W35 (Or.inr (sn85 hw))).other W42 (Or.inr (sn86 hw)))
  have t49 := (((((F16.other W20 (Or.inr (sn87 hw))).other W26 (Or.inl u6)).other W30 (Or.inl u6)).other W35 (Or.inl u6)).other W42 (Or.inl u6))
  have t50 := ((((F20.other W26 (Or.inl u6)).other W30 (Or.inl u6)).other W35 (Or.inl u6)).other W42 (Or.inl u6))
  have t51 := (((F26.other W30 (Or.inr (sn88 hw))).other W35 (Or.inr (sn89 hw))).other W42 (Or.inr (sn90 hw)))
  have t52 := (F35.other W42 (Or.inr (sn91 hw)))
  refine ⟨_, _, pre0 _ ?_, hrun, hended, _, _, rfl, ?_, ⟨_, rfl⟩, hWm, hsame.mono (by decide) (by decide)⟩
  · show Steps p.tables e below (s₁.setTop (mkF m 0 #[.val (.ref o1), .val (.ref o2)] [])) _
    refine sA X0 hx hby d7_0 rfl rfl ?_
    refine sA X0 hx hby d7_1 rfl rfl ?_
    refine XS.dup X0.here hx rfl (hb hby d7_2) rfl rfl ?_
    refine st1 _ ?_
    refine XS.lconst X1.here hx rfl (hb hby d7_6) ?_
    refine XS.ladd X1.here hx rfl (hb hby d7_7) rfl ?_
    jvm_step X1.here [X1.here.top, hx, (hb hby d7_8), Value.category]
    show Steps p.tables e below (T1.setTop (mkF m 9 #[.val (.ref o1), .val (.ref o2)] [(.long (2 : Int64)), (.ref o1), (.long (2 : Int64)), (.ref o2)])) _
    refine st2 _ ?_
    refine st6 _ ?_
    refine sA X6 hx hby d7_15 rfl rfl ?_
    refine sA X6 hx hby d7_16 rfl rfl ?_
    refine st10 _ ?_
    refine sA X10 hx hby d7_20 rfl rfl ?_
    refine sA X10 hx hby d7_21 rfl rfl ?_
    refine st13 _ ?_
    refine st16 _ ?_
    refine sA X16 hx hby d7_28 rfl rfl ?_
    refine XS.aconstNull X16.here hx rfl (hb hby d7_29) ?_
    refine st20 _ ?_
    refine sA X20 hx hby d7_33 rfl rfl ?_
    refine st23 _ ?_
    refine XS.ifnonnullNo X23.here hx rfl (hb hby d7_37) rfl ?_
    refine sA X23 hx hby d7_40 rfl rfl ?_
    refine sA X23 hx hby d7_41 rfl rfl ?_
    refine st26 _ ?_
    refine sg (pc := 45) (pc' := 56) X26 hx hby d7_45 (by decide) (by decide) ?_
    refine sA X26 hx hby d7_56 rfl rfl ?_
    refine sA X26 hx hby d7_57 rfl rfl ?_
    refine st30 _ ?_
    refine sA X30 hx hby d7_61 rfl rfl ?_
    refine XS.dup X30.here hx rfl (hb hby d7_62) rfl rfl ?_
    refine st33 _ ?_
    refine XS.lconst X33.here hx rfl (hb hby d7_66) ?_
    refine XS.ladd X33.here hx rfl (hb hby d7_67) rfl ?_
    refine st35 _ ?_
    refine sA X35 hx hby d7_71 rfl rfl ?_
    refine XS.dup X35.here hx rfl (hb hby d7_72) rfl rfl ?_
    refine st38 _ ?_
    refine sA X38 hx hby d7_76 rfl rfl ?_
    refine st40 _ ?_
    refine XS.ladd X40.here hx rfl (hb hby d7_80) rfl ?_
    refine st42 _ ?_
    exact X42.returnOut hx Bd.returns (hb hby d7_84) hr
  · show Q7_12 Z w o1 o2 q3 q4 h0 n0 _ T42.heap _
    rw [e42]
    exact ⟨rfl, N42, Kf44, t45, t46, t47, t48, t49, t50, t51, t52, F42⟩
theorem ef_7_13 (m : MethodId) (o1 : Addr) (o2 : Addr) : entryFrame m #[(.ref o1), (.ref o2)] 2 = mkF m 0 #[.val (.ref o1), .val (.ref o2)] [] := by first | (simp [entryFrame, mkF, argsToLocals, Value.category]; done) | rfl
def Q7_13 (Z : State) (w : Nat → Addr) (o1 : Addr) (o2 : Addr) (o3 : Addr) (q4 : Int64) (q5 : Int64) (h0 : Heap) (n0 : Nat) (v : Option Value) (h : Heap) (L : List Loc) : Prop := v = none ∧ Fr n0 L ∧ own_KL h0 h [⟨o1, Jvm.RoadKit.slotOf Z "com/example/tidemark/tidemark/RecencyList" "stamps" "J"⟩, ⟨o2, Jvm.RoadKit.slotOf Z "com/example/tidemark/tidemark/MemoryEntry" "stamp" "J"⟩, ⟨o2, Jvm.RoadKit.slotOf Z "com/example/tidemark/tidemark/MemoryEntry" "list" "Lcom/example/tidemark/tidemark/RecencyList;"⟩, ⟨o2, Jvm.RoadKit.slotOf Z "com/example/tidemark/tidemark/MemoryEntry" "older" "Lcom/example/tidemark/tidemark/MemoryEntry;"⟩, ⟨o2, Jvm.RoadKit.slotOf Z "com/example/tidemark/tidemark/MemoryEntry" "newer" "Lcom/example/tidemark/tidemark/MemoryEntry;"⟩, ⟨o3, Jvm.RoadKit.slotOf Z "com/example/tidemark/tidemark/MemoryEntry" "newer" "Lcom/example/tidemark/tidemark/MemoryEntry;"⟩, ⟨o1, Jvm.RoadKit.slotOf Z "com/example/tidemark/tidemark/RecencyList" "newest" "Lcom/example/tidemark/tidemark/MemoryEntry;"⟩, ⟨o1, Jvm.RoadKit.slotOf Z "com/example/tidemark/tidemark/RecencyList" "size" "J"⟩, ⟨o1, Jvm.RoadKit.slotOf Z "com/example/tidemark/tidemark/RecencyList" "weight" "J"⟩] ∧ Fld Z h o1 "com/example/tidemark/tidemark/RecencyList" "stamps" "J" (.long (3 : Int64)) ∧ Fld Z h o2 "com/example/tidemark/tidemark/MemoryEntry" "stamp" "J" (.long (3 : Int64)) ∧ Fld Z h o2 "com/example/tidemark/tidemark/MemoryEntry" "list" "Lcom/example/tidemark/tidemark/RecencyList;" (.ref o1) ∧ Fld Z h o1 "com/example/tidemark/tidemark/RecencyList" "newest" "Lcom/example/tidemark/tidemark/MemoryEntry;" (.ref o2) ∧ Fld Z h o2 "com/example/tidemark/tidemark/MemoryEntry" "older" "Lcom/example/tidemark/tidemark/MemoryEntry;" (.ref o3) ∧ Fld Z h o2 "com/example/tidemark/tidemark/MemoryEntry" "newer" "Lcom/example/tidemark/tidemark/MemoryEntry;" .null ∧ Fld Z h o3 "com/example/tidemark/tidemark/MemoryEntry" "newer" "Lcom/example/tidemark/tidemark/MemoryEntry;" (.ref o2) ∧ Fld Z h o1 "com/example/tidemark/tidemark/RecencyList" "size" "J" (.long (2 : Int64)) ∧ Fld Z h o1 "com/example/tidemark/tidemark/RecencyList" "weight" "J" (.long (q4 + q5))
set_option maxRecDepth 65536 in
set_option maxHeartbeats 40000000 in
theorem rm7_13 (l : Launch) (Z : State) (a0 : Array Value) (hw : ∀ d ∈ tables_1, d.before a0 Z = true) (w : Nat → Addr) (hW : Wd Z w) (ws : List Jvm.Cond) (o1 : Addr) (o2 : Addr) (o3 : Addr) (q4 : Int64) (q5 : Int64) (h0 : Heap) (n0 : Nat) (O0 : Old Z n0 h0) (f1 : Fld Z h0 o1 "com/example/tidemark/tidemark/RecencyList" "stamps" "J" (.long (2 : Int64))) (f2 : Exa Z h0 o1 "com/example/tidemark/tidemark/RecencyList") (g3 : n0 ≤ o1) (f4 : Exa Z h0 o2 "com/example/tidemark/tidemark/MemoryEntry") (f5 : Fld Z h0 o2 "com/example/tidemark/tidemark/MemoryEntry" "stamp" "J" (.long (0 : Int64))) (u6 : o2 ≠ o1) (g7 : n0 ≤ o2) (f8 : Fld Z h0 o2 "com/example/tidemark/tidemark/MemoryEntry" "list" "Lcom/example/tidemark/tidemark/RecencyList;" .null) (f9 : Fld Z h0 o1 "com/example/tidemark/tidemark/RecencyList" "newest" "Lcom/example/tidemark/tidemark/MemoryEntry;" (.ref o3)) (f10 : Fld Z h0 o2 "com/example/tidemark/tidemark/MemoryEntry" "older" "Lcom/example/tidemark/tidemark/MemoryEntry;" .null) (f11 : Fld Z h0 o2 "com/example/tidemark/tidemark/MemoryEntry" "newer" "Lcom/example/tidemark/tidemark/MemoryEntry;" .null) (f12 : Exa Z h0 o3 "com/example/tidemark/tidemark/MemoryEntry") (f13 : Fld Z h0 o3 "com/example/tidemark/tidemark/MemoryEntry" "newer" "Lcom/example/tidemark/tidemark/MemoryEntry;" .null) (u14 : o3 ≠ o1) (u15 : o3 ≠ o2) (g16 : n0 ≤ o3) (f17 : Fld Z h0 o1 "com/example/tidemark/tidemark/RecencyList" "size" "J" (.long (1 : Int64))) (f18 : Fld Z h0 o1 "com/example/tidemark/tidemark/RecencyList" "weight" "J" (.long q4)) (f19 : Fld Z h0 o2 "com/example/tidemark/tidemark/MemoryEntry" "charge" "J" (.long q5)) :
    MetFree l ym5 (head1 (Jvm.Cond.code ym5 prog_41_method_7_code 2 none :: ws) ({ frames := 0, cells := 0, slots := 0, locals := 0 } : Room)) (fun a U => a = #[(.ref o1), (.ref o2)] ∧ Z.Warmed39 U.vm ∧ U.heap = h0) (fun _ _ _ _ _ => True) (fun _ U o U' => ∃ v L, o = .returned v ∧ Q7_13 Z w o1 o2 o3 q4 q5 h0 n0 v U'.heap L ∧ FrameEnd U o U' L ({ frames := 0, cells := 0, slots := 0, locals := 0 } : Room).cells ({ frames := 0, cells := 0, slots := 0, locals := 0 } : Room).slots) := by
  refine MetFree.of_bodySF (plainFor_of_name pnc_0) hisR ?_
  intro p e s m args below meth c s₁ Bd hml0 hP hK
  obtain ⟨rfl, hZ, hh⟩ := hP
  have hx := Bd.exec
  have hby := Bd.bytes
  have hml : c.maxLocals = 2 := hml0
  have hown : s.vm.findClass "com/example/tidemark/tidemark/RecencyList" = some m.cls := findClass_of_methodNamed Bd.named
  have hnm := (name_of_methodNamed Bd.named Bd.method).1
  have X0 : Stand p l e ({ frames := 0, cells := 0, slots := 0, locals := 0 } : Room) s m #[(.ref o1), (.ref o2)] below meth c s₁ [] 0 0 := Stand.of_body Bd
  have e0 : s₁.heap = h0 := by rw [← hh, Bd.state]; rfl
  have N0 := Fr.nil n0
  skip
  have pre0 : ∀ t, Steps p.tables e below (s₁.setTop (mkF m 0 #[.val (.ref o1), .val (.ref o2)] [])) t → Steps p.tables e below (s₁.setTop (entryFrame m #[(.ref o1), (.ref o2)] 2)) t := fun t k => castTop (ef_7_13 m o1 o2) k
  obtain ⟨T1, X1, e1, st1⟩ := getF X0 hx hZ hown (host := "") (Or.inl (wk60 hw)) Via.refl e0 f1 (g := (mkF m 3 #[.val (.ref o1), .val (.ref o2)] [(.ref o1), (.ref o1), (.ref o2)])) rfl rfl (hb hby d7_3)
  obtain ⟨T2, h2, X2, e2, W2, st2⟩ := putF X1 hx hZ hown (host := "") (Or.inl (wk60 hw)) Via.refl e1 f1 f2 (Or.inl (wk61 hw)) (wk1 hw) (ty := .long) (by decide) rfl rfl (g := (mkF m 9 #[.val (.ref o1), .val (.ref o2)] [(.long (3 : Int64)), (.ref o1), (.long (3 : Int64)), (.ref o2)])) rfl rfl (hb hby d7_9)
  have F2 : Fld Z h2 o1 "com/example/tidemark/tidemark/RecencyList" "stamps" "J" (.long (3 : Int64)) := f1.same W2
  have N2 := Fr.snoc X2 N0 g3
  have O3 := O0.wr W2 g3
  have t4 := (f5.other W2 (Or.inl u6))
  have t5 := (f4.wr W2)
  obtain ⟨T6, h6, X6, e6, W6, st6⟩ := putF X2 hx hZ hown (host := "") (Or.inl (wk62 hw)) Via.refl e2 t4 t5 (Or.inl (wk63 hw)) (wk10 hw) (ty := .long) (by decide) rfl rfl (g := (mkF m 12 #[.val (.ref o1), .val (.ref o2)] [(.long (3 : Int64)), (.ref o2)])) rfl rfl (hb hby d7_12)
  have F6 : Fld Z h6 o2 "com/example/tidemark/tidemark/MemoryEntry" "stamp" "J" (.long (3 : Int64)) := t4.same W6
  have N6 := Fr.snoc X6 N2 g7
  have O7 := O3.wr W6 g7
  have t8 := ((f8.other W2 (Or.inl u6)).other W6 (Or.inr (sn56 hw)))
  have t9 := (t5.wr W6)
  obtain ⟨T10, h10, X10, e10, W10, st10⟩ := putF X6 hx hZ hown (host := "") (Or.inl (wk64 hw)) Via.refl e6 t8 t9 (Or.inl (wk65 hw)) (wk10 hw) (ty := (.object "com/example/tidemark/tidemark/RecencyList")) (by decide) rfl rfl (g := (mkF m 17 #[.val (.ref o1), .val (.ref o2)] [(.ref o1), (.ref o2)])) rfl rfl (hb hby d7_17)
  have F10 : Fld Z h10 o2 "com/example/tidemark/tidemark/MemoryEntry" "list" "Lcom/example/tidemark/tidemark/RecencyList;" (.ref o1) := t8.same W10
  have N10 := Fr.snoc X10 N6 g7
  have O11 := O7.wr W10 g7
  have t12 := (((f9.other W2 (Or.inr (sn57 hw))).other W6 (Or.inl (Ne.symm u6))).other W10 (Or.inl (Ne.symm u6)))
  obtain ⟨T13, X13, e13, st13⟩ := getF X10 hx hZ hown (host := "") (Or.inl (wk66 hw)) Via.refl e10 t12 (g := (mkF m 22 #[.val (.ref o1), .val (.ref o2)] [(.ref o1), (.ref o2)])) rfl rfl (hb hby d7_22)
  have t14 := (((f10.other W2 (Or.inl u6)).other W6 (Or.inr (sn58 hw))).other W10 (Or.inr (sn59 hw)))
  have t15 := (t9.wr W10)
  obtain ⟨T16, h16, X16, e16, W16, st16⟩ := putF X13 hx hZ hown (host := "") (Or.inl (wk68 hw)) Via.refl e13 t14 t15 (Or.inl (wk69 hw)) (wk10 hw) (ty := (.object "com/example/tidemark/tidemark/MemoryEntry")) (by decide) rfl rfl (g := (mkF m 25 #[.val (.ref o1), .val (.ref o2)] [(.ref o3), (.ref o2)])) rfl rfl (hb hby d7_25)
  have F16 : Fld Z h16 o2 "com/example/tidemark/tidemark/MemoryEntry" "older" "Lcom/example/tidemark/tidemark/MemoryEntry;" (.ref o3) := t14.same W16
  have N16 := Fr.snoc X16 N10 g7
  have O17 := O11.wr W16 g7
  have t18 := ((((f11.other W2 (Or.inl u6)).other W6 (Or.inr (sn60 hw))).other W10 (Or.inr (sn61 hw))).other W16 (Or.inr (sn62 hw)))
  have t19 := (t15.wr W16)
  obtain ⟨T20, h20, X20, e20, W20, st20⟩ := putF X16 hx hZ hown (host := "") (Or.inl (wk70 hw)) Via.refl e16 t18 t19 (Or.inl (wk71 hw)) (wk10 hw) (ty := (.object "com/example/tidemark/tidemark/MemoryEntry")) (by decide) rfl rfl (g := (mkF m 30 #[.val (.ref o1), .val (.ref o2)] [.null, (.ref o2)])) rfl rfl (hb hby d7_30)
  have F20 : Fld Z h20 o2 "com/example/tidemark/tidemark/MemoryEntry" "newer" "Lcom/example/tidemark/tidemark/MemoryEntry;" .null := t18.same W20
  have N20 := Fr.snoc X20 N16 g7
  have O21 := O17.wr W20 g7
  have t22 := ((t12.other W16 (Or.inl (Ne.symm u6))).other W20 (Or.inl (Ne.symm u6)))
  obtain ⟨T23, X23, e23, st23⟩ := getF X20 hx hZ hown (host := "") (Or.inl (wk66 hw)) Via.refl e20 t22 (g := (mkF m 34 #[.val (.ref o1), .val (.ref o2)] [(.ref o1)])) rfl rfl (hb hby d7_34)
  obtain ⟨T24, X24, e24, st24⟩ := getF X23 hx hZ hown (host := "") (Or.inl (wk66 hw)) Via.refl e23 t22 (g := (mkF m 49 #[.val (.ref o1), .val (.ref o2)] [(.ref o1)])) rfl rfl (hb hby d7_49)
  have t25 := (((((f13.other W2 (Or.inl u14)).other W6 (Or.inl u15)).other W10 (Or.inl u15)).other W16 (Or.inl u15)).other W20 (Or.inl u15))
  have t26 := (((((f12.wr W2).wr W6).wr W10).wr W16).wr W20)
  obtain ⟨T27, h27, X27, e27, W27, st27⟩ := putF X24 hx hZ hown (host := "") (Or.inl (wk70 hw)) Via.refl e24 t25 t26 (Or.inl (wk71 hw)) (wk10 hw) (ty := (.object "com/example/tidemark/tidemark/MemoryEntry")) (by decide) rfl rfl (g := (mkF m 53 #[.val (.ref o1), .val (.ref o2)] [(.ref o2), (.ref o3)])) rfl rfl (hb hby d7_53)
  have F27 : Fld Z h27 o3 "com/example/tidemark/tidemark/MemoryEntry" "newer" "Lcom/example/tidemark/tidemark/MemoryEntry;" (.ref o2) := t25.same W27
  have N27 := Fr.snoc X27 N20 g16
  have O28 := O21.wr W27 g16
  have t29 := (t22.other W27 (Or.inl (Ne.symm u14)))
  have t30 := ((((((f2.wr W2).wr W6).wr W10).wr W16).wr W20).wr W27)
  obtain ⟨T31, h31, X31, e31, W31, st31⟩ := putF X27 hx hZ hown (host := "") (Or.inl (wk66 hw)) Via.refl e27 t29 t30 (Or.inl (wk67 hw)) (wk1 hw) (ty := (.object "com/example/tidemark/tidemark/MemoryEntry")) (by decide) rfl rfl (g := (mkF m 58 #[.val (.ref o1), .val (.ref o2)] [(.ref o2), (.ref o1)])) rfl rfl (hb hby d7_58)
  have F31 : Fld Z h31 o1 "com/example/tidemark/tidemark/RecencyList" "newest" "Lcom/example/tidemark/tidemark/MemoryEntry;" (.ref o2) := t29.same W31
  have N31 := Fr.snoc X31 N27 g3
  have O32 := O28.wr W31 g3
  have t33 := (((((((f17.other W2 (Or.inr (sn65 hw))).other W6 (Or.inl (Ne.symm u6))).other W10 (Or.inl (Ne.symm u6))).other W16 (Or.inl (Ne.symm u6))).other W20 (Or.inl (Ne.symm u6))).other W27 (Or.inl (Ne.symm u14))).other W31 (Or.inr (sn67 hw)))
  obtain ⟨T34, X34, e34, st34⟩ := getF X31 hx hZ hown (host := "") (Or.inl (wk74 hw)) Via.refl e31 t33 (g := (mkF m 63 #[.val (.ref o1), .val (.ref o2)] [(.ref o1), (.ref o1)])) rfl rfl (hb hby d7_63)
  have t35 := (t30.wr W31)
  obtain ⟨T36, h36, X36, e36, W36, st36⟩ := putF X34 hx hZ hown (host := "") (Or.inl (wk74 hw)) Via.refl e34 t33 t35 (Or.inl (wk75 hw)) (wk1 hw) (ty := .long) (by decide) rfl rfl (g := (mkF m 68 #[.val (.ref o1), .val (.ref o2)] [(.long (2 : Int64)), (.ref o1)])) rfl rfl (hb hby d7_68)
  have F36 : Fld Z h36 o1 "com/example/tidemark/tidemark/RecencyList" "size" "J" (.long (2 : Int64)) := t33.same W36
  have N36 := Fr.snoc X36 N31 g3
  have O37 := O32.wr W36 g3
  have t38 := ((((((((f18.other W2 (Or.inr (sn68 hw))).other W6 (Or.inl (Ne.symm u6))).other W10 (Or.inl (Ne.symm u6))).other W16 (Or.inl (Ne.symm u6))).other W20 (Or.inl (Ne.symm u6))).other W27 (Or.inl (Ne.symm u14))).other W31 (Or.inr (sn70 hw))).other W36 (Or.inr (sn71 hw)))
  obtain ⟨T39, X39, e39, st39⟩ := getF X36 hx hZ hown (host := "") (Or.inl (wk76 hw)) Via.refl e36 t38 (g := (mkF m 73 #[.val (.ref o1), .val (.ref o2)] [(.ref o1), (.ref o1)])) rfl rfl (hb hby d7_73)
  have t40 := ((((((((f19.other W2 (Or.inl u6)).other W6 (Or.inr (sn72 hw))).other W10 (Or.inr (sn73 hw))).other W16 (Or.inr (sn74 hw))).other W20 (Or.inr (sn75 hw))).other W27 (Or.inl (Ne.symm u15))).other W31 (Or.inl u6)).other W36 (Or.inl u6))
  obtain ⟨T41, X41, e41, st41⟩ := getF X39 hx hZ hown (host := "") (Or.inl (wk78 hw)) Via.refl e39 t40 (g := (mkF m 77 #[.val (.ref o1), .val (.ref o2)] [(.ref o2), (.long q4), (.ref o1)])) rfl rfl (hb hby d7_77)
  have t42 := (t35.wr W36)
  obtain ⟨T43, h43, X43, e43, W43, st43⟩ := putF X41 hx hZ hown (host := "") (Or.inl (wk76 hw)) Via.refl e41 t38 t42 (Or.inl (wk77 hw)) (wk1 hw) (ty := .long) (by decide) rfl rfl (g := (mkF m 81 #[.val (.ref o1), .val (.ref o2)] [(.long (q4 + q5)), (.ref o1)])) rfl rfl (hb hby d7_81)
  have F43 : Fld Z h43 o1 "com/example/tidemark/tidemark/RecencyList" "weight" "J" (.long (q4 + q5)) := t38.same W43
  have N43 := Fr.snoc X43 N36 g3
  have O44 := O37.wr W43 g3
  obtain ⟨fs, hr, hrun, hended, hWm, hsame⟩ := X43.leave (v := none) (fun _ => rfl)
  have Kf45 : own_KL h0 h43 [⟨o1, Jvm.RoadKit.slotOf Z "com/example/tidemark/tidemark/RecencyList" "stamps" "J"⟩, ⟨o2, Jvm.RoadKit.slotOf Z "com/example/tidemark/tidemark/MemoryEntry" "stamp" "J"⟩, ⟨o2, Jvm.RoadKit.slotOf Z "com/example/tidemark/tidemark/MemoryEntry" "list" "Lcom/example/tidemark/tidemark/RecencyList;"⟩, ⟨o2, Jvm.RoadKit.slotOf Z "com/example/tidemark/tidemark/MemoryEntry" "older" "Lcom/example/tidemark/tidemark/MemoryEntry;"⟩, ⟨o2, Jvm.RoadKit.slotOf Z "com/example/tidemark/tidemark/MemoryEntry" "newer" "Lcom/example/tidemark/tidemark/MemoryEntry;"⟩, ⟨o3, Jvm.RoadKit.slotOf Z "com/example/tidemark/tidemark/MemoryEntry" "newer" "Lcom/example/tidemark/tidemark/MemoryEntry;"⟩, ⟨o1, Jvm.RoadKit.slotOf Z "com/example/tidemark/tidemark/RecencyList" "newest" "Lcom/example/tidemark/tidemark/MemoryEntry;"⟩, ⟨o1, Jvm.RoadKit.slotOf Z "com/example/tidemark/tidemark/RecencyList" "size" "J"⟩, ⟨o1, Jvm.RoadKit.slotOf Z "com/example/tidemark/tidemark/RecencyList" "weight" "J"⟩] := (own_klW (own_klW (own_klW (own_klW (own_klW (own_klW (own_klW (own_klW (own_klW (own_kl0 h0 [⟨o1, Jvm.RoadKit.slotOf Z "com/example/tidemark/tidemark/RecencyList" "stamps" "J"⟩, ⟨o2, Jvm.RoadKit.slotOf Z "com/example/tidemark/tidemark/MemoryEntry" "stamp" "J"⟩, ⟨o2, Jvm.RoadKit.slotOf Z "com/example/tidemark/tidemark/MemoryEntry" "list" "Lcom/example/tidemark/tidemark/RecencyList;"⟩, ⟨o2, Jvm.RoadKit.slotOf Z "com/example/tidemark/tidemark/MemoryEntry" "older" "Lcom/example/tidemark/tidemark/MemoryEntry;"⟩, ⟨o2, Jvm.RoadKit.slotOf Z "com/example/tidemark/tidemark/MemoryEntry" "newer" "Lcom/example/tidemark/tidemark/MemoryEntry;"⟩, ⟨o3, Jvm.RoadKit.slotOf Z "com/example/tidemark/tidemark/MemoryEntry" "newer" "Lcom/example/tidemark/tidemark/MemoryEntry;"⟩, ⟨o1, Jvm.RoadKit.slotOf Z "com/example/tidemark/tidemark/RecencyList" "newest" "Lcom/example/tidemark/tidemark/MemoryEntry;"⟩, ⟨o1, Jvm.RoadKit.slotOf Z "com/example/tidemark/tidemark/RecencyList" "size" "J"⟩, ⟨o1, Jvm.RoadKit.slotOf Z "com/example/tidemark/tidemark/RecencyList" "weight" "J"⟩]) W2 (Or.inl (List.mem_of_getElem? (i := 0) rfl))) W6 (Or.inl (List.mem_of_getElem? (i := 1) rfl))) W10 (Or.inl (List.mem_of_getElem? (i := 2) rfl))) W16 (Or.inl (List.mem_of_getElem? (i := 3) rfl))) W20 (Or.inl (List.mem_of_getElem? (i := 4) rfl))) W27 (Or.inl (List.mem_of_getElem? (i := 5) rfl))) W31 (Or.inl (List.mem_of_getElem? (i := 6) rfl))) W36 (Or.inl (List.mem_of_getElem? (i := 7) rfl))) W43 (Or.inl (List.mem_of_getElem? (i := 8) rfl)))
  have t46 := ((((((((F2.other W6 (Or.inl (Ne.symm u6))).other W10 (Or.inl (Ne.symm u6))).other W16 (Or.inl (Ne.symm u6))).other W20 (Or.inl (Ne.symm u6))).other W27 (Or.inl (Ne.symm u14))).other W31 (Or.inr (sn77 hw))).other W36 (Or.inr (sn78 hw))).other W43 (Or.inr (sn79 hw)))
  have t47 := (((((((F6.other W10 (Or.inr (sn80 hw))).other W16 (Or.inr (sn81 hw))).other W20 (Or.inr (sn82 hw))).other W27 (Or.inl (Ne.symm u15))).other W31 (Or.inl u6)).other W36 (Or.inl u6)).other W43 (Or.inl u6))
  have t48 := ((((((F10.other W16 (Or.inr (sn83 hw))).other W20 (Or.inr (sn84 hw))).other W27 (Or.inl (Ne.symm u15))).other W31 (Or.inl u6)).other W36 (Or.inl u6)).other W43 (Or.inl u6))
  have t49 := ((F31.other W36 (Or.inr (sn85 hw))).other W43 (Or.inr (sn86 hw)))
  have t50 := (((((F16.other W20 (Or.inr (sn87 hw))).other W27 (Or.inl (Ne.symm u15))).other W31 (Or.inl u6)).other W36 (Or.inl u6)).other W43 (Or.inl u6))
  have t51 := ((((F20.other W27 (Or.inl (Ne.symm u15))).other W31 (Or.inl u6)).other W36 (Or.inl u6)).other W43 (Or.inl u6))
  have t52 := (((F27.other W31 (Or.inl u14)).other W36 (Or.inl u14)).other W43 (Or.inl u14))
  have t53 := (F36.other W43 (Or.inr (sn91 hw)))
  refine ⟨_, _, pre0 _ ?_, hrun, hended, _, _, rfl, ?_, ⟨_, rfl⟩, hWm, hsame.mono (by decide) (by decide)⟩
  · show Steps p.tables e below (s₁.setTop (mkF m 0 #[.val (.ref o1), .val (.ref o2)] [])) _
    refine sA X0 hx hby d7_0 rfl rfl ?_
    refine sA X0 hx hby d7_1 rfl rfl ?_
    refine XS.dup X0.here hx rfl (hb hby d7_2) rfl rfl ?_
    refine st1 _ ?_
    refine XS.lconst X1.here hx rfl (hb hby d7_6) ?_
    refine XS.ladd X1.here hx rfl (hb hby d7_7) rfl ?_
    jvm_step X1.here [X1.here.top, hx, (hb hby d7_8), Value.category]
    show Steps p.tables e below (T1.setTop (mkF m 9 #[.val (.ref o1), .val (.ref o2)] [(.long (3 : Int64)), (.ref o1), (.long (3 : Int64)), (.ref o2)])) _
    refine st2 _ ?_
    refine st6 _ ?_
    refine sA X6 hx hby d7_15 rfl rfl ?_
    refine sA X6 hx hby d7_16 rfl rfl ?_
    refine st10 _ ?_
    refine sA X10 hx hby d7_20 rfl rfl ?_
    refine sA X10 hx hby d7_21 rfl rfl ?_
    refine st13 _ ?_
    refine st16 _ ?_
    refine sA X16 hx hby d7_28 rfl rfl ?_
    refine XS.aconstNull X16.here hx rfl (hb hby d7_29) ?_
    refine st20 _ ?_
    refine sA X20 hx hby d7_33 rfl rfl ?_
    refine st23 _ ?_
    refine XS.ifnonnullYes X23.here hx rfl (pc0 := 37) (pc' := 48) rfl (hb hby d7_37) rfl (by decide) (by decide) ?_
    refine sA X23 hx hby d7_48 rfl rfl ?_
    refine st24 _ ?_
    refine sA X24 hx hby d7_52 rfl rfl ?_
    refine st27 _ ?_
    refine sA X27 hx hby d7_56 rfl rfl ?_
    refine sA X27 hx hby d7_57 rfl rfl ?_
    refine st31 _ ?_
    refine sA X31 hx hby d7_61 rfl rfl ?_
    refine XS.dup X31.here hx rfl (hb hby d7_62) rfl rfl ?_
    refine st34 _ ?_
    refine XS.lconst X34.here hx rfl (hb hby d7_66) ?_
    refine XS.ladd X34.here hx rfl (hb hby d7_67) rfl ?_
    refine st36 _ ?_
    refine sA X36 hx hby d7_71 rfl rfl ?_
    refine XS.dup X36.here hx rfl (hb hby d7_72) rfl rfl ?_
    refine st39 _ ?_
    refine sA X39 hx hby d7_76 rfl rfl ?_
    refine st41 _ ?_
    refine XS.ladd X41.here hx rfl (hb hby d7_80) rfl ?_
    refine st43 _ ?_
    exact X43.returnOut hx Bd.returns (hb hby d7_84) hr
  · show Q7_13 Z w o1 o2 o3 q4 q5 h0 n0 _ T43.heap _
    rw [e43]
    exact ⟨rfl, N43, Kf45, t46, t47, t48, t49, t50, t51, t52, t53, F43⟩
theorem ef_7_14 (m : MethodId) (o1 : Addr) (o2 : Addr) : entryFrame m #[(.ref o1), (.ref o2)] 2 = mkF m 0 #[.val (.ref o1), .val (.ref o2)] [] := by first | (simp [entryFrame, mkF, argsToLocals, Value.category]; done) | rfl
def Q7_14 (Z : State) (w : Nat → Addr) (o1 : Addr) (o2 : Addr) (o3 : Addr) (q4 : Int64) (q5 : Int64) (h0 : Heap) (n0 : Nat) (v : Option Value) (h : Heap) (L : List Loc) : Prop := v = none ∧ Fr n0 L ∧ own_KL h0 h [⟨o1, Jvm.RoadKit.slotOf Z "com/example/tidemark/tidemark/RecencyList" "stamps" "J"⟩, ⟨o2, Jvm.RoadKit.slotOf Z "com/example/tidemark/tidemark/MemoryEntry" "stamp" "J"⟩, ⟨o2, Jvm.RoadKit.slotOf Z "com/example/tidemark/tidemark/MemoryEntry" "list" "Lcom/example/tidemark/tidemark/RecencyList;"⟩, ⟨o2, Jvm.RoadKit.slotOf Z "com/example/tidemark/tidemark/MemoryEntry" "older" "Lcom/example/tidemark/tidemark/MemoryEntry;"⟩, ⟨o2, Jvm.RoadKit.slotOf Z "com/example/tidemark/tidemark/MemoryEntry" "newer" "Lcom/example/tidemark/tidemark/MemoryEntry;"⟩, ⟨o3, Jvm.RoadKit.slotOf Z "com/example/tidemark/tidemark/MemoryEntry" "newer" "Lcom/example/tidemark/tidemark/MemoryEntry;"⟩, ⟨o1, Jvm.RoadKit.slotOf Z "com/example/tidemark/tidemark/RecencyList" "newest" "Lcom/example/tidemark/tidemark/MemoryEntry;"⟩, ⟨o1, Jvm.RoadKit.slotOf Z "com/example/tidemark/tidemark/RecencyList" "size" "J"⟩, ⟨o1, Jvm.RoadKit.slotOf Z "com/example/tidemark/tidemark/RecencyList" "weight" "J"⟩] ∧ Fld Z h o1 "com/example/tidemark/tidemark/RecencyList" "stamps" "J" (.long (3 : Int64)) ∧ Fld Z h o2 "com/example/tidemark/tidemark/MemoryEntry" "stamp" "J" (.long (3 : Int64)) ∧ Fld Z h o2 "com/example/tidemark/tidemark/MemoryEntry" "list" "Lcom/example/tidemark/tidemark/RecencyList;" (.ref o1) ∧ Fld Z h o1 "com/example/tidemark/tidemark/RecencyList" "newest" "Lcom/example/tidemark/tidemark/MemoryEntry;" (.ref o2) ∧ Fld Z h o2 "com/example/tidemark/tidemark/MemoryEntry" "older" "Lcom/example/tidemark/tidemark/MemoryEntry;" (.ref o3) ∧ Fld Z h o2 "com/example/tidemark/tidemark/MemoryEntry" "newer" "Lcom/example/tidemark/tidemark/MemoryEntry;" .null ∧ Fld Z h o3 "com/example/tidemark/tidemark/MemoryEntry" "newer" "Lcom/example/tidemark/tidemark/MemoryEntry;" (.ref o2) ∧ Fld Z h o1 "com/example/tidemark/tidemark/RecencyList" "size" "J" (.long (3 : Int64)) ∧ Fld Z h o1 "com/example/tidemark/tidemark/RecencyList" "weight" "J" (.long (q4 + q5))
set_option maxRecDepth 65536 in
set_option maxHeartbeats 40000000 in
theorem rm7_14 (l : Launch) (Z : State) (a0 : Array Value) (hw : ∀ d ∈ tables_1, d.before a0 Z = true) (w : Nat → Addr) (hW : Wd Z w) (ws : List Jvm.Cond) (o1 : Addr) (o2 : Addr) (o3 : Addr) (q4 : Int64) (q5 : Int64) (h0 : Heap) (n0 : Nat) (O0 : Old Z n0 h0) (f1 : Fld Z h0 o1 "com/example/tidemark/tidemark/RecencyList" "stamps" "J" (.long (2 : Int64))) (f2 : Exa Z h0 o1 "com/example/tidemark/tidemark/RecencyList") (g3 : n0 ≤ o1) (f4 : Exa Z h0 o2 "com/example/tidemark/tidemark/MemoryEntry") (f5 : Fld Z h0 o2 "com/example/tidemark/tidemark/MemoryEntry" "stamp" "J" (.long (0 : Int64))) (u6 : o2 ≠ o1) (g7 : n0 ≤ o2) (f8 : Fld Z h0 o2 "com/example/tidemark/tidemark/MemoryEntry" "list" "Lcom/example/tidemark/tidemark/RecencyList;" .null) (f9 : Fld Z h0 o1 "com/example/tidemark/tidemark/RecencyList" "newest" "Lcom/example/tidemark/tidemark/MemoryEntry;" (.ref o3)) (f10 : Fld Z h0 o2 "com/example/tidemark/tidemark/MemoryEntry" "older" "Lcom/example/tidemark/tidemark/MemoryEntry;" .null) (f11 : Fld Z h0 o2 "com/example/tidemark/tidemark/MemoryEntry" "newer" "Lcom/example/tidemark/tidemark/MemoryEntry;" .null) (f12 : Exa Z h0 o3 "com/example/tidemark/tidemark/MemoryEntry") (f13 : Fld Z h0 o3 "com/example/tidemark/tidemark/MemoryEntry" "newer" "Lcom/example/tidemark/tidemark/MemoryEntry;" .null) (u14 : o3 ≠ o1) (u15 : o3 ≠ o2) (g16 : n0 ≤ o3) (f17 : Fld Z h0 o1 "com/example/tidemark/tidemark/RecencyList" "size" "J" (.long (2 : Int64))) (f18 : Fld Z h0 o1 "com/example/tidemark/tidemark/RecencyList" "weight" "J" (.long q4)) (f19 : Fld Z h0 o2 "com/example/tidemark/tidemark/MemoryEntry" "charge" "J" (.long q5)) :
    MetFree l ym5 (head1 (Jvm.Cond.code ym5 prog_41_method_7_code 2 none :: ws) ({ frames := 0, cells := 0, slots := 0, locals := 0 } : Room)) (fun a U => a = #[(.ref o1), (.ref o2)] ∧ Z.Warmed39 U.vm ∧ U.heap = h0) (fun _ _ _ _ _ => True) (fun _ U o U' => ∃ v L, o = .returned v ∧ Q7_14 Z w o1 o2 o3 q4 q5 h0 n0 v U'.heap L ∧ FrameEnd U o U' L ({ frames := 0, cells := 0, slots := 0, locals := 0 } : Room).cells ({ frames := 0, cells := 0, slots := 0, locals := 0 } : Room).slots) := by
  refine MetFree.of_bodySF (plainFor_of_name pnc_0) hisR ?_
  intro p e s m args below meth c s₁ Bd hml0 hP hK
  obtain ⟨rfl, hZ, hh⟩ := hP
  have hx := Bd.exec
  have hby := Bd.bytes
  have hml : c.maxLocals = 2 := hml0
  have hown : s.vm.findClass "com/example/tidemark/tidemark/RecencyList" = some m.cls := findClass_of_methodNamed Bd.named
  have hnm := (name_of_methodNamed Bd.named Bd.method).1
  have X0 : Stand p l e ({ frames := 0, cells := 0, slots := 0, locals := 0 } : Room) s m #[(.ref o1), (.ref o2)] below meth c s₁ [] 0 0 := Stand.of_body Bd
  have e0 : s₁.heap = h0 := by rw [← hh, Bd.state]; rfl
  have N0 := Fr.nil n0
  skip
  have pre0 : ∀ t, Steps p.tables e below (s₁.setTop (mkF m 0 #[.val (.ref o1), .val (.ref o2)] [])) t → Steps p.tables e below (s₁.setTop (entryFrame m #[(.ref o1), (.ref o2)] 2)) t := fun t k => castTop (ef_7_14 m o1 o2) k
  obtain ⟨T1, X1, e1, st1⟩ := getF X0 hx hZ hown (host := "") (Or.inl (wk60 hw)) Via.refl e0 f1 (g := (mkF m 3 #[.val (.ref o1), .val (.ref o2)] [(.ref o1), (.ref o1), (.ref o2)])) rfl rfl (hb hby d7_3)
  obtain ⟨T2, h2, X2, e2, W2, st2⟩ := putF X1 hx hZ hown (host := "") (Or.inl (wk60 hw)) Via.refl e1 f1 f2 (Or.inl (wk61 hw)) (wk1 hw) (ty := .long) (by decide) rfl rfl (g := (mkF m 9 #[.val (.ref o1), .val (.ref o2)] [(.long (3 : Int64)), (.ref o1), (.long (3 : Int64)), (.ref o2)])) rfl rfl (hb hby d7_9)
  have F2 : Fld Z h2 o1 "com/example/tidemark/tidemark/RecencyList" "stamps" "J" (.long (3 : Int64)) := f1.same W2
  have N2 := Fr.snoc X2 N0 g3
  have O3 := O0.wr W2 g3
  have t4 := (f5.other W2 (Or.inl u6))
  have t5 := (f4.wr W2)
  obtain ⟨T6, h6, X6, e6, W6, st6⟩ := putF X2 hx hZ hown (host := "") (Or.inl (wk62 hw)) Via.refl e2 t4 t5 (Or.inl (wk63 hw)) (wk10 hw) (ty := .long) (by decide) rfl rfl (g := (mkF m 12 #[.val (.ref o1), .val (.ref o2)] [(.long (3 : Int64)), (.ref o2)])) rfl rfl (hb hby d7_12)
  have F6 : Fld Z h6 o2 "com/example/tidemark/tidemark/MemoryEntry" "stamp" "J" (.long (3 : Int64)) := t4.same W6
  have N6 := Fr.snoc X6 N2 g7
  have O7 := O3.wr W6 g7
  have t8 := ((f8.other W2 (Or.inl u6)).other W6 (Or.inr (sn56 hw)))
  have t9 := (t5.wr W6)
  obtain ⟨T10, h10, X10, e10, W10, st10⟩ := putF X6 hx hZ hown (host := "") (Or.inl (wk64 hw)) Via.refl e6 t8 t9 (Or.inl (wk65 hw)) (wk10 hw) (ty := (.object "com/example/tidemark/tidemark/RecencyList")) (by decide) rfl rfl (g := (mkF m 17 #[.val (.ref o1), .val (.ref o2)] [(.ref o1), (.ref o2)])) rfl rfl (hb hby d7_17)
  have F10 : Fld Z h10 o2 "com/example/tidemark/tidemark/MemoryEntry" "list" "Lcom/example/tidemark/tidemark/RecencyList;" (.ref o1) := t8.same W10
  have N10 := Fr.snoc X10 N6 g7
  have O11 := O7.wr W10 g7
  have t12 := (((f9.other W2 (Or.inr (sn57 hw))).other W6 (Or.inl (Ne.symm u6))).other W10 (Or.inl (Ne.symm u6)))
  obtain ⟨T13, X13, e13, st13⟩ := getF X10 hx hZ hown (host := "") (Or.inl (wk66 hw)) Via.refl e10 t12 (g := (mkF m 22 #[.val (.ref o1), .val (.ref o2)] [(.ref o1), (.ref o2)])) rfl rfl (hb hby d7_22)
  have t14 := (((f10.other W2 (Or.inl u6)).other W6 (Or.inr (sn58 hw))).other W10 (Or.inr (sn59 hw)))
  have t15 := (t9.wr W10)
  obtain ⟨T16, h16, X16, e16, W16, st16⟩ := putF X13 hx hZ hown (host := "") (Or.inl (wk68 hw)) Via.refl e13 t14 t15 (Or.inl (wk69 hw)) (wk10 hw) (ty := (.object "com/example/tidemark/tidemark/MemoryEntry")) (by decide) rfl rfl (g := (mkF m 25 #[.val (.ref o1), .val (.ref o2)] [(.ref o3), (.ref o2)])) rfl rfl (hb hby d7_25)
  have F16 : Fld Z h16 o2 "com/example/tidemark/tidemark/MemoryEntry" "older" "Lcom/example/tidemark/tidemark/MemoryEntry;" (.ref o3) := t14.same W16
  have N16 := Fr.snoc X16 N10 g7
  have O17 := O11.wr W16 g7
  have t18 := ((((f11.other W2 (Or.inl u6)).other W6 (Or.inr (sn60 hw))).other W10 (Or.inr (sn61 hw))).other W16 (Or.inr (sn62 hw)))
  have t19 := (t15.wr W16)
  obtain ⟨T20, h20, X20, e20, W20, st20⟩ := putF X16 hx hZ hown (host := "") (Or.inl (wk70 hw)) Via.refl e16 t18 t19 (Or.inl (wk71 hw)) (wk10 hw) (ty := (.object "com/example/tidemark/tidemark/MemoryEntry")) (by decide) rfl rfl (g := (mkF m 30 #[.val (.ref o1), .val (.ref o2)] [.null, (.ref o2)])) rfl rfl (hb hby d7_30)
  have F20 : Fld Z h20 o2 "com/example/tidemark/tidemark/MemoryEntry" "newer" "Lcom/example/tidemark/tidemark/MemoryEntry;" .null := t18.same W20
  have N20 := Fr.snoc X20 N16 g7
  have O21 := O17.wr W20 g7
  have t22 := ((t12.other W16 (Or.inl (Ne.symm u6))).other W20 (Or.inl (Ne.symm u6)))
  obtain ⟨T23, X23, e23, st23⟩ := getF X20 hx hZ hown (host := "") (Or.inl (wk66 hw)) Via.refl e20 t22 (g := (mkF m 34 #[.val (.ref o1), .val (.ref o2)] [(.ref o1)])) rfl rfl (hb hby d7_34)
  obtain ⟨T24, X24, e24, st24⟩ := getF X23 hx hZ hown (host := "") (Or.inl (wk66 hw)) Via.refl e23 t22 (g := (mkF m 49 #[.val (.ref o1), .val (.ref o2)] [(.ref o1)])) rfl rfl (hb hby d7_49)
  have t25 := (((((f13.other W2 (Or.inl u14)).other W6 (Or.inl u15)).other W10 (Or.inl u15)).other W16 (Or.inl u15)).other W20 (Or.inl u15))
  have t26 := (((((f12.wr W2).wr W6).wr W10).wr W16).wr W20)
  obtain ⟨T27, h27, X27, e27, W27, st27⟩ := putF X24 hx hZ hown (host := "") (Or.inl (wk70 hw)) Via.refl e24 t25 t26 (Or.inl (wk71 hw)) (wk10 hw) (ty := (.object "com/example/tidemark/tidemark/MemoryEntry")) (by decide) rfl rfl (g := (mkF m 53 #[.val (.ref o1), .val (.ref o2)] [(.ref o2), (.ref o3)])) rfl rfl (hb hby d7_53)
  have F27 : Fld Z h27 o3 "com/example/tidemark/tidemark/MemoryEntry" "newer" "Lcom/example/tidemark/tidemark/MemoryEntry;" (.ref o2) := t25.same W27
  have N27 := Fr.snoc X27 N20 g16
  have O28 := O21.wr W27 g16
  have t29 := (t22.other W27 (Or.inl (Ne.symm u14)))
  have t30 := ((((((f2.wr W2).wr W6).wr W10).wr W16).wr W20).wr W27)
  obtain ⟨T31, h31, X31, e31, W31, st31⟩ := putF X27 hx hZ hown (host := "") (Or.inl (wk66 hw)) Via.refl e27 t29 t30 (Or.inl (wk67 hw)) (wk1 hw) (ty := (.object "com/example/tidemark/tidemark/MemoryEntry")) (by decide) rfl rfl (g := (mkF m 58 #[.val (.ref o1), .val (.ref o2)] [(.ref o2), (.ref o1)])) rfl rfl (hb hby d7_58)
  have F31 : Fld Z h31 o1 "com/example/tidemark/tidemark/RecencyList" "newest" "Lcom/example/tidemark/tidemark/MemoryEntry;" (.ref o2) := t29.same W31
  have N31 := Fr.snoc X31 N27 g3
  have O32 := O28.wr W31 g3
  have t33 := (((((((f17.other W2 (Or.inr (sn65 hw))).other W6 (Or.inl (Ne.symm u6))).other W10 (Or.inl (Ne.symm u6))).other W16 (Or.inl (Ne.symm u6))).other W20 (Or.inl (Ne.symm u6))).other W27 (Or.inl (Ne.symm u14))).other W31 (Or.inr (sn67 hw)))
  obtain ⟨T34, X34, e34, st34⟩ := getF X31 hx hZ hown (host := "") (Or.inl (wk74 hw)) Via.refl e31 t33 (g := (mkF m 63 #[.val (.ref o1), .val (.ref o2)] [(.ref o1), (.ref o1)])) rfl rfl (hb hby d7_63)
  have t35 := (t30.wr W31)
  obtain ⟨T36, h36, X36, e36, W36, st36⟩ := putF X34 hx hZ hown (host := "") (Or.inl (wk74 hw)) Via.refl e34 t33 t35 (Or.inl (wk75 hw)) (wk1 hw) (ty := .long) (by decide) rfl rfl (g := (mkF m 68 #[.val (.ref o1), .val (.ref o2)] [(.long (3 : Int64)), (.ref o1)])) rfl rfl (hb hby d7_68)
  have F36 : Fld Z h36 o1 "com/example/tidemark/tidemark/RecencyList" "size" "J" (.long (3 : Int64)) := t33.same W36
  have N36 := Fr.snoc X36 N31 g3
  have O37 := O32.wr W36 g3
  have t38 := ((((((((f18.other W2 (Or.inr (sn68 hw))).other W6 (Or.inl (Ne.symm u6))).other W10 (Or.inl (Ne.symm u6))).other W16 (Or.inl (Ne.symm u6))).other W20 (Or.inl (Ne.symm u6))).other W27 (Or.inl (Ne.symm u14))).other W31 (Or.inr (sn70 hw))).other W36 (Or.inr (sn71 hw)))
  obtain ⟨T39, X39, e39, st39⟩ := getF X36 hx hZ hown (host := "") (Or.inl (wk76 hw)) Via.refl e36 t38 (g := (mkF m 73 #[.val (.ref o1), .val (.ref o2)] [(.ref o1), (.ref o1)])) rfl rfl (hb hby d7_73)
  have t40 := ((((((((f19.other W2 (Or.inl u6)).other W6 (Or.inr (sn72 hw))).other W10 (Or.inr (sn73 hw))).other W16 (Or.inr (sn74 hw))).other W20 (Or.inr (sn75 hw))).other W27 (Or.inl (Ne.symm u15))).other W31 (Or.inl u6)).other W36 (Or.inl u6))
  obtain ⟨T41, X41, e41, st41⟩ := getF X39 hx hZ hown (host := "") (Or.inl (wk78 hw)) Via.refl e39 t40 (g := (mkF m 77 #[.val (.ref o1), .val (.ref o2)] [(.ref o2), (.long q4), (.ref o1)])) rfl rfl (hb hby d7_77)
  have t42 := (t35.wr W36)
  obtain ⟨T43, h43, X43, e43, W43, st43⟩ := putF X41 hx hZ hown (host := "") (Or.inl (wk76 hw)) Via.refl e41 t38 t42 (Or.inl (wk77 hw)) (wk1 hw) (ty := .long) (by decide) rfl rfl (g := (mkF m 81 #[.val (.ref o1), .val (.ref o2)] [(.long (q4 + q5)), (.ref o1)])) rfl rfl (hb hby d7_81)
  have F43 : Fld Z h43 o1 "com/example/tidemark/tidemark/RecencyList" "weight" "J" (.long (q4 + q5)) := t38.same W43
  have N43 := Fr.snoc X43 N36 g3
  have O44 := O37.wr W43 g3
  obtain ⟨fs, hr, hrun, hended, hWm, hsame⟩ := X43.leave (v := none) (fun _ => rfl)
  have Kf45 : own_KL h0 h43 [⟨o1, Jvm.RoadKit.slotOf Z "com/example/tidemark/tidemark/RecencyList" "stamps" "J"⟩, ⟨o2, Jvm.RoadKit.slotOf Z "com/example/tidemark/tidemark/MemoryEntry" "stamp" "J"⟩, ⟨o2, Jvm.RoadKit.slotOf Z "com/example/tidemark/tidemark/MemoryEntry" "list" "Lcom/example/tidemark/tidemark/RecencyList;"⟩, ⟨o2, Jvm.RoadKit.slotOf Z "com/example/tidemark/tidemark/MemoryEntry" "older" "Lcom/example/tidemark/tidemark/MemoryEntry;"⟩, ⟨o2, Jvm.RoadKit.slotOf Z "com/example/tidemark/tidemark/MemoryEntry" "newer" "Lcom/example/tidemark/tidemark/MemoryEntry;"⟩, ⟨o3, Jvm.RoadKit.slotOf Z "com/example/tidemark/tidemark/MemoryEntry" "newer" "Lcom/example/tidemark/tidemark/MemoryEntry;"⟩, ⟨o1, Jvm.RoadKit.slotOf Z "com/example/tidemark/tidemark/RecencyList" "newest" "Lcom/example/tidemark/tidemark/MemoryEntry;"⟩, ⟨o1, Jvm.RoadKit.slotOf Z "com/example/tidemark/tidemark/RecencyList" "size" "J"⟩, ⟨o1, Jvm.RoadKit.slotOf Z "com/example/tidemark/tidemark/RecencyList" "weight" "J"⟩] := (own_klW (own_klW (own_klW (own_klW (own_klW (own_klW (own_klW (own_klW (own_klW (own_kl0 h0 [⟨o1, Jvm.RoadKit.slotOf Z "com/example/tidemark/tidemark/RecencyList" "stamps" "J"⟩, ⟨o2, Jvm.RoadKit.slotOf Z "com/example/tidemark/tidemark/MemoryEntry" "stamp" "J"⟩, ⟨o2, Jvm.RoadKit.slotOf Z "com/example/tidemark/tidemark/MemoryEntry" "list" "Lcom/example/tidemark/tidemark/RecencyList;"⟩, ⟨o2, Jvm.RoadKit.slotOf Z "com/example/tidemark/tidemark/MemoryEntry" "older" "Lcom/example/tidemark/tidemark/MemoryEntry;"⟩, ⟨o2, Jvm.RoadKit.slotOf Z "com/example/tidemark/tidemark/MemoryEntry" "newer" "Lcom/example/tidemark/tidemark/MemoryEntry;"⟩, ⟨o3, Jvm.RoadKit.slotOf Z "com/example/tidemark/tidemark/MemoryEntry" "newer" "Lcom/example/tidemark/tidemark/MemoryEntry;"⟩, ⟨o1, Jvm.RoadKit.slotOf Z "com/example/tidemark/tidemark/RecencyList" "newest" "Lcom/example/tidemark/tidemark/MemoryEntry;"⟩, ⟨o1, Jvm.RoadKit.slotOf Z "com/example/tidemark/tidemark/RecencyList" "size" "J"⟩, ⟨o1, Jvm.RoadKit.slotOf Z "com/example/tidemark/tidemark/RecencyList" "weight" "J"⟩]) W2 (Or.inl (List.mem_of_getElem? (i := 0) rfl))) W6 (Or.inl (List.mem_of_getElem? (i := 1) rfl))) W10 (Or.inl (List.mem_of_getElem? (i := 2) rfl))) W16 (Or.inl (List.mem_of_getElem? (i := 3) rfl))) W20 (Or.inl (List.mem_of_getElem? (i := 4) rfl))) W27 (Or.inl (List.mem_of_getElem? (i := 5) rfl))) W31 (Or.inl (List.mem_of_getElem? (i := 6) rfl))) W36 (Or.inl (List.mem_of_getElem? (i := 7) rfl))) W43 (Or.inl (List.mem_of_getElem? (i := 8) rfl)))
  have t46 := ((((((((F2.other W6 (Or.inl (Ne.symm u6))).other W10 (Or.inl (Ne.symm u6))).other W16 (Or.inl (Ne.symm u6))).other W20 (Or.inl (Ne.symm u6))).other W27 (Or.inl (Ne.symm u14))).other W31 (Or.inr (sn77 hw))).other W36 (Or.inr (sn78 hw))).other W43 (Or.inr (sn79 hw)))
  have t47 := (((((((F6.other W10 (Or.inr (sn80 hw))).other W16 (Or.inr (sn81 hw))).other W20 (Or.inr (sn82 hw))).other W27 (Or.inl (Ne.symm u15))).other W31 (Or.inl u6)).other W36 (Or.inl u6)).other W43 (Or.inl u6))
  have t48 := ((((((F10.other W16 (Or.inr (sn83 hw))).other W20 (Or.inr (sn84 hw))).other W27 (Or.inl (Ne.symm u15))).other W31 (Or.inl u6)).other W36 (Or.inl u6)).other W43 (Or.inl u6))
  have t49 := ((F31.other W36 (Or.inr (sn85 hw))).other W43 (Or.inr (sn86 hw)))
  have t50 := (((((F16.other W20 (Or.inr (sn87 hw))).other W27 (Or.inl (Ne.symm u15))).other W31 (Or.inl u6)).other W36 (Or.inl u6)).other W43 (Or.inl u6))
  have t51 := ((((F20.other W27 (Or.inl (Ne.symm u15))).other W31 (Or.inl u6)).other W36 (Or.inl u6)).other W43 (Or.inl u6))
  have t52 := (((F27.other W31 (Or.inl u14)).other W36 (Or.inl u14)).other W43 (Or.inl u14))
  have t53 := (F36.other W43 (Or.inr (sn91 hw)))
  refine ⟨_, _, pre0 _ ?_, hrun, hended, _, _, rfl, ?_, ⟨_, rfl⟩, hWm, hsame.mono (by decide) (by decide)⟩
  · show Steps p.tables e below (s₁.setTop (mkF m 0 #[.val (.ref o1), .val (.ref o2)] [])) _
    refine sA X0 hx hby d7_0 rfl rfl ?_
    refine sA X0 hx hby d7_1 rfl rfl ?_
    refine XS.dup X0.here hx rfl (hb hby d7_2) rfl rfl ?_
    refine st1 _ ?_
    refine XS.lconst X1.here hx rfl (hb hby d7_6) ?_
    refine XS.ladd X1.here hx rfl (hb hby d7_7) rfl ?_
    jvm_step X1.here [X1.here.top, hx, (hb hby d7_8), Value.category]
    show Steps p.tables e below (T1.setTop (mkF m 9 #[.val (.ref o1), .val (.ref o2)] [(.long (3 : Int64)), (.ref o1), (.long (3 : Int64)), (.ref o2)])) _
    refine st2 _ ?_
    refine st6 _ ?_
    refine sA X6 hx hby d7_15 rfl rfl ?_
    refine sA X6 hx hby d7_16 rfl rfl ?_
    refine st10 _ ?_
    refine sA X10 hx hby d7_20 rfl rfl ?_
    refine sA X10 hx hby d7_21 rfl rfl ?_
    refine st13 _ ?_
    refine st16 _ ?_
    refine sA X16 hx hby d7_28 rfl rfl ?_
    refine XS.aconstNull X16.here hx rfl (hb hby d7_29) ?_
    refine st20 _ ?_
    refine sA X20 hx hby d7_33 rfl rfl ?_
    refine st23 _ ?_
    refine XS.ifnonnullYes X23.here hx rfl (pc0 := 37) (pc' := 48) rfl (hb hby d7_37) rfl (by decide) (by decide) ?_
    refine sA X23 hx hby d7_48 rfl rfl ?_
    refine st24 _ ?_
    refine sA X24 hx hby d7_52 rfl rfl ?_
    refine st27 _ ?_
    refine sA X27 hx hby d7_56 rfl rfl ?_
    refine sA X27 hx hby d7_57 rfl rfl ?_
    refine st31 _ ?_
    refine sA X31 hx hby d7_61 rfl rfl ?_
    refine XS.dup X31.here hx rfl (hb hby d7_62) rfl rfl ?_
    refine st34 _ ?_
    refine XS.lconst X34.here hx rfl (hb hby d7_66) ?_
    refine XS.ladd X34.here hx rfl (hb hby d7_67) rfl ?_
    refine st36 _ ?_
    refine sA X36 hx hby d7_71 rfl rfl ?_
    refine XS.dup X36.here hx rfl (hb hby d7_72) rfl rfl ?_
    refine st39 _ ?_
    refine sA X39 hx hby d7_76 rfl rfl ?_
    refine st41 _ ?_
    refine XS.ladd X41.here hx rfl (hb hby d7_80) rfl ?_
    refine st43 _ ?_
    exact X43.returnOut hx Bd.returns (hb hby d7_84) hr
  · show Q7_14 Z w o1 o2 o3 q4 q5 h0 n0 _ T43.heap _
    rw [e43]
    exact ⟨rfl, N43, Kf45, t46, t47, t48, t49, t50, t51, t52, t53, F43⟩
theorem ef_9_15 (m : MethodId) (o1 : Addr) : entryFrame m #[(.ref o1)] 1 = mkF m 0 #[.val (.ref o1)] [] := by first | (simp [entryFrame, mkF, argsToLocals, Value.category]; done) | rfl
def Q9_15 (Z : State) (w : Nat → Addr) (o1 : Addr) (h0 : Heap) (n0 : Nat) (v : Option Value) (h : Heap) (L : List Loc) : Prop := v = some (.long (3 : Int64)) ∧ Fr n0 L ∧ h = h0
set_option maxRecDepth 65536 in
set_option maxHeartbeats 40000000 in
theorem rm9_15 (l : Launch) (Z : State) (a0 : Array Value) (hw : ∀ d ∈ tables_1, d.before a0 Z = true) (w : Nat → Addr) (hW : Wd Z w) (ws : List Jvm.Cond) (o1 : Addr) (h0 : Heap) (n0 : Nat) (O0 : Old Z n0 h0) (f1 : Fld Z h0 o1 "com/example/tidemark/tidemark/RecencyList" "size" "J" (.long (3 : Int64))) :
    MetFree l ym6 (head1 (Jvm.Cond.code ym6 prog_41_method_4_code 1 (some .long) :: ws) ({ frames := 0, cells := 0, slots := 0, locals := 0 } : Room)) (fun a U => a = #[(.ref o1)] ∧ Z.Warmed39 U.vm ∧ U.heap = h0) (fun _ _ _ _ _ => True) (fun _ U o U' => ∃ v L, o = .returned v ∧ Q9_15 Z w o1 h0 n0 v U'.heap L ∧ FrameEnd U o U' L ({ frames := 0, cells := 0, slots := 0, locals := 0 } : Room).cells ({ frames := 0, cells := 0, slots := 0, locals := 0 } : Room).slots) := by
  refine MetFree.of_bodySF (plainFor_of_name pnc_0) hisR ?_
  intro p e s m args below meth c s₁ Bd hml0 hP hK
  obtain ⟨rfl, hZ, hh⟩ := hP
  have hx := Bd.exec
  have hby := Bd.bytes
  have hml : c.maxLocals = 1 := hml0
  have hown : s.vm.findClass "com/example/tidemark/tidemark/RecencyList" = some m.cls := findClass_of_methodNamed Bd.named
  have hnm := (name_of_methodNamed Bd.named Bd.method).1
  have X0 : Stand p l e ({ frames := 0, cells := 0, slots := 0, locals := 0 } : Room) s m #[(.ref o1)] below meth c s₁ [] 0 0 := Stand.of_body Bd
  have e0 : s₁.heap = h0 := by rw [← hh, Bd.state]; rfl
  have N0 := Fr.nil n0
  skip
  have pre0 : ∀ t, Steps p.tables e below (s₁.setTop (mkF m 0 #[.val (.ref o1)] [])) t → Steps p.tables e below (s₁.setTop (entryFrame m #[(.ref o1)] 1)) t := fun t k => castTop (ef_9_15 m o1) k
  obtain ⟨T1, X1, e1, st1⟩ := getF X0 hx hZ hown (host := "") (Or.inl (wk74 hw)) Via.refl e0 f1 (g := (mkF m 1 #[.val (.ref o1)] [(.ref o1)])) rfl rfl (hb hby d9_1)
  obtain ⟨fs, hr, hrun, hended, hWm, hsame⟩ := X1.leave (v := some (.long (3 : Int64))) (fun h => by rw [Bd.returns] at h; cases h)
  refine ⟨_, _, pre0 _ ?_, hrun, hended, _, _, rfl, ?_, ⟨_, rfl⟩, hWm, hsame.mono (by decide) (by decide)⟩
  · show Steps p.tables e below (s₁.setTop (mkF m 0 #[.val (.ref o1)] [])) _
    refine sA X0 hx hby d9_0 rfl rfl ?_
    refine st1 _ ?_
    jvm_step X1.here [X1.here.top, hx, (hb hby d9_4), X1.method', Bd.returns, narrow]
    first | (intro acts; rw [hr _ acts rfl rfl rfl]) | rw [hr _ _ rfl rfl rfl]
    exact Steps.refl _
  · show Q9_15 Z w o1 h0 n0 _ T1.heap _
    rw [e1]
    exact ⟨rfl, N0, rfl⟩
theorem ef_7_16 (m : MethodId) (o1 : Addr) (o2 : Addr) : entryFrame m #[(.ref o1), (.ref o2)] 2 = mkF m 0 #[.val (.ref o1), .val (.ref o2)] [] := by first | (simp [entryFrame, mkF, argsToLocals, Value.category]; done) | rfl
def Q7_16 (Z : State) (w : Nat → Addr) (o1 : Addr) (o2 : Addr) (o3 : Addr) (q4 : Int64) (q5 : Int64) (h0 : Heap) (n0 : Nat) (v : Option Value) (h : Heap) (L : List Loc) : Prop := v = none ∧ Fr n0 L ∧ own_KL h0 h [⟨o1, Jvm.RoadKit.slotOf Z "com/example/tidemark/tidemark/RecencyList" "stamps" "J"⟩, ⟨o2, Jvm.RoadKit.slotOf Z "com/example/tidemark/tidemark/MemoryEntry" "stamp" "J"⟩, ⟨o2, Jvm.RoadKit.slotOf Z "com/example/tidemark/tidemark/MemoryEntry" "list" "Lcom/example/tidemark/tidemark/RecencyList;"⟩, ⟨o2, Jvm.RoadKit.slotOf Z "com/example/tidemark/tidemark/MemoryEntry" "older" "Lcom/example/tidemark/tidemark/MemoryEntry;"⟩, ⟨o2, Jvm.RoadKit.slotOf Z "com/example/tidemark/tidemark/MemoryEntry" "newer" "Lcom/example/tidemark/tidemark/MemoryEntry;"⟩, ⟨o3, Jvm.RoadKit.slotOf Z "com/example/tidemark/tidemark/MemoryEntry" "newer" "Lcom/example/tidemark/tidemark/MemoryEntry;"⟩, ⟨o1, Jvm.RoadKit.slotOf Z "com/example/tidemark/tidemark/RecencyList" "newest" "Lcom/example/tidemark/tidemark/MemoryEntry;"⟩, ⟨o1, Jvm.RoadKit.slotOf Z "com/example/tidemark/tidemark/RecencyList" "size" "J"⟩, ⟨o1, Jvm.RoadKit.slotOf Z "com/example/tidemark/tidemark/RecencyList" "weight" "J"⟩] ∧ Fld Z h o1 "com/example/tidemark/tidemark/RecencyList" "stamps" "J" (.long (4 : Int64)) ∧ Fld Z h o2 "com/example/tidemark/tidemark/MemoryEntry" "stamp" "J" (.long (4 : Int64)) ∧ Fld Z h o2 "com/example/tidemark/tidemark/MemoryEntry" "list" "Lcom/example/tidemark/tidemark/RecencyList;" (.ref o1) ∧ Fld Z h o1 "com/example/tidemark/tidemark/RecencyList" "newest" "Lcom/example/tidemark/tidemark/MemoryEntry;" (.ref o2) ∧ Fld Z h o2 "com/example/tidemark/tidemark/MemoryEntry" "older" "Lcom/example/tidemark/tidemark/MemoryEntry;" (.ref o3) ∧ Fld Z h o2 "com/example/tidemark/tidemark/MemoryEntry" "newer" "Lcom/example/tidemark/tidemark/MemoryEntry;" .null ∧ Fld Z h o3 "com/example/tidemark/tidemark/MemoryEntry" "newer" "Lcom/example/tidemark/tidemark/MemoryEntry;" (.ref o2) ∧ Fld Z h o1 "com/example/tidemark/tidemark/RecencyList" "size" "J" (.long (3 : Int64)) ∧ Fld Z h o1 "com/example/tidemark/tidemark/RecencyList" "weight" "J" (.long (q4 + q5))
set_option maxRecDepth 65536 in
set_option maxHeartbeats 40000000 in
theorem rm7_16 (l : Launch) (Z : State) (a0 : Array Value) (hw : ∀ d ∈ tables_1, d.before a0 Z = true) (w : Nat → Addr) (hW : Wd Z w) (ws : List Jvm.Cond) (o1 : Addr) (o2 : Addr) (o3 : Addr) (q4 : Int64) (q5 : Int64) (h0 : Heap) (n0 : Nat) (O0 : Old Z n0 h0) (f1 : Fld Z h0 o1 "com/example/tidemark/tidemark/RecencyList" "stamps" "J" (.long (3 : Int64))) (f2 : Exa Z h0 o1 "com/example/tidemark/tidemark/RecencyList") (g3 : n0 ≤ o1) (f4 : Exa Z h0 o2 "com/example/tidemark/tidemark/MemoryEntry") (f5 : Fld Z h0 o2 "com/example/tidemark/tidemark/MemoryEntry" "stamp" "J" (.long (0 : Int64))) (u6 : o2 ≠ o1) (g7 : n0 ≤ o2) (f8 : Fld Z h0 o2 "com/example/tidemark/tidemark/MemoryEntry" "list" "Lcom/example/tidemark/tidemark/RecencyList;" .null) (f9 : Fld Z h0 o1 "com/example/tidemark/tidemark/RecencyList" "newest" "Lcom/example/tidemark/tidemark/MemoryEntry;" (.ref o3)) (f10 : Fld Z h0 o2 "com/example/tidemark/tidemark/MemoryEntry" "older" "Lcom/example/tidemark/tidemark/MemoryEntry;" .null) (f11 : Fld Z h0 o2 "com/example/tidemark/tidemark/MemoryEntry" "newer" "Lcom/example/tidemark/tidemark/MemoryEntry;" .null) (f12 : Exa Z h0 o3 "com/example/tidemark/tidemark/MemoryEntry") (f13 : Fld Z h0 o3 "com/example/tidemark/tidemark/MemoryEntry" "newer" "Lcom/example/tidemark/tidemark/MemoryEntry;" .null) (u14 : o3 ≠ o1) (u15 : o3 ≠ o2) (g16 : n0 ≤ o3) (f17 : Fld Z h0 o1 "com/example/tidemark/tidemark/RecencyList" "size" "J" (.long (2 : Int64))) (f18 : Fld Z h0 o1 "com/example/tidemark/tidemark/RecencyList" "weight" "J" (.long q4)) (f19 : Fld Z h0 o2 "com/example/tidemark/tidemark/MemoryEntry" "charge" "J" (.long q5)) :
    MetFree l ym5 (head1 (Jvm.Cond.code ym5 prog_41_method_7_code 2 none :: ws) ({ frames := 0, cells := 0, slots := 0, locals := 0 } : Room)) (fun a U => a = #[(.ref o1), (.ref o2)] ∧ Z.Warmed39 U.vm ∧ U.heap = h0) (fun _ _ _ _ _ => True) (fun _ U o U' => ∃ v L, o = .returned v ∧ Q7_16 Z w o1 o2 o3 q4 q5 h0 n0 v U'.heap L ∧ FrameEnd U o U' L ({ frames := 0, cells := 0, slots := 0, locals := 0 } : Room).cells ({ frames := 0, cells := 0, slots := 0, locals := 0 } : Room).slots) := by
  refine MetFree.of_bodySF (plainFor_of_name pnc_0) hisR ?_
  intro p e s m args below meth c s₁ Bd hml0 hP hK
  obtain ⟨rfl, hZ, hh⟩ := hP
  have hx := Bd.exec
  have hby := Bd.bytes
  have hml : c.maxLocals = 2 := hml0
  have hown : s.vm.findClass "com/example/tidemark/tidemark/RecencyList" = some m.cls := findClass_of_methodNamed Bd.named
  have hnm := (name_of_methodNamed Bd.named Bd.method).1
  have X0 : Stand p l e ({ frames := 0, cells := 0, slots := 0, locals := 0 } : Room) s m #[(.ref o1), (.ref o2)] below meth c s₁ [] 0 0 := Stand.of_body Bd
  have e0 : s₁.heap = h0 := by rw [← hh, Bd.state]; rfl
  have N0 := Fr.nil n0
  skip
  have pre0 : ∀ t, Steps p.tables e below (s₁.setTop (mkF m 0 #[.val (.ref o1), .val (.ref o2)] [])) t → Steps p.tables e below (s₁.setTop (entryFrame m #[(.ref o1), (.ref o2)] 2)) t := fun t k => castTop (ef_7_16 m o1 o2) k
  obtain ⟨T1, X1, e1, st1⟩ := getF X0 hx hZ hown (host := "") (Or.inl (wk60 hw)) Via.refl e0 f1 (g := (mkF m 3 #[.val (.ref o1), .val (.ref o2)] [(.ref o1), (.ref o1), (.ref o2)])) rfl rfl (hb hby d7_3)
  obtain ⟨T2, h2, X2, e2, W2, st2⟩ := putF X1 hx hZ hown (host := "") (Or.inl (wk60 hw)) Via.refl e1 f1 f2 (Or.inl (wk61 hw)) (wk1 hw) (ty := .long) (by decide) rfl rfl (g := (mkF m 9 #[.val (.ref o1), .val (.ref o2)] [(.long (4 : Int64)), (.ref o1), (.long (4 : Int64)), (.ref o2)])) rfl rfl (hb hby d7_9)
  have F2 : Fld Z h2 o1 "com/example/tidemark/tidemark/RecencyList" "stamps" "J" (.long (4 : Int64)) := f1.same W2
  have N2 := Fr.snoc X2 N0 g3
  have O3 := O0.wr W2 g3
  have t4 := (f5.other W2 (Or.inl u6))
  have t5 := (f4.wr W2)
  obtain ⟨T6, h6, X6, e6, W6, st6⟩ := putF X2 hx hZ hown (host := "") (Or.inl (wk62 hw)) Via.refl e2 t4 t5 (Or.inl (wk63 hw)) (wk10 hw) (ty := .long) (by decide) rfl rfl (g := (mkF m 12 #[.val (.ref o1), .val (.ref o2)] [(.long (4 : Int64)), (.ref o2)])) rfl rfl (hb hby d7_12)
  have F6 : Fld Z h6 o2 "com/example/tidemark/tidemark/MemoryEntry" "stamp" "J" (.long (4 : Int64)) := t4.same W6
  have N6 := Fr.snoc X6 N2 g7
  have O7 := O3.wr W6 g7
  have t8 := ((f8.other W2 (Or.inl u6)).other W6 (Or.inr (sn56 hw)))
  have t9 := (t5.wr W6)
  obtain ⟨T10, h10, X10, e10, W10, st10⟩ := putF X6 hx hZ hown (host := "") (Or.inl (wk64 hw)) Via.refl e6 t8 t9 (Or.inl (wk65 hw)) (wk10 hw) (ty := (.object "com/example/tidemark/tidemark/RecencyList")) (by decide) rfl rfl (g := (mkF m 17 #[.val (.ref o1), .val (.ref o2)] [(.ref o1), (.ref o2)])) rfl rfl (hb hby d7_17)
  have F10 : Fld Z h10 o2 "com/example/tidemark/tidemark/MemoryEntry" "list" "Lcom/example/tidemark/tidemark/RecencyList;" (.ref o1) := t8.same W10
  have N10 := Fr.snoc X10 N6 g7
  have O11 := O7.wr W10 g7
  have t12 := (((f9.other W2 (Or.inr (sn57 hw))).other W6 (Or.inl (Ne.symm u6))).other W10 (Or.inl (Ne.symm u6)))
  obtain ⟨T13, X13, e13, st13⟩ := getF X10 hx hZ hown (host := "") (Or.inl (wk66 hw)) Via.refl e10 t12 (g := (mkF m 22 #[.val (.ref o1), .val (.ref o2)] [(.ref o1), (.ref o2)])) rfl rfl (hb hby d7_22)
  have t14 := (((f10.other W2 (Or.inl u6)).other W6 (Or.inr (sn58 hw))).other W10 (Or.inr (sn59 hw)))
  have t15 := (t9.wr W10)
  obtain ⟨T16, h16, X16, e16, W16, st16⟩ := putF X13 hx hZ hown (host := "") (Or.inl (wk68 hw)) Via.refl e13 t14 t15 (Or.inl (wk69 hw)) (wk10 hw) (ty := (.object "com/example/tidemark/tidemark/MemoryEntry")) (by decide) rfl rfl (g := (mkF m 25 #[.val (.ref o1), .val (.ref o2)] [(.ref o3), (.ref o2)])) rfl rfl (hb hby d7_25)
  have F16 : Fld Z h16 o2 "com/example/tidemark/tidemark/MemoryEntry" "older" "Lcom/example/tidemark/tidemark/MemoryEntry;" (.ref o3) := t14.same W16
  have N16 := Fr.snoc X16 N10 g7
  have O17 := O11.wr W16 g7
  have t18 := ((((f11.other W2 (Or.inl u6)).other W6 (Or.inr (sn60 hw))).other W10 (Or.inr (sn61 hw))).other W16 (Or.inr (sn62 hw)))
  have t19 := (t15.wr W16)
  obtain ⟨T20, h20, X20, e20, W20, st20⟩ := putF X16 hx hZ hown (host := "") (Or.inl (wk70 hw)) Via.refl e16 t18 t19 (Or.inl (wk71 hw)) (wk10 hw) (ty := (.object "com/example/tidemark/tidemark/MemoryEntry")) (by decide) rfl rfl (g := (mkF m 30 #[.val (.ref o1), .val (.ref o2)] [.null, (.ref o2)])) rfl rfl (hb hby d7_30)
  have F20 : Fld Z h20 o2 "com/example/tidemark/tidemark/MemoryEntry" "newer" "Lcom/example/tidemark/tidemark/MemoryEntry;" .null := t18.same W20
  have N20 := Fr.snoc X20 N16 g7
  have O21 := O17.wr W20 g7
  have t22 := ((t12.other W16 (Or.inl (Ne.symm u6))).other W20 (Or.inl (Ne.symm u6)))
  obtain ⟨T23, X23, e23, st23⟩ := getF X20 hx hZ hown (host := "") (Or.inl (wk66 hw)) Via.refl e20 t22 (g := (mkF m 34 #[.val (.ref o1), .val (.ref o2)] [(.ref o1)])) rfl rfl (hb hby d7_34)
  obtain ⟨T24, X24, e24, st24⟩ := getF X23 hx hZ hown (host := "") (Or.inl (wk66 hw)) Via.refl e23 t22 (g := (mkF m 49 #[.val (.ref o1), .val (.ref o2)] [(.ref o1)])) rfl rfl (hb hby d7_49)
  have t25 := (((((f13.other W2 (Or.inl u14)).other W6 (Or.inl u15)).other W10 (Or.inl u15)).other W16 (Or.inl u15)).other W20 (Or.inl u15))
  have t26 := (((((f12.wr W2).wr W6).wr W10).wr W16).wr W20)
  obtain ⟨T27, h27, X27, e27, W27, st27⟩ := putF X24 hx hZ hown (host := "") (Or.inl (wk70 hw)) Via.refl e24 t25 t26 (Or.inl (wk71 hw)) (wk10 hw) (ty := (.object "com/example/tidemark/tidemark/MemoryEntry")) (by decide) rfl rfl (g := (mkF m 53 #[.val (.ref o1), .val (.ref o2)] [(.ref o2), (.ref o3)])) rfl rfl (hb hby d7_53)
  have F27 : Fld Z h27 o3 "com/example/tidemark/tidemark/MemoryEntry" "newer" "Lcom/example/tidemark/tidemark/MemoryEntry;" (.ref o2) := t25.same W27
  have N27 := Fr.snoc X27 N20 g16
  have O28 := O21.wr W27 g16
  have t29 := (t22.other W27 (Or.inl (Ne.symm u14)))
  have t30 := ((((((f2.wr W2).wr W6).wr W10).wr W16).wr W20).wr W27)
  obtain ⟨T31, h31, X31, e31, W31, st31⟩ := putF X27 hx hZ hown (host := "") (Or.inl (wk66 hw)) Via.refl e27 t29 t30 (Or.inl (wk67 hw)) (wk1 hw) (ty := (.object "com/example/tidemark/tidemark/MemoryEntry")) (by decide) rfl rfl (g := (mkF m 58 #[.val (.ref o1), .val (.ref o2)] [(.ref o2), (.ref o1)])) rfl rfl (hb hby d7_58)
  have F31 : Fld Z h31 o1 "com/example/tidemark/tidemark/RecencyList" "newest" "Lcom/example/tidemark/tidemark/MemoryEntry;" (.ref o2) := t29.same W31
  have N31 := Fr.snoc X31 N27 g3
  have O32 := O28.wr W31 g3
  have t33 := (((((((f17.other W2 (Or.inr (sn65 hw))).other W6 (Or.inl (Ne.symm u6))).other W10 (Or.inl (Ne.symm u6))).other W16 (Or.inl (Ne.symm u6))).other W20 (Or.inl (Ne.symm u6))).other W27 (Or.inl (Ne.symm u14))).other W31 (Or.inr (sn67 hw)))
  obtain ⟨T34, X34, e34, st34⟩ := getF X31 hx hZ hown (host := "") (Or.inl (wk74 hw)) Via.refl e31 t33 (g := (mkF m 63 #[.val (.ref o1), .val (.ref o2)] [(.ref o1), (.ref o1)])) rfl rfl (hb hby d7_63)
  have t35 := (t30.wr W31)
  obtain ⟨T36, h36, X36, e36, W36, st36⟩ := putF X34 hx hZ hown (host := "") (Or.inl (wk74 hw)) Via.refl e34 t33 t35 (Or.inl (wk75 hw)) (wk1 hw) (ty := .long) (by decide) rfl rfl (g := (mkF m 68 #[.val (.ref o1), .val (.ref o2)] [(.long (3 : Int64)), (.ref o1)])) rfl rfl (hb hby d7_68)
  have F36 : Fld Z h36 o1 "com/example/tidemark/tidemark/RecencyList" "size" "J" (.long (3 : Int64)) := t33.same W36
  have N36 := Fr.snoc X36 N31 g3
  have O37 := O32.wr W36 g3
  have t38 := ((((((((f18.other W2 (Or.inr (sn68 hw))).other W6 (Or.inl (Ne.symm u6))).other W10 (Or.inl (Ne.symm u6))).other W16 (Or.inl (Ne.symm u6))).other W20 (Or.inl (Ne.symm u6))).other W27 (Or.inl (Ne.symm u14))).other W31 (Or.inr (sn70 hw))).other W36 (Or.inr (sn71 hw)))
  obtain ⟨T39, X39, e39, st39⟩ := getF X36 hx hZ hown (host := "") (Or.inl (wk76 hw)) Via.refl e36 t38 (g := (mkF m 73 #[.val (.ref o1), .val (.ref o2)] [(.ref o1), (.ref o1)])) rfl rfl (hb hby d7_73)
  have t40 := ((((((((f19.other W2 (Or.inl u6)).other W6 (Or.inr (sn72 hw))).other W10 (Or.inr (sn73 hw))).other W16 (Or.inr (sn74 hw))).other W20 (Or.inr (sn75 hw))).other W27 (Or.inl (Ne.symm u15))).other W31 (Or.inl u6)).other W36 (Or.inl u6))
  obtain ⟨T41, X41, e41, st41⟩ := getF X39 hx hZ hown (host := "") (Or.inl (wk78 hw)) Via.refl e39 t40 (g := (mkF m 77 #[.val (.ref o1), .val (.ref o2)] [(.ref o2), (.long q4), (.ref o1)])) rfl rfl (hb hby d7_77)
  have t42 := (t35.wr W36)
  obtain ⟨T43, h43, X43, e43, W43, st43⟩ := putF X41 hx hZ hown (host := "") (Or.inl (wk76 hw)) Via.refl e41 t38 t42 (Or.inl (wk77 hw)) (wk1 hw) (ty := .long) (by decide) rfl rfl (g := (mkF m 81 #[.val (.ref o1), .val (.ref o2)] [(.long (q4 + q5)), (.ref o1)])) rfl rfl (hb hby d7_81)
  have F43 : Fld Z h43 o1 "com/example/tidemark/tidemark/RecencyList" "weight" "J" (.long (q4 + q5)) := t38.same W43
  have N43 := Fr.snoc X43 N36 g3
  have O44 := O37.wr W43 g3
  obtain ⟨fs, hr, hrun, hended, hWm, hsame⟩ := X43.leave (v := none) (fun _ => rfl)
  have Kf45 : own_KL h0 h43 [⟨o1, Jvm.RoadKit.slotOf Z "com/example/tidemark/tidemark/RecencyList" "stamps" "J"⟩, ⟨o2, Jvm.RoadKit.slotOf Z "com/example/tidemark/tidemark/MemoryEntry" "stamp" "J"⟩, ⟨o2, Jvm.RoadKit.slotOf Z "com/example/tidemark/tidemark/MemoryEntry" "list" "Lcom/example/tidemark/tidemark/RecencyList;"⟩, ⟨o2, Jvm.RoadKit.slotOf Z "com/example/tidemark/tidemark/MemoryEntry" "older" "Lcom/example/tidemark/tidemark/MemoryEntry;"⟩, ⟨o2, Jvm.RoadKit.slotOf Z "com/example/tidemark/tidemark/MemoryEntry" "newer" "Lcom/example/tidemark/tidemark/MemoryEntry;"⟩, ⟨o3, Jvm.RoadKit.slotOf Z "com/example/tidemark/tidemark/MemoryEntry" "newer" "Lcom/example/tidemark/tidemark/MemoryEntry;"⟩, ⟨o1, Jvm.RoadKit.slotOf Z "com/example/tidemark/tidemark/RecencyList" "newest" "Lcom/example/tidemark/tidemark/MemoryEntry;"⟩, ⟨o1, Jvm.RoadKit.slotOf Z "com/example/tidemark/tidemark/RecencyList" "size" "J"⟩, ⟨o1, Jvm.RoadKit.slotOf Z "com/example/tidemark/tidemark/RecencyList" "weight" "J"⟩] := (own_klW (own_klW (own_klW (own_klW (own_klW (own_klW (own_klW (own_klW (own_klW (own_kl0 h0 [⟨o1, Jvm.RoadKit.slotOf Z "com/example/tidemark/tidemark/RecencyList" "stamps" "J"⟩, ⟨o2, Jvm.RoadKit.slotOf Z "com/example/tidemark/tidemark/MemoryEntry" "stamp" "J"⟩, ⟨o2, Jvm.RoadKit.slotOf Z "com/example/tidemark/tidemark/MemoryEntry" "list" "Lcom/example/tidemark/tidemark/RecencyList;"⟩, ⟨o2, Jvm.RoadKit.slotOf Z "com/example/tidemark/tidemark/MemoryEntry" "older" "Lcom/example/tidemark/tidemark/MemoryEntry;"⟩, ⟨o2, Jvm.RoadKit.slotOf Z "com/example/tidemark/tidemark/MemoryEntry" "newer" "Lcom/example/tidemark/tidemark/MemoryEntry;"⟩, ⟨o3, Jvm.RoadKit.slotOf Z "com/example/tidemark/tidemark/MemoryEntry" "newer" "Lcom/example/tidemark/tidemark/MemoryEntry;"⟩, ⟨o1, Jvm.RoadKit.slotOf Z "com/example/tidemark/tidemark/RecencyList" "newest" "Lcom/example/tidemark/tidemark/MemoryEntry;"⟩, ⟨o1, Jvm.RoadKit.slotOf Z "com/example/tidemark/tidemark/RecencyList" "size" "J"⟩, ⟨o1, Jvm.RoadKit.slotOf Z "com/example/tidemark/tidemark/RecencyList" "weight" "J"⟩]) W2 (Or.inl (List.mem_of_getElem? (i := 0) rfl))) W6 (Or.inl (List.mem_of_getElem? (i := 1) rfl))) W10 (Or.inl (List.mem_of_getElem? (i := 2) rfl))) W16 (Or.inl (List.mem_of_getElem? (i := 3) rfl))) W20 (Or.inl (List.mem_of_getElem? (i := 4) rfl))) W27 (Or.inl (List.mem_of_getElem? (i := 5) rfl))) W31 (Or.inl (List.mem_of_getElem? (i := 6) rfl))) W36 (Or.inl (List.mem_of_getElem? (i := 7) rfl))) W43 (Or.inl (List.mem_of_getElem? (i := 8) rfl)))
  have t46 := ((((((((F2.other W6 (Or.inl (Ne.symm u6))).other W10 (Or.inl (Ne.symm u6))).other W16 (Or.inl (Ne.symm u6))).other W20 (Or.inl (Ne.symm u6))).other W27 (Or.inl (Ne.symm u14))).other W31 (Or.inr (sn77 hw))).other W36 (Or.inr (sn78 hw))).other W43 (Or.inr (sn79 hw)))
  have t47 := (((((((F6.other W10 (Or.inr (sn80 hw))).other W16 (Or.inr (sn81 hw))).other W20 (Or.inr (sn82 hw))).other W27 (Or.inl (Ne.symm u15))).other W31 (Or.inl u6)).other W36 (Or.inl u6)).other W43 (Or.inl u6))
  have t48 := ((((((F10.other W16 (Or.inr (sn83 hw))).other W20 (Or.inr (sn84 hw))).other W27 (Or.inl (Ne.symm u15))).other W31 (Or.inl u6)).other W36 (Or.inl u6)).other W43 (Or.inl u6))
  have t49 := ((F31.other W36 (Or.inr (sn85 hw))).other W43 (Or.inr (sn86 hw)))
  have t50 := (((((F16.other W20 (Or.inr (sn87 hw))).other W27 (Or.inl (Ne.symm u15))).other W31 (Or.inl u6)).other W36 (Or.inl u6)).other W43 (Or.inl u6))
  have t51 := ((((F20.other W27 (Or.inl (Ne.symm u15))).other W31 (Or.inl u6)).other W36 (Or.inl u6)).other W43 (Or.inl u6))
  have t52 := (((F27.other W31 (Or.inl u14)).other W36 (Or.inl u14)).other W43 (Or.inl u14))
  have t53 := (F36.other W43 (Or.inr (sn91 hw)))
  refine ⟨_, _, pre0 _ ?_, hrun, hended, _, _, rfl, ?_, ⟨_, rfl⟩, hWm, hsame.mono (by decide) (by decide)⟩
  · show Steps p.tables e below (s₁.setTop (mkF m 0 #[.val (.ref o1), .val (.ref o2)] [])) _
    refine sA X0 hx hby d7_0 rfl rfl ?_
    refine sA X0 hx hby d7_1 rfl rfl ?_
    refine XS.dup X0.here hx rfl (hb hby d7_2) rfl rfl ?_
    refine st1 _ ?_
    refine XS.lconst X1.here hx rfl (hb hby d7_6) ?_
    refine XS.ladd X1.here hx rfl (hb hby d7_7) rfl ?_
    jvm_step X1.here [X1.here.top, hx, (hb hby d7_8), Value.category]
    show Steps p.tables e below (T1.setTop (mkF m 9 #[.val (.ref o1), .val (.ref o2)] [(.long (4 : Int64)), (.ref o1), (.long (4 : Int64)), (.ref o2)])) _
    refine st2 _ ?_
    refine st6 _ ?_
    refine sA X6 hx hby d7_15 rfl rfl ?_
    refine sA X6 hx hby d7_16 rfl rfl ?_
    refine st10 _ ?_
    refine sA X10 hx hby d7_20 rfl rfl ?_
    refine sA X10 hx hby d7_21 rfl rfl ?_
    refine st13 _ ?_
    refine st16 _ ?_
    refine sA X16 hx hby d7_28 rfl rfl ?_
    refine XS.aconstNull X16.here hx rfl (hb hby d7_29) ?_
    refine st20 _ ?_
    refine sA X20 hx hby d7_33 rfl rfl ?_
    refine st23 _ ?_
    refine XS.ifnonnullYes X23.here hx rfl (pc0 := 37) (pc' := 48) rfl (hb hby d7_37) rfl (by decide) (by decide) ?_
    refine sA X23 hx hby d7_48 rfl rfl ?_
    refine st24 _ ?_
    refine sA X24 hx hby d7_52 rfl rfl ?_
    refine st27 _ ?_
    refine sA X27 hx hby d7_56 rfl rfl ?_
    refine sA X27 hx hby d7_57 rfl rfl ?_
    refine st31 _ ?_
    refine sA X31 hx hby d7_61 rfl rfl ?_
    refine XS.dup X31.here hx rfl (hb hby d7_62) rfl rfl ?_
    refine st34 _ ?_
    refine XS.lconst X34.here hx rfl (hb hby d7_66) ?_
    refine XS.ladd X34.here hx rfl (hb hby d7_67) rfl ?_
    refine st36 _ ?_
    refine sA X36 hx hby d7_71 rfl rfl ?_
    refine XS.dup X36.here hx rfl (hb hby d7_72) rfl rfl ?_
    refine st39 _ ?_
    refine sA X39 hx hby d7_76 rfl rfl ?_
    refine st41 _ ?_
    refine XS.ladd X41.here hx rfl (hb hby d7_80) rfl ?_
    refine st43 _ ?_
    exact X43.returnOut hx Bd.returns (hb hby d7_84) hr
  · show Q7_16 Z w o1 o2 o3 q4 q5 h0 n0 _ T43.heap _
    rw [e43]
    exact ⟨rfl, N43, Kf45, t46, t47, t48, t49, t50, t51, t52, t53, F43⟩
theorem ef_0_17 (m : MethodId) (p0 : Int64) (p1 : Int64) (p2 : Int64) (p3 : Int32) : entryFrame m #[(.long p0), (.long p1), (.long p2), (.int p3)] maxLocals = mkF m 0 #[.val (.long p0), .second, .val (.long p1), .second, .val (.long p2), .second, .val (.int p3), .unset, .unset, .unset, .unset, .unset, .unset, .unset, .unset, .unset, .unset, .unset, .unset, .unset] [] := by first | (simp [entryFrame, mkF, argsToLocals, Value.category, maxLocals]; done) | rfl
theorem pnc_3 : plainName "com/example/tidemark/tidemark/RecencyListAddNewestPinLaw" = true := by first | (simp [plainName, overriddenIn]; done) | decide +kernel
def Q0 (n0 : Nat) (v : Option Value) (h : Heap) (L : List Loc) : Prop := v = some (.int (1 : Int32)) ∧ Fr n0 L
set_option maxRecDepth 65536 in
set_option maxHeartbeats 400000000 in
theorem rm0 (l : Launch) (Z : State) (a0 : Array Value) (hw : ∀ d ∈ tables_1, d.before a0 Z = true) (w : Nat → Addr) (hW : Wd Z w) (ws : List Jvm.Cond) (p0 : Int64) (p1 : Int64) (p2 : Int64) (p3 : Int32) (h0 : Heap) (n0 : Nat) (O0 : Old Z n0 h0) :
    MetFree l x (head1 (Jvm.Cond.code x code maxLocals ret :: ws) room_1) (fun a U => a = #[(.long p0), (.long p1), (.long p2), (.int p3)] ∧ Z.Warmed39 U.vm ∧ U.heap = h0) (fun _ _ _ _ _ => True) (fun _ U o U' => ∃ v L, o = .returned v ∧ Q0 n0 v U'.heap L ∧ FrameEnd U o U' L room_1.cells room_1.slots) := by
  refine MetFree.of_bodySF (plainFor_of_name pnc_3) hisR ?_
  intro p e s m args below meth c s₁ Bd hml0 hP hK
  obtain ⟨rfl, hZ, hh⟩ := hP
  have hx := Bd.exec
  have hby := Bd.bytes
  have hml : c.maxLocals = 20 := hml0
  have hown : s.vm.findClass "com/example/tidemark/tidemark/RecencyListAddNewestPinLaw" = some m.cls := findClass_of_methodNamed Bd.named
  have hnm := (name_of_methodNamed Bd.named Bd.method).1
  have X0 : Stand p l e room_1 s m #[(.long p0), (.long p1), (.long p2), (.int p3)] below meth c s₁ [] 0 0 := Stand.of_body Bd
  have e0 : s₁.heap = h0 := by rw [← hh, Bd.state]; rfl
  have N0 := Fr.nil n0
  let La : Array Slot := #[.val (.long p0), .second, .val (.long p1), .second, .val (.long p2), .second, .val (.int p3), .unset, .unset, .unset, .unset, .unset, .unset, .unset, .unset, .unset, .unset, .unset, .unset, .unset]
  have pre0 : ∀ t, Steps p.tables e below (s₁.setTop (mkF m 0 #[.val (.long p0), .second, .val (.long p1), .second, .val (.long p2), .second, .val (.int p3), .unset, .unset, .unset, .unset, .unset, .unset, .unset, .unset, .unset, .unset, .unset, .unset, .unset] [])) t → Steps p.tables e below (s₁.setTop (entryFrame m #[(.long p0), (.long p1), (.long p2), (.int p3)] maxLocals)) t := fun t k => castTop (ef_0_17 m p0 p1 p2 p3) k
  have pre1 : ∀ t, Steps p.tables e below (s₁.setTop (mkF m 4 La [(.int (p3 &&& (1 : Int32)))])) t → Steps p.tables e below (s₁.setTop (entryFrame m #[(.long p0), (.long p1), (.long p2), (.int p3)] maxLocals)) t := fun t k => pre0 t (by
   show Steps p.tables e below (s₁.setTop (mkF m 0 La [])) _
   refine si X0 hx hby at_0 rfl ?_
   refine sc X0 hx hby at_2 ?_
   refine XS.iand X0.here hx rfl (hb hby at_3) rfl ?_
   exact k)
  by_cases hc2 : (p3 &&& (1 : Int32)) = (0 : Int32)
  ·
   let Lb3 : Array Slot := #[.val (.long p0), .second, .val (.long p1), .second, .val (.long p2), .second, .val (.int p3), .val (.int (0 : Int32)), .unset, .unset, .unset, .unset, .unset, .unset, .unset, .unset, .unset, .unset, .unset, .unset]
   have pre4 : ∀ t, Steps p.tables e below (s₁.setTop (mkF m 18 Lb3 [(.int (p3 &&& (2 : Int32)))])) t → Steps p.tables e below (s₁.setTop (entryFrame m #[(.long p0), (.long p1), (.long p2), (.int p3)] maxLocals)) t := fun t k => pre1 t (by
    show Steps p.tables e below (s₁.setTop (mkF m 4 La [(.int (p3 &&& (1 : Int32)))])) _
    refine XS.ifYes X0.here hx rfl (pc0 := 4) (pc' := 11) rfl (hb hby at_4) rfl ((if0 _ _).trans (teq (hc2 : (p3 &&& (1 : Int32)) = (0 : Int32))).1) (by decide) (by decide) ?_
    refine sc X0 hx hby at_11 ?_
    refine XS.istore X0.here hx rfl (hb hby at_12) rfl (l' := Lb3) rfl ?_
    refine si X0 hx hby at_14 rfl ?_
    refine sc X0 hx hby at_16 ?_
    refine XS.iand X0.here hx rfl (hb hby at_17) rfl ?_
    exact k)
   by_cases hc5 : (p3 &&& (2 : Int32)) = (0 : Int32)
   ·
    let Lb6 : Array Slot := #[.val (.long p0), .second, .val (.long p1), .second, .val (.long p2), .second, .val (.int p3), .val (.int (0 : Int32)), .val (.int (0 : Int32)), .unset, .unset, .unset, .unset, .unset, .unset, .unset, .unset, .unset, .unset, .unset]
    obtain ⟨T7, h7, X7, e7, E7, A7, D7, -, st7⟩ := newO X0 hx hZ hown (wk0 hw) (wk1 hw) (wk2 hw) e0 (g := (mkF m 28 Lb6 [])) rfl (hb hby at_28) (by decide) (by decide)
    obtain ⟨b7, g7⟩ : ∃ z, z = h0.size := ⟨_, rfl⟩
    rw [← g7] at A7 D7 st7
    have gg7 : n0 ≤ b7 := by rw [← O0.1, g7]; exact O0.2.1
    have O8 := O0.ext E7
    have i7_61 : Fld Z h7 b7 "com/example/tidemark/tidemark/RecencyList" "stamps" "J" (.long (0 : Int64)) := D7 (Or.inl (wk61 hw)) (ty := .long) (by decide)
    have i7_67 : Fld Z h7 b7 "com/example/tidemark/tidemark/RecencyList" "newest" "Lcom/example/tidemark/tidemark/MemoryEntry;" .null := D7 (Or.inl (wk67 hw)) (ty := (.object "com/example/tidemark/tidemark/MemoryEntry")) (by decide)
    have i7_73 : Fld Z h7 b7 "com/example/tidemark/tidemark/RecencyList" "oldest" "Lcom/example/tidemark/tidemark/MemoryEntry;" .null := D7 (Or.inl (wk73 hw)) (ty := (.object "com/example/tidemark/tidemark/MemoryEntry")) (by decide)
    have i7_75 : Fld Z h7 b7 "com/example/tidemark/tidemark/RecencyList" "size" "J" (.long (0 : Int64)) := D7 (Or.inl (wk75 hw)) (ty := .long) (by decide)
    have i7_77 : Fld Z h7 b7 "com/example/tidemark/tidemark/RecencyList" "weight" "J" (.long (0 : Int64)) := D7 (Or.inl (wk77 hw)) (ty := .long) (by decide)
    obtain ⟨_, _, ⟨T9, L9, kk9, nn9⟩, -, X9, ⟨Lc9, hQ9, l9, y9, z9⟩, st9⟩ := X7.specialBack hx (y := ym0) rfl hown (mvT hZ (wk3 hw)) (mvT hZ (wk4 hw)) (mvT hZ (wk5 hw)) (by decide) (backOf (W := 1) (rm1_1 l Z a0 hw w hW [] b7 h7 n0 O8 ) hZ (wk5 hw) (wk2 hw) (by decide) (by decide)) (g := (mkF m 32 Lb6 [(.ref b7), (.ref b7)])) rfl (by rw [hml]; rfl) (Steps.refl _) (a := b7) (argsL := []) (rest := [(.ref b7)]) (lenOf pds_0 rfl) rfl (by show 2 * 0 + _ ≤ _; exact Nat.le_of_eq rfl) (hb hby at_32) (fun _ _ => ⟨rfl, e7, (by decide : 1 + 0 ≤ _), (by decide : 5 + 0 ≤ _)⟩)
    dsimp only [Pt.U, Pt.locs, Pt.cells, Pt.slots] at X9 l9 y9 z9 st9 hQ9
    subst l9 y9 z9
    obtain ⟨rfl, N9q, e9⟩ := hQ9
    have N9 := Fr.app N0 N9q
    let Lb10 : Array Slot := #[.val (.long p0), .second, .val (.long p1), .second, .val (.long p2), .second, .val (.int p3), .val (.int (0 : Int32)), .val (.int (0 : Int32)), .val (.ref b7), .unset, .unset, .unset, .unset, .unset, .unset, .unset, .unset, .unset, .unset]
    obtain ⟨T11, h11, X11, e11, E11, A11, D11, -, st11⟩ := newO X9 hx hZ hown (wk9 hw) (wk10 hw) (wk11 hw) e9 (g := (mkF m 37 Lb10 [])) rfl (hb hby at_37) (by decide) (by decide)
    obtain ⟨b11, g11⟩ : ∃ z, z = h7.size := ⟨_, rfl⟩
    rw [← g11] at A11 D11 st11
    have gg11 : n0 ≤ b11 := by rw [← O8.1, g11]; exact O8.2.1
    have O12 := O8.ext E11
    have i11_20 : Fld Z h11 b11 "com/example/tidemark/tidemark/MemoryEntry" "slot" "I" (.int (0 : Int32)) := D11 (Or.inl (wk20 hw)) (ty := .int) (by decide)
    have i11_22 : Fld Z h11 b11 "com/example/tidemark/tidemark/MemoryEntry" "key" "Ljava/lang/Object;" .null := D11 (Or.inr (wk22 hw)) (ty := (.object "java/lang/Object")) (by decide)
    have i11_24 : Fld Z h11 b11 "com/example/tidemark/tidemark/MemoryEntry" "charge" "J" (.long (0 : Int64)) := D11 (Or.inl (wk24 hw)) (ty := .long) (by decide)
    have i11_31 : Fld Z h11 b11 "com/example/tidemark/tidemark/MemoryEntry" "value" "Ljava/lang/Object;" .null := D11 (Or.inl (wk31 hw)) (ty := (.object "java/lang/Object")) (by decide)
    have i11_33 : Fld Z h11 b11 "com/example/tidemark/tidemark/MemoryEntry" "expiry" "Lcom/example/tidemark/tidemark/Expiry;" .null := D11 (Or.inl (wk33 hw)) (ty := (.object "com/example/tidemark/tidemark/Expiry")) (by decide)
    have i11_40 : Fld Z h11 b11 "com/example/tidemark/tidemark/MemoryEntry" "created" "J" (.long (0 : Int64)) := D11 (Or.inl (wk40 hw)) (ty := .long) (by decide)
    have i11_42 : Fld Z h11 b11 "com/example/tidemark/tidemark/MemoryEntry" "lastUsed" "J" (.long (0 : Int64)) := D11 (Or.inl (wk42 hw)) (ty := .long) (by decide)
    have i11_54 : Fld Z h11 b11 "com/example/tidemark/tidemark/MemoryEntry" "lockFreeValue" "Ljava/lang/Object;" .null := D11 (Or.inl (wk54 hw)) (ty := (.object "java/lang/Object")) (by decide)
    have i11_63 : Fld Z h11 b11 "com/example/tidemark/tidemark/MemoryEntry" "stamp" "J" (.long (0 : Int64)) := D11 (Or.inl (wk63 hw)) (ty := .long) (by decide)
    have i11_65 : Fld Z h11 b11 "com/example/tidemark/tidemark/MemoryEntry" "list" "Lcom/example/tidemark/tidemark/RecencyList;" .null := D11 (Or.inl (wk65 hw)) (ty := (.object "com/example/tidemark/tidemark/RecencyList")) (by decide)
    have i11_69 : Fld Z h11 b11 "com/example/tidemark/tidemark/MemoryEntry" "older" "Lcom/example/tidemark/tidemark/MemoryEntry;" .null := D11 (Or.inl (wk69 hw)) (ty := (.object "com/example/tidemark/tidemark/MemoryEntry")) (by decide)
    have i11_71 : Fld Z h11 b11 "com/example/tidemark/tidemark/MemoryEntry" "newer" "Lcom/example/tidemark/tidemark/MemoryEntry;" .null := D11 (Or.inl (wk71 hw)) (ty := (.object "com/example/tidemark/tidemark/MemoryEntry")) (by decide)
    obtain ⟨T13, X13, e13, st13⟩ := getS2 X11 hx hZ hown (host := "") (Or.inl (wk12 hw)) Via.refl e11 ((wd0 hW).ext O12.2) (g := (mkF m 43 Lb10 [.null, .null, (.ref b11), (.ref b11)])) rfl (hb hby at_43)
    obtain ⟨_, _, ⟨T14, L14, kk14, nn14⟩, -, X14, ⟨Lc14, hQ14, l14, y14, z14⟩, st14⟩ := X13.specialBack hx (y := ym4) rfl hown (mvT hZ (wk15 hw)) (mvT hZ (wk16 hw)) (mvT hZ (wk17 hw)) (by decide) (backOf (W := 1) (rm3_5 l Z a0 hw w hW [] b11 p0 h11 n0 O12 A11 i11_20 gg11 i11_22 i11_24 i11_31 i11_33 i11_40 i11_42 i11_54) hZ (wk17 hw) (wk11 hw) (by decide) (by decide)) (g := (mkF m 48 Lb10 [(.long p0), (.long (0 : Int64)), (.ref (w 0)), .null, .null, (.ref b11), (.ref b11)])) rfl (by rw [hml]; rfl) (Steps.refl _) (a := b11) (argsL := [.null, .null, (.ref (w 0)), (.long (0 : Int64)), (.long p0)]) (rest := [(.ref b11)]) (lenOf pds_4 rfl) rfl (by show 2 * 0 + _ ≤ _; exact Nat.le_of_eq rfl) (hb hby at_48) (fun _ _ => ⟨rfl, e13, (by decide : 2 + 0 ≤ _), (by decide : 23 + 0 ≤ _)⟩)
    dsimp only [Pt.U, Pt.locs, Pt.cells, Pt.slots] at X14 l14 y14 z14 st14 hQ14
    subst l14 y14 z14
    obtain ⟨rfl, N14q, K14, r14_0, r14_1, r14_2, r14_3, r14_4, r14_5, r14_6, r14_7⟩ := hQ14
    have N14 := Fr.app N9 N14q
    have O15 := own_old O12 K14 (own_ngc gg11 (own_ngc gg11 (own_ngc gg11 (own_ngc gg11 (own_ngc gg11 (own_ngc gg11 (own_ngc gg11 (own_ngc gg11 own_ng0))))))))
    let Lb16 : Array Slot := #[.val (.long p0), .second, .val (.long p1), .second, .val (.long p2), .second, .val (.int p3), .val (.int (0 : Int32)), .val (.int (0 : Int32)), .val (.ref b7), .val (.ref b11), .unset, .unset, .unset, .unset, .unset, .unset, .unset, .unset, .unset]
    obtain ⟨T17, h17, X17, e17, E17, A17, D17, -, st17⟩ := newO X14 hx hZ hown (wk9 hw) (wk10 hw) (wk11 hw) rfl (g := (mkF m 53 Lb16 [])) rfl (hb hby at_53) (by decide) (by decide)
    obtain ⟨b17, g17⟩ : ∃ z, z = T14.heap.size := ⟨_, rfl⟩
    rw [← g17] at A17 D17 st17
    have gg17 : n0 ≤ b17 := by rw [← O15.1, g17]; exact O15.2.1
    have O18 := O15.ext E17
    have i17_20 : Fld Z h17 b17 "com/example/tidemark/tidemark/MemoryEntry" "slot" "I" (.int (0 : Int32)) := D17 (Or.inl (wk20 hw)) (ty := .int) (by decide)
    have i17_22 : Fld Z h17 b17 "com/example/tidemark/tidemark/MemoryEntry" "key" "Ljava/lang/Object;" .null := D17 (Or.inr (wk22 hw)) (ty := (.object "java/lang/Object")) (by decide)
    have i17_24 : Fld Z h17 b17 "com/example/tidemark/tidemark/MemoryEntry" "charge" "J" (.long (0 : Int64)) := D17 (Or.inl (wk24 hw)) (ty := .long) (by decide)
    have i17_31 : Fld Z h17 b17 "com/example/tidemark/tidemark/MemoryEntry" "value" "Ljava/lang/Object;" .null := D17 (Or.inl (wk31 hw)) (ty := (.object "java/lang/Object")) (by decide)
    have i17_33 : Fld Z h17 b17 "com/example/tidemark/tidemark/MemoryEntry" "expiry" "Lcom/example/tidemark/tidemark/Expiry;" .null := D17 (Or.inl (wk33 hw)) (ty := (.object "com/example/tidemark/tidemark/Expiry")) (by decide)
    have i17_40 : Fld Z h17 b17 "com/example/tidemark/tidemark/MemoryEntry" "created" "J" (.long (0 : Int64)) := D17 (Or.inl (wk40 hw)) (ty := .long) (by decide)
    have i17_42 : Fld Z h17 b17 "com/example/tidemark/tidemark/MemoryEntry" "lastUsed" "J" (.long (0 : Int64)) := D17 (Or.inl (wk42 hw)) (ty := .long) (by decide)
    have i17_54 : Fld Z h17 b17 "com/example/tidemark/tidemark/MemoryEntry" "lockFreeValue" "Ljava/lang/Object;" .null := D17 (Or.inl (wk54 hw)) (ty := (.object "java/lang/Object")) (by decide)
    have i17_63 : Fld Z h17 b17 "com/example/tidemark/tidemark/MemoryEntry" "stamp" "J" (.long (0 : Int64)) := D17 (Or.inl (wk63 hw)) (ty := .long) (by decide)
    have i17_65 : Fld Z h17 b17 "com/example/tidemark/tidemark/MemoryEntry" "list" "Lcom/example/tidemark/tidemark/RecencyList;" .null := D17 (Or.inl (wk65 hw)) (ty := (.object "com/example/tidemark/tidemark/RecencyList")) (by decide)
    have i17_69 : Fld Z h17 b17 "com/example/tidemark/tidemark/MemoryEntry" "older" "Lcom/example/tidemark/tidemark/MemoryEntry;" .null := D17 (Or.inl (wk69 hw)) (ty := (.object "com/example/tidemark/tidemark/MemoryEntry")) (by decide)
    have i17_71 : Fld Z h17 b17 "com/example/tidemark/tidemark/MemoryEntry" "newer" "Lcom/example/tidemark/tidemark/MemoryEntry;" .null := D17 (Or.inl (wk71 hw)) (ty := (.object "com/example/tidemark/tidemark/MemoryEntry")) (by decide)
    obtain ⟨T19, X19, e19, st19⟩ := getS2 X17 hx hZ hown (host := "") (Or.inl (wk12 hw)) Via.refl e17 ((wd0 hW).ext O18.2) (g := (mkF m 59 Lb16 [.null, .null, (.ref b17), (.ref b17)])) rfl (hb hby at_59)
    obtain ⟨_, _, ⟨T20, L20, kk20, nn20⟩, -, X20, ⟨Lc20, hQ20, l20, y20, z20⟩, st20⟩ := X19.specialBack hx (y := ym4) rfl hown (mvT hZ (wk15 hw)) (mvT hZ (wk16 hw)) (mvT hZ (wk17 hw)) (by decide) (backOf (W := 1) (rm3_5 l Z a0 hw w hW [] b17 p1 h17 n0 O18 A17 i17_20 gg17 i17_22 i17_24 i17_31 i17_33 i17_40 i17_42 i17_54) hZ (wk17 hw) (wk11 hw) (by decide) (by decide)) (g := (mkF m 64 Lb16 [(.long p1), (.long (0 : Int64)), (.ref (w 0)), .null, .null, (.ref b17), (.ref b17)])) rfl (by rw [hml]; rfl) (Steps.refl _) (a := b17) (argsL := [.null, .null, (.ref (w 0)), (.long (0 : Int64)), (.long p1)]) (rest := [(.ref b17)]) (lenOf pds_4 rfl) rfl (by show 2 * 0 + _ ≤ _; exact Nat.le_of_eq rfl) (hb hby at_64) (fun _ _ => ⟨rfl, e19, (by decide : 3 + 0 ≤ _), (by decide : 41 + 0 ≤ _)⟩)
    dsimp only [Pt.U, Pt.locs, Pt.cells, Pt.slots] at X20 l20 y20 z20 st20 hQ20
    subst l20 y20 z20
    obtain ⟨rfl, N20q, K20, r20_0, r20_1, r20_2, r20_3, r20_4, r20_5, r20_6, r20_7⟩ := hQ20
    have N20 := Fr.app N14 N20q
    have O21 := own_old O18 K20 (own_ngc gg17 (own_ngc gg17 (own_ngc gg17 (own_ngc gg17 (own_ngc gg17 (own_ngc gg17 (own_ngc gg17 (own_ngc gg17 own_ng0))))))))
    let Lb22 : Array Slot := #[.val (.long p0), .second, .val (.long p1), .second, .val (.long p2), .second, .val (.int p3), .val (.int (0 : Int32)), .val (.int (0 : Int32)), .val (.ref b7), .val (.ref b11), .val (.ref b17), .unset, .unset, .unset, .unset, .unset, .unset, .unset, .unset]
    obtain ⟨T23, h23, X23, e23, E23, A23, D23, -, st23⟩ := newO X20 hx hZ hown (wk9 hw) (wk10 hw) (wk11 hw) rfl (g := (mkF m 69 Lb22 [])) rfl (hb hby at_69) (by decide) (by decide)
    obtain ⟨b23, g23⟩ : ∃ z, z = T20.heap.size := ⟨_, rfl⟩
    rw [← g23] at A23 D23 st23
    have gg23 : n0 ≤ b23 := by rw [← O21.1, g23]; exact O21.2.1
    have O24 := O21.ext E23
    have i23_20 : Fld Z h23 b23 "com/example/tidemark/tidemark/MemoryEntry" "slot" "I" (.int (0 : Int32)) := D23 (Or.inl (wk20 hw)) (ty := .int) (by decide)
    have i23_22 : Fld Z h23 b23 "com/example/tidemark/tidemark/MemoryEntry" "key" "Ljava/lang/Object;" .null := D23 (Or.inr (wk22 hw)) (ty := (.object "java/lang/Object")) (by decide)
    have i23_24 : Fld Z h23 b23 "com/example/tidemark/tidemark/MemoryEntry" "charge" "J" (.long (0 : Int64)) := D23 (Or.inl (wk24 hw)) (ty := .long) (by decide)
    have i23_31 : Fld Z h23 b23 "com/example/tidemark/tidemark/MemoryEntry" "value" "Ljava/lang/Object;" .null := D23 (Or.inl (wk31 hw)) (ty := (.object "java/lang/Object")) (by decide)
    have i23_33 : Fld Z h23 b23 "com/example/tidemark/tidemark/MemoryEntry" "expiry" "Lcom/example/tidemark/tidemark/Expiry;" .null := D23 (Or.inl (wk33 hw)) (ty := (.object "com/example/tidemark/tidemark/Expiry")) (by decide)
    have i23_40 : Fld Z h23 b23 "com/example/tidemark/tidemark/MemoryEntry" "created" "J" (.long (0 : Int64)) := D23 (Or.inl (wk40 hw)) (ty := .long) (by decide)
    have i23_42 : Fld Z h23 b23 "com/example/tidemark/tidemark/MemoryEntry" "lastUsed" "J" (.long (0 : Int64)) := D23 (Or.inl (wk42 hw)) (ty := .long) (by decide)
    have i23_54 : Fld Z h23 b23 "com/example/tidemark/tidemark/MemoryEntry" "lockFreeValue" "Ljava/lang/Object;" .null := D23 (Or.inl (wk54 hw)) (ty := (.object "java/lang/Object")) (by decide)
    have i23_63 : Fld Z h23 b23 "com/example/tidemark/tidemark/MemoryEntry" "stamp" "J" (.long (0 : Int64)) := D23 (Or.inl (wk63 hw)) (ty := .long) (by decide)
    have i23_65 : Fld Z h23 b23 "com/example/tidemark/tidemark/MemoryEntry" "list" "Lcom/example/tidemark/tidemark/RecencyList;" .null := D23 (Or.inl (wk65 hw)) (ty := (.object "com/example/tidemark/tidemark/RecencyList")) (by decide)
    have i23_69 : Fld Z h23 b23 "com/example/tidemark/tidemark/MemoryEntry" "older" "Lcom/example/tidemark/tidemark/MemoryEntry;" .null := D23 (Or.inl (wk69 hw)) (ty := (.object "com/example/tidemark/tidemark/MemoryEntry")) (by decide)
    have i23_71 : Fld Z h23 b23 "com/example/tidemark/tidemark/MemoryEntry" "newer" "Lcom/example/tidemark/tidemark/MemoryEntry;" .null := D23 (Or.inl (wk71 hw)) (ty := (.object "com/example/tidemark/tidemark/MemoryEntry")) (by decide)
    obtain ⟨T25, X25, e25, st25⟩ := getS2 X23 hx hZ hown (host := "") (Or.inl (wk12 hw)) Via.refl e23 ((wd0 hW).ext O24.2) (g := (mkF m 75 Lb22 [.null, .null, (.ref b23), (.ref b23)])) rfl (hb hby at_75)
    obtain ⟨_, _, ⟨T26, L26, kk26, nn26⟩, -, X26, ⟨Lc26, hQ26, l26, y26, z26⟩, st26⟩ := X25.specialBack hx (y := ym4) rfl hown (mvT hZ (wk15 hw)) (mvT hZ (wk16 hw)) (mvT hZ (wk17 hw)) (by decide) (backOf (W := 1) (rm3_5 l Z a0 hw w hW [] b23 p2 h23 n0 O24 A23 i23_20 gg23 i23_22 i23_24 i23_31 i23_33 i23_40 i23_42 i23_54) hZ (wk17 hw) (wk11 hw) (by decide) (by decide)) (g := (mkF m 81 Lb22 [(.long p2), (.long (0 : Int64)), (.ref (w 0)), .null, .null, (.ref b23), (.ref b23)])) rfl (by rw [hml]; rfl) (Steps.refl _) (a := b23) (argsL := [.null, .null, (.ref (w 0)), (.long (0 : Int64)), (.long p2)]) (rest := [(.ref b23)]) (lenOf pds_4 rfl) rfl (by show 2 * 0 + _ ≤ _; exact Nat.le_of_eq rfl) (hb hby at_81) (fun _ _ => ⟨rfl, e25, (by decide : 4 + 0 ≤ _), (by decide : 59 + 0 ≤ _)⟩)
    dsimp only [Pt.U, Pt.locs, Pt.cells, Pt.slots] at X26 l26 y26 z26 st26 hQ26
    subst l26 y26 z26
    obtain ⟨rfl, N26q, K26, r26_0, r26_1, r26_2, r26_3, r26_4, r26_5, r26_6, r26_7⟩ := hQ26
    have N26 := Fr.app N20 N26q
    have O27 := own_old O24 K26 (own_ngc gg23 (own_ngc gg23 (own_ngc gg23 (own_ngc gg23 (own_ngc gg23 (own_ngc gg23 (own_ngc gg23 (own_ngc gg23 own_ng0))))))))
    let Lb28 : Array Slot := #[.val (.long p0), .second, .val (.long p1), .second, .val (.long p2), .second, .val (.int p3), .val (.int (0 : Int32)), .val (.int (0 : Int32)), .val (.ref b7), .val (.ref b11), .val (.ref b17), .val (.ref b23), .unset, .unset, .unset, .unset, .unset, .unset, .unset]
    have ne29 : b7 ≠ b11 := (Nat.ne_of_lt (Nat.lt_of_lt_of_le A7.lt (Nat.le_of_eq g11.symm)))
    have ne30 : b7 ≠ b17 := (Nat.ne_of_lt (Nat.lt_of_lt_of_le (Nat.lt_of_lt_of_le (Nat.lt_of_lt_of_le A7.lt E11.1) K14.1) (Nat.le_of_eq g17.symm)))
    have ne31 : b7 ≠ b23 := (Nat.ne_of_lt (Nat.lt_of_lt_of_le (Nat.lt_of_lt_of_le (Nat.lt_of_lt_of_le (Nat.lt_of_lt_of_le (Nat.lt_of_lt_of_le A7.lt E11.1) K14.1) E17.1) K20.1) (Nat.le_of_eq g23.symm)))
    have t32 := (own_fld ((own_fld ((own_fld (i7_61.ext E11) K14 (own_nlb ne29 (own_nlb ne29 (own_nlb ne29 (own_nlb ne29 (own_nlb ne29 (own_nlb ne29 (own_nlb ne29 (own_nlb ne29 own_nl0))))))))).ext E17) K20 (own_nlb ne30 (own_nlb ne30 (own_nlb ne30 (own_nlb ne30 (own_nlb ne30 (own_nlb ne30 (own_nlb ne30 (own_nlb ne30 own_nl0))))))))).ext E23) K26 (own_nlb ne31 (own_nlb ne31 (own_nlb ne31 (own_nlb ne31 (own_nlb ne31 (own_nlb ne31 (own_nlb ne31 (own_nlb ne31 own_nl0)))))))))
    have t33 := (own_exa ((own_exa ((own_exa (A7.ext E11) K14).ext E17) K20).ext E23) K26)
    have t34 := (own_exa ((own_exa ((own_exa A11 K14).ext E17) K20).ext E23) K26)
    have ne35 : b11 ≠ b17 := (Nat.ne_of_lt (Nat.lt_of_lt_of_le (Nat.lt_of_lt_of_le A11.lt K14.1) (Nat.le_of_eq g17.symm)))
    have ne36 : b11 ≠ b23 := (Nat.ne_of_lt (Nat.lt_of_lt_of_le (Nat.lt_of_lt_of_le (Nat.lt_of_lt_of_le (Nat.lt_of_lt_of_le A11.lt K14.1) E17.1) K20.1) (Nat.le_of_eq g23.symm)))
    have t37 := (own_fld ((own_fld ((own_fld i11_63 K14 (own_nls (sn99 hw) (own_nls (sn98 hw) (own_nls (sn97 hw) (own_nls (sn96 hw) (own_nls (sn95 hw) (own_nls (sn94 hw) (own_nls (sn93 hw) (own_nls (sn92 hw) own_nl0))))))))).ext E17) K20 (own_nlb ne35 (own_nlb ne35 (own_nlb ne35 (own_nlb ne35 (own_nlb ne35 (own_nlb ne35 (own_nlb ne35 (own_nlb ne35 own_nl0))))))))).ext E23) K26 (own_nlb ne36 (own_nlb ne36 (own_nlb ne36 (own_nlb ne36 (own_nlb ne36 (own_nlb ne36 (own_nlb ne36 (own_nlb ne36 own_nl0)))))))))
    have t38 := (own_fld ((own_fld ((own_fld i11_65 K14 (own_nls (sn107 hw) (own_nls (sn106 hw) (own_nls (sn105 hw) (own_nls (sn104 hw) (own_nls (sn103 hw) (own_nls (sn102 hw) (own_nls (sn101 hw) (own_nls (sn100 hw) own_nl0))))))))).ext E17) K20 (own_nlb ne35 (own_nlb ne35 (own_nlb ne35 (own_nlb ne35 (own_nlb ne35 (own_nlb ne35 (own_nlb ne35 (own_nlb ne35 own_nl0))))))))).ext E23) K26 (own_nlb ne36 (own_nlb ne36 (own_nlb ne36 (own_nlb ne36 (own_nlb ne36 (own_nlb ne36 (own_nlb ne36 (own_nlb ne36 own_nl0)))))))))
    have t39 := (own_fld ((own_fld ((own_fld (i7_67.ext E11) K14 (own_nlb ne29 (own_nlb ne29 (own_nlb ne29 (own_nlb ne29 (own_nlb ne29 (own_nlb ne29 (own_nlb ne29 (own_nlb ne29 own_nl0))))))))).ext E17) K20 (own_nlb ne30 (own_nlb ne30 (own_nlb ne30 (own_nlb ne30 (own_nlb ne30 (own_nlb ne30 (own_nlb ne30 (own_nlb ne30 own_nl0))))))))).ext E23) K26 (own_nlb ne31 (own_nlb ne31 (own_nlb ne31 (own_nlb ne31 (own_nlb ne31 (own_nlb ne31 (own_nlb ne31 (own_nlb ne31 own_nl0)))))))))
    have t40 := (own_fld ((own_fld ((own_fld i11_69 K14 (own_nls (sn115 hw) (own_nls (sn114 hw) (own_nls (sn113 hw) (own_nls (sn112 hw) (own_nls (sn111 hw) (own_nls (sn110 hw) (own_nls (sn109 hw) (own_nls (sn108 hw) own_nl0))))))))).ext E17) K20 (own_nlb ne35 (own_nlb ne35 (own_nlb ne35 (own_nlb ne35 (own_nlb ne35 (own_nlb ne35 (own_nlb ne35 (own_nlb ne35 own_nl0))))))))).ext E23) K26 (own_nlb ne36 (own_nlb ne36 (own_nlb ne36 (own_nlb ne36 (own_nlb ne36 (own_nlb ne36 (own_nlb ne36 (own_nlb ne36 own_nl0)))))))))
    have t41 := (own_fld ((own_fld ((own_fld i11_71 K14 (own_nls (sn123 hw) (own_nls (sn122 hw) (own_nls (sn121 hw) (own_nls (sn120 hw) (own_nls (sn119 hw) (own_nls (sn118 hw) (own_nls (sn117 hw) (own_nls (sn116 hw) own_nl0))))))))).ext E17) K20 (own_nlb ne35 (own_nlb ne35 (own_nlb ne35 (own_nlb ne35 (own_nlb ne35 (own_nlb ne35 (own_nlb ne35 (own_nlb ne35 own_nl0))))))))).ext E23) K26 (own_nlb ne36 (own_nlb ne36 (own_nlb ne36 (own_nlb ne36 (own_nlb ne36 (own_nlb ne36 (own_nlb ne36 (own_nlb ne36 own_nl0)))))))))
    have t42 := (own_fld ((own_fld ((own_fld (i7_73.ext E11) K14 (own_nlb ne29 (own_nlb ne29 (own_nlb ne29 (own_nlb ne29 (own_nlb ne29 (own_nlb ne29 (own_nlb ne29 (own_nlb ne29 own_nl0))))))))).ext E17) K20 (own_nlb ne30 (own_nlb ne30 (own_nlb ne30 (own_nlb ne30 (own_nlb ne30 (own_nlb ne30 (own_nlb ne30 (own_nlb ne30 own_nl0))))))))).ext E23) K26 (own_nlb ne31 (own_nlb ne31 (own_nlb ne31 (own_nlb ne31 (own_nlb ne31 (own_nlb ne31 (own_nlb ne31 (own_nlb ne31 own_nl0)))))))))
    have t43 := (own_fld ((own_fld ((own_fld (i7_75.ext E11) K14 (own_nlb ne29 (own_nlb ne29 (own_nlb ne29 (own_nlb ne29 (own_nlb ne29 (own_nlb ne29 (own_nlb ne29 (own_nlb ne29 own_nl0))))))))).ext E17) K20 (own_nlb ne30 (own_nlb ne30 (own_nlb ne30 (own_nlb ne30 (own_nlb ne30 (own_nlb ne30 (own_nlb ne30 (own_nlb ne30 own_nl0))))))))).ext E23) K26 (own_nlb ne31 (own_nlb ne31 (own_nlb ne31 (own_nlb ne31 (own_nlb ne31 (own_nlb ne31 (own_nlb ne31 (own_nlb ne31 own_nl0)))))))))
    have t44 := (own_fld ((own_fld ((own_fld (i7_77.ext E11) K14 (own_nlb ne29 (own_nlb ne29 (own_nlb ne29 (own_nlb ne29 (own_nlb ne29 (own_nlb ne29 (own_nlb ne29 (own_nlb ne29 own_nl0))))))))).ext E17) K20 (own_nlb ne30 (own_nlb ne30 (own_nlb ne30 (own_nlb ne30 (own_nlb ne30 (own_nlb ne30 (own_nlb ne30 (own_nlb ne30 own_nl0))))))))).ext E23) K26 (own_nlb ne31 (own_nlb ne31 (own_nlb ne31 (own_nlb ne31 (own_nlb ne31 (own_nlb ne31 (own_nlb ne31 (own_nlb ne31 own_nl0)))))))))
    have t45 := (own_fld ((own_fld (r14_2.ext E17) K20 (own_nlb ne35 (own_nlb ne35 (own_nlb ne35 (own_nlb ne35 (own_nlb ne35 (own_nlb ne35 (own_nlb ne35 (own_nlb ne35 own_nl0))))))))).ext E23) K26 (own_nlb ne36 (own_nlb ne36 (own_nlb ne36 (own_nlb ne36 (own_nlb ne36 (own_nlb ne36 (own_nlb ne36 (own_nlb ne36 own_nl0)))))))))
    obtain ⟨cq46, kq46, q46a, q46b, q46c⟩ := isOf hZ rfl t33
    obtain ⟨_, _, ⟨T46, L46, kk46, nn46⟩, -, X46, ⟨Lc46, hQ46, l46, y46, z46⟩, st46⟩ := X26.virtualBack hx (y := ym5) (z := ym5) hown (mvT hZ (wk55 hw)) (mvT hZ (wk56 hw)) (notFace_of_selects (args := #[]) (mvT hZ (wk58 hw))) (mvT hZ (wk58 hw)) (mvT hZ (wk57 hw)) (by decide) (backOf (W := 0) (rm7_6 l Z a0 hw w hW [] b7 b11 p0 T26.heap n0 O27 t32 t33 gg7 t34 t37 (Ne.symm ne29) gg11 t38 t39 t40 t41 t42 t43 t44 t45) hZ (wk59 hw) (wk2 hw) (by decide) (by decide)) q46a q46c (g := (mkF m 90 Lb28 [(.ref b11), (.ref b7)])) rfl (by rw [hml]; rfl) (Steps.refl _) (argsL := [(.ref b11)]) (rest := []) (lenOf pds_5 rfl) rfl (by show 2 * 0 + _ ≤ _; exact Nat.le_of_eq rfl) (hb hby at_90) (fun _ _ => ⟨rfl, rfl, (by decide : 4 + 0 ≤ _), (by decide : 59 + 0 ≤ _)⟩)
    dsimp only [Pt.U, Pt.locs, Pt.cells, Pt.slots] at X46 l46 y46 z46 st46 hQ46
    subst l46 y46 z46
    obtain ⟨rfl, N46q, K46, r46_0, r46_1, r46_2, r46_3, r46_4, r46_5, r46_6, r46_7, r46_8⟩ := hQ46
    have N46 := Fr.app N26 N46q
    have O47 := own_old O27 K46 (own_ngc gg7 (own_ngc gg11 (own_ngc gg11 (own_ngc gg11 (own_ngc gg11 (own_ngc gg7 (own_ngc gg7 (own_ngc gg7 (own_ngc gg7 own_ng0)))))))))
    obtain ⟨T48, X48, e48, st48⟩ := getF X46 hx hZ hown (host := "") (Or.inl (wk79 hw)) Via.refl rfl r46_1 (g := (mkF m 95 Lb28 [(.ref b11)])) rfl rfl (hb hby at_95)
    obtain ⟨T49, X49, e49, st49⟩ := getF X48 hx hZ hown (host := "") (Or.inl (wk80 hw)) Via.refl e48 r46_2 (g := (mkF m 105 Lb28 [(.ref b11)])) rfl rfl (hb hby at_105)
    obtain ⟨T50, X50, e50, st50⟩ := getF X49 hx hZ hown (host := "") (Or.inl (wk81 hw)) Via.refl e49 r46_4 (g := (mkF m 115 Lb28 [(.ref b11)])) rfl rfl (hb hby at_115)
    obtain ⟨T51, X51, e51, st51⟩ := getF X50 hx hZ hown (host := "") (Or.inl (wk82 hw)) Via.refl e50 r46_5 (g := (mkF m 123 Lb28 [(.ref b11)])) rfl rfl (hb hby at_123)
    let Lb52 : Array Slot := #[.val (.long p0), .second, .val (.long p1), .second, .val (.long p2), .second, .val (.int p3), .val (.int (0 : Int32)), .val (.int (0 : Int32)), .val (.ref b7), .val (.ref b11), .val (.ref b17), .val (.ref b23), .val (.int (1 : Int32)), .unset, .unset, .unset, .unset, .unset, .unset]
    let Lb53 : Array Slot := #[.val (.long p0), .second, .val (.long p1), .second, .val (.long p2), .second, .val (.int p3), .val (.int (0 : Int32)), .val (.int (0 : Int32)), .val (.ref b7), .val (.ref b11), .val (.ref b17), .val (.ref b23), .val (.int (1 : Int32)), .val (.long (0 : Int64)), .second, .unset, .unset, .unset, .unset]
    have t54 := (own_exa t33 K46)
    have t55 := (own_exa (own_exa ((own_exa A17 K20).ext E23) K26) K46)
    have ne56 : b17 ≠ b23 := (Nat.ne_of_lt (Nat.lt_of_lt_of_le (Nat.lt_of_lt_of_le A17.lt K20.1) (Nat.le_of_eq g23.symm)))
    have t57 := (own_fld (own_fld ((own_fld i17_63 K20 (own_nls (sn99 hw) (own_nls (sn98 hw) (own_nls (sn97 hw) (own_nls (sn96 hw) (own_nls (sn95 hw) (own_nls (sn94 hw) (own_nls (sn93 hw) (own_nls (sn92 hw) own_nl0))))))))).ext E23) K26 (own_nlb ne56 (own_nlb ne56 (own_nlb ne56 (own_nlb ne56 (own_nlb ne56 (own_nlb ne56 (own_nlb ne56 (own_nlb ne56 own_nl0))))))))) K46 (own_nlb (Ne.symm ne30) (own_nlb (Ne.symm ne35) (own_nlb (Ne.symm ne35) (own_nlb (Ne.symm ne35) (own_nlb (Ne.symm ne35) (own_nlb (Ne.symm ne30) (own_nlb (Ne.symm ne30) (own_nlb (Ne.symm ne30) (own_nlb (Ne.symm ne30) own_nl0))))))))))
    have t58 := (own_fld (own_fld ((own_fld i17_65 K20 (own_nls (sn107 hw) (own_nls (sn106 hw) (own_nls (sn105 hw) (own_nls (sn104 hw) (own_nls (sn103 hw) (own_nls (sn102 hw) (own_nls (sn101 hw) (own_nls (sn100 hw) own_nl0))))))))).ext E23) K26 (own_nlb ne56 (own_nlb ne56 (own_nlb ne56 (own_nlb ne56 (own_nlb ne56 (own_nlb ne56 (own_nlb ne56 (own_nlb ne56 own_nl0))))))))) K46 (own_nlb (Ne.symm ne30) (own_nlb (Ne.symm ne35) (own_nlb (Ne.symm ne35) (own_nlb (Ne.symm ne35) (own_nlb (Ne.symm ne35) (own_nlb (Ne.symm ne30) (own_nlb (Ne.symm ne30) (own_nlb (Ne.symm ne30) (own_nlb (Ne.symm ne30) own_nl0))))))))))
    have t59 := (own_fld (own_fld ((own_fld i17_69 K20 (own_nls (sn115 hw) (own_nls (sn114 hw) (own_nls (sn113 hw) (own_nls (sn112 hw) (own_nls (sn111 hw) (own_nls (sn110 hw) (own_nls (sn109 hw) (own_nls (sn108 hw) own_nl0))))))))).ext E23) K26 (own_nlb ne56 (own_nlb ne56 (own_nlb ne56 (own_nlb ne56 (own_nlb ne56 (own_nlb ne56 (own_nlb ne56 (own_nlb ne56 own_nl0))))))))) K46 (own_nlb (Ne.symm ne30) (own_nlb (Ne.symm ne35) (own_nlb (Ne.symm ne35) (own_nlb (Ne.symm ne35) (own_nlb (Ne.symm ne35) (own_nlb (Ne.symm ne30) (own_nlb (Ne.symm ne30) (own_nlb (Ne.symm ne30) (own_nlb (Ne.symm ne30) own_nl0))))))))))
    have t60 := (own_fld (own_fld ((own_fld i17_71 K20 (own_nls (sn123 hw) (own_nls (sn122 hw) (own_nls (sn121 hw) (own_nls (sn120 hw) (own_nls (sn119 hw) (own_nls (sn118 hw) (own_nls (sn117 hw) (own_nls (sn116 hw) own_nl0))))))))).ext E23) K26 (own_nlb ne56 (own_nlb ne56 (own_nlb ne56 (own_nlb ne56 (own_nlb ne56 (own_nlb ne56 (own_nlb ne56 (own_nlb ne56 own_nl0))))))))) K46 (own_nlb (Ne.symm ne30) (own_nlb (Ne.symm ne35) (own_nlb (Ne.symm ne35) (own_nlb (Ne.symm ne35) (own_nlb (Ne.symm ne35) (own_nlb (Ne.symm ne30) (own_nlb (Ne.symm ne30) (own_nlb (Ne.symm ne30) (own_nlb (Ne.symm ne30) own_nl0))))))))))
    have t61 := (own_exa t34 K46)
    have t62 := (own_fld (own_fld (r20_2.ext E23) K26 (own_nlb ne56 (own_nlb ne56 (own_nlb ne56 (own_nlb ne56 (own_nlb ne56 (own_nlb ne56 (own_nlb ne56 (own_nlb ne56 own_nl0))))))))) K46 (own_nlb (Ne.symm ne30) (own_nlb (Ne.symm ne35) (own_nlb (Ne.symm ne35) (own_nlb (Ne.symm ne35) (own_nlb (Ne.symm ne35) (own_nlb (Ne.symm ne30) (own_nlb (Ne.symm ne30) (own_nlb (Ne.symm ne30) (own_nlb (Ne.symm ne30) own_nl0))))))))))
    obtain ⟨cq63, kq63, q63a, q63b, q63c⟩ := isOf hZ e51 t54
    obtain ⟨_, _, ⟨T63, L63, kk63, nn63⟩, -, X63, ⟨Lc63, hQ63, l63, y63, z63⟩, st63⟩ := X51.virtualBack hx (y := ym5) (z := ym5) hown (mvT hZ (wk55 hw)) (mvT hZ (wk56 hw)) (notFace_of_selects (args := #[]) (mvT hZ (wk58 hw))) (mvT hZ (wk58 hw)) (mvT hZ (wk57 hw)) (by decide) (backOf (W := 0) (rm7_7 l Z a0 hw w hW [] b7 b17 b11 ((0 : Int64) + p0) p1 T46.heap n0 O47 r46_0 t54 gg7 t55 t57 (Ne.symm ne30) gg17 t58 r46_3 t59 t60 t61 r46_5 (Ne.symm ne29) ne35 gg11 r46_7 r46_8 t62) hZ (wk59 hw) (wk2 hw) (by decide) (by decide)) q63a q63c (g := (mkF m 215 Lb53 [(.ref b17), (.ref b7)])) rfl (by rw [hml]; rfl) (Steps.refl _) (argsL := [(.ref b17)]) (rest := []) (lenOf pds_5 rfl) rfl (by show 2 * 0 + _ ≤ _; exact Nat.le_of_eq rfl) (hb hby at_215) (fun _ _ => ⟨rfl, e51, (by decide : 4 + 0 ≤ _), (by decide : 59 + 0 ≤ _)⟩)
    dsimp only [Pt.U, Pt.locs, Pt.cells, Pt.slots] at X63 l63 y63 z63 st63 hQ63
    subst l63 y63 z63
    obtain ⟨rfl, N63q, K63, r63_0, r63_1, r63_2, r63_3, r63_4, r63_5, r63_6, r63_7, r63_8⟩ := hQ63
    have N63 := Fr.app N46 N63q
    have O64 := own_old O47 K63 (own_ngc gg7 (own_ngc gg17 (own_ngc gg17 (own_ngc gg17 (own_ngc gg17 (own_ngc gg11 (own_ngc gg7 (own_ngc gg7 (own_ngc gg7 own_ng0)))))))))
    obtain ⟨T65, X65, e65, st65⟩ := getF X63 hx hZ hown (host := "") (Or.inl (wk79 hw)) Via.refl rfl r63_1 (g := (mkF m 225 Lb53 [(.ref b17)])) rfl rfl (hb hby at_225)
    obtain ⟨T66, X66, e66, st66⟩ := getF X65 hx hZ hown (host := "") (Or.inl (wk80 hw)) Via.refl e65 r63_2 (g := (mkF m 240 Lb53 [(.ref b17)])) rfl rfl (hb hby at_240)
    obtain ⟨T67, X67, e67, st67⟩ := getF X66 hx hZ hown (host := "") (Or.inl (wk81 hw)) Via.refl e66 r63_4 (g := (mkF m 250 Lb53 [(.ref b17)])) rfl rfl (hb hby at_250)
    obtain ⟨T68, X68, e68, st68⟩ := getF X67 hx hZ hown (host := "") (Or.inl (wk82 hw)) Via.refl e67 r63_5 (g := (mkF m 260 Lb53 [(.ref b17)])) rfl rfl (hb hby at_260)
    obtain ⟨T69, X69, e69, st69⟩ := getF X68 hx hZ hown (host := "") (Or.inl (wk82 hw)) Via.refl e68 r63_6 (g := (mkF m 268 Lb53 [(.ref b11)])) rfl rfl (hb hby at_268)
    have t70 := (own_fld r46_4 K63 (own_nlb (Ne.symm ne29) (own_nlb ne35 (own_nlb ne35 (own_nlb ne35 (own_nlb ne35 (own_nls (sn87 hw) (own_nlb (Ne.symm ne29) (own_nlb (Ne.symm ne29) (own_nlb (Ne.symm ne29) own_nl0))))))))))
    obtain ⟨T71, X71, e71, st71⟩ := getF X69 hx hZ hown (host := "") (Or.inl (wk81 hw)) Via.refl e69 t70 (g := (mkF m 278 Lb53 [(.ref b11)])) rfl rfl (hb hby at_278)
    let Lb72 : Array Slot := #[.val (.long p0), .second, .val (.long p1), .second, .val (.long p2), .second, .val (.int p3), .val (.int (0 : Int32)), .val (.int (0 : Int32)), .val (.ref b7), .val (.ref b11), .val (.ref b17), .val (.ref b23), .val (.int (1 : Int32)), .val (.long (0 : Int64)), .second, .val (.long (2 : Int64)), .second, .unset, .unset]
    let Lb73 : Array Slot := #[.val (.long p0), .second, .val (.long p1), .second, .val (.long p2), .second, .val (.int p3), .val (.int (0 : Int32)), .val (.int (0 : Int32)), .val (.ref b7), .val (.ref b11), .val (.ref b17), .val (.ref b23), .val (.int (1 : Int32)), .val (.long (0 : Int64)), .second, .val (.long (2 : Int64)), .second, .val (.long ((p0 + p1) + (0 : Int64))), .second]
    have t75 := (own_exa t54 K63)
    obtain ⟨cq74, kq74, q74a, q74b, q74c⟩ := isOf hZ e71 t75
    obtain ⟨_, _, ⟨T74, L74, kk74, nn74⟩, -, X74, ⟨Lc74, hQ74, l74, y74, z74⟩, st74⟩ := X71.virtualBack hx (y := ym6) (z := ym6) hown (mvT hZ (wk89 hw)) (mvT hZ (wk90 hw)) (notFace_of_selects (args := #[]) (mvT hZ (wk92 hw))) (mvT hZ (wk92 hw)) (mvT hZ (wk91 hw)) (by decide) (backOf (W := 0) (rm9_8 l Z a0 hw w hW [] b7 T63.heap n0 O64 r63_7) hZ (wk93 hw) (wk2 hw) (by decide) (by decide)) q74a q74c (g := (mkF m 436 Lb73 [(.ref b7)])) rfl (by rw [hml]; rfl) (Steps.refl _) (argsL := []) (rest := []) (lenOf pds_6 rfl) rfl (by show 2 * 0 + _ ≤ _; exact Nat.le_of_eq rfl) (hb hby at_436) (fun _ _ => ⟨rfl, e71, (by decide : 4 + 0 ≤ _), (by decide : 59 + 0 ≤ _)⟩)
    dsimp only [Pt.U, Pt.locs, Pt.cells, Pt.slots] at X74 l74 y74 z74 st74 hQ74
    subst l74 y74 z74
    obtain ⟨rfl, N74q, e74⟩ := hQ74
    have N74 := Fr.app N63 N74q
    obtain ⟨cq76, kq76, q76a, q76b, q76c⟩ := isOf hZ e74 t75
    obtain ⟨_, _, ⟨T76, L76, kk76, nn76⟩, -, X76, ⟨Lc76, hQ76, l76, y76, z76⟩, st76⟩ := X74.virtualBack hx (y := ym7) (z := ym7) hown (mvT hZ (wk94 hw)) (mvT hZ (wk95 hw)) (notFace_of_selects (args := #[]) (mvT hZ (wk97 hw))) (mvT hZ (wk97 hw)) (mvT hZ (wk96 hw)) (by decide) (backOf (W := 0) (rm10_9 l Z a0 hw w hW [] b7 (((0 : Int64) + p0) + p1) T63.heap n0 O64 r63_8) hZ (wk98 hw) (wk2 hw) (by decide) (by decide)) q76a q76c (g := (mkF m 447 Lb73 [(.ref b7)])) rfl (by rw [hml]; rfl) (Steps.refl _) (argsL := []) (rest := []) (lenOf pds_6 rfl) rfl (by show 2 * 0 + _ ≤ _; exact Nat.le_of_eq rfl) (hb hby at_447) (fun _ _ => ⟨rfl, e74, (by decide : 4 + 0 ≤ _), (by decide : 59 + 0 ≤ _)⟩)
    dsimp only [Pt.U, Pt.locs, Pt.cells, Pt.slots] at X76 l76 y76 z76 st76 hQ76
    subst l76 y76 z76
    obtain ⟨rfl, N76q, e76⟩ := hQ76
    have N76 := Fr.app N74 N76q
    have pre77 : ∀ t, Steps p.tables e below (T76.setTop (mkF m 453 Lb73 [(.int (lcmpW (((0 : Int64) + p0) + p1) ((p0 + p1) + (0 : Int64))))])) t → Steps p.tables e below (s₁.setTop (entryFrame m #[(.long p0), (.long p1), (.long p2), (.int p3)] maxLocals)) t := fun t k => pre4 t (by
     show Steps p.tables e below (s₁.setTop (mkF m 18 Lb3 [(.int (p3 &&& (2 : Int32)))])) _
     refine XS.ifYes X0.here hx rfl (pc0 := 18) (pc' := 25) rfl (hb hby at_18) rfl ((if0 _ _).trans (teq (hc5 : (p3 &&& (2 : Int32)) = (0 : Int32))).1) (by decide) (by decide) ?_
     refine sc X0 hx hby at_25 ?_
     refine XS.istore X0.here hx rfl (hb hby at_26) rfl (l' := Lb6) rfl ?_
     refine st7 _ ?_
     refine XS.dup X7.here hx rfl (hb hby at_31) rfl rfl ?_
     refine st9.trans ?_
     refine XS.astore X9.here hx rfl (hb hby at_35) rfl rfl (l' := Lb10) rfl ?_
     refine st11 _ ?_
     refine XS.dup X11.here hx rfl (hb hby at_40) rfl rfl ?_
     refine XS.aconstNull X11.here hx rfl (hb hby at_41) ?_
     refine XS.aconstNull X11.here hx rfl (hb hby at_42) ?_
     refine st13 _ ?_
     refine XS.lconst X13.here hx rfl (hb hby at_46) ?_
     refine sL X13 hx hby at_47 rfl ?_
     refine st14.trans ?_
     refine XS.astore X14.here hx rfl (hb hby at_51) rfl rfl (l' := Lb16) rfl ?_
     refine st17 _ ?_
     refine XS.dup X17.here hx rfl (hb hby at_56) rfl rfl ?_
     refine XS.aconstNull X17.here hx rfl (hb hby at_57) ?_
     refine XS.aconstNull X17.here hx rfl (hb hby at_58) ?_
     refine st19 _ ?_
     refine XS.lconst X19.here hx rfl (hb hby at_62) ?_
     refine sL X19 hx hby at_63 rfl ?_
     refine st20.trans ?_
     refine XS.astore X20.here hx rfl (hb hby at_67) rfl rfl (l' := Lb22) rfl ?_
     refine st23 _ ?_
     refine XS.dup X23.here hx rfl (hb hby at_72) rfl rfl ?_
     refine XS.aconstNull X23.here hx rfl (hb hby at_73) ?_
     refine XS.aconstNull X23.here hx rfl (hb hby at_74) ?_
     refine st25 _ ?_
     refine XS.lconst X25.here hx rfl (hb hby at_78) ?_
     refine XS.lload X25.here hx rfl (hb hby at_79) rfl ?_
     refine st26.trans ?_
     refine XS.astore X26.here hx rfl (hb hby at_84) rfl rfl (l' := Lb28) rfl ?_
     refine sa X26 hx hby at_86 rfl rfl ?_
     refine sa X26 hx hby at_88 rfl rfl ?_
     refine st46.trans ?_
     refine sa X46 hx hby at_93 rfl rfl ?_
     refine st48 _ ?_
     refine XS.lconst X48.here hx rfl (hb hby at_98) ?_
     refine XS.lcmp X48.here hx rfl (hb hby at_99) rfl ?_
     refine sN X48 hx hby at_100 (by decide) ?_
     refine sa X48 hx hby at_103 rfl rfl ?_
     refine st49 _ ?_
     refine sa X49 hx hby at_108 rfl rfl ?_
     refine Jvm.RoadKit.acmp (g := (mkF m 110 Lb28 [(.ref b7), (.ref b7)])) X49 hx rfl rfl rfl (pc0 := 110) (pc' := 113) (same := true) rfl (hb hby at_110) rfl (decide_eq_true rfl) (by decide) (by decide) ?_
     refine sa X49 hx hby at_113 rfl rfl ?_
     refine st50 _ ?_
     refine XS.ifnonnullNo X50.here hx rfl (hb hby at_118) rfl ?_
     refine sa X50 hx hby at_121 rfl rfl ?_
     refine st51 _ ?_
     refine XS.ifnonnullNo X51.here hx rfl (hb hby at_126) rfl ?_
     refine sc X51 hx hby at_129 ?_
     refine sg (pc := 130) (pc' := 134) X51 hx hby at_130 (by decide) (by decide) ?_
     refine XS.istore X51.here hx rfl (hb hby at_134) rfl (l' := Lb52) rfl ?_
     refine XS.lconst X51.here hx rfl (hb hby at_136) ?_
     refine XS.lstore X51.here hx rfl (hb hby at_137) rfl (l' := Lb53) rfl ?_
     refine si X51 hx hby at_139 rfl ?_
     refine XS.ifYes X51.here hx rfl (pc0 := 141) (pc' := 211) rfl (hb hby at_141) rfl (by decide) (by decide) (by decide) ?_
     refine sa X51 hx hby at_211 rfl rfl ?_
     refine sa X51 hx hby at_213 rfl rfl ?_
     refine st63.trans ?_
     refine si X63 hx hby at_218 rfl ?_
     refine sN X63 hx hby at_220 (by decide) ?_
     refine sa X63 hx hby at_223 rfl rfl ?_
     refine st65 _ ?_
     refine XS.lload X65.here hx rfl (hb hby at_228) rfl ?_
     refine X65.ldc2Long hx hown (mvT hZ (wk88 hw)) (g := (mkF m 230 Lb53 [(.long (0 : Int64)), (.long (2 : Int64))])) rfl (hb hby at_230) _ ?_
     refine XS.ladd X65.here hx rfl (hb hby at_233) rfl ?_
     refine XS.lcmp X65.here hx rfl (hb hby at_234) rfl ?_
     refine sN X65 hx hby at_235 (by decide) ?_
     refine sa X65 hx hby at_238 rfl rfl ?_
     refine st66 _ ?_
     refine sa X66 hx hby at_243 rfl rfl ?_
     refine Jvm.RoadKit.acmp (g := (mkF m 245 Lb53 [(.ref b7), (.ref b7)])) X66 hx rfl rfl rfl (pc0 := 245) (pc' := 248) (same := true) rfl (hb hby at_245) rfl (decide_eq_true rfl) (by decide) (by decide) ?_
     refine sa X66 hx hby at_248 rfl rfl ?_
     refine st67 _ ?_
     refine sa X67 hx hby at_253 rfl rfl ?_
     refine Jvm.RoadKit.acmp (g := (mkF m 255 Lb53 [(.ref b11), (.ref b11)])) X67 hx rfl rfl rfl (pc0 := 255) (pc' := 258) (same := true) rfl (hb hby at_255) rfl (decide_eq_true rfl) (by decide) (by decide) ?_
     refine sa X67 hx hby at_258 rfl rfl ?_
     refine st68 _ ?_
     refine XS.ifnonnullNo X68.here hx rfl (hb hby at_263) rfl ?_
     refine sa X68 hx hby at_266 rfl rfl ?_
     refine st69 _ ?_
     refine sa X69 hx hby at_271 rfl rfl ?_
     refine Jvm.RoadKit.acmp (g := (mkF m 273 Lb53 [(.ref b17), (.ref b17)])) X69 hx rfl rfl rfl (pc0 := 273) (pc' := 276) (same := true) rfl (hb hby at_273) rfl (decide_eq_true rfl) (by decide) (by decide) ?_
     refine sa X69 hx hby at_276 rfl rfl ?_
     refine st71 _ ?_
     refine XS.ifnonnullNo X71.here hx rfl (hb hby at_281) rfl ?_
     refine sc X71 hx hby at_284 ?_
     refine sg (pc := 285) (pc' := 289) X71 hx hby at_285 (by decide) (by decide) ?_
     refine XS.istore X71.here hx rfl (hb hby at_289) rfl (l' := Lb53) rfl ?_
     refine si X71 hx hby at_291 rfl ?_
     refine XS.ifYes X71.here hx rfl (pc0 := 293) (pc' := 396) rfl (hb hby at_293) rfl (by decide) (by decide) (by decide) ?_
     refine si X71 hx hby at_396 rfl ?_
     refine XS.ifYes X71.here hx rfl (pc0 := 398) (pc' := 407) rfl (hb hby at_398) rfl (by decide) (by decide) (by decide) ?_
     refine X71.ldc2Long hx hown (mvT hZ (wk88 hw)) (g := (mkF m 407 Lb53 [])) rfl (hb hby at_407) _ ?_
     refine XS.lstore X71.here hx rfl (hb hby at_410) rfl (l' := Lb72) rfl ?_
     refine sL X71 hx hby at_412 rfl ?_
     refine sL X71 hx hby at_413 rfl ?_
     refine XS.ladd X71.here hx rfl (hb hby at_414) rfl ?_
     refine si X71 hx hby at_415 rfl ?_
     refine XS.ifYes X71.here hx rfl (pc0 := 417) (pc' := 425) rfl (hb hby at_417) rfl (by decide) (by decide) (by decide) ?_
     refine XS.lconst X71.here hx rfl (hb hby at_425) ?_
     refine XS.ladd X71.here hx rfl (hb hby at_426) rfl ?_
     refine XS.lstore X71.here hx rfl (hb hby at_427) rfl (l' := Lb73) rfl ?_
     refine si X71 hx hby at_429 rfl ?_
     refine sN X71 hx hby at_431 (by decide) ?_
     refine sa X71 hx hby at_434 rfl rfl ?_
     refine st74.trans ?_
     refine XS.lload X74.here hx rfl (hb hby at_439) rfl ?_
     refine XS.lcmp X74.here hx rfl (hb hby at_441) rfl ?_
     refine sN X74 hx hby at_442 (by decide) ?_
     refine sa X74 hx hby at_445 rfl rfl ?_
     refine st76.trans ?_
     refine XS.lload X76.here hx rfl (hb hby at_450) rfl ?_
     refine XS.lcmp X76.here hx rfl (hb hby at_452) rfl ?_
     exact k)
    by_cases hc78 : (((0 : Int64) + p0) + p1) = ((p0 + p1) + (0 : Int64))
    ·
     have t79 := (own_fld r46_6 K63 (own_nls (sn63 hw) (own_nlb ne30 (own_nlb ne30 (own_nlb ne30 (own_nlb ne30 (own_nlb ne29 (own_nls (sn88 hw) (own_nls (sn89 hw) (own_nls (sn90 hw) own_nl0))))))))))
     obtain ⟨cq80, kq80, q80a, q80b, q80c⟩ := isOf hZ e76 t75
     obtain ⟨_, _, ⟨T80, L80, kk80, nn80⟩, -, X80, ⟨Lc80, hQ80, l80, y80, z80⟩, st80⟩ := X76.virtualBack hx (y := ym8) (z := ym8) hown (mvT hZ (wk99 hw)) (mvT hZ (wk100 hw)) (notFace_of_selects (args := #[]) (mvT hZ (wk102 hw))) (mvT hZ (wk102 hw)) (mvT hZ (wk101 hw)) (by decide) (backOf (W := 0) (rm11_10 l Z a0 hw w hW [] b7 b11 T63.heap n0 O64 t79) hZ (wk103 hw) (wk2 hw) (by decide) (by decide)) q80a q80c (g := (mkF m 458 Lb73 [(.ref b7)])) rfl (by rw [hml]; rfl) (Steps.refl _) (argsL := []) (rest := []) (lenOf pds_7 rfl) rfl (by show 2 * 0 + _ ≤ _; exact Nat.le_of_eq rfl) (hb hby at_458) (fun _ _ => ⟨rfl, e76, (by decide : 4 + 0 ≤ _), (by decide : 59 + 0 ≤ _)⟩)
     dsimp only [Pt.U, Pt.locs, Pt.cells, Pt.slots] at X80 l80 y80 z80 st80 hQ80
     subst l80 y80 z80
     obtain ⟨rfl, N80q, e80⟩ := hQ80
     have N80 := Fr.app N76 N80q
     obtain ⟨fs, hr, hrun, hended, hWm, hsame⟩ := X80.leave (v := some (.int (1 : Int32))) (fun h => by rw [Bd.returns] at h; cases h)
     refine ⟨_, _, pre77 _ ?_, hrun, hended, _, _, rfl, ?_, ⟨_, rfl⟩, hWm, hsame.mono (by decide) (by decide)⟩
     · show Steps p.tables e below (T76.setTop (mkF m 453 Lb73 [(.int (lcmpW (((0 : Int64) + p0) + p1) ((p0 + p1) + (0 : Int64))))])) _
       refine sN X76 hx hby at_453 ((if0 _ _).trans (teq (((lw_eq _ _).mpr hc78) : (lcmpW (((0 : Int64) + p0) + p1) ((p0 + p1) + (0 : Int64))) = (0 : Int32))).2) ?_
       refine sa X76 hx hby at_456 rfl rfl ?_
       refine st80.trans ?_
       refine sa X80 hx hby at_461 rfl rfl ?_
       refine Jvm.RoadKit.acmp (g := (mkF m 463 Lb73 [(.ref b11), (.ref b11)])) X80 hx rfl rfl rfl (pc0 := 463) (pc' := 466) (same := true) rfl (hb hby at_463) rfl (decide_eq_true rfl) (by decide) (by decide) ?_
       refine sc X80 hx hby at_466 ?_
       refine sg (pc := 467) (pc' := 471) X80 hx hby at_467 (by decide) (by decide) ?_
       refine XS.istore X80.here hx rfl (hb hby at_471) rfl (l' := Lb73) rfl ?_
       refine si X80 hx hby at_473 rfl ?_
       exact retN X80 hx (t := .boolean) Bd.returns (by simp) (hb hby at_475) hr
     · show Q0 n0 _ T80.heap _
       rw [e80]
       exact ⟨rfl, N80⟩
    ·
     exfalso
     have z12 : ((((0 : Int64) + p0) + p1)).toInt ≠ (((p0 + p1) + (0 : Int64))).toInt := fun q => hc78 (Int64.toInt_inj.mp q)
     have z1 := rng64 (((0 : Int64) + p0) + p1)
     have z2 := rng64 ((0 : Int64) + p0)
     have z3 : ((0 : Int64)).toInt = 0 := by decide
     have z4 := rng64 p0
     have z5 := c_ladd (0 : Int64) p0
     have z6 := rng64 p1
     have z7 := c_ladd ((0 : Int64) + p0) p1
     have z8 := rng64 ((p0 + p1) + (0 : Int64))
     have z9 := rng64 (p0 + p1)
     have z10 := c_ladd p0 p1
     have z11 := c_ladd (p0 + p1) (0 : Int64)
     omega
   ·
    let Lb81 : Array Slot := #[.val (.long p0), .second, .val (.long p1), .second, .val (.long p2), .second, .val (.int p3), .val (.int (0 : Int32)), .val (.int (1 : Int32)), .unset, .unset, .unset, .unset, .unset, .unset, .unset, .unset, .unset, .unset, .unset]
    obtain ⟨T82, h82, X82, e82, E82, A82, D82, -, st82⟩ := newO X0 hx hZ hown (wk0 hw) (wk1 hw) (wk2 hw) e0 (g := (mkF m 28 Lb81 [])) rfl (hb hby at_28) (by decide) (by decide)
    obtain ⟨b82, g82⟩ : ∃ z, z = h0.size := ⟨_, rfl⟩
    rw [← g82] at A82 D82 st82
    have gg82 : n0 ≤ b82 := by rw [← O0.1, g82]; exact O0.2.1
    have O83 := O0.ext E82
    have i82_61 : Fld Z h82 b82 "com/example/tidemark/tidemark/RecencyList" "stamps" "J" (.long (0 : Int64)) := D82 (Or.inl (wk61 hw)) (ty := .long) (by decide)
    have i82_67 : Fld Z h82 b82 "com/example/tidemark/tidemark/RecencyList" "newest" "Lcom/example/tidemark/tidemark/MemoryEntry;" .null := D82 (Or.inl (wk67 hw)) (ty := (.object "com/example/tidemark/tidemark/MemoryEntry")) (by decide)
    have i82_73 : Fld Z h82 b82 "com/example/tidemark/tidemark/RecencyList" "oldest" "Lcom/example/tidemark/tidemark/MemoryEntry;" .null := D82 (Or.inl (wk73 hw)) (ty := (.object "com/example/tidemark/tidemark/MemoryEntry")) (by decide)
    have i82_75 : Fld Z h82 b82 "com/example/tidemark/tidemark/RecencyList" "size" "J" (.long (0 : Int64)) := D82 (Or.inl (wk75 hw)) (ty := .long) (by decide)
    have i82_77 : Fld Z h82 b82 "com/example/tidemark/tidemark/RecencyList" "weight" "J" (.long (0 : Int64)) := D82 (Or.inl (wk77 hw)) (ty := .long) (by decide)
    obtain ⟨_, _, ⟨T84, L84, kk84, nn84⟩, -, X84, ⟨Lc84, hQ84, l84, y84, z84⟩, st84⟩ := X82.specialBack hx (y := ym0) rfl hown (mvT hZ (wk3 hw)) (mvT hZ (wk4 hw)) (mvT hZ (wk5 hw)) (by decide) (backOf (W := 1) (rm1_1 l Z a0 hw w hW [] b82 h82 n0 O83 ) hZ (wk5 hw) (wk2 hw) (by decide) (by decide)) (g := (mkF m 32 Lb81 [(.ref b82), (.ref b82)])) rfl (by rw [hml]; rfl) (Steps.refl _) (a := b82) (argsL := []) (rest := [(.ref b82)]) (lenOf pds_0 rfl) rfl (by show 2 * 0 + _ ≤ _; exact Nat.le_of_eq rfl) (hb hby at_32) (fun _ _ => ⟨rfl, e82, (by decide : 1 + 0 ≤ _), (by decide : 5 + 0 ≤ _)⟩)
    dsimp only [Pt.U, Pt.locs, Pt.cells, Pt.slots] at X84 l84 y84 z84 st84 hQ84
    subst l84 y84 z84
    obtain ⟨rfl, N84q, e84⟩ := hQ84
    have N84 := Fr.app N0 N84q
    let Lb85 : Array Slot := #[.val (.long p0), .second, .val (.long p1), .second, .val (.long p2), .second, .val (.int p3), .val (.int (0 : Int32)), .val (.int (1 : Int32)), .val (.ref b82), .unset, .unset, .unset, .unset, .unset, .unset, .unset, .unset, .unset, .unset]
    obtain ⟨T86, h86, X86, e86, E86, A86, D86, -, st86⟩ := newO X84 hx hZ hown (wk9 hw) (wk10 hw) (wk11 hw) e84 (g := (mkF m 37 Lb85 [])) rfl (hb hby at_37) (by decide) (by decide)
    obtain ⟨b86, g86⟩ : ∃ z, z = h82.size := ⟨_, rfl⟩
    rw [← g86] at A86 D86 st86
    have gg86 : n0 ≤ b86 := by rw [← O83.1, g86]; exact O83.2.1
    have O87 := O83.ext E86
    have i86_20 : Fld Z h86 b86 "com/example/tidemark/tidemark/MemoryEntry" "slot" "I" (.int (0 : Int32)) := D86 (Or.inl (wk20 hw)) (ty := .int) (by decide)
    have i86_22 : Fld Z h86 b86 "com/example/tidemark/tidemark/MemoryEntry" "key" "Ljava/lang/Object;" .null := D86 (Or.inr (wk22 hw)) (ty := (.object "java/lang/Object")) (by decide)
    have i86_24 : Fld Z h86 b86 "com/example/tidemark/tidemark/MemoryEntry" "charge" "J" (.long (0 : Int64)) := D86 (Or.inl (wk24 hw)) (ty := .long) (by decide)
    have i86_31 : Fld Z h86 b86 "com/example/tidemark/tidemark/MemoryEntry" "value" "Ljava/lang/Object;" .null := D86 (Or.inl (wk31 hw)) (ty := (.object "java/lang/Object")) (by decide)
    have i86_33 : Fld Z h86 b86 "com/example/tidemark/tidemark/MemoryEntry" "expiry" "Lcom/example/tidemark/tidemark/Expiry;" .null := D86 (Or.inl (wk33 hw)) (ty := (.object "com/example/tidemark/tidemark/Expiry")) (by decide)
    have i86_40 : Fld Z h86 b86 "com/example/tidemark/tidemark/MemoryEntry" "created" "J" (.long (0 : Int64)) := D86 (Or.inl (wk40 hw)) (ty := .long) (by decide)
    have i86_42 : Fld Z h86 b86 "com/example/tidemark/tidemark/MemoryEntry" "lastUsed" "J" (.long (0 : Int64)) := D86 (Or.inl (wk42 hw)) (ty := .long) (by decide)
    have i86_54 : Fld Z h86 b86 "com/example/tidemark/tidemark/MemoryEntry" "lockFreeValue" "Ljava/lang/Object;" .null := D86 (Or.inl (wk54 hw)) (ty := (.object "java/lang/Object")) (by decide)
    have i86_63 : Fld Z h86 b86 "com/example/tidemark/tidemark/MemoryEntry" "stamp" "J" (.long (0 : Int64)) := D86 (Or.inl (wk63 hw)) (ty := .long) (by decide)
    have i86_65 : Fld Z h86 b86 "com/example/tidemark/tidemark/MemoryEntry" "list" "Lcom/example/tidemark/tidemark/RecencyList;" .null := D86 (Or.inl (wk65 hw)) (ty := (.object "com/example/tidemark/tidemark/RecencyList")) (by decide)
    have i86_69 : Fld Z h86 b86 "com/example/tidemark/tidemark/MemoryEntry" "older" "Lcom/example/tidemark/tidemark/MemoryEntry;" .null := D86 (Or.inl (wk69 hw)) (ty := (.object "com/example/tidemark/tidemark/MemoryEntry")) (by decide)
    have i86_71 : Fld Z h86 b86 "com/example/tidemark/tidemark/MemoryEntry" "newer" "Lcom/example/tidemark/tidemark/MemoryEntry;" .null := D86 (Or.inl (wk71 hw)) (ty := (.object "com/example/tidemark/tidemark/MemoryEntry")) (by decide)
    obtain ⟨T88, X88, e88, st88⟩ := getS2 X86 hx hZ hown (host := "") (Or.inl (wk12 hw)) Via.refl e86 ((wd0 hW).ext O87.2) (g := (mkF m 43 Lb85 [.null, .null, (.ref b86), (.ref b86)])) rfl (hb hby at_43)
    obtain ⟨_, _, ⟨T89, L89, kk89, nn89⟩, -, X89, ⟨Lc89, hQ89, l89, y89, z89⟩, st89⟩ := X88.specialBack hx (y := ym4) rfl hown (mvT hZ (wk15 hw)) (mvT hZ (wk16 hw)) (mvT hZ (wk17 hw)) (by decide) (backOf (W := 1) (rm3_5 l Z a0 hw w hW [] b86 p0 h86 n0 O87 A86 i86_20 gg86 i86_22 i86_24 i86_31 i86_33 i86_40 i86_42 i86_54) hZ (wk17 hw) (wk11 hw) (by decide) (by decide)) (g := (mkF m 48 Lb85 [(.long p0), (.long (0 : Int64)), (.ref (w 0)), .null, .null, (.ref b86), (.ref b86)])) rfl (by rw [hml]; rfl) (Steps.refl _) (a := b86) (argsL := [.null, .null, (.ref (w 0)), (.long (0 : Int64)), (.long p0)]) (rest := [(.ref b86)]) (lenOf pds_4 rfl) rfl (by show 2 * 0 + _ ≤ _; exact Nat.le_of_eq rfl) (hb hby at_48) (fun _ _ => ⟨rfl, e88, (by decide : 2 + 0 ≤ _), (by decide : 23 + 0 ≤ _)⟩)
    dsimp only [Pt.U, Pt.locs, Pt.cells, Pt.slots] at X89 l89 y89 z89 st89 hQ89
    subst l89 y89 z89
    obtain ⟨rfl, N89q, K89, r89_0, r89_1, r89_2, r89_3, r89_4, r89_5, r89_6, r89_7⟩ := hQ89
    have N89 := Fr.app N84 N89q
    have O90 := own_old O87 K89 (own_ngc gg86 (own_ngc gg86 (own_ngc gg86 (own_ngc gg86 (own_ngc gg86 (own_ngc gg86 (own_ngc gg86 (own_ngc gg86 own_ng0))))))))
    let Lb91 : Array Slot := #[.val (.long p0), .second, .val (.long p1), .second, .val (.long p2), .second, .val (.int p3), .val (.int (0 : Int32)), .val (.int (1 : Int32)), .val (.ref b82), .val (.ref b86), .unset, .unset, .unset, .unset, .unset, .unset, .unset, .unset, .unset]
    obtain ⟨T92, h92, X92, e92, E92, A92, D92, -, st92⟩ := newO X89 hx hZ hown (wk9 hw) (wk10 hw) (wk11 hw) rfl (g := (mkF m 53 Lb91 [])) rfl (hb hby at_53) (by decide) (by decide)
    obtain ⟨b92, g92⟩ : ∃ z, z = T89.heap.size := ⟨_, rfl⟩
    rw [← g92] at A92 D92 st92
    have gg92 : n0 ≤ b92 := by rw [← O90.1, g92]; exact O90.2.1
    have O93 := O90.ext E92
    have i92_20 : Fld Z h92 b92 "com/example/tidemark/tidemark/MemoryEntry" "slot" "I" (.int (0 : Int32)) := D92 (Or.inl (wk20 hw)) (ty := .int) (by decide)
    have i92_22 : Fld Z h92 b92 "com/example/tidemark/tidemark/MemoryEntry" "key" "Ljava/lang/Object;" .null := D92 (Or.inr (wk22 hw)) (ty := (.object "java/lang/Object")) (by decide)
    have i92_24 : Fld Z h92 b92 "com/example/tidemark/tidemark/MemoryEntry" "charge" "J" (.long (0 : Int64)) := D92 (Or.inl (wk24 hw)) (ty := .long) (by decide)
    have i92_31 : Fld Z h92 b92 "com/example/tidemark/tidemark/MemoryEntry" "value" "Ljava/lang/Object;" .null := D92 (Or.inl (wk31 hw)) (ty := (.object "java/lang/Object")) (by decide)
    have i92_33 : Fld Z h92 b92 "com/example/tidemark/tidemark/MemoryEntry" "expiry" "Lcom/example/tidemark/tidemark/Expiry;" .null := D92 (Or.inl (wk33 hw)) (ty := (.object "com/example/tidemark/tidemark/Expiry")) (by decide)
    have i92_40 : Fld Z h92 b92 "com/example/tidemark/tidemark/MemoryEntry" "created" "J" (.long (0 : Int64)) := D92 (Or.inl (wk40 hw)) (ty := .long) (by decide)
    have i92_42 : Fld Z h92 b92 "com/example/tidemark/tidemark/MemoryEntry" "lastUsed" "J" (.long (0 : Int64)) := D92 (Or.inl (wk42 hw)) (ty := .long) (by decide)
    have i92_54 : Fld Z h92 b92 "com/example/tidemark/tidemark/MemoryEntry" "lockFreeValue" "Ljava/lang/Object;" .null := D92 (Or.inl (wk54 hw)) (ty := (.object "java/lang/Object")) (by decide)
    have i92_63 : Fld Z h92 b92 "com/example/tidemark/tidemark/MemoryEntry" "stamp" "J" (.long (0 : Int64)) := D92 (Or.inl (wk63 hw)) (ty := .long) (by decide)
    have i92_65 : Fld Z h92 b92 "com/example/tidemark/tidemark/MemoryEntry" "list" "Lcom/example/tidemark/tidemark/RecencyList;" .null := D92 (Or.inl (wk65 hw)) (ty := (.object "com/example/tidemark/tidemark/RecencyList")) (by decide)
    have i92_69 : Fld Z h92 b92 "com/example/tidemark/tidemark/MemoryEntry" "older" "Lcom/example/tidemark/tidemark/MemoryEntry;" .null := D92 (Or.inl (wk69 hw)) (ty := (.object "com/example/tidemark/tidemark/MemoryEntry")) (by decide)
    have i92_71 : Fld Z h92 b92 "com/example/tidemark/tidemark/MemoryEntry" "newer" "Lcom/example/tidemark/tidemark/MemoryEntry;" .null := D92 (Or.inl (wk71 hw)) (ty := (.object "com/example/tidemark/tidemark/MemoryEntry")) (by decide)
    obtain ⟨T94, X94, e94, st94⟩ := getS2 X92 hx hZ hown (host := "") (Or.inl (wk12 hw)) Via.refl e92 ((wd0 hW).ext O93.2) (g := (mkF m 59 Lb91 [.null, .null, (.ref b92), (.ref b92)])) rfl (hb hby at_59)
    obtain ⟨_, _, ⟨T95, L95, kk95, nn95⟩, -, X95, ⟨Lc95, hQ95, l95, y95, z95⟩, st95⟩ := X94.specialBack hx (y := ym4) rfl hown (mvT hZ (wk15 hw)) (mvT hZ (wk16 hw)) (mvT hZ (wk17 hw)) (by decide) (backOf (W := 1) (rm3_5 l Z a0 hw w hW [] b92 p1 h92 n0 O93 A92 i92_20 gg92 i92_22 i92_24 i92_31 i92_33 i92_40 i92_42 i92_54) hZ (wk17 hw) (wk11 hw) (by decide) (by decide)) (g := (mkF m 64 Lb91 [(.long p1), (.long (0 : Int64)), (.ref (w 0)), .null, .null, (.ref b92), (.ref b92)])) rfl (by rw [hml]; rfl) (Steps.refl _) (a := b92) (argsL := [.null, .null, (.ref (w 0)), (.long (0 : Int64)), (.long p1)]) (rest := [(.ref b92)]) (lenOf pds_4 rfl) rfl (by show 2 * 0 + _ ≤ _; exact Nat.le_of_eq rfl) (hb hby at_64) (fun _ _ => ⟨rfl, e94, (by decide : 3 + 0 ≤ _), (by decide : 41 + 0 ≤ _)⟩)
    dsimp only [Pt.U, Pt.locs, Pt.cells, Pt.slots] at X95 l95 y95 z95 st95 hQ95
    subst l95 y95 z95
    obtain ⟨rfl, N95q, K95, r95_0, r95_1, r95_2, r95_3, r95_4, r95_5, r95_6, r95_7⟩ := hQ95
    have N95 := Fr.app N89 N95q
    have O96 := own_old O93 K95 (own_ngc gg92 (own_ngc gg92 (own_ngc gg92 (own_ngc gg92 (own_ngc gg92 (own_ngc gg92 (own_ngc gg92 (own_ngc gg92 own_ng0))))))))
    let Lb97 : Array Slot := #[.val (.long p0), .second, .val (.long p1), .second, .val (.long p2), .second, .val (.int p3), .val (.int (0 : Int32)), .val (.int (1 : Int32)), .val (.ref b82), .val (.ref b86), .val (.ref b92), .unset, .unset, .unset, .unset, .unset, .unset, .unset, .unset]
    obtain ⟨T98, h98, X98, e98, E98, A98, D98, -, st98⟩ := newO X95 hx hZ hown (wk9 hw) (wk10 hw) (wk11 hw) rfl (g := (mkF m 69 Lb97 [])) rfl (hb hby at_69) (by decide) (by decide)
    obtain ⟨b98, g98⟩ : ∃ z, z = T95.heap.size := ⟨_, rfl⟩
    rw [← g98] at A98 D98 st98
    have gg98 : n0 ≤ b98 := by rw [← O96.1, g98]; exact O96.2.1
    have O99 := O96.ext E98
    have i98_20 : Fld Z h98 b98 "com/example/tidemark/tidemark/MemoryEntry" "slot" "I" (.int (0 : Int32)) := D98 (Or.inl (wk20 hw)) (ty := .int) (by decide)
    have i98_22 : Fld Z h98 b98 "com/example/tidemark/tidemark/MemoryEntry" "key" "Ljava/lang/Object;" .null := D98 (Or.inr (wk22 hw)) (ty := (.object "java/lang/Object")) (by decide)
    have i98_24 : Fld Z h98 b98 "com/example/tidemark/tidemark/MemoryEntry" "charge" "J" (.long (0 : Int64)) := D98 (Or.inl (wk24 hw)) (ty := .long) (by decide)
    have i98_31 : Fld Z h98 b98 "com/example/tidemark/tidemark/MemoryEntry" "value" "Ljava/lang/Object;" .null := D98 (Or.inl (wk31 hw)) (ty := (.object "java/lang/Object")) (by decide)
    have i98_33 : Fld Z h98 b98 "com/example/tidemark/tidemark/MemoryEntry" "expiry" "Lcom/example/tidemark/tidemark/Expiry;" .null := D98 (Or.inl (wk33 hw)) (ty := (.object "com/example/tidemark/tidemark/Expiry")) (by decide)
    have i98_40 : Fld Z h98 b98 "com/example/tidemark/tidemark/MemoryEntry" "created" "J" (.long (0 : Int64)) := D98 (Or.inl (wk40 hw)) (ty := .long) (by decide)
    have i98_42 : Fld Z h98 b98 "com/example/tidemark/tidemark/MemoryEntry" "lastUsed" "J" (.long (0 : Int64)) := D98 (Or.inl (wk42 hw)) (ty := .long) (by decide)
    have i98_54 : Fld Z h98 b98 "com/example/tidemark/tidemark/MemoryEntry" "lockFreeValue" "Ljava/lang/Object;" .null := D98 (Or.inl (wk54 hw)) (ty := (.object "java/lang/Object")) (by decide)
    have i98_63 : Fld Z h98 b98 "com/example/tidemark/tidemark/MemoryEntry" "stamp" "J" (.long (0 : Int64)) := D98 (Or.inl (wk63 hw)) (ty := .long) (by decide)
    have i98_65 : Fld Z h98 b98 "com/example/tidemark/tidemark/MemoryEntry" "list" "Lcom/example/tidemark/tidemark/RecencyList;" .null := D98 (Or.inl (wk65 hw)) (ty := (.object "com/example/tidemark/tidemark/RecencyList")) (by decide)
    have i98_69 : Fld Z h98 b98 "com/example/tidemark/tidemark/MemoryEntry" "older" "Lcom/example/tidemark/tidemark/MemoryEntry;" .null := D98 (Or.inl (wk69 hw)) (ty := (.object "com/example/tidemark/tidemark/MemoryEntry")) (by decide)
    have i98_71 : Fld Z h98 b98 "com/example/tidemark/tidemark/MemoryEntry" "newer" "Lcom/example/tidemark/tidemark/MemoryEntry;" .null := D98 (Or.inl (wk71 hw)) (ty := (.object "com/example/tidemark/tidemark/MemoryEntry")) (by decide)
    obtain ⟨T100, X100, e100, st100⟩ := getS2 X98 hx hZ hown (host := "") (Or.inl (wk12 hw)) Via.refl e98 ((wd0 hW).ext O99.2) (g := (mkF m 75 Lb97 [.null, .null, (.ref b98), (.ref b98)])) rfl (hb hby at_75)
    obtain ⟨_, _, ⟨T101, L101, kk101, nn101⟩, -, X101, ⟨Lc101, hQ101, l101, y101, z101⟩, st101⟩ := X100.specialBack hx (y := ym4) rfl hown (mvT hZ (wk15 hw)) (mvT hZ (wk16 hw)) (mvT hZ (wk17 hw)) (by decide) (backOf (W := 1) (rm3_5 l Z a0 hw w hW [] b98 p2 h98 n0 O99 A98 i98_20 gg98 i98_22 i98_24 i98_31 i98_33 i98_40 i98_42 i98_54) hZ (wk17 hw) (wk11 hw) (by decide) (by decide)) (g := (mkF m 81 Lb97 [(.long p2), (.long (0 : Int64)), (.ref (w 0)), .null, .null, (.ref b98), (.ref b98)])) rfl (by rw [hml]; rfl) (Steps.refl _) (a := b98) (argsL := [.null, .null, (.ref (w 0)), (.long (0 : Int64)), (.long p2)]) (rest := [(.ref b98)]) (lenOf pds_4 rfl) rfl (by show 2 * 0 + _ ≤ _; exact Nat.le_of_eq rfl) (hb hby at_81) (fun _ _ => ⟨rfl, e100, (by decide : 4 + 0 ≤ _), (by decide : 59 + 0 ≤ _)⟩)
    dsimp only [Pt.U, Pt.locs, Pt.cells, Pt.slots] at X101 l101 y101 z101 st101 hQ101
    subst l101 y101 z101
    obtain ⟨rfl, N101q, K101, r101_0, r101_1, r101_2, r101_3, r101_4, r101_5, r101_6, r101_7⟩ := hQ101
    have N101 := Fr.app N95 N101q
    have O102 := own_old O99 K101 (own_ngc gg98 (own_ngc gg98 (own_ngc gg98 (own_ngc gg98 (own_ngc gg98 (own_ngc gg98 (own_ngc gg98 (own_ngc gg98 own_ng0))))))))
    let Lb103 : Array Slot := #[.val (.long p0), .second, .val (.long p1), .second, .val (.long p2), .second, .val (.int p3), .val (.int (0 : Int32)), .val (.int (1 : Int32)), .val (.ref b82), .val (.ref b86), .val (.ref b92), .val (.ref b98), .unset, .unset, .unset, .unset, .unset, .unset, .unset]
    have ne104 : b82 ≠ b86 := (Nat.ne_of_lt (Nat.lt_of_lt_of_le A82.lt (Nat.le_of_eq g86.symm)))
    have ne105 : b82 ≠ b92 := (Nat.ne_of_lt (Nat.lt_of_lt_of_le (Nat.lt_of_lt_of_le (Nat.lt_of_lt_of_le A82.lt E86.1) K89.1) (Nat.le_of_eq g92.symm)))
    have ne106 : b82 ≠ b98 := (Nat.ne_of_lt (Nat.lt_of_lt_of_le (Nat.lt_of_lt_of_le (Nat.lt_of_lt_of_le (Nat.lt_of_lt_of_le (Nat.lt_of_lt_of_le A82.lt E86.1) K89.1) E92.1) K95.1) (Nat.le_of_eq g98.symm)))
    have t107 := (own_fld ((own_fld ((own_fld (i82_61.ext E86) K89 (own_nlb ne104 (own_nlb ne104 (own_nlb ne104 (own_nlb ne104 (own_nlb ne104 (own_nlb ne104 (own_nlb ne104 (own_nlb ne104 own_nl0))))))))).ext E92) K95 (own_nlb ne105 (own_nlb ne105 (own_nlb ne105 (own_nlb ne105 (own_nlb ne105 (own_nlb ne105 (own_nlb ne105 (own_nlb ne105 own_nl0))))))))).ext E98) K101 (own_nlb ne106 (own_nlb ne106 (own_nlb ne106 (own_nlb ne106 (own_nlb ne106 (own_nlb ne106 (own_nlb ne106 (own_nlb ne106 own_nl0)))))))))
    have t108 := (own_exa ((own_exa ((own_exa (A82.ext E86) K89).ext E92) K95).ext E98) K101)
    have t109 := (own_exa ((own_exa ((own_exa A86 K89).ext E92) K95).ext E98) K101)
    have ne110 : b86 ≠ b92 := (Nat.ne_of_lt (Nat.lt_of_lt_of_le (Nat.lt_of_lt_of_le A86.lt K89.1) (Nat.le_of_eq g92.symm)))
    have ne111 : b86 ≠ b98 := (Nat.ne_of_lt (Nat.lt_of_lt_of_le (Nat.lt_of_lt_of_le (Nat.lt_of_lt_of_le (Nat.lt_of_lt_of_le A86.lt K89.1) E92.1) K95.1) (Nat.le_of_eq g98.symm)))
    have t112 := (own_fld ((own_fld ((own_fld i86_63 K89 (own_nls (sn99 hw) (own_nls (sn98 hw) (own_nls (sn97 hw) (own_nls (sn96 hw) (own_nls (sn95 hw) (own_nls (sn94 hw) (own_nls (sn93 hw) (own_nls (sn92 hw) own_nl0))))))))).ext E92) K95 (own_nlb ne110 (own_nlb ne110 (own_nlb ne110 (own_nlb ne110 (own_nlb ne110 (own_nlb ne110 (own_nlb ne110 (own_nlb ne110 own_nl0))))))))).ext E98) K101 (own_nlb ne111 (own_nlb ne111 (own_nlb ne111 (own_nlb ne111 (own_nlb ne111 (own_nlb ne111 (own_nlb ne111 (own_nlb ne111 own_nl0)))))))))
    have t113 := (own_fld ((own_fld ((own_fld i86_65 K89 (own_nls (sn107 hw) (own_nls (sn106 hw) (own_nls (sn105 hw) (own_nls (sn104 hw) (own_nls (sn103 hw) (own_nls (sn102 hw) (own_nls (sn101 hw) (own_nls (sn100 hw) own_nl0))))))))).ext E92) K95 (own_nlb ne110 (own_nlb ne110 (own_nlb ne110 (own_nlb ne110 (own_nlb ne110 (own_nlb ne110 (own_nlb ne110 (own_nlb ne110 own_nl0))))))))).ext E98) K101 (own_nlb ne111 (own_nlb ne111 (own_nlb ne111 (own_nlb ne111 (own_nlb ne111 (own_nlb ne111 (own_nlb ne111 (own_nlb ne111 own_nl0)))))))))
    have t114 := (own_fld ((own_fld ((own_fld (i82_67.ext E86) K89 (own_nlb ne104 (own_nlb ne104 (own_nlb ne104 (own_nlb ne104 (own_nlb ne104 (own_nlb ne104 (own_nlb ne104 (own_nlb ne104 own_nl0))))))))).ext E92) K95 (own_nlb ne105 (own_nlb ne105 (own_nlb ne105 (own_nlb ne105 (own_nlb ne105 (own_nlb ne105 (own_nlb ne105 (own_nlb ne105 own_nl0))))))))).ext E98) K101 (own_nlb ne106 (own_nlb ne106 (own_nlb ne106 (own_nlb ne106 (own_nlb ne106 (own_nlb ne106 (own_nlb ne106 (own_nlb ne106 own_nl0)))))))))
    have t115 := (own_fld ((own_fld ((own_fld i86_69 K89 (own_nls (sn115 hw) (own_nls (sn114 hw) (own_nls (sn113 hw) (own_nls (sn112 hw) (own_nls (sn111 hw) (own_nls (sn110 hw) (own_nls (sn109 hw) (own_nls (sn108 hw) own_nl0))))))))).ext E92) K95 (own_nlb ne110 (own_nlb ne110 (own_nlb ne110 (own_nlb ne110 (own_nlb ne110 (own_nlb ne110 (own_nlb ne110 (own_nlb ne110 own_nl0))))))))).ext E98) K101 (own_nlb ne111 (own_nlb ne111 (own_nlb ne111 (own_nlb ne111 (own_nlb ne111 (own_nlb ne111 (own_nlb ne111 (own_nlb ne111 own_nl0)))))))))
    have t116 := (own_fld ((own_fld ((own_fld i86_71 K89 (own_nls (sn123 hw) (own_nls (sn122 hw) (own_nls (sn121 hw) (own_nls (sn120 hw) (own_nls (sn119 hw) (own_nls (sn118 hw) (own_nls (sn117 hw) (own_nls (sn116 hw) own_nl0))))))))).ext E92) K95 (own_nlb ne110 (own_nlb ne110 (own_nlb ne110 (own_nlb ne110 (own_nlb ne110 (own_nlb ne110 (own_nlb ne110 (own_nlb ne110 own_nl0))))))))).ext E98) K101 (own_nlb ne111 (own_nlb ne111 (own_nlb ne111 (own_nlb ne111 (own_nlb ne111 (own_nlb ne111 (own_nlb ne111 (own_nlb ne111 own_nl0)))))))))
    have t117 := (own_fld ((own_fld ((own_fld (i82_73.ext E86) K89 (own_nlb ne104 (own_nlb ne104 (own_nlb ne104 (own_nlb ne104 (own_nlb ne104 (own_nlb ne104 (own_nlb ne104 (own_nlb ne104 own_nl0))))))))).ext E92) K95 (own_nlb ne105 (own_nlb ne105 (own_nlb ne105 (own_nlb ne105 (own_nlb ne105 (own_nlb ne105 (own_nlb ne105 (own_nlb ne105 own_nl0))))))))).ext E98) K101 (own_nlb ne106 (own_nlb ne106 (own_nlb ne106 (own_nlb ne106 (own_nlb ne106 (own_nlb ne106 (own_nlb ne106 (own_nlb ne106 own_nl0)))))))))
    have t118 := (own_fld ((own_fld ((own_fld (i82_75.ext E86) K89 (own_nlb ne104 (own_nlb ne104 (own_nlb ne104 (own_nlb ne104 (own_nlb ne104 (own_nlb ne104 (own_nlb ne104 (own_nlb ne104 own_nl0))))))))).ext E92) K95 (own_nlb ne105 (own_nlb ne105 (own_nlb ne105 (own_nlb ne105 (own_nlb ne105 (own_nlb ne105 (own_nlb ne105 (own_nlb ne105 own_nl0))))))))).ext E98) K101 (own_nlb ne106 (own_nlb ne106 (own_nlb ne106 (own_nlb ne106 (own_nlb ne106 (own_nlb ne106 (own_nlb ne106 (own_nlb ne106 own_nl0)))))))))
    have t119 := (own_fld ((own_fld ((own_fld (i82_77.ext E86) K89 (own_nlb ne104 (own_nlb ne104 (own_nlb ne104 (own_nlb ne104 (own_nlb ne104 (own_nlb ne104 (own_nlb ne104 (own_nlb ne104 own_nl0))))))))).ext E92) K95 (own_nlb ne105 (own_nlb ne105 (own_nlb ne105 (own_nlb ne105 (own_nlb ne105 (own_nlb ne105 (own_nlb ne105 (own_nlb ne105 own_nl0))))))))).ext E98) K101 (own_nlb ne106 (own_nlb ne106 (own_nlb ne106 (own_nlb ne106 (own_nlb ne106 (own_nlb ne106 (own_nlb ne106 (own_nlb ne106 own_nl0)))))))))
    have t120 := (own_fld ((own_fld (r89_2.ext E92) K95 (own_nlb ne110 (own_nlb ne110 (own_nlb ne110 (own_nlb ne110 (own_nlb ne110 (own_nlb ne110 (own_nlb ne110 (own_nlb ne110 own_nl0))))))))).ext E98) K101 (own_nlb ne111 (own_nlb ne111 (own_nlb ne111 (own_nlb ne111 (own_nlb ne111 (own_nlb ne111 (own_nlb ne111 (own_nlb ne111 own_nl0)))))))))
    obtain ⟨cq121, kq121, q121a, q121b, q121c⟩ := isOf hZ rfl t108
    obtain ⟨_, _, ⟨T121, L121, kk121, nn121⟩, -, X121, ⟨Lc121, hQ121, l121, y121, z121⟩, st121⟩ := X101.virtualBack hx (y := ym5) (z := ym5) hown (mvT hZ (wk55 hw)) (mvT hZ (wk56 hw)) (notFace_of_selects (args := #[]) (mvT hZ (wk58 hw))) (mvT hZ (wk58 hw)) (mvT hZ (wk57 hw)) (by decide) (backOf (W := 0) (rm7_6 l Z a0 hw w hW [] b82 b86 p0 T101.heap n0 O102 t107 t108 gg82 t109 t112 (Ne.symm ne104) gg86 t113 t114 t115 t116 t117 t118 t119 t120) hZ (wk59 hw) (wk2 hw) (by decide) (by decide)) q121a q121c (g := (mkF m 90 Lb103 [(.ref b86), (.ref b82)])) rfl (by rw [hml]; rfl) (Steps.refl _) (argsL := [(.ref b86)]) (rest := []) (lenOf pds_5 rfl) rfl (by show 2 * 0 + _ ≤ _; exact Nat.le_of_eq rfl) (hb hby at_90) (fun _ _ => ⟨rfl, rfl, (by decide : 4 + 0 ≤ _), (by decide : 59 + 0 ≤ _)⟩)
    dsimp only [Pt.U, Pt.locs, Pt.cells, Pt.slots] at X121 l121 y121 z121 st121 hQ121
    subst l121 y121 z121
    obtain ⟨rfl, N121q, K121, r121_0, r121_1, r121_2, r121_3, r121_4, r121_5, r121_6, r121_7, r121_8⟩ := hQ121
    have N121 := Fr.app N101 N121q
    have O122 := own_old O102 K121 (own_ngc gg82 (own_ngc gg86 (own_ngc gg86 (own_ngc gg86 (own_ngc gg86 (own_ngc gg82 (own_ngc gg82 (own_ngc gg82 (own_ngc gg82 own_ng0)))))))))
    obtain ⟨T123, X123, e123, st123⟩ := getF X121 hx hZ hown (host := "") (Or.inl (wk79 hw)) Via.refl rfl r121_1 (g := (mkF m 95 Lb103 [(.ref b86)])) rfl rfl (hb hby at_95)
    obtain ⟨T124, X124, e124, st124⟩ := getF X123 hx hZ hown (host := "") (Or.inl (wk80 hw)) Via.refl e123 r121_2 (g := (mkF m 105 Lb103 [(.ref b86)])) rfl rfl (hb hby at_105)
    obtain ⟨T125, X125, e125, st125⟩ := getF X124 hx hZ hown (host := "") (Or.inl (wk81 hw)) Via.refl e124 r121_4 (g := (mkF m 115 Lb103 [(.ref b86)])) rfl rfl (hb hby at_115)
    obtain ⟨T126, X126, e126, st126⟩ := getF X125 hx hZ hown (host := "") (Or.inl (wk82 hw)) Via.refl e125 r121_5 (g := (mkF m 123 Lb103 [(.ref b86)])) rfl rfl (hb hby at_123)
    let Lb127 : Array Slot := #[.val (.long p0), .second, .val (.long p1), .second, .val (.long p2), .second, .val (.int p3), .val (.int (0 : Int32)), .val (.int (1 : Int32)), .val (.ref b82), .val (.ref b86), .val (.ref b92), .val (.ref b98), .val (.int (1 : Int32)), .unset, .unset, .unset, .unset, .unset, .unset]
    let Lb128 : Array Slot := #[.val (.long p0), .second, .val (.long p1), .second, .val (.long p2), .second, .val (.int p3), .val (.int (0 : Int32)), .val (.int (1 : Int32)), .val (.ref b82), .val (.ref b86), .val (.ref b92), .val (.ref b98), .val (.int (1 : Int32)), .val (.long (0 : Int64)), .second, .unset, .unset, .unset, .unset]
    have t129 := (own_exa t108 K121)
    have t130 := (own_exa t109 K121)
    have t131 := (own_fld t120 K121 (own_nlb (Ne.symm ne104) (own_nls (sn72 hw) (own_nls (sn73 hw) (own_nls (sn74 hw) (own_nls (sn75 hw) (own_nlb (Ne.symm ne104) (own_nlb (Ne.symm ne104) (own_nlb (Ne.symm ne104) (own_nlb (Ne.symm ne104) own_nl0))))))))))
    obtain ⟨cq132, kq132, q132a, q132b, q132c⟩ := isOf hZ e126 t129
    obtain ⟨_, _, ⟨T132, L132, kk132, nn132⟩, -, X132, ⟨Lc132, hQ132, l132, y132, z132⟩, st132⟩ := X126.virtualBack hx (y := ym9) (z := ym9) hown (mvT hZ (wk83 hw)) (mvT hZ (wk84 hw)) (notFace_of_selects (args := #[]) (mvT hZ (wk86 hw))) (mvT hZ (wk86 hw)) (mvT hZ (wk85 hw)) (by decide) (backOf (W := 0) (rm8_11 l Z a0 hw w hW [] b82 b86 ((0 : Int64) + p0) p0 T121.heap n0 O122 r121_4 r121_5 t129 r121_6 gg82 (Ne.symm ne104) r121_3 t130 gg86 r121_2 r121_7 r121_8 t131) hZ (wk87 hw) (wk2 hw) (by decide) (by decide)) q132a q132c (g := (mkF m 148 Lb128 [(.ref b86), (.ref b82)])) rfl (by rw [hml]; rfl) (Steps.refl _) (argsL := [(.ref b86)]) (rest := []) (lenOf pds_5 rfl) rfl (by show 2 * 0 + _ ≤ _; exact Nat.le_of_eq rfl) (hb hby at_148) (fun _ _ => ⟨rfl, e126, (by decide : 4 + 0 ≤ _), (by decide : 59 + 0 ≤ _)⟩)
    dsimp only [Pt.U, Pt.locs, Pt.cells, Pt.slots] at X132 l132 y132 z132 st132 hQ132
    subst l132 y132 z132
    obtain ⟨rfl, N132q, K132, r132_0, r132_1, r132_2, r132_3, r132_4, r132_5, r132_6⟩ := hQ132
    have N132 := Fr.app N121 N132q
    have O133 := own_old O122 K132 (own_ngc gg82 (own_ngc gg82 (own_ngc gg86 (own_ngc gg86 (own_ngc gg86 (own_ngc gg82 (own_ngc gg82 own_ng0)))))))
    have t134 := (own_fld r121_0 K132 (own_nls (sn76 hw) (own_nls (sn77 hw) (own_nlb ne104 (own_nlb ne104 (own_nlb ne104 (own_nls (sn78 hw) (own_nls (sn79 hw) own_nl0))))))))
    have t135 := (own_exa t129 K132)
    have t136 := (own_exa t130 K132)
    have t137 := (own_fld r121_1 K132 (own_nlb (Ne.symm ne104) (own_nlb (Ne.symm ne104) (own_nls (sn81 hw) (own_nls (sn82 hw) (own_nls (sn80 hw) (own_nlb (Ne.symm ne104) (own_nlb (Ne.symm ne104) own_nl0))))))))
    have t138 := (own_fld t131 K132 (own_nlb (Ne.symm ne104) (own_nlb (Ne.symm ne104) (own_nls (sn74 hw) (own_nls (sn75 hw) (own_nls (sn73 hw) (own_nlb (Ne.symm ne104) (own_nlb (Ne.symm ne104) own_nl0))))))))
    obtain ⟨cq139, kq139, q139a, q139b, q139c⟩ := isOf hZ rfl t135
    obtain ⟨_, _, ⟨T139, L139, kk139, nn139⟩, -, X139, ⟨Lc139, hQ139, l139, y139, z139⟩, st139⟩ := X132.virtualBack hx (y := ym5) (z := ym5) hown (mvT hZ (wk55 hw)) (mvT hZ (wk56 hw)) (notFace_of_selects (args := #[]) (mvT hZ (wk58 hw))) (mvT hZ (wk58 hw)) (mvT hZ (wk57 hw)) (by decide) (backOf (W := 0) (rm7_12 l Z a0 hw w hW [] b82 b86 (((0 : Int64) + p0) - p0) p0 T132.heap n0 O133 t134 t135 gg82 t136 t137 (Ne.symm ne104) gg86 r132_4 r132_3 r132_0 r132_1 r132_2 r132_5 r132_6 t138) hZ (wk59 hw) (wk2 hw) (by decide) (by decide)) q139a q139c (g := (mkF m 155 Lb128 [(.ref b86), (.ref b82)])) rfl (by rw [hml]; rfl) (Steps.refl _) (argsL := [(.ref b86)]) (rest := []) (lenOf pds_5 rfl) rfl (by show 2 * 0 + _ ≤ _; exact Nat.le_of_eq rfl) (hb hby at_155) (fun _ _ => ⟨rfl, rfl, (by decide : 4 + 0 ≤ _), (by decide : 59 + 0 ≤ _)⟩)
    dsimp only [Pt.U, Pt.locs, Pt.cells, Pt.slots] at X139 l139 y139 z139 st139 hQ139
    subst l139 y139 z139
    obtain ⟨rfl, N139q, K139, r139_0, r139_1, r139_2, r139_3, r139_4, r139_5, r139_6, r139_7, r139_8⟩ := hQ139
    have N139 := Fr.app N132 N139q
    have O140 := own_old O133 K139 (own_ngc gg82 (own_ngc gg86 (own_ngc gg86 (own_ngc gg86 (own_ngc gg86 (own_ngc gg82 (own_ngc gg82 (own_ngc gg82 (own_ngc gg82 own_ng0)))))))))
    obtain ⟨T141, X141, e141, st141⟩ := getF X139 hx hZ hown (host := "") (Or.inl (wk79 hw)) Via.refl rfl r139_1 (g := (mkF m 165 Lb128 [(.ref b86)])) rfl rfl (hb hby at_165)
    obtain ⟨T142, X142, e142, st142⟩ := getF X141 hx hZ hown (host := "") (Or.inl (wk80 hw)) Via.refl e141 r139_2 (g := (mkF m 177 Lb128 [(.ref b86)])) rfl rfl (hb hby at_177)
    obtain ⟨T143, X143, e143, st143⟩ := getF X142 hx hZ hown (host := "") (Or.inl (wk81 hw)) Via.refl e142 r139_4 (g := (mkF m 187 Lb128 [(.ref b86)])) rfl rfl (hb hby at_187)
    obtain ⟨T144, X144, e144, st144⟩ := getF X143 hx hZ hown (host := "") (Or.inl (wk82 hw)) Via.refl e143 r139_5 (g := (mkF m 195 Lb128 [(.ref b86)])) rfl rfl (hb hby at_195)
    let Lb145 : Array Slot := #[.val (.long p0), .second, .val (.long p1), .second, .val (.long p2), .second, .val (.int p3), .val (.int (0 : Int32)), .val (.int (1 : Int32)), .val (.ref b82), .val (.ref b86), .val (.ref b92), .val (.ref b98), .val (.int (1 : Int32)), .val (.long (1 : Int64)), .second, .unset, .unset, .unset, .unset]
    have t146 := (own_exa t135 K139)
    have t147 := (own_exa (own_exa (own_exa (own_exa ((own_exa A92 K95).ext E98) K101) K121) K132) K139)
    have ne148 : b92 ≠ b98 := (Nat.ne_of_lt (Nat.lt_of_lt_of_le (Nat.lt_of_lt_of_le A92.lt K95.1) (Nat.le_of_eq g98.symm)))
    have t149 := (own_fld (own_fld (own_fld (own_fld ((own_fld i92_63 K95 (own_nls (sn99 hw) (own_nls (sn98 hw) (own_nls (sn97 hw) (own_nls (sn96 hw) (own_nls (sn95 hw) (own_nls (sn94 hw) (own_nls (sn93 hw) (own_nls (sn92 hw) own_nl0))))))))).ext E98) K101 (own_nlb ne148 (own_nlb ne148 (own_nlb ne148 (own_nlb ne148 (own_nlb ne148 (own_nlb ne148 (own_nlb ne148 (own_nlb ne148 own_nl0))))))))) K121 (own_nlb (Ne.symm ne105) (own_nlb (Ne.symm ne110) (own_nlb (Ne.symm ne110) (own_nlb (Ne.symm ne110) (own_nlb (Ne.symm ne110) (own_nlb (Ne.symm ne105) (own_nlb (Ne.symm ne105) (own_nlb (Ne.symm ne105) (own_nlb (Ne.symm ne105) own_nl0)))))))))) K132 (own_nlb (Ne.symm ne105) (own_nlb (Ne.symm ne105) (own_nlb (Ne.symm ne110) (own_nlb (Ne.symm ne110) (own_nlb (Ne.symm ne110) (own_nlb (Ne.symm ne105) (own_nlb (Ne.symm ne105) own_nl0)))))))) K139 (own_nlb (Ne.symm ne105) (own_nlb (Ne.symm ne110) (own_nlb (Ne.symm ne110) (own_nlb (Ne.symm ne110) (own_nlb (Ne.symm ne110) (own_nlb (Ne.symm ne105) (own_nlb (Ne.symm ne105) (own_nlb (Ne.symm ne105) (own_nlb (Ne.symm ne105) own_nl0))))))))))
    have t150 := (own_fld (own_fld (own_fld (own_fld ((own_fld i92_65 K95 (own_nls (sn107 hw) (own_nls (sn106 hw) (own_nls (sn105 hw) (own_nls (sn104 hw) (own_nls (sn103 hw) (own_nls (sn102 hw) (own_nls (sn101 hw) (own_nls (sn100 hw) own_nl0))))))))).ext E98) K101 (own_nlb ne148 (own_nlb ne148 (own_nlb ne148 (own_nlb ne148 (own_nlb ne148 (own_nlb ne148 (own_nlb ne148 (own_nlb ne148 own_nl0))))))))) K121 (own_nlb (Ne.symm ne105) (own_nlb (Ne.symm ne110) (own_nlb (Ne.symm ne110) (own_nlb (Ne.symm ne110) (own_nlb (Ne.symm ne110) (own_nlb (Ne.symm ne105) (own_nlb (Ne.symm ne105) (own_nlb (Ne.symm ne105) (own_nlb (Ne.symm ne105) own_nl0)))))))))) K132 (own_nlb (Ne.symm ne105) (own_nlb (Ne.symm ne105) (own_nlb (Ne.symm ne110) (own_nlb (Ne.symm ne110) (own_nlb (Ne.symm ne110) (own_nlb (Ne.symm ne105) (own_nlb (Ne.symm ne105) own_nl0)))))))) K139 (own_nlb (Ne.symm ne105) (own_nlb (Ne.symm ne110) (own_nlb (Ne.symm ne110) (own_nlb (Ne.symm ne110) (own_nlb (Ne.symm ne110) (own_nlb (Ne.symm ne105) (own_nlb (Ne.symm ne105) (own_nlb (Ne.symm ne105) (own_nlb (Ne.symm ne105) own_nl0))))))))))
    have t151 := (own_fld (own_fld (own_fld (own_fld ((own_fld i92_69 K95 (own_nls (sn115 hw) (own_nls (sn114 hw) (own_nls (sn113 hw) (own_nls (sn112 hw) (own_nls (sn111 hw) (own_nls (sn110 hw) (own_nls (sn109 hw) (own_nls (sn108 hw) own_nl0))))))))).ext E98) K101 (own_nlb ne148 (own_nlb ne148 (own_nlb ne148 (own_nlb ne148 (own_nlb ne148 (own_nlb ne148 (own_nlb ne148 (own_nlb ne148 own_nl0))))))))) K121 (own_nlb (Ne.symm ne105) (own_nlb (Ne.symm ne110) (own_nlb (Ne.symm ne110) (own_nlb (Ne.symm ne110) (own_nlb (Ne.symm ne110) (own_nlb (Ne.symm ne105) (own_nlb (Ne.symm ne105) (own_nlb (Ne.symm ne105) (own_nlb (Ne.symm ne105) own_nl0)))))))))) K132 (own_nlb (Ne.symm ne105) (own_nlb (Ne.symm ne105) (own_nlb (Ne.symm ne110) (own_nlb (Ne.symm ne110) (own_nlb (Ne.symm ne110) (own_nlb (Ne.symm ne105) (own_nlb (Ne.symm ne105) own_nl0)))))))) K139 (own_nlb (Ne.symm ne105) (own_nlb (Ne.symm ne110) (own_nlb (Ne.symm ne110) (own_nlb (Ne.symm ne110) (own_nlb (Ne.symm ne110) (own_nlb (Ne.symm ne105) (own_nlb (Ne.symm ne105) (own_nlb (Ne.symm ne105) (own_nlb (Ne.symm ne105) own_nl0))))))))))
    have t152 := (own_fld (own_fld (own_fld (own_fld ((own_fld i92_71 K95 (own_nls (sn123 hw) (own_nls (sn122 hw) (own_nls (sn121 hw) (own_nls (sn120 hw) (own_nls (sn119 hw) (own_nls (sn118 hw) (own_nls (sn117 hw) (own_nls (sn116 hw) own_nl0))))))))).ext E98) K101 (own_nlb ne148 (own_nlb ne148 (own_nlb ne148 (own_nlb ne148 (own_nlb ne148 (own_nlb ne148 (own_nlb ne148 (own_nlb ne148 own_nl0))))))))) K121 (own_nlb (Ne.symm ne105) (own_nlb (Ne.symm ne110) (own_nlb (Ne.symm ne110) (own_nlb (Ne.symm ne110) (own_nlb (Ne.symm ne110) (own_nlb (Ne.symm ne105) (own_nlb (Ne.symm ne105) (own_nlb (Ne.symm ne105) (own_nlb (Ne.symm ne105) own_nl0)))))))))) K132 (own_nlb (Ne.symm ne105) (own_nlb (Ne.symm ne105) (own_nlb (Ne.symm ne110) (own_nlb (Ne.symm ne110) (own_nlb (Ne.symm ne110) (own_nlb (Ne.symm ne105) (own_nlb (Ne.symm ne105) own_nl0)))))))) K139 (own_nlb (Ne.symm ne105) (own_nlb (Ne.symm ne110) (own_nlb (Ne.symm ne110) (own_nlb (Ne.symm ne110) (own_nlb (Ne.symm ne110) (own_nlb (Ne.symm ne105) (own_nlb (Ne.symm ne105) (own_nlb (Ne.symm ne105) (own_nlb (Ne.symm ne105) own_nl0))))))))))
    have t153 := (own_exa t136 K139)
    have t154 := (own_fld (own_fld (own_fld (own_fld (r95_2.ext E98) K101 (own_nlb ne148 (own_nlb ne148 (own_nlb ne148 (own_nlb ne148 (own_nlb ne148 (own_nlb ne148 (own_nlb ne148 (own_nlb ne148 own_nl0))))))))) K121 (own_nlb (Ne.symm ne105) (own_nlb (Ne.symm ne110) (own_nlb (Ne.symm ne110) (own_nlb (Ne.symm ne110) (own_nlb (Ne.symm ne110) (own_nlb (Ne.symm ne105) (own_nlb (Ne.symm ne105) (own_nlb (Ne.symm ne105) (own_nlb (Ne.symm ne105) own_nl0)))))))))) K132 (own_nlb (Ne.symm ne105) (own_nlb (Ne.symm ne105) (own_nlb (Ne.symm ne110) (own_nlb (Ne.symm ne110) (own_nlb (Ne.symm ne110) (own_nlb (Ne.symm ne105) (own_nlb (Ne.symm ne105) own_nl0)))))))) K139 (own_nlb (Ne.symm ne105) (own_nlb (Ne.symm ne110) (own_nlb (Ne.symm ne110) (own_nlb (Ne.symm ne110) (own_nlb (Ne.symm ne110) (own_nlb (Ne.symm ne105) (own_nlb (Ne.symm ne105) (own_nlb (Ne.symm ne105) (own_nlb (Ne.symm ne105) own_nl0))))))))))
    obtain ⟨cq155, kq155, q155a, q155b, q155c⟩ := isOf hZ e144 t146
    obtain ⟨_, _, ⟨T155, L155, kk155, nn155⟩, -, X155, ⟨Lc155, hQ155, l155, y155, z155⟩, st155⟩ := X144.virtualBack hx (y := ym5) (z := ym5) hown (mvT hZ (wk55 hw)) (mvT hZ (wk56 hw)) (notFace_of_selects (args := #[]) (mvT hZ (wk58 hw))) (mvT hZ (wk58 hw)) (mvT hZ (wk57 hw)) (by decide) (backOf (W := 0) (rm7_13 l Z a0 hw w hW [] b82 b92 b86 ((((0 : Int64) + p0) - p0) + p0) p1 T139.heap n0 O140 r139_0 t146 gg82 t147 t149 (Ne.symm ne105) gg92 t150 r139_3 t151 t152 t153 r139_5 (Ne.symm ne104) ne110 gg86 r139_7 r139_8 t154) hZ (wk59 hw) (wk2 hw) (by decide) (by decide)) q155a q155c (g := (mkF m 215 Lb145 [(.ref b92), (.ref b82)])) rfl (by rw [hml]; rfl) (Steps.refl _) (argsL := [(.ref b92)]) (rest := []) (lenOf pds_5 rfl) rfl (by show 2 * 0 + _ ≤ _; exact Nat.le_of_eq rfl) (hb hby at_215) (fun _ _ => ⟨rfl, e144, (by decide : 4 + 0 ≤ _), (by decide : 59 + 0 ≤ _)⟩)
    dsimp only [Pt.U, Pt.locs, Pt.cells, Pt.slots] at X155 l155 y155 z155 st155 hQ155
    subst l155 y155 z155
    obtain ⟨rfl, N155q, K155, r155_0, r155_1, r155_2, r155_3, r155_4, r155_5, r155_6, r155_7, r155_8⟩ := hQ155
    have N155 := Fr.app N139 N155q
    have O156 := own_old O140 K155 (own_ngc gg82 (own_ngc gg92 (own_ngc gg92 (own_ngc gg92 (own_ngc gg92 (own_ngc gg86 (own_ngc gg82 (own_ngc gg82 (own_ngc gg82 own_ng0)))))))))
    obtain ⟨T157, X157, e157, st157⟩ := getF X155 hx hZ hown (host := "") (Or.inl (wk79 hw)) Via.refl rfl r155_1 (g := (mkF m 225 Lb145 [(.ref b92)])) rfl rfl (hb hby at_225)
    obtain ⟨T158, X158, e158, st158⟩ := getF X157 hx hZ hown (host := "") (Or.inl (wk80 hw)) Via.refl e157 r155_2 (g := (mkF m 240 Lb145 [(.ref b92)])) rfl rfl (hb hby at_240)
    obtain ⟨T159, X159, e159, st159⟩ := getF X158 hx hZ hown (host := "") (Or.inl (wk81 hw)) Via.refl e158 r155_4 (g := (mkF m 250 Lb145 [(.ref b92)])) rfl rfl (hb hby at_250)
    obtain ⟨T160, X160, e160, st160⟩ := getF X159 hx hZ hown (host := "") (Or.inl (wk82 hw)) Via.refl e159 r155_5 (g := (mkF m 260 Lb145 [(.ref b92)])) rfl rfl (hb hby at_260)
    obtain ⟨T161, X161, e161, st161⟩ := getF X160 hx hZ hown (host := "") (Or.inl (wk82 hw)) Via.refl e160 r155_6 (g := (mkF m 268 Lb145 [(.ref b86)])) rfl rfl (hb hby at_268)
    have t162 := (own_fld r139_4 K155 (own_nlb (Ne.symm ne104) (own_nlb ne110 (own_nlb ne110 (own_nlb ne110 (own_nlb ne110 (own_nls (sn87 hw) (own_nlb (Ne.symm ne104) (own_nlb (Ne.symm ne104) (own_nlb (Ne.symm ne104) own_nl0))))))))))
    obtain ⟨T163, X163, e163, st163⟩ := getF X161 hx hZ hown (host := "") (Or.inl (wk81 hw)) Via.refl e161 t162 (g := (mkF m 278 Lb145 [(.ref b86)])) rfl rfl (hb hby at_278)
    have pre164 : ∀ t, Steps p.tables e below (T163.setTop (mkF m 289 Lb145 [(.int (1 : Int32))])) t → Steps p.tables e below (s₁.setTop (entryFrame m #[(.long p0), (.long p1), (.long p2), (.int p3)] maxLocals)) t := fun t k => pre4 t (by
     show Steps p.tables e below (s₁.setTop (mkF m 18 Lb3 [(.int (p3 &&& (2 : Int32)))])) _
     refine sN X0 hx hby at_18 ((if0 _ _).trans (feq (hc5 : ¬ ((p3 &&& (2 : Int32)) = (0 : Int32)))).1) ?_
     refine sc X0 hx hby at_21 ?_
     refine sg (pc := 22) (pc' := 26) X0 hx hby at_22 (by decide) (by decide) ?_
     refine XS.istore X0.here hx rfl (hb hby at_26) rfl (l' := Lb81) rfl ?_
     refine st82 _ ?_
     refine XS.dup X82.here hx rfl (hb hby at_31) rfl rfl ?_
     refine st84.trans ?_
     refine XS.astore X84.here hx rfl (hb hby at_35) rfl rfl (l' := Lb85) rfl ?_
     refine st86 _ ?_
     refine XS.dup X86.here hx rfl (hb hby at_40) rfl rfl ?_
     refine XS.aconstNull X86.here hx rfl (hb hby at_41) ?_
     refine XS.aconstNull X86.here hx rfl (hb hby at_42) ?_
     refine st88 _ ?_
     refine XS.lconst X88.here hx rfl (hb hby at_46) ?_
     refine sL X88 hx hby at_47 rfl ?_
     refine st89.trans ?_
     refine XS.astore X89.here hx rfl (hb hby at_51) rfl rfl (l' := Lb91) rfl ?_
     refine st92 _ ?_
     refine XS.dup X92.here hx rfl (hb hby at_56) rfl rfl ?_
     refine XS.aconstNull X92.here hx rfl (hb hby at_57) ?_
     refine XS.aconstNull X92.here hx rfl (hb hby at_58) ?_
     refine st94 _ ?_
     refine XS.lconst X94.here hx rfl (hb hby at_62) ?_
     refine sL X94 hx hby at_63 rfl ?_
     refine st95.trans ?_
     refine XS.astore X95.here hx rfl (hb hby at_67) rfl rfl (l' := Lb97) rfl ?_
     refine st98 _ ?_
     refine XS.dup X98.here hx rfl (hb hby at_72) rfl rfl ?_
     refine XS.aconstNull X98.here hx rfl (hb hby at_73) ?_
     refine XS.aconstNull X98.here hx rfl (hb hby at_74) ?_
     refine st100 _ ?_
     refine XS.lconst X100.here hx rfl (hb hby at_78) ?_
     refine XS.lload X100.here hx rfl (hb hby at_79) rfl ?_
     refine st101.trans ?_
     refine XS.astore X101.here hx rfl (hb hby at_84) rfl rfl (l' := Lb103) rfl ?_
     refine sa X101 hx hby at_86 rfl rfl ?_
     refine sa X101 hx hby at_88 rfl rfl ?_
     refine st121.trans ?_
     refine sa X121 hx hby at_93 rfl rfl ?_
     refine st123 _ ?_
     refine XS.lconst X123.here hx rfl (hb hby at_98) ?_
     refine XS.lcmp X123.here hx rfl (hb hby at_99) rfl ?_
     refine sN X123 hx hby at_100 (by decide) ?_
     refine sa X123 hx hby at_103 rfl rfl ?_
     refine st124 _ ?_
     refine sa X124 hx hby at_108 rfl rfl ?_
     refine Jvm.RoadKit.acmp (g := (mkF m 110 Lb103 [(.ref b82), (.ref b82)])) X124 hx rfl rfl rfl (pc0 := 110) (pc' := 113) (same := true) rfl (hb hby at_110) rfl (decide_eq_true rfl) (by decide) (by decide) ?_
     refine sa X124 hx hby at_113 rfl rfl ?_
     refine st125 _ ?_
     refine XS.ifnonnullNo X125.here hx rfl (hb hby at_118) rfl ?_
     refine sa X125 hx hby at_121 rfl rfl ?_
     refine st126 _ ?_
     refine XS.ifnonnullNo X126.here hx rfl (hb hby at_126) rfl ?_
     refine sc X126 hx hby at_129 ?_
     refine sg (pc := 130) (pc' := 134) X126 hx hby at_130 (by decide) (by decide) ?_
     refine XS.istore X126.here hx rfl (hb hby at_134) rfl (l' := Lb127) rfl ?_
     refine XS.lconst X126.here hx rfl (hb hby at_136) ?_
     refine XS.lstore X126.here hx rfl (hb hby at_137) rfl (l' := Lb128) rfl ?_
     refine si X126 hx hby at_139 rfl ?_
     refine sN X126 hx hby at_141 (by decide) ?_
     refine sa X126 hx hby at_144 rfl rfl ?_
     refine sa X126 hx hby at_146 rfl rfl ?_
     refine st132.trans ?_
     refine sa X132 hx hby at_151 rfl rfl ?_
     refine sa X132 hx hby at_153 rfl rfl ?_
     refine st139.trans ?_
     refine si X139 hx hby at_158 rfl ?_
     refine sN X139 hx hby at_160 (by decide) ?_
     refine sa X139 hx hby at_163 rfl rfl ?_
     refine st141 _ ?_
     refine X141.ldc2Long hx hown (mvT hZ (wk88 hw)) (g := (mkF m 168 Lb128 [(.long (2 : Int64))])) rfl (hb hby at_168) _ ?_
     refine XS.lcmp X141.here hx rfl (hb hby at_171) rfl ?_
     refine sN X141 hx hby at_172 (by decide) ?_
     refine sa X141 hx hby at_175 rfl rfl ?_
     refine st142 _ ?_
     refine sa X142 hx hby at_180 rfl rfl ?_
     refine Jvm.RoadKit.acmp (g := (mkF m 182 Lb128 [(.ref b82), (.ref b82)])) X142 hx rfl rfl rfl (pc0 := 182) (pc' := 185) (same := true) rfl (hb hby at_182) rfl (decide_eq_true rfl) (by decide) (by decide) ?_
     refine sa X142 hx hby at_185 rfl rfl ?_
     refine st143 _ ?_
     refine XS.ifnonnullNo X143.here hx rfl (hb hby at_190) rfl ?_
     refine sa X143 hx hby at_193 rfl rfl ?_
     refine st144 _ ?_
     refine XS.ifnonnullNo X144.here hx rfl (hb hby at_198) rfl ?_
     refine sc X144 hx hby at_201 ?_
     refine sg (pc := 202) (pc' := 206) X144 hx hby at_202 (by decide) (by decide) ?_
     refine XS.istore X144.here hx rfl (hb hby at_206) rfl (l' := Lb128) rfl ?_
     refine XS.lconst X144.here hx rfl (hb hby at_208) ?_
     refine XS.lstore X144.here hx rfl (hb hby at_209) rfl (l' := Lb145) rfl ?_
     refine sa X144 hx hby at_211 rfl rfl ?_
     refine sa X144 hx hby at_213 rfl rfl ?_
     refine st155.trans ?_
     refine si X155 hx hby at_218 rfl ?_
     refine sN X155 hx hby at_220 (by decide) ?_
     refine sa X155 hx hby at_223 rfl rfl ?_
     refine st157 _ ?_
     refine XS.lload X157.here hx rfl (hb hby at_228) rfl ?_
     refine X157.ldc2Long hx hown (mvT hZ (wk88 hw)) (g := (mkF m 230 Lb145 [(.long (1 : Int64)), (.long (3 : Int64))])) rfl (hb hby at_230) _ ?_
     refine XS.ladd X157.here hx rfl (hb hby at_233) rfl ?_
     refine XS.lcmp X157.here hx rfl (hb hby at_234) rfl ?_
     refine sN X157 hx hby at_235 (by decide) ?_
     refine sa X157 hx hby at_238 rfl rfl ?_
     refine st158 _ ?_
     refine sa X158 hx hby at_243 rfl rfl ?_
     refine Jvm.RoadKit.acmp (g := (mkF m 245 Lb145 [(.ref b82), (.ref b82)])) X158 hx rfl rfl rfl (pc0 := 245) (pc' := 248) (same := true) rfl (hb hby at_245) rfl (decide_eq_true rfl) (by decide) (by decide) ?_
     refine sa X158 hx hby at_248 rfl rfl ?_
     refine st159 _ ?_
     refine sa X159 hx hby at_253 rfl rfl ?_
     refine Jvm.RoadKit.acmp (g := (mkF m 255 Lb145 [(.ref b86), (.ref b86)])) X159 hx rfl rfl rfl (pc0 := 255) (pc' := 258) (same := true) rfl (hb hby at_255) rfl (decide_eq_true rfl) (by decide) (by decide) ?_
     refine sa X159 hx hby at_258 rfl rfl ?_
     refine st160 _ ?_
     refine XS.ifnonnullNo X160.here hx rfl (hb hby at_263) rfl ?_
     refine sa X160 hx hby at_266 rfl rfl ?_
     refine st161 _ ?_
     refine sa X161 hx hby at_271 rfl rfl ?_
     refine Jvm.RoadKit.acmp (g := (mkF m 273 Lb145 [(.ref b92), (.ref b92)])) X161 hx rfl rfl rfl (pc0 := 273) (pc' := 276) (same := true) rfl (hb hby at_273) rfl (decide_eq_true rfl) (by decide) (by decide) ?_
     refine sa X161 hx hby at_276 rfl rfl ?_
     refine st163 _ ?_
     refine XS.ifnonnullNo X163.here hx rfl (hb hby at_281) rfl ?_
     refine sc X163 hx hby at_284 ?_
     refine sg (pc := 285) (pc' := 289) X163 hx hby at_285 (by decide) (by decide) ?_
     exact k)
    let Lb165 : Array Slot := #[.val (.long p0), .second, .val (.long p1), .second, .val (.long p2), .second, .val (.int p3), .val (.int (0 : Int32)), .val (.int (1 : Int32)), .val (.ref b82), .val (.ref b86), .val (.ref b92), .val (.ref b98), .val (.int (1 : Int32)), .val (.long (1 : Int64)), .second, .val (.long (2 : Int64)), .second, .unset, .unset]
    let Lb166 : Array Slot := #[.val (.long p0), .second, .val (.long p1), .second, .val (.long p2), .second, .val (.int p3), .val (.int (0 : Int32)), .val (.int (1 : Int32)), .val (.ref b82), .val (.ref b86), .val (.ref b92), .val (.ref b98), .val (.int (1 : Int32)), .val (.long (1 : Int64)), .second, .val (.long (2 : Int64)), .second, .val (.long ((p0 + p1) + (0 : Int64))), .second]
    have t168 := (own_exa t146 K155)
    obtain ⟨cq167, kq167, q167a, q167b, q167c⟩ := isOf hZ e163 t168
    obtain ⟨_, _, ⟨T167, L167, kk167, nn167⟩, -, X167, ⟨Lc167, hQ167, l167, y167, z167⟩, st167⟩ := X163.virtualBack hx (y := ym6) (z := ym6) hown (mvT hZ (wk89 hw)) (mvT hZ (wk90 hw)) (notFace_of_selects (args := #[]) (mvT hZ (wk92 hw))) (mvT hZ (wk92 hw)) (mvT hZ (wk91 hw)) (by decide) (backOf (W := 0) (rm9_8 l Z a0 hw w hW [] b82 T155.heap n0 O156 r155_7) hZ (wk93 hw) (wk2 hw) (by decide) (by decide)) q167a q167c (g := (mkF m 436 Lb166 [(.ref b82)])) rfl (by rw [hml]; rfl) (Steps.refl _) (argsL := []) (rest := []) (lenOf pds_6 rfl) rfl (by show 2 * 0 + _ ≤ _; exact Nat.le_of_eq rfl) (hb hby at_436) (fun _ _ => ⟨rfl, e163, (by decide : 4 + 0 ≤ _), (by decide : 59 + 0 ≤ _)⟩)
    dsimp only [Pt.U, Pt.locs, Pt.cells, Pt.slots] at X167 l167 y167 z167 st167 hQ167
    subst l167 y167 z167
    obtain ⟨rfl, N167q, e167⟩ := hQ167
    have N167 := Fr.app N155 N167q
    obtain ⟨cq169, kq169, q169a, q169b, q169c⟩ := isOf hZ e167 t168
    obtain ⟨_, _, ⟨T169, L169, kk169, nn169⟩, -, X169, ⟨Lc169, hQ169, l169, y169, z169⟩, st169⟩ := X167.virtualBack hx (y := ym7) (z := ym7) hown (mvT hZ (wk94 hw)) (mvT hZ (wk95 hw)) (notFace_of_selects (args := #[]) (mvT hZ (wk97 hw))) (mvT hZ (wk97 hw)) (mvT hZ (wk96 hw)) (by decide) (backOf (W := 0) (rm10_9 l Z a0 hw w hW [] b82 (((((0 : Int64) + p0) - p0) + p0) + p1) T155.heap n0 O156 r155_8) hZ (wk98 hw) (wk2 hw) (by decide) (by decide)) q169a q169c (g := (mkF m 447 Lb166 [(.ref b82)])) rfl (by rw [hml]; rfl) (Steps.refl _) (argsL := []) (rest := []) (lenOf pds_6 rfl) rfl (by show 2 * 0 + _ ≤ _; exact Nat.le_of_eq rfl) (hb hby at_447) (fun _ _ => ⟨rfl, e167, (by decide : 4 + 0 ≤ _), (by decide : 59 + 0 ≤ _)⟩)
    dsimp only [Pt.U, Pt.locs, Pt.cells, Pt.slots] at X169 l169 y169 z169 st169 hQ169
    subst l169 y169 z169
    obtain ⟨rfl, N169q, e169⟩ := hQ169
    have N169 := Fr.app N167 N169q
    have pre170 : ∀ t, Steps p.tables e below (T169.setTop (mkF m 453 Lb166 [(.int (lcmpW (((((0 : Int64) + p0) - p0) + p0) + p1) ((p0 + p1) + (0 : Int64))))])) t → Steps p.tables e below (s₁.setTop (entryFrame m #[(.long p0), (.long p1), (.long p2), (.int p3)] maxLocals)) t := fun t k => pre164 t (by
     show Steps p.tables e below (T163.setTop (mkF m 289 Lb145 [(.int (1 : Int32))])) _
     refine XS.istore X163.here hx rfl (hb hby at_289) rfl (l' := Lb145) rfl ?_
     refine si X163 hx hby at_291 rfl ?_
     refine XS.ifYes X163.here hx rfl (pc0 := 293) (pc' := 396) rfl (hb hby at_293) rfl (by decide) (by decide) (by decide) ?_
     refine si X163 hx hby at_396 rfl ?_
     refine XS.ifYes X163.here hx rfl (pc0 := 398) (pc' := 407) rfl (hb hby at_398) rfl (by decide) (by decide) (by decide) ?_
     refine X163.ldc2Long hx hown (mvT hZ (wk88 hw)) (g := (mkF m 407 Lb145 [])) rfl (hb hby at_407) _ ?_
     refine XS.lstore X163.here hx rfl (hb hby at_410) rfl (l' := Lb165) rfl ?_
     refine sL X163 hx hby at_412 rfl ?_
     refine sL X163 hx hby at_413 rfl ?_
     refine XS.ladd X163.here hx rfl (hb hby at_414) rfl ?_
     refine si X163 hx hby at_415 rfl ?_
     refine XS.ifYes X163.here hx rfl (pc0 := 417) (pc' := 425) rfl (hb hby at_417) rfl (by decide) (by decide) (by decide) ?_
     refine XS.lconst X163.here hx rfl (hb hby at_425) ?_
     refine XS.ladd X163.here hx rfl (hb hby at_426) rfl ?_
     refine XS.lstore X163.here hx rfl (hb hby at_427) rfl (l' := Lb166) rfl ?_
     refine si X163 hx hby at_429 rfl ?_
     refine sN X163 hx hby at_431 (by decide) ?_
     refine sa X163 hx hby at_434 rfl rfl ?_
     refine st167.trans ?_
     refine XS.lload X167.here hx rfl (hb hby at_439) rfl ?_
     refine XS.lcmp X167.here hx rfl (hb hby at_441) rfl ?_
     refine sN X167 hx hby at_442 (by decide) ?_
     refine sa X167 hx hby at_445 rfl rfl ?_
     refine st169.trans ?_
     refine XS.lload X169.here hx rfl (hb hby at_450) rfl ?_
     refine XS.lcmp X169.here hx rfl (hb hby at_452) rfl ?_
     exact k)
    by_cases hc171 : (((((0 : Int64) + p0) - p0) + p0) + p1) = ((p0 + p1) + (0 : Int64))
    ·
     have t172 := (own_fld r139_6 K155 (own_nls (sn63 hw) (own_nlb ne105 (own_nlb ne105 (own_nlb ne105 (own_nlb ne105 (own_nlb ne104 (own_nls (sn88 hw) (own_nls (sn89 hw) (own_nls (sn90 hw) own_nl0))))))))))
     obtain ⟨cq173, kq173, q173a, q173b, q173c⟩ := isOf hZ e169 t168
     obtain ⟨_, _, ⟨T173, L173, kk173, nn173⟩, -, X173, ⟨Lc173, hQ173, l173, y173, z173⟩, st173⟩ := X169.virtualBack hx (y := ym8) (z := ym8) hown (mvT hZ (wk99 hw)) (mvT hZ (wk100 hw)) (notFace_of_selects (args := #[]) (mvT hZ (wk102 hw))) (mvT hZ (wk102 hw)) (mvT hZ (wk101 hw)) (by decide) (backOf (W := 0) (rm11_10 l Z a0 hw w hW [] b82 b86 T155.heap n0 O156 t172) hZ (wk103 hw) (wk2 hw) (by decide) (by decide)) q173a q173c (g := (mkF m 458 Lb166 [(.ref b82)])) rfl (by rw [hml]; rfl) (Steps.refl _) (argsL := []) (rest := []) (lenOf pds_7 rfl) rfl (by show 2 * 0 + _ ≤ _; exact Nat.le_of_eq rfl) (hb hby at_458) (fun _ _ => ⟨rfl, e169, (by decide : 4 + 0 ≤ _), (by decide : 59 + 0 ≤ _)⟩)
     dsimp only [Pt.U, Pt.locs, Pt.cells, Pt.slots] at X173 l173 y173 z173 st173 hQ173
     subst l173 y173 z173
     obtain ⟨rfl, N173q, e173⟩ := hQ173
     have N173 := Fr.app N169 N173q
     obtain ⟨fs, hr, hrun, hended, hWm, hsame⟩ := X173.leave (v := some (.int (1 : Int32))) (fun h => by rw [Bd.returns] at h; cases h)
     refine ⟨_, _, pre170 _ ?_, hrun, hended, _, _, rfl, ?_, ⟨_, rfl⟩, hWm, hsame.mono (by decide) (by decide)⟩
     · show Steps p.tables e below (T169.setTop (mkF m 453 Lb166 [(.int (lcmpW (((((0 : Int64) + p0) - p0) + p0) + p1) ((p0 + p1) + (0 : Int64))))])) _
       refine sN X169 hx hby at_453 ((if0 _ _).trans (teq (((lw_eq _ _).mpr hc171) : (lcmpW (((((0 : Int64) + p0) - p0) + p0) + p1) ((p0 + p1) + (0 : Int64))) = (0 : Int32))).2) ?_
       refine sa X169 hx hby at_456 rfl rfl ?_
       refine st173.trans ?_
       refine sa X173 hx hby at_461 rfl rfl ?_
       refine Jvm.RoadKit.acmp (g := (mkF m 463 Lb166 [(.ref b86), (.ref b86)])) X173 hx rfl rfl rfl (pc0 := 463) (pc' := 466) (same := true) rfl (hb hby at_463) rfl (decide_eq_true rfl) (by decide) (by decide) ?_
       refine sc X173 hx hby at_466 ?_
       refine sg (pc := 467) (pc' := 471) X173 hx hby at_467 (by decide) (by decide) ?_
       refine XS.istore X173.here hx rfl (hb hby at_471) rfl (l' := Lb166) rfl ?_
       refine si X173 hx hby at_473 rfl ?_
       exact retN X173 hx (t := .boolean) Bd.returns (by simp) (hb hby at_475) hr
     · show Q0 n0 _ T173.heap _
       rw [e173]
       exact ⟨rfl, N173⟩
    ·
     exfalso
     have z16 : ((((((0 : Int64) + p0) - p0) + p0) + p1)).toInt ≠ (((p0 + p1) + (0 : Int64))).toInt := fun q => hc171 (Int64.toInt_inj.mp q)
     have z1 := rng64 (((((0 : Int64) + p0) - p0) + p0) + p1)
     have z2 := rng64 ((((0 : Int64) + p0) - p0) + p0)
     have z3 := rng64 (((0 : Int64) + p0) - p0)
     have z4 := rng64 ((0 : Int64) + p0)
     have z5 : ((0 : Int64)).toInt = 0 := by decide
     have z6 := rng64 p0
     have z7 := c_ladd (0 : Int64) p0
     have z8 := c_lsub ((0 : Int64) + p0) p0
     have z9 := c_ladd (((0 : Int64) + p0) - p0) p0
     have z10 := rng64 p1
     have z11 := c_ladd ((((0 : Int64) + p0) - p0) + p0) p1
     have z12 := rng64 ((p0 + p1) + (0 : Int64))
     have z13 := rng64 (p0 + p1)
     have z14 := c_ladd p0 p1
     have z15 := c_ladd (p0 + p1) (0 : Int64)
     omega
  ·
   let Lb174 : Array Slot := #[.val (.long p0), .second, .val (.long p1), .second, .val (.long p2), .second, .val (.int p3), .val (.int (1 : Int32)), .unset, .unset, .unset, .unset, .unset, .unset, .unset, .unset, .unset, .unset, .unset, .unset]
   have pre175 : ∀ t, Steps p.tables e below (s₁.setTop (mkF m 18 Lb174 [(.int (p3 &&& (2 : Int32)))])) t → Steps p.tables e below (s₁.setTop (entryFrame m #[(.long p0), (.long p1), (.long p2), (.int p3)] maxLocals)) t := fun t k => pre1 t (by
    show Steps p.tables e below (s₁.setTop (mkF m 4 La [(.int (p3 &&& (1 : Int32)))])) _
    refine sN X0 hx hby at_4 ((if0 _ _).trans (feq (hc2 : ¬ ((p3 &&& (1 : Int32)) = (0 : Int32)))).1) ?_
    refine sc X0 hx hby at_7 ?_
    refine sg (pc := 8) (pc' := 12) X0 hx hby at_8 (by decide) (by decide) ?_
    refine XS.istore X0.here hx rfl (hb hby at_12) rfl (l' := Lb174) rfl ?_
    refine si X0 hx hby at_14 rfl ?_
    refine sc X0 hx hby at_16 ?_
    refine XS.iand X0.here hx rfl (hb hby at_17) rfl ?_
    exact k)
   by_cases hc176 : (p3 &&& (2 : Int32)) = (0 : Int32)
   ·
    let Lb177 : Array Slot := #[.val (.long p0), .second, .val (.long p1), .second, .val (.long p2), .second, .val (.int p3), .val (.int (1 : Int32)), .val (.int (0 : Int32)), .unset, .unset, .unset, .unset, .unset, .unset, .unset, .unset, .unset, .unset, .unset]
    obtain ⟨T178, h178, X178, e178, E178, A178, D178, -, st178⟩ := newO X0 hx hZ hown (wk0 hw) (wk1 hw) (wk2 hw) e0 (g := (mkF m 28 Lb177 [])) rfl (hb hby at_28) (by decide) (by decide)
    obtain ⟨b178, g178⟩ : ∃ z, z = h0.size := ⟨_, rfl⟩
    rw [← g178] at A178 D178 st178
    have gg178 : n0 ≤ b178 := by rw [← O0.1, g178]; exact O0.2.1
    have O179 := O0.ext E178
    have i178_61 : Fld Z h178 b178 "com/example/tidemark/tidemark/RecencyList" "stamps" "J" (.long (0 : Int64)) := D178 (Or.inl (wk61 hw)) (ty := .long) (by decide)
    have i178_67 : Fld Z h178 b178 "com/example/tidemark/tidemark/RecencyList" "newest" "Lcom/example/tidemark/tidemark/MemoryEntry;" .null := D178 (Or.inl (wk67 hw)) (ty := (.object "com/example/tidemark/tidemark/MemoryEntry")) (by decide)
    have i178_73 : Fld Z h178 b178 "com/example/tidemark/tidemark/RecencyList" "oldest" "Lcom/example/tidemark/tidemark/MemoryEntry;" .null := D178 (Or.inl (wk73 hw)) (ty := (.object "com/example/tidemark/tidemark/MemoryEntry")) (by decide)
    have i178_75 : Fld Z h178 b178 "com/example/tidemark/tidemark/RecencyList" "size" "J" (.long (0 : Int64)) := D178 (Or.inl (wk75 hw)) (ty := .long) (by decide)
    have i178_77 : Fld Z h178 b178 "com/example/tidemark/tidemark/RecencyList" "weight" "J" (.long (0 : Int64)) := D178 (Or.inl (wk77 hw)) (ty := .long) (by decide)
    obtain ⟨_, _, ⟨T180, L180, kk180, nn180⟩, -, X180, ⟨Lc180, hQ180, l180, y180, z180⟩, st180⟩ := X178.specialBack hx (y := ym0) rfl hown (mvT hZ (wk3 hw)) (mvT hZ (wk4 hw)) (mvT hZ (wk5 hw)) (by decide) (backOf (W := 1) (rm1_1 l Z a0 hw w hW [] b178 h178 n0 O179 ) hZ (wk5 hw) (wk2 hw) (by decide) (by decide)) (g := (mkF m 32 Lb177 [(.ref b178), (.ref b178)])) rfl (by rw [hml]; rfl) (Steps.refl _) (a := b178) (argsL := []) (rest := [(.ref b178)]) (lenOf pds_0 rfl) rfl (by show 2 * 0 + _ ≤ _; exact Nat.le_of_eq rfl) (hb hby at_32) (fun _ _ => ⟨rfl, e178, (by decide : 1 + 0 ≤ _), (by decide : 5 + 0 ≤ _)⟩)
    dsimp only [Pt.U, Pt.locs, Pt.cells, Pt.slots] at X180 l180 y180 z180 st180 hQ180
    subst l180 y180 z180
    obtain ⟨rfl, N180q, e180⟩ := hQ180
    have N180 := Fr.app N0 N180q
    let Lb181 : Array Slot := #[.val (.long p0), .second, .val (.long p1), .second, .val (.long p2), .second, .val (.int p3), .val (.int (1 : Int32)), .val (.int (0 : Int32)), .val (.ref b178), .unset, .unset, .unset, .unset, .unset, .unset, .unset, .unset, .unset, .unset]
    obtain ⟨T182, h182, X182, e182, E182, A182, D182, -, st182⟩ := newO X180 hx hZ hown (wk9 hw) (wk10 hw) (wk11 hw) e180 (g := (mkF m 37 Lb181 [])) rfl (hb hby at_37) (by decide) (by decide)
    obtain ⟨b182, g182⟩ : ∃ z, z = h178.size := ⟨_, rfl⟩
    rw [← g182] at A182 D182 st182
    have gg182 : n0 ≤ b182 := by rw [← O179.1, g182]; exact O179.2.1
    have O183 := O179.ext E182
    have i182_20 : Fld Z h182 b182 "com/example/tidemark/tidemark/MemoryEntry" "slot" "I" (.int (0 : Int32)) := D182 (Or.inl (wk20 hw)) (ty := .int) (by decide)
    have i182_22 : Fld Z h182 b182 "com/example/tidemark/tidemark/MemoryEntry" "key" "Ljava/lang/Object;" .null := D182 (Or.inr (wk22 hw)) (ty := (.object "java/lang/Object")) (by decide)
    have i182_24 : Fld Z h182 b182 "com/example/tidemark/tidemark/MemoryEntry" "charge" "J" (.long (0 : Int64)) := D182 (Or.inl (wk24 hw)) (ty := .long) (by decide)
    have i182_31 : Fld Z h182 b182 "com/example/tidemark/tidemark/MemoryEntry" "value" "Ljava/lang/Object;" .null := D182 (Or.inl (wk31 hw)) (ty := (.object "java/lang/Object")) (by decide)
    have i182_33 : Fld Z h182 b182 "com/example/tidemark/tidemark/MemoryEntry" "expiry" "Lcom/example/tidemark/tidemark/Expiry;" .null := D182 (Or.inl (wk33 hw)) (ty := (.object "com/example/tidemark/tidemark/Expiry")) (by decide)
    have i182_40 : Fld Z h182 b182 "com/example/tidemark/tidemark/MemoryEntry" "created" "J" (.long (0 : Int64)) := D182 (Or.inl (wk40 hw)) (ty := .long) (by decide)
    have i182_42 : Fld Z h182 b182 "com/example/tidemark/tidemark/MemoryEntry" "lastUsed" "J" (.long (0 : Int64)) := D182 (Or.inl (wk42 hw)) (ty := .long) (by decide)
    have i182_54 : Fld Z h182 b182 "com/example/tidemark/tidemark/MemoryEntry" "lockFreeValue" "Ljava/lang/Object;" .null := D182 (Or.inl (wk54 hw)) (ty := (.object "java/lang/Object")) (by decide)
    have i182_63 : Fld Z h182 b182 "com/example/tidemark/tidemark/MemoryEntry" "stamp" "J" (.long (0 : Int64)) := D182 (Or.inl (wk63 hw)) (ty := .long) (by decide)
    have i182_65 : Fld Z h182 b182 "com/example/tidemark/tidemark/MemoryEntry" "list" "Lcom/example/tidemark/tidemark/RecencyList;" .null := D182 (Or.inl (wk65 hw)) (ty := (.object "com/example/tidemark/tidemark/RecencyList")) (by decide)
    have i182_69 : Fld Z h182 b182 "com/example/tidemark/tidemark/MemoryEntry" "older" "Lcom/example/tidemark/tidemark/MemoryEntry;" .null := D182 (Or.inl (wk69 hw)) (ty := (.object "com/example/tidemark/tidemark/MemoryEntry")) (by decide)
    have i182_71 : Fld Z h182 b182 "com/example/tidemark/tidemark/MemoryEntry" "newer" "Lcom/example/tidemark/tidemark/MemoryEntry;" .null := D182 (Or.inl (wk71 hw)) (ty := (.object "com/example/tidemark/tidemark/MemoryEntry")) (by decide)
    obtain ⟨T184, X184, e184, st184⟩ := getS2 X182 hx hZ hown (host := "") (Or.inl (wk12 hw)) Via.refl e182 ((wd0 hW).ext O183.2) (g := (mkF m 43 Lb181 [.null, .null, (.ref b182), (.ref b182)])) rfl (hb hby at_43)
    obtain ⟨_, _, ⟨T185, L185, kk185, nn185⟩, -, X185, ⟨Lc185, hQ185, l185, y185, z185⟩, st185⟩ := X184.specialBack hx (y := ym4) rfl hown (mvT hZ (wk15 hw)) (mvT hZ (wk16 hw)) (mvT hZ (wk17 hw)) (by decide) (backOf (W := 1) (rm3_5 l Z a0 hw w hW [] b182 p0 h182 n0 O183 A182 i182_20 gg182 i182_22 i182_24 i182_31 i182_33 i182_40 i182_42 i182_54) hZ (wk17 hw) (wk11 hw) (by decide) (by decide)) (g := (mkF m 48 Lb181 [(.long p0), (.long (0 : Int64)), (.ref (w 0)), .null, .null, (.ref b182), (.ref b182)])) rfl (by rw [hml]; rfl) (Steps.refl _) (a := b182) (argsL := [.null, .null, (.ref (w 0)), (.long (0 : Int64)), (.long p0)]) (rest := [(.ref b182)]) (lenOf pds_4 rfl) rfl (by show 2 * 0 + _ ≤ _; exact Nat.le_of_eq rfl) (hb hby at_48) (fun _ _ => ⟨rfl, e184, (by decide : 2 + 0 ≤ _), (by decide : 23 + 0 ≤ _)⟩)
    dsimp only [Pt.U, Pt.locs, Pt.cells, Pt.slots] at X185 l185 y185 z185 st185 hQ185
    subst l185 y185 z185
    obtain ⟨rfl, N185q, K185, r185_0, r185_1, r185_2, r185_3, r185_4, r185_5, r185_6, r185_7⟩ := hQ185
    have N185 := Fr.app N180 N185q
    have O186 := own_old O183 K185 (own_ngc gg182 (own_ngc gg182 (own_ngc gg182 (own_ngc gg182 (own_ngc gg182 (own_ngc gg182 (own_ngc gg182 (own_ngc gg182 own_ng0))))))))
    let Lb187 : Array Slot := #[.val (.long p0), .second, .val (.long p1), .second, .val (.long p2), .second, .val (.int p3), .val (.int (1 : Int32)), .val (.int (0 : Int32)), .val (.ref b178), .val (.ref b182), .unset, .unset, .unset, .unset, .unset, .unset, .unset, .unset, .unset]
    obtain ⟨T188, h188, X188, e188, E188, A188, D188, -, st188⟩ := newO X185 hx hZ hown (wk9 hw) (wk10 hw) (wk11 hw) rfl (g := (mkF m 53 Lb187 [])) rfl (hb hby at_53) (by decide) (by decide)
    obtain ⟨b188, g188⟩ : ∃ z, z = T185.heap.size := ⟨_, rfl⟩
    rw [← g188] at A188 D188 st188
    have gg188 : n0 ≤ b188 := by rw [← O186.1, g188]; exact O186.2.1
    have O189 := O186.ext E188
    have i188_20 : Fld Z h188 b188 "com/example/tidemark/tidemark/MemoryEntry" "slot" "I" (.int (0 : Int32)) := D188 (Or.inl (wk20 hw)) (ty := .int) (by decide)
    have i188_22 : Fld Z h188 b188 "com/example/tidemark/tidemark/MemoryEntry" "key" "Ljava/lang/Object;" .null := D188 (Or.inr (wk22 hw)) (ty := (.object "java/lang/Object")) (by decide)
    have i188_24 : Fld Z h188 b188 "com/example/tidemark/tidemark/MemoryEntry" "charge" "J" (.long (0 : Int64)) := D188 (Or.inl (wk24 hw)) (ty := .long) (by decide)
    have i188_31 : Fld Z h188 b188 "com/example/tidemark/tidemark/MemoryEntry" "value" "Ljava/lang/Object;" .null := D188 (Or.inl (wk31 hw)) (ty := (.object "java/lang/Object")) (by decide)
    have i188_33 : Fld Z h188 b188 "com/example/tidemark/tidemark/MemoryEntry" "expiry" "Lcom/example/tidemark/tidemark/Expiry;" .null := D188 (Or.inl (wk33 hw)) (ty := (.object "com/example/tidemark/tidemark/Expiry")) (by decide)
    have i188_40 : Fld Z h188 b188 "com/example/tidemark/tidemark/MemoryEntry" "created" "J" (.long (0 : Int64)) := D188 (Or.inl (wk40 hw)) (ty := .long) (by decide)
    have i188_42 : Fld Z h188 b188 "com/example/tidemark/tidemark/MemoryEntry" "lastUsed" "J" (.long (0 : Int64)) := D188 (Or.inl (wk42 hw)) (ty := .long) (by decide)
    have i188_54 : Fld Z h188 b188 "com/example/tidemark/tidemark/MemoryEntry" "lockFreeValue" "Ljava/lang/Object;" .null := D188 (Or.inl (wk54 hw)) (ty := (.object "java/lang/Object")) (by decide)
    have i188_63 : Fld Z h188 b188 "com/example/tidemark/tidemark/MemoryEntry" "stamp" "J" (.long (0 : Int64)) := D188 (Or.inl (wk63 hw)) (ty := .long) (by decide)
    have i188_65 : Fld Z h188 b188 "com/example/tidemark/tidemark/MemoryEntry" "list" "Lcom/example/tidemark/tidemark/RecencyList;" .null := D188 (Or.inl (wk65 hw)) (ty := (.object "com/example/tidemark/tidemark/RecencyList")) (by decide)
    have i188_69 : Fld Z h188 b188 "com/example/tidemark/tidemark/MemoryEntry" "older" "Lcom/example/tidemark/tidemark/MemoryEntry;" .null := D188 (Or.inl (wk69 hw)) (ty := (.object "com/example/tidemark/tidemark/MemoryEntry")) (by decide)
    have i188_71 : Fld Z h188 b188 "com/example/tidemark/tidemark/MemoryEntry" "newer" "Lcom/example/tidemark/tidemark/MemoryEntry;" .null := D188 (Or.inl (wk71 hw)) (ty := (.object "com/example/tidemark/tidemark/MemoryEntry")) (by decide)
    obtain ⟨T190, X190, e190, st190⟩ := getS2 X188 hx hZ hown (host := "") (Or.inl (wk12 hw)) Via.refl e188 ((wd0 hW).ext O189.2) (g := (mkF m 59 Lb187 [.null, .null, (.ref b188), (.ref b188)])) rfl (hb hby at_59)
    obtain ⟨_, _, ⟨T191, L191, kk191, nn191⟩, -, X191, ⟨Lc191, hQ191, l191, y191, z191⟩, st191⟩ := X190.specialBack hx (y := ym4) rfl hown (mvT hZ (wk15 hw)) (mvT hZ (wk16 hw)) (mvT hZ (wk17 hw)) (by decide) (backOf (W := 1) (rm3_5 l Z a0 hw w hW [] b188 p1 h188 n0 O189 A188 i188_20 gg188 i188_22 i188_24 i188_31 i188_33 i188_40 i188_42 i188_54) hZ (wk17 hw) (wk11 hw) (by decide) (by decide)) (g := (mkF m 64 Lb187 [(.long p1), (.long (0 : Int64)), (.ref (w 0)), .null, .null, (.ref b188), (.ref b188)])) rfl (by rw [hml]; rfl) (Steps.refl _) (a := b188) (argsL := [.null, .null, (.ref (w 0)), (.long (0 : Int64)), (.long p1)]) (rest := [(.ref b188)]) (lenOf pds_4 rfl) rfl (by show 2 * 0 + _ ≤ _; exact Nat.le_of_eq rfl) (hb hby at_64) (fun _ _ => ⟨rfl, e190, (by decide : 3 + 0 ≤ _), (by decide : 41 + 0 ≤ _)⟩)
    dsimp only [Pt.U, Pt.locs, Pt.cells, Pt.slots] at X191 l191 y191 z191 st191 hQ191
    subst l191 y191 z191
    obtain ⟨rfl, N191q, K191, r191_0, r191_1, r191_2, r191_3, r191_4, r191_5, r191_6, r191_7⟩ := hQ191
    have N191 := Fr.app N185 N191q
    have O192 := own_old O189 K191 (own_ngc gg188 (own_ngc gg188 (own_ngc gg188 (own_ngc gg188 (own_ngc gg188 (own_ngc gg188 (own_ngc gg188 (own_ngc gg188 own_ng0))))))))
    let Lb193 : Array Slot := #[.val (.long p0), .second, .val (.long p1), .second, .val (.long p2), .second, .val (.int p3), .val (.int (1 : Int32)), .val (.int (0 : Int32)), .val (.ref b178), .val (.ref b182), .val (.ref b188), .unset, .unset, .unset, .unset, .unset, .unset, .unset, .unset]
    obtain ⟨T194, h194, X194, e194, E194, A194, D194, -, st194⟩ := newO X191 hx hZ hown (wk9 hw) (wk10 hw) (wk11 hw) rfl (g := (mkF m 69 Lb193 [])) rfl (hb hby at_69) (by decide) (by decide)
    obtain ⟨b194, g194⟩ : ∃ z, z = T191.heap.size := ⟨_, rfl⟩
    rw [← g194] at A194 D194 st194
    have gg194 : n0 ≤ b194 := by rw [← O192.1, g194]; exact O192.2.1
    have O195 := O192.ext E194
    have i194_20 : Fld Z h194 b194 "com/example/tidemark/tidemark/MemoryEntry" "slot" "I" (.int (0 : Int32)) := D194 (Or.inl (wk20 hw)) (ty := .int) (by decide)
    have i194_22 : Fld Z h194 b194 "com/example/tidemark/tidemark/MemoryEntry" "key" "Ljava/lang/Object;" .null := D194 (Or.inr (wk22 hw)) (ty := (.object "java/lang/Object")) (by decide)
    have i194_24 : Fld Z h194 b194 "com/example/tidemark/tidemark/MemoryEntry" "charge" "J" (.long (0 : Int64)) := D194 (Or.inl (wk24 hw)) (ty := .long) (by decide)
    have i194_31 : Fld Z h194 b194 "com/example/tidemark/tidemark/MemoryEntry" "value" "Ljava/lang/Object;" .null := D194 (Or.inl (wk31 hw)) (ty := (.object "java/lang/Object")) (by decide)
    have i194_33 : Fld Z h194 b194 "com/example/tidemark/tidemark/MemoryEntry" "expiry" "Lcom/example/tidemark/tidemark/Expiry;" .null := D194 (Or.inl (wk33 hw)) (ty := (.object "com/example/tidemark/tidemark/Expiry")) (by decide)
    have i194_40 : Fld Z h194 b194 "com/example/tidemark/tidemark/MemoryEntry" "created" "J" (.long (0 : Int64)) := D194 (Or.inl (wk40 hw)) (ty := .long) (by decide)
    have i194_42 : Fld Z h194 b194 "com/example/tidemark/tidemark/MemoryEntry" "lastUsed" "J" (.long (0 : Int64)) := D194 (Or.inl (wk42 hw)) (ty := .long) (by decide)
    have i194_54 : Fld Z h194 b194 "com/example/tidemark/tidemark/MemoryEntry" "lockFreeValue" "Ljava/lang/Object;" .null := D194 (Or.inl (wk54 hw)) (ty := (.object "java/lang/Object")) (by decide)
    have i194_63 : Fld Z h194 b194 "com/example/tidemark/tidemark/MemoryEntry" "stamp" "J" (.long (0 : Int64)) := D194 (Or.inl (wk63 hw)) (ty := .long) (by decide)
    have i194_65 : Fld Z h194 b194 "com/example/tidemark/tidemark/MemoryEntry" "list" "Lcom/example/tidemark/tidemark/RecencyList;" .null := D194 (Or.inl (wk65 hw)) (ty := (.object "com/example/tidemark/tidemark/RecencyList")) (by decide)
    have i194_69 : Fld Z h194 b194 "com/example/tidemark/tidemark/MemoryEntry" "older" "Lcom/example/tidemark/tidemark/MemoryEntry;" .null := D194 (Or.inl (wk69 hw)) (ty := (.object "com/example/tidemark/tidemark/MemoryEntry")) (by decide)
    have i194_71 : Fld Z h194 b194 "com/example/tidemark/tidemark/MemoryEntry" "newer" "Lcom/example/tidemark/tidemark/MemoryEntry;" .null := D194 (Or.inl (wk71 hw)) (ty := (.object "com/example/tidemark/tidemark/MemoryEntry")) (by decide)
    obtain ⟨T196, X196, e196, st196⟩ := getS2 X194 hx hZ hown (host := "") (Or.inl (wk12 hw)) Via.refl e194 ((wd0 hW).ext O195.2) (g := (mkF m 75 Lb193 [.null, .null, (.ref b194), (.ref b194)])) rfl (hb hby at_75)
    obtain ⟨_, _, ⟨T197, L197, kk197, nn197⟩, -, X197, ⟨Lc197, hQ197, l197, y197, z197⟩, st197⟩ := X196.specialBack hx (y := ym4) rfl hown (mvT hZ (wk15 hw)) (mvT hZ (wk16 hw)) (mvT hZ (wk17 hw)) (by decide) (backOf (W := 1) (rm3_5 l Z a0 hw w hW [] b194 p2 h194 n0 O195 A194 i194_20 gg194 i194_22 i194_24 i194_31 i194_33 i194_40 i194_42 i194_54) hZ (wk17 hw) (wk11 hw) (by decide) (by decide)) (g := (mkF m 81 Lb193 [(.long p2), (.long (0 : Int64)), (.ref (w 0)), .null, .null, (.ref b194), (.ref b194)])) rfl (by rw [hml]; rfl) (Steps.refl _) (a := b194) (argsL := [.null, .null, (.ref (w 0)), (.long (0 : Int64)), (.long p2)]) (rest := [(.ref b194)]) (lenOf pds_4 rfl) rfl (by show 2 * 0 + _ ≤ _; exact Nat.le_of_eq rfl) (hb hby at_81) (fun _ _ => ⟨rfl, e196, (by decide : 4 + 0 ≤ _), (by decide : 59 + 0 ≤ _)⟩)
    dsimp only [Pt.U, Pt.locs, Pt.cells, Pt.slots] at X197 l197 y197 z197 st197 hQ197
    subst l197 y197 z197
    obtain ⟨rfl, N197q, K197, r197_0, r197_1, r197_2, r197_3, r197_4, r197_5, r197_6, r197_7⟩ := hQ197
    have N197 := Fr.app N191 N197q
    have O198 := own_old O195 K197 (own_ngc gg194 (own_ngc gg194 (own_ngc gg194 (own_ngc gg194 (own_ngc gg194 (own_ngc gg194 (own_ngc gg194 (own_ngc gg194 own_ng0))))))))
    let Lb199 : Array Slot := #[.val (.long p0), .second, .val (.long p1), .second, .val (.long p2), .second, .val (.int p3), .val (.int (1 : Int32)), .val (.int (0 : Int32)), .val (.ref b178), .val (.ref b182), .val (.ref b188), .val (.ref b194), .unset, .unset, .unset, .unset, .unset, .unset, .unset]
    have ne200 : b178 ≠ b182 := (Nat.ne_of_lt (Nat.lt_of_lt_of_le A178.lt (Nat.le_of_eq g182.symm)))
    have ne201 : b178 ≠ b188 := (Nat.ne_of_lt (Nat.lt_of_lt_of_le (Nat.lt_of_lt_of_le (Nat.lt_of_lt_of_le A178.lt E182.1) K185.1) (Nat.le_of_eq g188.symm)))
    have ne202 : b178 ≠ b194 := (Nat.ne_of_lt (Nat.lt_of_lt_of_le (Nat.lt_of_lt_of_le (Nat.lt_of_lt_of_le (Nat.lt_of_lt_of_le (Nat.lt_of_lt_of_le A178.lt E182.1) K185.1) E188.1) K191.1) (Nat.le_of_eq g194.symm)))
    have t203 := (own_fld ((own_fld ((own_fld (i178_61.ext E182) K185 (own_nlb ne200 (own_nlb ne200 (own_nlb ne200 (own_nlb ne200 (own_nlb ne200 (own_nlb ne200 (own_nlb ne200 (own_nlb ne200 own_nl0))))))))).ext E188) K191 (own_nlb ne201 (own_nlb ne201 (own_nlb ne201 (own_nlb ne201 (own_nlb ne201 (own_nlb ne201 (own_nlb ne201 (own_nlb ne201 own_nl0))))))))).ext E194) K197 (own_nlb ne202 (own_nlb ne202 (own_nlb ne202 (own_nlb ne202 (own_nlb ne202 (own_nlb ne202 (own_nlb ne202 (own_nlb ne202 own_nl0)))))))))
    have t204 := (own_exa ((own_exa ((own_exa (A178.ext E182) K185).ext E188) K191).ext E194) K197)
    have t205 := (own_exa ((own_exa ((own_exa A182 K185).ext E188) K191).ext E194) K197)
    have ne206 : b182 ≠ b188 := (Nat.ne_of_lt (Nat.lt_of_lt_of_le (Nat.lt_of_lt_of_le A182.lt K185.1) (Nat.le_of_eq g188.symm)))
    have ne207 : b182 ≠ b194 := (Nat.ne_of_lt (Nat.lt_of_lt_of_le (Nat.lt_of_lt_of_le (Nat.lt_of_lt_of_le (Nat.lt_of_lt_of_le A182.lt K185.1) E188.1) K191.1) (Nat.le_of_eq g194.symm)))
    have t208 := (own_fld ((own_fld ((own_fld i182_63 K185 (own_nls (sn99 hw) (own_nls (sn98 hw) (own_nls (sn97 hw) (own_nls (sn96 hw) (own_nls (sn95 hw) (own_nls (sn94 hw) (own_nls (sn93 hw) (own_nls (sn92 hw) own_nl0))))))))).ext E188) K191 (own_nlb ne206 (own_nlb ne206 (own_nlb ne206 (own_nlb ne206 (own_nlb ne206 (own_nlb ne206 (own_nlb ne206 (own_nlb ne206 own_nl0))))))))).ext E194) K197 (own_nlb ne207 (own_nlb ne207 (own_nlb ne207 (own_nlb ne207 (own_nlb ne207 (own_nlb ne207 (own_nlb ne207 (own_nlb ne207 own_nl0)))))))))
    have t209 := (own_fld ((own_fld ((own_fld i182_65 K185 (own_nls (sn107 hw) (own_nls (sn106 hw) (own_nls (sn105 hw) (own_nls (sn104 hw) (own_nls (sn103 hw) (own_nls (sn102 hw) (own_nls (sn101 hw) (own_nls (sn100 hw) own_nl0))))))))).ext E188) K191 (own_nlb ne206 (own_nlb ne206 (own_nlb ne206 (own_nlb ne206 (own_nlb ne206 (own_nlb ne206 (own_nlb ne206 (own_nlb ne206 own_nl0))))))))).ext E194) K197 (own_nlb ne207 (own_nlb ne207 (own_nlb ne207 (own_nlb ne207 (own_nlb ne207 (own_nlb ne207 (own_nlb ne207 (own_nlb ne207 own_nl0)))))))))
    have t210 := (own_fld ((own_fld ((own_fld (i178_67.ext E182) K185 (own_nlb ne200 (own_nlb ne200 (own_nlb ne200 (own_nlb ne200 (own_nlb ne200 (own_nlb ne200 (own_nlb ne200 (own_nlb ne200 own_nl0))))))))).ext E188) K191 (own_nlb ne201 (own_nlb ne201 (own_nlb ne201 (own_nlb ne201 (own_nlb ne201 (own_nlb ne201 (own_nlb ne201 (own_nlb ne201 own_nl0))))))))).ext E194) K197 (own_nlb ne202 (own_nlb ne202 (own_nlb ne202 (own_nlb ne202 (own_nlb ne202 (own_nlb ne202 (own_nlb ne202 (own_nlb ne202 own_nl0)))))))))
    have t211 := (own_fld ((own_fld ((own_fld i182_69 K185 (own_nls (sn115 hw) (own_nls (sn114 hw) (own_nls (sn113 hw) (own_nls (sn112 hw) (own_nls (sn111 hw) (own_nls (sn110 hw) (own_nls (sn109 hw) (own_nls (sn108 hw) own_nl0))))))))).ext E188) K191 (own_nlb ne206 (own_nlb ne206 (own_nlb ne206 (own_nlb ne206 (own_nlb ne206 (own_nlb ne206 (own_nlb ne206 (own_nlb ne206 own_nl0))))))))).ext E194) K197 (own_nlb ne207 (own_nlb ne207 (own_nlb ne207 (own_nlb ne207 (own_nlb ne207 (own_nlb ne207 (own_nlb ne207 (own_nlb ne207 own_nl0)))))))))
    have t212 := (own_fld ((own_fld ((own_fld i182_71 K185 (own_nls (sn123 hw) (own_nls (sn122 hw) (own_nls (sn121 hw) (own_nls (sn120 hw) (own_nls (sn119 hw) (own_nls (sn118 hw) (own_nls (sn117 hw) (own_nls (sn116 hw) own_nl0))))))))).ext E188) K191 (own_nlb ne206 (own_nlb ne206 (own_nlb ne206 (own_nlb ne206 (own_nlb ne206 (own_nlb ne206 (own_nlb ne206 (own_nlb ne206 own_nl0))))))))).ext E194) K197 (own_nlb ne207 (own_nlb ne207 (own_nlb ne207 (own_nlb ne207 (own_nlb ne207 (own_nlb ne207 (own_nlb ne207 (own_nlb ne207 own_nl0)))))))))
    have t213 := (own_fld ((own_fld ((own_fld (i178_73.ext E182) K185 (own_nlb ne200 (own_nlb ne200 (own_nlb ne200 (own_nlb ne200 (own_nlb ne200 (own_nlb ne200 (own_nlb ne200 (own_nlb ne200 own_nl0))))))))).ext E188) K191 (own_nlb ne201 (own_nlb ne201 (own_nlb ne201 (own_nlb ne201 (own_nlb ne201 (own_nlb ne201 (own_nlb ne201 (own_nlb ne201 own_nl0))))))))).ext E194) K197 (own_nlb ne202 (own_nlb ne202 (own_nlb ne202 (own_nlb ne202 (own_nlb ne202 (own_nlb ne202 (own_nlb ne202 (own_nlb ne202 own_nl0)))))))))
    have t214 := (own_fld ((own_fld ((own_fld (i178_75.ext E182) K185 (own_nlb ne200 (own_nlb ne200 (own_nlb ne200 (own_nlb ne200 (own_nlb ne200 (own_nlb ne200 (own_nlb ne200 (own_nlb ne200 own_nl0))))))))).ext E188) K191 (own_nlb ne201 (own_nlb ne201 (own_nlb ne201 (own_nlb ne201 (own_nlb ne201 (own_nlb ne201 (own_nlb ne201 (own_nlb ne201 own_nl0))))))))).ext E194) K197 (own_nlb ne202 (own_nlb ne202 (own_nlb ne202 (own_nlb ne202 (own_nlb ne202 (own_nlb ne202 (own_nlb ne202 (own_nlb ne202 own_nl0)))))))))
    have t215 := (own_fld ((own_fld ((own_fld (i178_77.ext E182) K185 (own_nlb ne200 (own_nlb ne200 (own_nlb ne200 (own_nlb ne200 (own_nlb ne200 (own_nlb ne200 (own_nlb ne200 (own_nlb ne200 own_nl0))))))))).ext E188) K191 (own_nlb ne201 (own_nlb ne201 (own_nlb ne201 (own_nlb ne201 (own_nlb ne201 (own_nlb ne201 (own_nlb ne201 (own_nlb ne201 own_nl0))))))))).ext E194) K197 (own_nlb ne202 (own_nlb ne202 (own_nlb ne202 (own_nlb ne202 (own_nlb ne202 (own_nlb ne202 (own_nlb ne202 (own_nlb ne202 own_nl0)))))))))
    have t216 := (own_fld ((own_fld (r185_2.ext E188) K191 (own_nlb ne206 (own_nlb ne206 (own_nlb ne206 (own_nlb ne206 (own_nlb ne206 (own_nlb ne206 (own_nlb ne206 (own_nlb ne206 own_nl0))))))))).ext E194) K197 (own_nlb ne207 (own_nlb ne207 (own_nlb ne207 (own_nlb ne207 (own_nlb ne207 (own_nlb ne207 (own_nlb ne207 (own_nlb ne207 own_nl0)))))))))
    obtain ⟨cq217, kq217, q217a, q217b, q217c⟩ := isOf hZ rfl t204
    obtain ⟨_, _, ⟨T217, L217, kk217, nn217⟩, -, X217, ⟨Lc217, hQ217, l217, y217, z217⟩, st217⟩ := X197.virtualBack hx (y := ym5) (z := ym5) hown (mvT hZ (wk55 hw)) (mvT hZ (wk56 hw)) (notFace_of_selects (args := #[]) (mvT hZ (wk58 hw))) (mvT hZ (wk58 hw)) (mvT hZ (wk57 hw)) (by decide) (backOf (W := 0) (rm7_6 l Z a0 hw w hW [] b178 b182 p0 T197.heap n0 O198 t203 t204 gg178 t205 t208 (Ne.symm ne200) gg182 t209 t210 t211 t212 t213 t214 t215 t216) hZ (wk59 hw) (wk2 hw) (by decide) (by decide)) q217a q217c (g := (mkF m 90 Lb199 [(.ref b182), (.ref b178)])) rfl (by rw [hml]; rfl) (Steps.refl _) (argsL := [(.ref b182)]) (rest := []) (lenOf pds_5 rfl) rfl (by show 2 * 0 + _ ≤ _; exact Nat.le_of_eq rfl) (hb hby at_90) (fun _ _ => ⟨rfl, rfl, (by decide : 4 + 0 ≤ _), (by decide : 59 + 0 ≤ _)⟩)
    dsimp only [Pt.U, Pt.locs, Pt.cells, Pt.slots] at X217 l217 y217 z217 st217 hQ217
    subst l217 y217 z217
    obtain ⟨rfl, N217q, K217, r217_0, r217_1, r217_2, r217_3, r217_4, r217_5, r217_6, r217_7, r217_8⟩ := hQ217
    have N217 := Fr.app N197 N217q
    have O218 := own_old O198 K217 (own_ngc gg178 (own_ngc gg182 (own_ngc gg182 (own_ngc gg182 (own_ngc gg182 (own_ngc gg178 (own_ngc gg178 (own_ngc gg178 (own_ngc gg178 own_ng0)))))))))
    obtain ⟨T219, X219, e219, st219⟩ := getF X217 hx hZ hown (host := "") (Or.inl (wk79 hw)) Via.refl rfl r217_1 (g := (mkF m 95 Lb199 [(.ref b182)])) rfl rfl (hb hby at_95)
    obtain ⟨T220, X220, e220, st220⟩ := getF X219 hx hZ hown (host := "") (Or.inl (wk80 hw)) Via.refl e219 r217_2 (g := (mkF m 105 Lb199 [(.ref b182)])) rfl rfl (hb hby at_105)
    obtain ⟨T221, X221, e221, st221⟩ := getF X220 hx hZ hown (host := "") (Or.inl (wk81 hw)) Via.refl e220 r217_4 (g := (mkF m 115 Lb199 [(.ref b182)])) rfl rfl (hb hby at_115)
    obtain ⟨T222, X222, e222, st222⟩ := getF X221 hx hZ hown (host := "") (Or.inl (wk82 hw)) Via.refl e221 r217_5 (g := (mkF m 123 Lb199 [(.ref b182)])) rfl rfl (hb hby at_123)
    let Lb223 : Array Slot := #[.val (.long p0), .second, .val (.long p1), .second, .val (.long p2), .second, .val (.int p3), .val (.int (1 : Int32)), .val (.int (0 : Int32)), .val (.ref b178), .val (.ref b182), .val (.ref b188), .val (.ref b194), .val (.int (1 : Int32)), .unset, .unset, .unset, .unset, .unset, .unset]
    let Lb224 : Array Slot := #[.val (.long p0), .second, .val (.long p1), .second, .val (.long p2), .second, .val (.int p3), .val (.int (1 : Int32)), .val (.int (0 : Int32)), .val (.ref b178), .val (.ref b182), .val (.ref b188), .val (.ref b194), .val (.int (1 : Int32)), .val (.long (0 : Int64)), .second, .unset, .unset, .unset, .unset]
    have t225 := (own_exa t204 K217)
    have t226 := (own_exa (own_exa ((own_exa A188 K191).ext E194) K197) K217)
    have ne227 : b188 ≠ b194 := (Nat.ne_of_lt (Nat.lt_of_lt_of_le (Nat.lt_of_lt_of_le A188.lt K191.1) (Nat.le_of_eq g194.symm)))
    have t228 := (own_fld (own_fld ((own_fld i188_63 K191 (own_nls (sn99 hw) (own_nls (sn98 hw) (own_nls (sn97 hw) (own_nls (sn96 hw) (own_nls (sn95 hw) (own_nls (sn94 hw) (own_nls (sn93 hw) (own_nls (sn92 hw) own_nl0))))))))).ext E194) K197 (own_nlb ne227 (own_nlb ne227 (own_nlb ne227 (own_nlb ne227 (own_nlb ne227 (own_nlb ne227 (own_nlb ne227 (own_nlb ne227 own_nl0))))))))) K217 (own_nlb (Ne.symm ne201) (own_nlb (Ne.symm ne206) (own_nlb (Ne.symm ne206) (own_nlb (Ne.symm ne206) (own_nlb (Ne.symm ne206) (own_nlb (Ne.symm ne201) (own_nlb (Ne.symm ne201) (own_nlb (Ne.symm ne201) (own_nlb (Ne.symm ne201) own_nl0))))))))))
    have t229 := (own_fld (own_fld ((own_fld i188_65 K191 (own_nls (sn107 hw) (own_nls (sn106 hw) (own_nls (sn105 hw) (own_nls (sn104 hw) (own_nls (sn103 hw) (own_nls (sn102 hw) (own_nls (sn101 hw) (own_nls (sn100 hw) own_nl0))))))))).ext E194) K197 (own_nlb ne227 (own_nlb ne227 (own_nlb ne227 (own_nlb ne227 (own_nlb ne227 (own_nlb ne227 (own_nlb ne227 (own_nlb ne227 own_nl0))))))))) K217 (own_nlb (Ne.symm ne201) (own_nlb (Ne.symm ne206) (own_nlb (Ne.symm ne206) (own_nlb (Ne.symm ne206) (own_nlb (Ne.symm ne206) (own_nlb (Ne.symm ne201) (own_nlb (Ne.symm ne201) (own_nlb (Ne.symm ne201) (own_nlb (Ne.symm ne201) own_nl0))))))))))
    have t230 := (own_fld (own_fld ((own_fld i188_69 K191 (own_nls (sn115 hw) (own_nls (sn114 hw) (own_nls (sn113 hw) (own_nls (sn112 hw) (own_nls (sn111 hw) (own_nls (sn110 hw) (own_nls (sn109 hw) (own_nls (sn108 hw) own_nl0))))))))).ext E194) K197 (own_nlb ne227 (own_nlb ne227 (own_nlb ne227 (own_nlb ne227 (own_nlb ne227 (own_nlb ne227 (own_nlb ne227 (own_nlb ne227 own_nl0))))))))) K217 (own_nlb (Ne.symm ne201) (own_nlb (Ne.symm ne206) (own_nlb (Ne.symm ne206) (own_nlb (Ne.symm ne206) (own_nlb (Ne.symm ne206) (own_nlb (Ne.symm ne201) (own_nlb (Ne.symm ne201) (own_nlb (Ne.symm ne201) (own_nlb (Ne.symm ne201) own_nl0))))))))))
    have t231 := (own_fld (own_fld ((own_fld i188_71 K191 (own_nls (sn123 hw) (own_nls (sn122 hw) (own_nls (sn121 hw) (own_nls (sn120 hw) (own_nls (sn119 hw) (own_nls (sn118 hw) (own_nls (sn117 hw) (own_nls (sn116 hw) own_nl0))))))))).ext E194) K197 (own_nlb ne227 (own_nlb ne227 (own_nlb ne227 (own_nlb ne227 (own_nlb ne227 (own_nlb ne227 (own_nlb ne227 (own_nlb ne227 own_nl0))))))))) K217 (own_nlb (Ne.symm ne201) (own_nlb (Ne.symm ne206) (own_nlb (Ne.symm ne206) (own_nlb (Ne.symm ne206) (own_nlb (Ne.symm ne206) (own_nlb (Ne.symm ne201) (own_nlb (Ne.symm ne201) (own_nlb (Ne.symm ne201) (own_nlb (Ne.symm ne201) own_nl0))))))))))
    have t232 := (own_exa t205 K217)
    have t233 := (own_fld (own_fld (r191_2.ext E194) K197 (own_nlb ne227 (own_nlb ne227 (own_nlb ne227 (own_nlb ne227 (own_nlb ne227 (own_nlb ne227 (own_nlb ne227 (own_nlb ne227 own_nl0))))))))) K217 (own_nlb (Ne.symm ne201) (own_nlb (Ne.symm ne206) (own_nlb (Ne.symm ne206) (own_nlb (Ne.symm ne206) (own_nlb (Ne.symm ne206) (own_nlb (Ne.symm ne201) (own_nlb (Ne.symm ne201) (own_nlb (Ne.symm ne201) (own_nlb (Ne.symm ne201) own_nl0))))))))))
    obtain ⟨cq234, kq234, q234a, q234b, q234c⟩ := isOf hZ e222 t225
    obtain ⟨_, _, ⟨T234, L234, kk234, nn234⟩, -, X234, ⟨Lc234, hQ234, l234, y234, z234⟩, st234⟩ := X222.virtualBack hx (y := ym5) (z := ym5) hown (mvT hZ (wk55 hw)) (mvT hZ (wk56 hw)) (notFace_of_selects (args := #[]) (mvT hZ (wk58 hw))) (mvT hZ (wk58 hw)) (mvT hZ (wk57 hw)) (by decide) (backOf (W := 0) (rm7_7 l Z a0 hw w hW [] b178 b188 b182 ((0 : Int64) + p0) p1 T217.heap n0 O218 r217_0 t225 gg178 t226 t228 (Ne.symm ne201) gg188 t229 r217_3 t230 t231 t232 r217_5 (Ne.symm ne200) ne206 gg182 r217_7 r217_8 t233) hZ (wk59 hw) (wk2 hw) (by decide) (by decide)) q234a q234c (g := (mkF m 215 Lb224 [(.ref b188), (.ref b178)])) rfl (by rw [hml]; rfl) (Steps.refl _) (argsL := [(.ref b188)]) (rest := []) (lenOf pds_5 rfl) rfl (by show 2 * 0 + _ ≤ _; exact Nat.le_of_eq rfl) (hb hby at_215) (fun _ _ => ⟨rfl, e222, (by decide : 4 + 0 ≤ _), (by decide : 59 + 0 ≤ _)⟩)
    dsimp only [Pt.U, Pt.locs, Pt.cells, Pt.slots] at X234 l234 y234 z234 st234 hQ234
    subst l234 y234 z234
    obtain ⟨rfl, N234q, K234, r234_0, r234_1, r234_2, r234_3, r234_4, r234_5, r234_6, r234_7, r234_8⟩ := hQ234
    have N234 := Fr.app N217 N234q
    have O235 := own_old O218 K234 (own_ngc gg178 (own_ngc gg188 (own_ngc gg188 (own_ngc gg188 (own_ngc gg188 (own_ngc gg182 (own_ngc gg178 (own_ngc gg178 (own_ngc gg178 own_ng0)))))))))
    obtain ⟨T236, X236, e236, st236⟩ := getF X234 hx hZ hown (host := "") (Or.inl (wk79 hw)) Via.refl rfl r234_1 (g := (mkF m 225 Lb224 [(.ref b188)])) rfl rfl (hb hby at_225)
    obtain ⟨T237, X237, e237, st237⟩ := getF X236 hx hZ hown (host := "") (Or.inl (wk80 hw)) Via.refl e236 r234_2 (g := (mkF m 240 Lb224 [(.ref b188)])) rfl rfl (hb hby at_240)
    obtain ⟨T238, X238, e238, st238⟩ := getF X237 hx hZ hown (host := "") (Or.inl (wk81 hw)) Via.refl e237 r234_4 (g := (mkF m 250 Lb224 [(.ref b188)])) rfl rfl (hb hby at_250)
    obtain ⟨T239, X239, e239, st239⟩ := getF X238 hx hZ hown (host := "") (Or.inl (wk82 hw)) Via.refl e238 r234_5 (g := (mkF m 260 Lb224 [(.ref b188)])) rfl rfl (hb hby at_260)
    obtain ⟨T240, X240, e240, st240⟩ := getF X239 hx hZ hown (host := "") (Or.inl (wk82 hw)) Via.refl e239 r234_6 (g := (mkF m 268 Lb224 [(.ref b182)])) rfl rfl (hb hby at_268)
    have t241 := (own_fld r217_4 K234 (own_nlb (Ne.symm ne200) (own_nlb ne206 (own_nlb ne206 (own_nlb ne206 (own_nlb ne206 (own_nls (sn87 hw) (own_nlb (Ne.symm ne200) (own_nlb (Ne.symm ne200) (own_nlb (Ne.symm ne200) own_nl0))))))))))
    obtain ⟨T242, X242, e242, st242⟩ := getF X240 hx hZ hown (host := "") (Or.inl (wk81 hw)) Via.refl e240 t241 (g := (mkF m 278 Lb224 [(.ref b182)])) rfl rfl (hb hby at_278)
    have t243 := (own_exa t225 K234)
    have t244 := (own_exa (own_exa (own_exa A194 K197) K217) K234)
    have t245 := (own_fld (own_fld (own_fld i194_63 K197 (own_nls (sn99 hw) (own_nls (sn98 hw) (own_nls (sn97 hw) (own_nls (sn96 hw) (own_nls (sn95 hw) (own_nls (sn94 hw) (own_nls (sn93 hw) (own_nls (sn92 hw) own_nl0))))))))) K217 (own_nlb (Ne.symm ne202) (own_nlb (Ne.symm ne207) (own_nlb (Ne.symm ne207) (own_nlb (Ne.symm ne207) (own_nlb (Ne.symm ne207) (own_nlb (Ne.symm ne202) (own_nlb (Ne.symm ne202) (own_nlb (Ne.symm ne202) (own_nlb (Ne.symm ne202) own_nl0)))))))))) K234 (own_nlb (Ne.symm ne202) (own_nlb (Ne.symm ne227) (own_nlb (Ne.symm ne227) (own_nlb (Ne.symm ne227) (own_nlb (Ne.symm ne227) (own_nlb (Ne.symm ne207) (own_nlb (Ne.symm ne202) (own_nlb (Ne.symm ne202) (own_nlb (Ne.symm ne202) own_nl0))))))))))
    have t246 := (own_fld (own_fld (own_fld i194_65 K197 (own_nls (sn107 hw) (own_nls (sn106 hw) (own_nls (sn105 hw) (own_nls (sn104 hw) (own_nls (sn103 hw) (own_nls (sn102 hw) (own_nls (sn101 hw) (own_nls (sn100 hw) own_nl0))))))))) K217 (own_nlb (Ne.symm ne202) (own_nlb (Ne.symm ne207) (own_nlb (Ne.symm ne207) (own_nlb (Ne.symm ne207) (own_nlb (Ne.symm ne207) (own_nlb (Ne.symm ne202) (own_nlb (Ne.symm ne202) (own_nlb (Ne.symm ne202) (own_nlb (Ne.symm ne202) own_nl0)))))))))) K234 (own_nlb (Ne.symm ne202) (own_nlb (Ne.symm ne227) (own_nlb (Ne.symm ne227) (own_nlb (Ne.symm ne227) (own_nlb (Ne.symm ne227) (own_nlb (Ne.symm ne207) (own_nlb (Ne.symm ne202) (own_nlb (Ne.symm ne202) (own_nlb (Ne.symm ne202) own_nl0))))))))))
    have t247 := (own_fld (own_fld (own_fld i194_69 K197 (own_nls (sn115 hw) (own_nls (sn114 hw) (own_nls (sn113 hw) (own_nls (sn112 hw) (own_nls (sn111 hw) (own_nls (sn110 hw) (own_nls (sn109 hw) (own_nls (sn108 hw) own_nl0))))))))) K217 (own_nlb (Ne.symm ne202) (own_nlb (Ne.symm ne207) (own_nlb (Ne.symm ne207) (own_nlb (Ne.symm ne207) (own_nlb (Ne.symm ne207) (own_nlb (Ne.symm ne202) (own_nlb (Ne.symm ne202) (own_nlb (Ne.symm ne202) (own_nlb (Ne.symm ne202) own_nl0)))))))))) K234 (own_nlb (Ne.symm ne202) (own_nlb (Ne.symm ne227) (own_nlb (Ne.symm ne227) (own_nlb (Ne.symm ne227) (own_nlb (Ne.symm ne227) (own_nlb (Ne.symm ne207) (own_nlb (Ne.symm ne202) (own_nlb (Ne.symm ne202) (own_nlb (Ne.symm ne202) own_nl0))))))))))
    have t248 := (own_fld (own_fld (own_fld i194_71 K197 (own_nls (sn123 hw) (own_nls (sn122 hw) (own_nls (sn121 hw) (own_nls (sn120 hw) (own_nls (sn119 hw) (own_nls (sn118 hw) (own_nls (sn117 hw) (own_nls (sn116 hw) own_nl0))))))))) K217 (own_nlb (Ne.symm ne202) (own_nlb (Ne.symm ne207) (own_nlb (Ne.symm ne207) (own_nlb (Ne.symm ne207) (own_nlb (Ne.symm ne207) (own_nlb (Ne.symm ne202) (own_nlb (Ne.symm ne202) (own_nlb (Ne.symm ne202) (own_nlb (Ne.symm ne202) own_nl0)))))))))) K234 (own_nlb (Ne.symm ne202) (own_nlb (Ne.symm ne227) (own_nlb (Ne.symm ne227) (own_nlb (Ne.symm ne227) (own_nlb (Ne.symm ne227) (own_nlb (Ne.symm ne207) (own_nlb (Ne.symm ne202) (own_nlb (Ne.symm ne202) (own_nlb (Ne.symm ne202) own_nl0))))))))))
    have t249 := (own_exa t226 K234)
    have t250 := (own_fld (own_fld r197_2 K217 (own_nlb (Ne.symm ne202) (own_nlb (Ne.symm ne207) (own_nlb (Ne.symm ne207) (own_nlb (Ne.symm ne207) (own_nlb (Ne.symm ne207) (own_nlb (Ne.symm ne202) (own_nlb (Ne.symm ne202) (own_nlb (Ne.symm ne202) (own_nlb (Ne.symm ne202) own_nl0)))))))))) K234 (own_nlb (Ne.symm ne202) (own_nlb (Ne.symm ne227) (own_nlb (Ne.symm ne227) (own_nlb (Ne.symm ne227) (own_nlb (Ne.symm ne227) (own_nlb (Ne.symm ne207) (own_nlb (Ne.symm ne202) (own_nlb (Ne.symm ne202) (own_nlb (Ne.symm ne202) own_nl0))))))))))
    obtain ⟨cq251, kq251, q251a, q251b, q251c⟩ := isOf hZ e242 t243
    obtain ⟨_, _, ⟨T251, L251, kk251, nn251⟩, -, X251, ⟨Lc251, hQ251, l251, y251, z251⟩, st251⟩ := X242.virtualBack hx (y := ym5) (z := ym5) hown (mvT hZ (wk55 hw)) (mvT hZ (wk56 hw)) (notFace_of_selects (args := #[]) (mvT hZ (wk58 hw))) (mvT hZ (wk58 hw)) (mvT hZ (wk57 hw)) (by decide) (backOf (W := 0) (rm7_14 l Z a0 hw w hW [] b178 b194 b188 (((0 : Int64) + p0) + p1) p2 T234.heap n0 O235 r234_0 t243 gg178 t244 t245 (Ne.symm ne202) gg194 t246 r234_3 t247 t248 t249 r234_5 (Ne.symm ne201) ne227 gg188 r234_7 r234_8 t250) hZ (wk59 hw) (wk2 hw) (by decide) (by decide)) q251a q251c (g := (mkF m 300 Lb224 [(.ref b194), (.ref b178)])) rfl (by rw [hml]; rfl) (Steps.refl _) (argsL := [(.ref b194)]) (rest := []) (lenOf pds_5 rfl) rfl (by show 2 * 0 + _ ≤ _; exact Nat.le_of_eq rfl) (hb hby at_300) (fun _ _ => ⟨rfl, e242, (by decide : 4 + 0 ≤ _), (by decide : 59 + 0 ≤ _)⟩)
    dsimp only [Pt.U, Pt.locs, Pt.cells, Pt.slots] at X251 l251 y251 z251 st251 hQ251
    subst l251 y251 z251
    obtain ⟨rfl, N251q, K251, r251_0, r251_1, r251_2, r251_3, r251_4, r251_5, r251_6, r251_7, r251_8⟩ := hQ251
    have N251 := Fr.app N234 N251q
    have O252 := own_old O235 K251 (own_ngc gg178 (own_ngc gg194 (own_ngc gg194 (own_ngc gg194 (own_ngc gg194 (own_ngc gg188 (own_ngc gg178 (own_ngc gg178 (own_ngc gg178 own_ng0)))))))))
    obtain ⟨T253, X253, e253, st253⟩ := getF X251 hx hZ hown (host := "") (Or.inl (wk79 hw)) Via.refl rfl r251_1 (g := (mkF m 310 Lb224 [(.ref b194)])) rfl rfl (hb hby at_310)
    obtain ⟨T254, X254, e254, st254⟩ := getF X253 hx hZ hown (host := "") (Or.inl (wk80 hw)) Via.refl e253 r251_2 (g := (mkF m 325 Lb224 [(.ref b194)])) rfl rfl (hb hby at_325)
    obtain ⟨T255, X255, e255, st255⟩ := getF X254 hx hZ hown (host := "") (Or.inl (wk81 hw)) Via.refl e254 r251_4 (g := (mkF m 335 Lb224 [(.ref b194)])) rfl rfl (hb hby at_335)
    obtain ⟨T256, X256, e256, st256⟩ := getF X255 hx hZ hown (host := "") (Or.inl (wk82 hw)) Via.refl e255 r251_5 (g := (mkF m 345 Lb224 [(.ref b194)])) rfl rfl (hb hby at_345)
    obtain ⟨T257, X257, e257, st257⟩ := getF X256 hx hZ hown (host := "") (Or.inl (wk82 hw)) Via.refl e256 r251_6 (g := (mkF m 353 Lb224 [(.ref b188)])) rfl rfl (hb hby at_353)
    have pre258 : ∀ t, Steps p.tables e below (T257.setTop (mkF m 358 Lb224 [(.ref b194), (.ref b194)])) t → Steps p.tables e below (s₁.setTop (entryFrame m #[(.long p0), (.long p1), (.long p2), (.int p3)] maxLocals)) t := fun t k => pre175 t (by
     show Steps p.tables e below (s₁.setTop (mkF m 18 Lb174 [(.int (p3 &&& (2 : Int32)))])) _
     refine XS.ifYes X0.here hx rfl (pc0 := 18) (pc' := 25) rfl (hb hby at_18) rfl ((if0 _ _).trans (teq (hc176 : (p3 &&& (2 : Int32)) = (0 : Int32))).1) (by decide) (by decide) ?_
     refine sc X0 hx hby at_25 ?_
     refine XS.istore X0.here hx rfl (hb hby at_26) rfl (l' := Lb177) rfl ?_
     refine st178 _ ?_
     refine XS.dup X178.here hx rfl (hb hby at_31) rfl rfl ?_
     refine st180.trans ?_
     refine XS.astore X180.here hx rfl (hb hby at_35) rfl rfl (l' := Lb181) rfl ?_
     refine st182 _ ?_
     refine XS.dup X182.here hx rfl (hb hby at_40) rfl rfl ?_
     refine XS.aconstNull X182.here hx rfl (hb hby at_41) ?_
     refine XS.aconstNull X182.here hx rfl (hb hby at_42) ?_
     refine st184 _ ?_
     refine XS.lconst X184.here hx rfl (hb hby at_46) ?_
     refine sL X184 hx hby at_47 rfl ?_
     refine st185.trans ?_
     refine XS.astore X185.here hx rfl (hb hby at_51) rfl rfl (l' := Lb187) rfl ?_
     refine st188 _ ?_
     refine XS.dup X188.here hx rfl (hb hby at_56) rfl rfl ?_
     refine XS.aconstNull X188.here hx rfl (hb hby at_57) ?_
     refine XS.aconstNull X188.here hx rfl (hb hby at_58) ?_
     refine st190 _ ?_
     refine XS.lconst X190.here hx rfl (hb hby at_62) ?_
     refine sL X190 hx hby at_63 rfl ?_
     refine st191.trans ?_
     refine XS.astore X191.here hx rfl (hb hby at_67) rfl rfl (l' := Lb193) rfl ?_
     refine st194 _ ?_
     refine XS.dup X194.here hx rfl (hb hby at_72) rfl rfl ?_
     refine XS.aconstNull X194.here hx rfl (hb hby at_73) ?_
     refine XS.aconstNull X194.here hx rfl (hb hby at_74) ?_
     refine st196 _ ?_
     refine XS.lconst X196.here hx rfl (hb hby at_78) ?_
     refine XS.lload X196.here hx rfl (hb hby at_79) rfl ?_
     refine st197.trans ?_
     refine XS.astore X197.here hx rfl (hb hby at_84) rfl rfl (l' := Lb199) rfl ?_
     refine sa X197 hx hby at_86 rfl rfl ?_
     refine sa X197 hx hby at_88 rfl rfl ?_
     refine st217.trans ?_
     refine sa X217 hx hby at_93 rfl rfl ?_
     refine st219 _ ?_
     refine XS.lconst X219.here hx rfl (hb hby at_98) ?_
     refine XS.lcmp X219.here hx rfl (hb hby at_99) rfl ?_
     refine sN X219 hx hby at_100 (by decide) ?_
     refine sa X219 hx hby at_103 rfl rfl ?_
     refine st220 _ ?_
     refine sa X220 hx hby at_108 rfl rfl ?_
     refine Jvm.RoadKit.acmp (g := (mkF m 110 Lb199 [(.ref b178), (.ref b178)])) X220 hx rfl rfl rfl (pc0 := 110) (pc' := 113) (same := true) rfl (hb hby at_110) rfl (decide_eq_true rfl) (by decide) (by decide) ?_
     refine sa X220 hx hby at_113 rfl rfl ?_
     refine st221 _ ?_
     refine XS.ifnonnullNo X221.here hx rfl (hb hby at_118) rfl ?_
     refine sa X221 hx hby at_121 rfl rfl ?_
     refine st222 _ ?_
     refine XS.ifnonnullNo X222.here hx rfl (hb hby at_126) rfl ?_
     refine sc X222 hx hby at_129 ?_
     refine sg (pc := 130) (pc' := 134) X222 hx hby at_130 (by decide) (by decide) ?_
     refine XS.istore X222.here hx rfl (hb hby at_134) rfl (l' := Lb223) rfl ?_
     refine XS.lconst X222.here hx rfl (hb hby at_136) ?_
     refine XS.lstore X222.here hx rfl (hb hby at_137) rfl (l' := Lb224) rfl ?_
     refine si X222 hx hby at_139 rfl ?_
     refine XS.ifYes X222.here hx rfl (pc0 := 141) (pc' := 211) rfl (hb hby at_141) rfl (by decide) (by decide) (by decide) ?_
     refine sa X222 hx hby at_211 rfl rfl ?_
     refine sa X222 hx hby at_213 rfl rfl ?_
     refine st234.trans ?_
     refine si X234 hx hby at_218 rfl ?_
     refine sN X234 hx hby at_220 (by decide) ?_
     refine sa X234 hx hby at_223 rfl rfl ?_
     refine st236 _ ?_
     refine XS.lload X236.here hx rfl (hb hby at_228) rfl ?_
     refine X236.ldc2Long hx hown (mvT hZ (wk88 hw)) (g := (mkF m 230 Lb224 [(.long (0 : Int64)), (.long (2 : Int64))])) rfl (hb hby at_230) _ ?_
     refine XS.ladd X236.here hx rfl (hb hby at_233) rfl ?_
     refine XS.lcmp X236.here hx rfl (hb hby at_234) rfl ?_
     refine sN X236 hx hby at_235 (by decide) ?_
     refine sa X236 hx hby at_238 rfl rfl ?_
     refine st237 _ ?_
     refine sa X237 hx hby at_243 rfl rfl ?_
     refine Jvm.RoadKit.acmp (g := (mkF m 245 Lb224 [(.ref b178), (.ref b178)])) X237 hx rfl rfl rfl (pc0 := 245) (pc' := 248) (same := true) rfl (hb hby at_245) rfl (decide_eq_true rfl) (by decide) (by decide) ?_
     refine sa X237 hx hby at_248 rfl rfl ?_
     refine st238 _ ?_
     refine sa X238 hx hby at_253 rfl rfl ?_
     refine Jvm.RoadKit.acmp (g := (mkF m 255 Lb224 [(.ref b182), (.ref b182)])) X238 hx rfl rfl rfl (pc0 := 255) (pc' := 258) (same := true) rfl (hb hby at_255) rfl (decide_eq_true rfl) (by decide) (by decide) ?_
     refine sa X238 hx hby at_258 rfl rfl ?_
     refine st239 _ ?_
     refine XS.ifnonnullNo X239.here hx rfl (hb hby at_263) rfl ?_
     refine sa X239 hx hby at_266 rfl rfl ?_
     refine st240 _ ?_
     refine sa X240 hx hby at_271 rfl rfl ?_
     refine Jvm.RoadKit.acmp (g := (mkF m 273 Lb224 [(.ref b188), (.ref b188)])) X240 hx rfl rfl rfl (pc0 := 273) (pc' := 276) (same := true) rfl (hb hby at_273) rfl (decide_eq_true rfl) (by decide) (by decide) ?_
     refine sa X240 hx hby at_276 rfl rfl ?_
     refine st242 _ ?_
     refine XS.ifnonnullNo X242.here hx rfl (hb hby at_281) rfl ?_
     refine sc X242 hx hby at_284 ?_
     refine sg (pc := 285) (pc' := 289) X242 hx hby at_285 (by decide) (by decide) ?_
     refine XS.istore X242.here hx rfl (hb hby at_289) rfl (l' := Lb224) rfl ?_
     refine si X242 hx hby at_291 rfl ?_
     refine sN X242 hx hby at_293 (by decide) ?_
     refine sa X242 hx hby at_296 rfl rfl ?_
     refine sa X242 hx hby at_298 rfl rfl ?_
     refine st251.trans ?_
     refine si X251 hx hby at_303 rfl ?_
     refine sN X251 hx hby at_305 (by decide) ?_
     refine sa X251 hx hby at_308 rfl rfl ?_
     refine st253 _ ?_
     refine XS.lload X253.here hx rfl (hb hby at_313) rfl ?_
     refine X253.ldc2Long hx hown (mvT hZ (wk104 hw)) (g := (mkF m 315 Lb224 [(.long (0 : Int64)), (.long (3 : Int64))])) rfl (hb hby at_315) _ ?_
     refine XS.ladd X253.here hx rfl (hb hby at_318) rfl ?_
     refine XS.lcmp X253.here hx rfl (hb hby at_319) rfl ?_
     refine sN X253 hx hby at_320 (by decide) ?_
     refine sa X253 hx hby at_323 rfl rfl ?_
     refine st254 _ ?_
     refine sa X254 hx hby at_328 rfl rfl ?_
     refine Jvm.RoadKit.acmp (g := (mkF m 330 Lb224 [(.ref b178), (.ref b178)])) X254 hx rfl rfl rfl (pc0 := 330) (pc' := 333) (same := true) rfl (hb hby at_330) rfl (decide_eq_true rfl) (by decide) (by decide) ?_
     refine sa X254 hx hby at_333 rfl rfl ?_
     refine st255 _ ?_
     refine sa X255 hx hby at_338 rfl rfl ?_
     refine Jvm.RoadKit.acmp (g := (mkF m 340 Lb224 [(.ref b188), (.ref b188)])) X255 hx rfl rfl rfl (pc0 := 340) (pc' := 343) (same := true) rfl (hb hby at_340) rfl (decide_eq_true rfl) (by decide) (by decide) ?_
     refine sa X255 hx hby at_343 rfl rfl ?_
     refine st256 _ ?_
     refine XS.ifnonnullNo X256.here hx rfl (hb hby at_348) rfl ?_
     refine sa X256 hx hby at_351 rfl rfl ?_
     refine st257 _ ?_
     refine sa X257 hx hby at_356 rfl rfl ?_
     exact k)
    have t259 := (own_fld r234_4 K251 (own_nlb (Ne.symm ne201) (own_nlb ne227 (own_nlb ne227 (own_nlb ne227 (own_nlb ne227 (own_nls (sn87 hw) (own_nlb (Ne.symm ne201) (own_nlb (Ne.symm ne201) (own_nlb (Ne.symm ne201) own_nl0))))))))))
    obtain ⟨T260, X260, e260, st260⟩ := getF X257 hx hZ hown (host := "") (Or.inl (wk81 hw)) Via.refl e257 t259 (g := (mkF m 363 Lb224 [(.ref b188)])) rfl rfl (hb hby at_363)
    have t261 := (own_fld r234_6 K251 (own_nlb (Ne.symm ne200) (own_nlb ne207 (own_nlb ne207 (own_nlb ne207 (own_nlb ne207 (own_nlb ne206 (own_nlb (Ne.symm ne200) (own_nlb (Ne.symm ne200) (own_nlb (Ne.symm ne200) own_nl0))))))))))
    obtain ⟨T262, X262, e262, st262⟩ := getF X260 hx hZ hown (host := "") (Or.inl (wk82 hw)) Via.refl e260 t261 (g := (mkF m 373 Lb224 [(.ref b182)])) rfl rfl (hb hby at_373)
    have t263 := (own_fld t241 K251 (own_nlb (Ne.symm ne200) (own_nlb ne207 (own_nlb ne207 (own_nlb ne207 (own_nlb ne207 (own_nlb ne206 (own_nlb (Ne.symm ne200) (own_nlb (Ne.symm ne200) (own_nlb (Ne.symm ne200) own_nl0))))))))))
    obtain ⟨T264, X264, e264, st264⟩ := getF X262 hx hZ hown (host := "") (Or.inl (wk81 hw)) Via.refl e262 t263 (g := (mkF m 383 Lb224 [(.ref b182)])) rfl rfl (hb hby at_383)
    let Lb265 : Array Slot := #[.val (.long p0), .second, .val (.long p1), .second, .val (.long p2), .second, .val (.int p3), .val (.int (1 : Int32)), .val (.int (0 : Int32)), .val (.ref b178), .val (.ref b182), .val (.ref b188), .val (.ref b194), .val (.int (1 : Int32)), .val (.long (0 : Int64)), .second, .val (.long (3 : Int64)), .second, .unset, .unset]
    let Lb266 : Array Slot := #[.val (.long p0), .second, .val (.long p1), .second, .val (.long p2), .second, .val (.int p3), .val (.int (1 : Int32)), .val (.int (0 : Int32)), .val (.ref b178), .val (.ref b182), .val (.ref b188), .val (.ref b194), .val (.int (1 : Int32)), .val (.long (0 : Int64)), .second, .val (.long (3 : Int64)), .second, .val (.long ((p0 + p1) + p2)), .second]
    have t268 := (own_exa t243 K251)
    obtain ⟨cq267, kq267, q267a, q267b, q267c⟩ := isOf hZ e264 t268
    obtain ⟨_, _, ⟨T267, L267, kk267, nn267⟩, -, X267, ⟨Lc267, hQ267, l267, y267, z267⟩, st267⟩ := X264.virtualBack hx (y := ym6) (z := ym6) hown (mvT hZ (wk89 hw)) (mvT hZ (wk90 hw)) (notFace_of_selects (args := #[]) (mvT hZ (wk92 hw))) (mvT hZ (wk92 hw)) (mvT hZ (wk91 hw)) (by decide) (backOf (W := 0) (rm9_15 l Z a0 hw w hW [] b178 T251.heap n0 O252 r251_7) hZ (wk93 hw) (wk2 hw) (by decide) (by decide)) q267a q267c (g := (mkF m 436 Lb266 [(.ref b178)])) rfl (by rw [hml]; rfl) (Steps.refl _) (argsL := []) (rest := []) (lenOf pds_6 rfl) rfl (by show 2 * 0 + _ ≤ _; exact Nat.le_of_eq rfl) (hb hby at_436) (fun _ _ => ⟨rfl, e264, (by decide : 4 + 0 ≤ _), (by decide : 59 + 0 ≤ _)⟩)
    dsimp only [Pt.U, Pt.locs, Pt.cells, Pt.slots] at X267 l267 y267 z267 st267 hQ267
    subst l267 y267 z267
    obtain ⟨rfl, N267q, e267⟩ := hQ267
    have N267 := Fr.app N251 N267q
    obtain ⟨cq269, kq269, q269a, q269b, q269c⟩ := isOf hZ e267 t268
    obtain ⟨_, _, ⟨T269, L269, kk269, nn269⟩, -, X269, ⟨Lc269, hQ269, l269, y269, z269⟩, st269⟩ := X267.virtualBack hx (y := ym7) (z := ym7) hown (mvT hZ (wk94 hw)) (mvT hZ (wk95 hw)) (notFace_of_selects (args := #[]) (mvT hZ (wk97 hw))) (mvT hZ (wk97 hw)) (mvT hZ (wk96 hw)) (by decide) (backOf (W := 0) (rm10_9 l Z a0 hw w hW [] b178 ((((0 : Int64) + p0) + p1) + p2) T251.heap n0 O252 r251_8) hZ (wk98 hw) (wk2 hw) (by decide) (by decide)) q269a q269c (g := (mkF m 447 Lb266 [(.ref b178)])) rfl (by rw [hml]; rfl) (Steps.refl _) (argsL := []) (rest := []) (lenOf pds_6 rfl) rfl (by show 2 * 0 + _ ≤ _; exact Nat.le_of_eq rfl) (hb hby at_447) (fun _ _ => ⟨rfl, e267, (by decide : 4 + 0 ≤ _), (by decide : 59 + 0 ≤ _)⟩)
    dsimp only [Pt.U, Pt.locs, Pt.cells, Pt.slots] at X269 l269 y269 z269 st269 hQ269
    subst l269 y269 z269
    obtain ⟨rfl, N269q, e269⟩ := hQ269
    have N269 := Fr.app N267 N269q
    have pre270 : ∀ t, Steps p.tables e below (T269.setTop (mkF m 453 Lb266 [(.int (lcmpW ((((0 : Int64) + p0) + p1) + p2) ((p0 + p1) + p2)))])) t → Steps p.tables e below (s₁.setTop (entryFrame m #[(.long p0), (.long p1), (.long p2), (.int p3)] maxLocals)) t := fun t k => pre258 t (by
     show Steps p.tables e below (T257.setTop (mkF m 358 Lb224 [(.ref b194), (.ref b194)])) _
     refine Jvm.RoadKit.acmp (g := (mkF m 358 Lb224 [(.ref b194), (.ref b194)])) X257 hx rfl rfl rfl (pc0 := 358) (pc' := 361) (same := true) rfl (hb hby at_358) rfl (decide_eq_true rfl) (by decide) (by decide) ?_
     refine sa X257 hx hby at_361 rfl rfl ?_
     refine st260 _ ?_
     refine sa X260 hx hby at_366 rfl rfl ?_
     refine Jvm.RoadKit.acmp (g := (mkF m 368 Lb224 [(.ref b182), (.ref b182)])) X260 hx rfl rfl rfl (pc0 := 368) (pc' := 371) (same := true) rfl (hb hby at_368) rfl (decide_eq_true rfl) (by decide) (by decide) ?_
     refine sa X260 hx hby at_371 rfl rfl ?_
     refine st262 _ ?_
     refine sa X262 hx hby at_376 rfl rfl ?_
     refine Jvm.RoadKit.acmp (g := (mkF m 378 Lb224 [(.ref b188), (.ref b188)])) X262 hx rfl rfl rfl (pc0 := 378) (pc' := 381) (same := true) rfl (hb hby at_378) rfl (decide_eq_true rfl) (by decide) (by decide) ?_
     refine sa X262 hx hby at_381 rfl rfl ?_
     refine st264 _ ?_
     refine XS.ifnonnullNo X264.here hx rfl (hb hby at_386) rfl ?_
     refine sc X264 hx hby at_389 ?_
     refine sg (pc := 390) (pc' := 394) X264 hx hby at_390 (by decide) (by decide) ?_
     refine XS.istore X264.here hx rfl (hb hby at_394) rfl (l' := Lb224) rfl ?_
     refine si X264 hx hby at_396 rfl ?_
     refine sN X264 hx hby at_398 (by decide) ?_
     refine X264.ldc2Long hx hown (mvT hZ (wk104 hw)) (g := (mkF m 401 Lb224 [])) rfl (hb hby at_401) _ ?_
     refine sg (pc := 404) (pc' := 410) X264 hx hby at_404 (by decide) (by decide) ?_
     refine XS.lstore X264.here hx rfl (hb hby at_410) rfl (l' := Lb265) rfl ?_
     refine sL X264 hx hby at_412 rfl ?_
     refine sL X264 hx hby at_413 rfl ?_
     refine XS.ladd X264.here hx rfl (hb hby at_414) rfl ?_
     refine si X264 hx hby at_415 rfl ?_
     refine sN X264 hx hby at_417 (by decide) ?_
     refine XS.lload X264.here hx rfl (hb hby at_420) rfl ?_
     refine sg (pc := 422) (pc' := 426) X264 hx hby at_422 (by decide) (by decide) ?_
     refine XS.ladd X264.here hx rfl (hb hby at_426) rfl ?_
     refine XS.lstore X264.here hx rfl (hb hby at_427) rfl (l' := Lb266) rfl ?_
     refine si X264 hx hby at_429 rfl ?_
     refine sN X264 hx hby at_431 (by decide) ?_
     refine sa X264 hx hby at_434 rfl rfl ?_
     refine st267.trans ?_
     refine XS.lload X267.here hx rfl (hb hby at_439) rfl ?_
     refine XS.lcmp X267.here hx rfl (hb hby at_441) rfl ?_
     refine sN X267 hx hby at_442 (by decide) ?_
     refine sa X267 hx hby at_445 rfl rfl ?_
     refine st269.trans ?_
     refine XS.lload X269.here hx rfl (hb hby at_450) rfl ?_
     refine XS.lcmp X269.here hx rfl (hb hby at_452) rfl ?_
     exact k)
    by_cases hc271 : ((((0 : Int64) + p0) + p1) + p2) = ((p0 + p1) + p2)
    ·
     have t272 := (own_fld (own_fld r217_6 K234 (own_nls (sn63 hw) (own_nlb ne201 (own_nlb ne201 (own_nlb ne201 (own_nlb ne201 (own_nlb ne200 (own_nls (sn88 hw) (own_nls (sn89 hw) (own_nls (sn90 hw) own_nl0)))))))))) K251 (own_nls (sn63 hw) (own_nlb ne202 (own_nlb ne202 (own_nlb ne202 (own_nlb ne202 (own_nlb ne201 (own_nls (sn88 hw) (own_nls (sn89 hw) (own_nls (sn90 hw) own_nl0))))))))))
     obtain ⟨cq273, kq273, q273a, q273b, q273c⟩ := isOf hZ e269 t268
     obtain ⟨_, _, ⟨T273, L273, kk273, nn273⟩, -, X273, ⟨Lc273, hQ273, l273, y273, z273⟩, st273⟩ := X269.virtualBack hx (y := ym8) (z := ym8) hown (mvT hZ (wk99 hw)) (mvT hZ (wk100 hw)) (notFace_of_selects (args := #[]) (mvT hZ (wk102 hw))) (mvT hZ (wk102 hw)) (mvT hZ (wk101 hw)) (by decide) (backOf (W := 0) (rm11_10 l Z a0 hw w hW [] b178 b182 T251.heap n0 O252 t272) hZ (wk103 hw) (wk2 hw) (by decide) (by decide)) q273a q273c (g := (mkF m 458 Lb266 [(.ref b178)])) rfl (by rw [hml]; rfl) (Steps.refl _) (argsL := []) (rest := []) (lenOf pds_7 rfl) rfl (by show 2 * 0 + _ ≤ _; exact Nat.le_of_eq rfl) (hb hby at_458) (fun _ _ => ⟨rfl, e269, (by decide : 4 + 0 ≤ _), (by decide : 59 + 0 ≤ _)⟩)
     dsimp only [Pt.U, Pt.locs, Pt.cells, Pt.slots] at X273 l273 y273 z273 st273 hQ273
     subst l273 y273 z273
     obtain ⟨rfl, N273q, e273⟩ := hQ273
     have N273 := Fr.app N269 N273q
     obtain ⟨fs, hr, hrun, hended, hWm, hsame⟩ := X273.leave (v := some (.int (1 : Int32))) (fun h => by rw [Bd.returns] at h; cases h)
     refine ⟨_, _, pre270 _ ?_, hrun, hended, _, _, rfl, ?_, ⟨_, rfl⟩, hWm, hsame.mono (by decide) (by decide)⟩
     · show Steps p.tables e below (T269.setTop (mkF m 453 Lb266 [(.int (lcmpW ((((0 : Int64) + p0) + p1) + p2) ((p0 + p1) + p2)))])) _
       refine sN X269 hx hby at_453 ((if0 _ _).trans (teq (((lw_eq _ _).mpr hc271) : (lcmpW ((((0 : Int64) + p0) + p1) + p2) ((p0 + p1) + p2)) = (0 : Int32))).2) ?_
       refine sa X269 hx hby at_456 rfl rfl ?_
       refine st273.trans ?_
       refine sa X273 hx hby at_461 rfl rfl ?_
       refine Jvm.RoadKit.acmp (g := (mkF m 463 Lb266 [(.ref b182), (.ref b182)])) X273 hx rfl rfl rfl (pc0 := 463) (pc' := 466) (same := true) rfl (hb hby at_463) rfl (decide_eq_true rfl) (by decide) (by decide) ?_
       refine sc X273 hx hby at_466 ?_
       refine sg (pc := 467) (pc' := 471) X273 hx hby at_467 (by decide) (by decide) ?_
       refine XS.istore X273.here hx rfl (hb hby at_471) rfl (l' := Lb266) rfl ?_
       refine si X273 hx hby at_473 rfl ?_
       exact retN X273 hx (t := .boolean) Bd.returns (by simp) (hb hby at_475) hr
     · show Q0 n0 _ T273.heap _
       rw [e273]
       exact ⟨rfl, N273⟩
    ·
     exfalso
     have z15 : (((((0 : Int64) + p0) + p1) + p2)).toInt ≠ (((p0 + p1) + p2)).toInt := fun q => hc271 (Int64.toInt_inj.mp q)
     have z1 := rng64 ((((0 : Int64) + p0) + p1) + p2)
     have z2 := rng64 (((0 : Int64) + p0) + p1)
     have z3 := rng64 ((0 : Int64) + p0)
     have z4 : ((0 : Int64)).toInt = 0 := by decide
     have z5 := rng64 p0
     have z6 := c_ladd (0 : Int64) p0
     have z7 := rng64 p1
     have z8 := c_ladd ((0 : Int64) + p0) p1
     have z9 := rng64 p2
     have z10 := c_ladd (((0 : Int64) + p0) + p1) p2
     have z11 := rng64 ((p0 + p1) + p2)
     have z12 := rng64 (p0 + p1)
     have z13 := c_ladd p0 p1
     have z14 := c_ladd (p0 + p1) p2
     omega
   ·
    let Lb274 : Array Slot := #[.val (.long p0), .second, .val (.long p1), .second, .val (.long p2), .second, .val (.int p3), .val (.int (1 : Int32)), .val (.int (1 : Int32)), .unset, .unset, .unset, .unset, .unset, .unset, .unset, .unset, .unset, .unset, .unset]
    obtain ⟨T275, h275, X275, e275, E275, A275, D275, -, st275⟩ := newO X0 hx hZ hown (wk0 hw) (wk1 hw) (wk2 hw) e0 (g := (mkF m 28 Lb274 [])) rfl (hb hby at_28) (by decide) (by decide)
    obtain ⟨b275, g275⟩ : ∃ z, z = h0.size := ⟨_, rfl⟩
    rw [← g275] at A275 D275 st275
    have gg275 : n0 ≤ b275 := by rw [← O0.1, g275]; exact O0.2.1
    have O276 := O0.ext E275
    have i275_61 : Fld Z h275 b275 "com/example/tidemark/tidemark/RecencyList" "stamps" "J" (.long (0 : Int64)) := D275 (Or.inl (wk61 hw)) (ty := .long) (by decide)
    have i275_67 : Fld Z h275 b275 "com/example/tidemark/tidemark/RecencyList" "newest" "Lcom/example/tidemark/tidemark/MemoryEntry;" .null := D275 (Or.inl (wk67 hw)) (ty := (.object "com/example/tidemark/tidemark/MemoryEntry")) (by decide)
    have i275_73 : Fld Z h275 b275 "com/example/tidemark/tidemark/RecencyList" "oldest" "Lcom/example/tidemark/tidemark/MemoryEntry;" .null := D275 (Or.inl (wk73 hw)) (ty := (.object "com/example/tidemark/tidemark/MemoryEntry")) (by decide)
    have i275_75 : Fld Z h275 b275 "com/example/tidemark/tidemark/RecencyList" "size" "J" (.long (0 : Int64)) := D275 (Or.inl (wk75 hw)) (ty := .long) (by decide)
    have i275_77 : Fld Z h275 b275 "com/example/tidemark/tidemark/RecencyList" "weight" "J" (.long (0 : Int64)) := D275 (Or.inl (wk77 hw)) (ty := .long) (by decide)
    obtain ⟨_, _, ⟨T277, L277, kk277, nn277⟩, -, X277, ⟨Lc277, hQ277, l277, y277, z277⟩, st277⟩ := X275.specialBack hx (y := ym0) rfl hown (mvT hZ (wk3 hw)) (mvT hZ (wk4 hw)) (mvT hZ (wk5 hw)) (by decide) (backOf (W := 1) (rm1_1 l Z a0 hw w hW [] b275 h275 n0 O276 ) hZ (wk5 hw) (wk2 hw) (by decide) (by decide)) (g := (mkF m 32 Lb274 [(.ref b275), (.ref b275)])) rfl (by rw [hml]; rfl) (Steps.refl _) (a := b275) (argsL := []) (rest := [(.ref b275)]) (lenOf pds_0 rfl) rfl (by show 2 * 0 + _ ≤ _; exact Nat.le_of_eq rfl) (hb hby at_32) (fun _ _ => ⟨rfl, e275, (by decide : 1 + 0 ≤ _), (by decide : 5 + 0 ≤ _)⟩)
    dsimp only [Pt.U, Pt.locs, Pt.cells, Pt.slots] at X277 l277 y277 z277 st277 hQ277
    subst l277 y277 z277
    obtain ⟨rfl, N277q, e277⟩ := hQ277
    have N277 := Fr.app N0 N277q
    let Lb278 : Array Slot := #[.val (.long p0), .second, .val (.long p1), .second, .val (.long p2), .second, .val (.int p3), .val (.int (1 : Int32)), .val (.int (1 : Int32)), .val (.ref b275), .unset, .unset, .unset, .unset, .unset, .unset, .unset, .unset, .unset, .unset]
    obtain ⟨T279, h279, X279, e279, E279, A279, D279, -, st279⟩ := newO X277 hx hZ hown (wk9 hw) (wk10 hw) (wk11 hw) e277 (g := (mkF m 37 Lb278 [])) rfl (hb hby at_37) (by decide) (by decide)
    obtain ⟨b279, g279⟩ : ∃ z, z = h275.size := ⟨_, rfl⟩
    rw [← g279] at A279 D279 st279
    have gg279 : n0 ≤ b279 := by rw [← O276.1, g279]; exact O276.2.1
    have O280 := O276.ext E279
    have i279_20 : Fld Z h279 b279 "com/example/tidemark/tidemark/MemoryEntry" "slot" "I" (.int (0 : Int32)) := D279 (Or.inl (wk20 hw)) (ty := .int) (by decide)
    have i279_22 : Fld Z h279 b279 "com/example/tidemark/tidemark/MemoryEntry" "key" "Ljava/lang/Object;" .null := D279 (Or.inr (wk22 hw)) (ty := (.object "java/lang/Object")) (by decide)
    have i279_24 : Fld Z h279 b279 "com/example/tidemark/tidemark/MemoryEntry" "charge" "J" (.long (0 : Int64)) := D279 (Or.inl (wk24 hw)) (ty := .long) (by decide)
    have i279_31 : Fld Z h279 b279 "com/example/tidemark/tidemark/MemoryEntry" "value" "Ljava/lang/Object;" .null := D279 (Or.inl (wk31 hw)) (ty := (.object "java/lang/Object")) (by decide)
    have i279_33 : Fld Z h279 b279 "com/example/tidemark/tidemark/MemoryEntry" "expiry" "Lcom/example/tidemark/tidemark/Expiry;" .null := D279 (Or.inl (wk33 hw)) (ty := (.object "com/example/tidemark/tidemark/Expiry")) (by decide)
    have i279_40 : Fld Z h279 b279 "com/example/tidemark/tidemark/MemoryEntry" "created" "J" (.long (0 : Int64)) := D279 (Or.inl (wk40 hw)) (ty := .long) (by decide)
    have i279_42 : Fld Z h279 b279 "com/example/tidemark/tidemark/MemoryEntry" "lastUsed" "J" (.long (0 : Int64)) := D279 (Or.inl (wk42 hw)) (ty := .long) (by decide)
    have i279_54 : Fld Z h279 b279 "com/example/tidemark/tidemark/MemoryEntry" "lockFreeValue" "Ljava/lang/Object;" .null := D279 (Or.inl (wk54 hw)) (ty := (.object "java/lang/Object")) (by decide)
    have i279_63 : Fld Z h279 b279 "com/example/tidemark/tidemark/MemoryEntry" "stamp" "J" (.long (0 : Int64)) := D279 (Or.inl (wk63 hw)) (ty := .long) (by decide)
    have i279_65 : Fld Z h279 b279 "com/example/tidemark/tidemark/MemoryEntry" "list" "Lcom/example/tidemark/tidemark/RecencyList;" .null := D279 (Or.inl (wk65 hw)) (ty := (.object "com/example/tidemark/tidemark/RecencyList")) (by decide)
    have i279_69 : Fld Z h279 b279 "com/example/tidemark/tidemark/MemoryEntry" "older" "Lcom/example/tidemark/tidemark/MemoryEntry;" .null := D279 (Or.inl (wk69 hw)) (ty := (.object "com/example/tidemark/tidemark/MemoryEntry")) (by decide)
    have i279_71 : Fld Z h279 b279 "com/example/tidemark/tidemark/MemoryEntry" "newer" "Lcom/example/tidemark/tidemark/MemoryEntry;" .null := D279 (Or.inl (wk71 hw)) (ty := (.object "com/example/tidemark/tidemark/MemoryEntry")) (by decide)
    obtain ⟨T281, X281, e281, st281⟩ := getS2 X279 hx hZ hown (host := "") (Or.inl (wk12 hw)) Via.refl e279 ((wd0 hW).ext O280.2) (g := (mkF m 43 Lb278 [.null, .null, (.ref b279), (.ref b279)])) rfl (hb hby at_43)
    obtain ⟨_, _, ⟨T282, L282, kk282, nn282⟩, -, X282, ⟨Lc282, hQ282, l282, y282, z282⟩, st282⟩ := X281.specialBack hx (y := ym4) rfl hown (mvT hZ (wk15 hw)) (mvT hZ (wk16 hw)) (mvT hZ (wk17 hw)) (by decide) (backOf (W := 1) (rm3_5 l Z a0 hw w hW [] b279 p0 h279 n0 O280 A279 i279_20 gg279 i279_22 i279_24 i279_31 i279_33 i279_40 i279_42 i279_54) hZ (wk17 hw) (wk11 hw) (by decide) (by decide)) (g := (mkF m 48 Lb278 [(.long p0), (.long (0 : Int64)), (.ref (w 0)), .null, .null, (.ref b279), (.ref b279)])) rfl (by rw [hml]; rfl) (Steps.refl _) (a := b279) (argsL := [.null, .null, (.ref (w 0)), (.long (0 : Int64)), (.long p0)]) (rest := [(.ref b279)]) (lenOf pds_4 rfl) rfl (by show 2 * 0 + _ ≤ _; exact Nat.le_of_eq rfl) (hb hby at_48) (fun _ _ => ⟨rfl, e281, (by decide : 2 + 0 ≤ _), (by decide : 23 + 0 ≤ _)⟩)
    dsimp only [Pt.U, Pt.locs, Pt.cells, Pt.slots] at X282 l282 y282 z282 st282 hQ282
    subst l282 y282 z282
    obtain ⟨rfl, N282q, K282, r282_0, r282_1, r282_2, r282_3, r282_4, r282_5, r282_6, r282_7⟩ := hQ282
    have N282 := Fr.app N277 N282q
    have O283 := own_old O280 K282 (own_ngc gg279 (own_ngc gg279 (own_ngc gg279 (own_ngc gg279 (own_ngc gg279 (own_ngc gg279 (own_ngc gg279 (own_ngc gg279 own_ng0))))))))
    let Lb284 : Array Slot := #[.val (.long p0), .second, .val (.long p1), .second, .val (.long p2), .second, .val (.int p3), .val (.int (1 : Int32)), .val (.int (1 : Int32)), .val (.ref b275), .val (.ref b279), .unset, .unset, .unset, .unset, .unset, .unset, .unset, .unset, .unset]
    obtain ⟨T285, h285, X285, e285, E285, A285, D285, -, st285⟩ := newO X282 hx hZ hown (wk9 hw) (wk10 hw) (wk11 hw) rfl (g := (mkF m 53 Lb284 [])) rfl (hb hby at_53) (by decide) (by decide)
    obtain ⟨b285, g285⟩ : ∃ z, z = T282.heap.size := ⟨_, rfl⟩
    rw [← g285] at A285 D285 st285
    have gg285 : n0 ≤ b285 := by rw [← O283.1, g285]; exact O283.2.1
    have O286 := O283.ext E285
    have i285_20 : Fld Z h285 b285 "com/example/tidemark/tidemark/MemoryEntry" "slot" "I" (.int (0 : Int32)) := D285 (Or.inl (wk20 hw)) (ty := .int) (by decide)
    have i285_22 : Fld Z h285 b285 "com/example/tidemark/tidemark/MemoryEntry" "key" "Ljava/lang/Object;" .null := D285 (Or.inr (wk22 hw)) (ty := (.object "java/lang/Object")) (by decide)
    have i285_24 : Fld Z h285 b285 "com/example/tidemark/tidemark/MemoryEntry" "charge" "J" (.long (0 : Int64)) := D285 (Or.inl (wk24 hw)) (ty := .long) (by decide)
    have i285_31 : Fld Z h285 b285 "com/example/tidemark/tidemark/MemoryEntry" "value" "Ljava/lang/Object;" .null := D285 (Or.inl (wk31 hw)) (ty := (.object "java/lang/Object")) (by decide)
    have i285_33 : Fld Z h285 b285 "com/example/tidemark/tidemark/MemoryEntry" "expiry" "Lcom/example/tidemark/tidemark/Expiry;" .null := D285 (Or.inl (wk33 hw)) (ty := (.object "com/example/tidemark/tidemark/Expiry")) (by decide)
    have i285_40 : Fld Z h285 b285 "com/example/tidemark/tidemark/MemoryEntry" "created" "J" (.long (0 : Int64)) := D285 (Or.inl (wk40 hw)) (ty := .long) (by decide)
    have i285_42 : Fld Z h285 b285 "com/example/tidemark/tidemark/MemoryEntry" "lastUsed" "J" (.long (0 : Int64)) := D285 (Or.inl (wk42 hw)) (ty := .long) (by decide)
    have i285_54 : Fld Z h285 b285 "com/example/tidemark/tidemark/MemoryEntry" "lockFreeValue" "Ljava/lang/Object;" .null := D285 (Or.inl (wk54 hw)) (ty := (.object "java/lang/Object")) (by decide)
    have i285_63 : Fld Z h285 b285 "com/example/tidemark/tidemark/MemoryEntry" "stamp" "J" (.long (0 : Int64)) := D285 (Or.inl (wk63 hw)) (ty := .long) (by decide)
    have i285_65 : Fld Z h285 b285 "com/example/tidemark/tidemark/MemoryEntry" "list" "Lcom/example/tidemark/tidemark/RecencyList;" .null := D285 (Or.inl (wk65 hw)) (ty := (.object "com/example/tidemark/tidemark/RecencyList")) (by decide)
    have i285_69 : Fld Z h285 b285 "com/example/tidemark/tidemark/MemoryEntry" "older" "Lcom/example/tidemark/tidemark/MemoryEntry;" .null := D285 (Or.inl (wk69 hw)) (ty := (.object "com/example/tidemark/tidemark/MemoryEntry")) (by decide)
    have i285_71 : Fld Z h285 b285 "com/example/tidemark/tidemark/MemoryEntry" "newer" "Lcom/example/tidemark/tidemark/MemoryEntry;" .null := D285 (Or.inl (wk71 hw)) (ty := (.object "com/example/tidemark/tidemark/MemoryEntry")) (by decide)
    obtain ⟨T287, X287, e287, st287⟩ := getS2 X285 hx hZ hown (host := "") (Or.inl (wk12 hw)) Via.refl e285 ((wd0 hW).ext O286.2) (g := (mkF m 59 Lb284 [.null, .null, (.ref b285), (.ref b285)])) rfl (hb hby at_59)
    obtain ⟨_, _, ⟨T288, L288, kk288, nn288⟩, -, X288, ⟨Lc288, hQ288, l288, y288, z288⟩, st288⟩ := X287.specialBack hx (y := ym4) rfl hown (mvT hZ (wk15 hw)) (mvT hZ (wk16 hw)) (mvT hZ (wk17 hw)) (by decide) (backOf (W := 1) (rm3_5 l Z a0 hw w hW [] b285 p1 h285 n0 O286 A285 i285_20 gg285 i285_22 i285_24 i285_31 i285_33 i285_40 i285_42 i285_54) hZ (wk17 hw) (wk11 hw) (by decide) (by decide)) (g := (mkF m 64 Lb284 [(.long p1), (.long (0 : Int64)), (.ref (w 0)), .null, .null, (.ref b285), (.ref b285)])) rfl (by rw [hml]; rfl) (Steps.refl _) (a := b285) (argsL := [.null, .null, (.ref (w 0)), (.long (0 : Int64)), (.long p1)]) (rest := [(.ref b285)]) (lenOf pds_4 rfl) rfl (by show 2 * 0 + _ ≤ _; exact Nat.le_of_eq rfl) (hb hby at_64) (fun _ _ => ⟨rfl, e287, (by decide : 3 + 0 ≤ _), (by decide : 41 + 0 ≤ _)⟩)
    dsimp only [Pt.U, Pt.locs, Pt.cells, Pt.slots] at X288 l288 y288 z288 st288 hQ288
    subst l288 y288 z288
    obtain ⟨rfl, N288q, K288, r288_0, r288_1, r288_2, r288_3, r288_4, r288_5, r288_6, r288_7⟩ := hQ288
    have N288 := Fr.app N282 N288q
    have O289 := own_old O286 K288 (own_ngc gg285 (own_ngc gg285 (own_ngc gg285 (own_ngc gg285 (own_ngc gg285 (own_ngc gg285 (own_ngc gg285 (own_ngc gg285 own_ng0))))))))
    let Lb290 : Array Slot := #[.val (.long p0), .second, .val (.long p1), .second, .val (.long p2), .second, .val (.int p3), .val (.int (1 : Int32)), .val (.int (1 : Int32)), .val (.ref b275), .val (.ref b279), .val (.ref b285), .unset, .unset, .unset, .unset, .unset, .unset, .unset, .unset]
    obtain ⟨T291, h291, X291, e291, E291, A291, D291, -, st291⟩ := newO X288 hx hZ hown (wk9 hw) (wk10 hw) (wk11 hw) rfl (g := (mkF m 69 Lb290 [])) rfl (hb hby at_69) (by decide) (by decide)
    obtain ⟨b291, g291⟩ : ∃ z, z = T288.heap.size := ⟨_, rfl⟩
    rw [← g291] at A291 D291 st291
    have gg291 : n0 ≤ b291 := by rw [← O289.1, g291]; exact O289.2.1
    have O292 := O289.ext E291
    have i291_20 : Fld Z h291 b291 "com/example/tidemark/tidemark/MemoryEntry" "slot" "I" (.int (0 : Int32)) := D291 (Or.inl (wk20 hw)) (ty := .int) (by decide)
    have i291_22 : Fld Z h291 b291 "com/example/tidemark/tidemark/MemoryEntry" "key" "Ljava/lang/Object;" .null := D291 (Or.inr (wk22 hw)) (ty := (.object "java/lang/Object")) (by decide)
    have i291_24 : Fld Z h291 b291 "com/example/tidemark/tidemark/MemoryEntry" "charge" "J" (.long (0 : Int64)) := D291 (Or.inl (wk24 hw)) (ty := .long) (by decide)
    have i291_31 : Fld Z h291 b291 "com/example/tidemark/tidemark/MemoryEntry" "value" "Ljava/lang/Object;" .null := D291 (Or.inl (wk31 hw)) (ty := (.object "java/lang/Object")) (by decide)
    have i291_33 : Fld Z h291 b291 "com/example/tidemark/tidemark/MemoryEntry" "expiry" "Lcom/example/tidemark/tidemark/Expiry;" .null := D291 (Or.inl (wk33 hw)) (ty := (.object "com/example/tidemark/tidemark/Expiry")) (by decide)
    have i291_40 : Fld Z h291 b291 "com/example/tidemark/tidemark/MemoryEntry" "created" "J" (.long (0 : Int64)) := D291 (Or.inl (wk40 hw)) (ty := .long) (by decide)
    have i291_42 : Fld Z h291 b291 "com/example/tidemark/tidemark/MemoryEntry" "lastUsed" "J" (.long (0 : Int64)) := D291 (Or.inl (wk42 hw)) (ty := .long) (by decide)
    have i291_54 : Fld Z h291 b291 "com/example/tidemark/tidemark/MemoryEntry" "lockFreeValue" "Ljava/lang/Object;" .null := D291 (Or.inl (wk54 hw)) (ty := (.object "java/lang/Object")) (by decide)
    have i291_63 : Fld Z h291 b291 "com/example/tidemark/tidemark/MemoryEntry" "stamp" "J" (.long (0 : Int64)) := D291 (Or.inl (wk63 hw)) (ty := .long) (by decide)
    have i291_65 : Fld Z h291 b291 "com/example/tidemark/tidemark/MemoryEntry" "list" "Lcom/example/tidemark/tidemark/RecencyList;" .null := D291 (Or.inl (wk65 hw)) (ty := (.object "com/example/tidemark/tidemark/RecencyList")) (by decide)
    have i291_69 : Fld Z h291 b291 "com/example/tidemark/tidemark/MemoryEntry" "older" "Lcom/example/tidemark/tidemark/MemoryEntry;" .null := D291 (Or.inl (wk69 hw)) (ty := (.object "com/example/tidemark/tidemark/MemoryEntry")) (by decide)
    have i291_71 : Fld Z h291 b291 "com/example/tidemark/tidemark/MemoryEntry" "newer" "Lcom/example/tidemark/tidemark/MemoryEntry;" .null := D291 (Or.inl (wk71 hw)) (ty := (.object "com/example/tidemark/tidemark/MemoryEntry")) (by decide)
    obtain ⟨T293, X293, e293, st293⟩ := getS2 X291 hx hZ hown (host := "") (Or.inl (wk12 hw)) Via.refl e291 ((wd0 hW).ext O292.2) (g := (mkF m 75 Lb290 [.null, .null, (.ref b291), (.ref b291)])) rfl (hb hby at_75)
    obtain ⟨_, _, ⟨T294, L294, kk294, nn294⟩, -, X294, ⟨Lc294, hQ294, l294, y294, z294⟩, st294⟩ := X293.specialBack hx (y := ym4) rfl hown (mvT hZ (wk15 hw)) (mvT hZ (wk16 hw)) (mvT hZ (wk17 hw)) (by decide) (backOf (W := 1) (rm3_5 l Z a0 hw w hW [] b291 p2 h291 n0 O292 A291 i291_20 gg291 i291_22 i291_24 i291_31 i291_33 i291_40 i291_42 i291_54) hZ (wk17 hw) (wk11 hw) (by decide) (by decide)) (g := (mkF m 81 Lb290 [(.long p2), (.long (0 : Int64)), (.ref (w 0)), .null, .null, (.ref b291), (.ref b291)])) rfl (by rw [hml]; rfl) (Steps.refl _) (a := b291) (argsL := [.null, .null, (.ref (w 0)), (.long (0 : Int64)), (.long p2)]) (rest := [(.ref b291)]) (lenOf pds_4 rfl) rfl (by show 2 * 0 + _ ≤ _; exact Nat.le_of_eq rfl) (hb hby at_81) (fun _ _ => ⟨rfl, e293, (by decide : 4 + 0 ≤ _), (by decide : 59 + 0 ≤ _)⟩)
    dsimp only [Pt.U, Pt.locs, Pt.cells, Pt.slots] at X294 l294 y294 z294 st294 hQ294
    subst l294 y294 z294
    obtain ⟨rfl, N294q, K294, r294_0, r294_1, r294_2, r294_3, r294_4, r294_5, r294_6, r294_7⟩ := hQ294
    have N294 := Fr.app N288 N294q
    have O295 := own_old O292 K294 (own_ngc gg291 (own_ngc gg291 (own_ngc gg291 (own_ngc gg291 (own_ngc gg291 (own_ngc gg291 (own_ngc gg291 (own_ngc gg291 own_ng0))))))))
    let Lb296 : Array Slot := #[.val (.long p0), .second, .val (.long p1), .second, .val (.long p2), .second, .val (.int p3), .val (.int (1 : Int32)), .val (.int (1 : Int32)), .val (.ref b275), .val (.ref b279), .val (.ref b285), .val (.ref b291), .unset, .unset, .unset, .unset, .unset, .unset, .unset]
    have ne297 : b275 ≠ b279 := (Nat.ne_of_lt (Nat.lt_of_lt_of_le A275.lt (Nat.le_of_eq g279.symm)))
    have ne298 : b275 ≠ b285 := (Nat.ne_of_lt (Nat.lt_of_lt_of_le (Nat.lt_of_lt_of_le (Nat.lt_of_lt_of_le A275.lt E279.1) K282.1) (Nat.le_of_eq g285.symm)))
    have ne299 : b275 ≠ b291 := (Nat.ne_of_lt (Nat.lt_of_lt_of_le (Nat.lt_of_lt_of_le (Nat.lt_of_lt_of_le (Nat.lt_of_lt_of_le (Nat.lt_of_lt_of_le A275.lt E279.1) K282.1) E285.1) K288.1) (Nat.le_of_eq g291.symm)))
    have t300 := (own_fld ((own_fld ((own_fld (i275_61.ext E279) K282 (own_nlb ne297 (own_nlb ne297 (own_nlb ne297 (own_nlb ne297 (own_nlb ne297 (own_nlb ne297 (own_nlb ne297 (own_nlb ne297 own_nl0))))))))).ext E285) K288 (own_nlb ne298 (own_nlb ne298 (own_nlb ne298 (own_nlb ne298 (own_nlb ne298 (own_nlb ne298 (own_nlb ne298 (own_nlb ne298 own_nl0))))))))).ext E291) K294 (own_nlb ne299 (own_nlb ne299 (own_nlb ne299 (own_nlb ne299 (own_nlb ne299 (own_nlb ne299 (own_nlb ne299 (own_nlb ne299 own_nl0)))))))))
    have t301 := (own_exa ((own_exa ((own_exa (A275.ext E279) K282).ext E285) K288).ext E291) K294)
    have t302 := (own_exa ((own_exa ((own_exa A279 K282).ext E285) K288).ext E291) K294)
    have ne303 : b279 ≠ b285 := (Nat.ne_of_lt (Nat.lt_of_lt_of_le (Nat.lt_of_lt_of_le A279.lt K282.1) (Nat.le_of_eq g285.symm)))
    have ne304 : b279 ≠ b291 := (Nat.ne_of_lt (Nat.lt_of_lt_of_le (Nat.lt_of_lt_of_le (Nat.lt_of_lt_of_le (Nat.lt_of_lt_of_le A279.lt K282.1) E285.1) K288.1) (Nat.le_of_eq g291.symm)))
    have t305 := (own_fld ((own_fld ((own_fld i279_63 K282 (own_nls (sn99 hw) (own_nls (sn98 hw) (own_nls (sn97 hw) (own_nls (sn96 hw) (own_nls (sn95 hw) (own_nls (sn94 hw) (own_nls (sn93 hw) (own_nls (sn92 hw) own_nl0))))))))).ext E285) K288 (own_nlb ne303 (own_nlb ne303 (own_nlb ne303 (own_nlb ne303 (own_nlb ne303 (own_nlb ne303 (own_nlb ne303 (own_nlb ne303 own_nl0))))))))).ext E291) K294 (own_nlb ne304 (own_nlb ne304 (own_nlb ne304 (own_nlb ne304 (own_nlb ne304 (own_nlb ne304 (own_nlb ne304 (own_nlb ne304 own_nl0)))))))))
    have t306 := (own_fld ((own_fld ((own_fld i279_65 K282 (own_nls (sn107 hw) (own_nls (sn106 hw) (own_nls (sn105 hw) (own_nls (sn104 hw) (own_nls (sn103 hw) (own_nls (sn102 hw) (own_nls (sn101 hw) (own_nls (sn100 hw) own_nl0))))))))).ext E285) K288 (own_nlb ne303 (own_nlb ne303 (own_nlb ne303 (own_nlb ne303 (own_nlb ne303 (own_nlb ne303 (own_nlb ne303 (own_nlb ne303 own_nl0))))))))).ext E291) K294 (own_nlb ne304 (own_nlb ne304 (own_nlb ne304 (own_nlb ne304 (own_nlb ne304 (own_nlb ne304 (own_nlb ne304 (own_nlb ne304 own_nl0)))))))))
    have t307 := (own_fld ((own_fld ((own_fld (i275_67.ext E279) K282 (own_nlb ne297 (own_nlb ne297 (own_nlb ne297 (own_nlb ne297 (own_nlb ne297 (own_nlb ne297 (own_nlb ne297 (own_nlb ne297 own_nl0))))))))).ext E285) K288 (own_nlb ne298 (own_nlb ne298 (own_nlb ne298 (own_nlb ne298 (own_nlb ne298 (own_nlb ne298 (own_nlb ne298 (own_nlb ne298 own_nl0))))))))).ext E291) K294 (own_nlb ne299 (own_nlb ne299 (own_nlb ne299 (own_nlb ne299 (own_nlb ne299 (own_nlb ne299 (own_nlb ne299 (own_nlb ne299 own_nl0)))))))))
    have t308 := (own_fld ((own_fld ((own_fld i279_69 K282 (own_nls (sn115 hw) (own_nls (sn114 hw) (own_nls (sn113 hw) (own_nls (sn112 hw) (own_nls (sn111 hw) (own_nls (sn110 hw) (own_nls (sn109 hw) (own_nls (sn108 hw) own_nl0))))))))).ext E285) K288 (own_nlb ne303 (own_nlb ne303 (own_nlb ne303 (own_nlb ne303 (own_nlb ne303 (own_nlb ne303 (own_nlb ne303 (own_nlb ne303 own_nl0))))))))).ext E291) K294 (own_nlb ne304 (own_nlb ne304 (own_nlb ne304 (own_nlb ne304 (own_nlb ne304 (own_nlb ne304 (own_nlb ne304 (own_nlb ne304 own_nl0)))))))))
    have t309 := (own_fld ((own_fld ((own_fld i279_71 K282 (own_nls (sn123 hw) (own_nls (sn122 hw) (own_nls (sn121 hw) (own_nls (sn120 hw) (own_nls (sn119 hw) (own_nls (sn118 hw) (own_nls (sn117 hw) (own_nls (sn116 hw) own_nl0))))))))).ext E285) K288 (own_nlb ne303 (own_nlb ne303 (own_nlb ne303 (own_nlb ne303 (own_nlb ne303 (own_nlb ne303 (own_nlb ne303 (own_nlb ne303 own_nl0))))))))).ext E291) K294 (own_nlb ne304 (own_nlb ne304 (own_nlb ne304 (own_nlb ne304 (own_nlb ne304 (own_nlb ne304 (own_nlb ne304 (own_nlb ne304 own_nl0)))))))))
    have t310 := (own_fld ((own_fld ((own_fld (i275_73.ext E279) K282 (own_nlb ne297 (own_nlb ne297 (own_nlb ne297 (own_nlb ne297 (own_nlb ne297 (own_nlb ne297 (own_nlb ne297 (own_nlb ne297 own_nl0))))))))).ext E285) K288 (own_nlb ne298 (own_nlb ne298 (own_nlb ne298 (own_nlb ne298 (own_nlb ne298 (own_nlb ne298 (own_nlb ne298 (own_nlb ne298 own_nl0))))))))).ext E291) K294 (own_nlb ne299 (own_nlb ne299 (own_nlb ne299 (own_nlb ne299 (own_nlb ne299 (own_nlb ne299 (own_nlb ne299 (own_nlb ne299 own_nl0)))))))))
    have t311 := (own_fld ((own_fld ((own_fld (i275_75.ext E279) K282 (own_nlb ne297 (own_nlb ne297 (own_nlb ne297 (own_nlb ne297 (own_nlb ne297 (own_nlb ne297 (own_nlb ne297 (own_nlb ne297 own_nl0))))))))).ext E285) K288 (own_nlb ne298 (own_nlb ne298 (own_nlb ne298 (own_nlb ne298 (own_nlb ne298 (own_nlb ne298 (own_nlb ne298 (own_nlb ne298 own_nl0))))))))).ext E291) K294 (own_nlb ne299 (own_nlb ne299 (own_nlb ne299 (own_nlb ne299 (own_nlb ne299 (own_nlb ne299 (own_nlb ne299 (own_nlb ne299 own_nl0)))))))))
    have t312 := (own_fld ((own_fld ((own_fld (i275_77.ext E279) K282 (own_nlb ne297 (own_nlb ne297 (own_nlb ne297 (own_nlb ne297 (own_nlb ne297 (own_nlb ne297 (own_nlb ne297 (own_nlb ne297 own_nl0))))))))).ext E285) K288 (own_nlb ne298 (own_nlb ne298 (own_nlb ne298 (own_nlb ne298 (own_nlb ne298 (own_nlb ne298 (own_nlb ne298 (own_nlb ne298 own_nl0))))))))).ext E291) K294 (own_nlb ne299 (own_nlb ne299 (own_nlb ne299 (own_nlb ne299 (own_nlb ne299 (own_nlb ne299 (own_nlb ne299 (own_nlb ne299 own_nl0)))))))))
    have t313 := (own_fld ((own_fld (r282_2.ext E285) K288 (own_nlb ne303 (own_nlb ne303 (own_nlb ne303 (own_nlb ne303 (own_nlb ne303 (own_nlb ne303 (own_nlb ne303 (own_nlb ne303 own_nl0))))))))).ext E291) K294 (own_nlb ne304 (own_nlb ne304 (own_nlb ne304 (own_nlb ne304 (own_nlb ne304 (own_nlb ne304 (own_nlb ne304 (own_nlb ne304 own_nl0)))))))))
    obtain ⟨cq314, kq314, q314a, q314b, q314c⟩ := isOf hZ rfl t301
    obtain ⟨_, _, ⟨T314, L314, kk314, nn314⟩, -, X314, ⟨Lc314, hQ314, l314, y314, z314⟩, st314⟩ := X294.virtualBack hx (y := ym5) (z := ym5) hown (mvT hZ (wk55 hw)) (mvT hZ (wk56 hw)) (notFace_of_selects (args := #[]) (mvT hZ (wk58 hw))) (mvT hZ (wk58 hw)) (mvT hZ (wk57 hw)) (by decide) (backOf (W := 0) (rm7_6 l Z a0 hw w hW [] b275 b279 p0 T294.heap n0 O295 t300 t301 gg275 t302 t305 (Ne.symm ne297) gg279 t306 t307 t308 t309 t310 t311 t312 t313) hZ (wk59 hw) (wk2 hw) (by decide) (by decide)) q314a q314c (g := (mkF m 90 Lb296 [(.ref b279), (.ref b275)])) rfl (by rw [hml]; rfl) (Steps.refl _) (argsL := [(.ref b279)]) (rest := []) (lenOf pds_5 rfl) rfl (by show 2 * 0 + _ ≤ _; exact Nat.le_of_eq rfl) (hb hby at_90) (fun _ _ => ⟨rfl, rfl, (by decide : 4 + 0 ≤ _), (by decide : 59 + 0 ≤ _)⟩)
    dsimp only [Pt.U, Pt.locs, Pt.cells, Pt.slots] at X314 l314 y314 z314 st314 hQ314
    subst l314 y314 z314
    obtain ⟨rfl, N314q, K314, r314_0, r314_1, r314_2, r314_3, r314_4, r314_5, r314_6, r314_7, r314_8⟩ := hQ314
    have N314 := Fr.app N294 N314q
    have O315 := own_old O295 K314 (own_ngc gg275 (own_ngc gg279 (own_ngc gg279 (own_ngc gg279 (own_ngc gg279 (own_ngc gg275 (own_ngc gg275 (own_ngc gg275 (own_ngc gg275 own_ng0)))))))))
    obtain ⟨T316, X316, e316, st316⟩ := getF X314 hx hZ hown (host := "") (Or.inl (wk79 hw)) Via.refl rfl r314_1 (g := (mkF m 95 Lb296 [(.ref b279)])) rfl rfl (hb hby at_95)
    obtain ⟨T317, X317, e317, st317⟩ := getF X316 hx hZ hown (host := "") (Or.inl (wk80 hw)) Via.refl e316 r314_2 (g := (mkF m 105 Lb296 [(.ref b279)])) rfl rfl (hb hby at_105)
    obtain ⟨T318, X318, e318, st318⟩ := getF X317 hx hZ hown (host := "") (Or.inl (wk81 hw)) Via.refl e317 r314_4 (g := (mkF m 115 Lb296 [(.ref b279)])) rfl rfl (hb hby at_115)
    obtain ⟨T319, X319, e319, st319⟩ := getF X318 hx hZ hown (host := "") (Or.inl (wk82 hw)) Via.refl e318 r314_5 (g := (mkF m 123 Lb296 [(.ref b279)])) rfl rfl (hb hby at_123)
    let Lb320 : Array Slot := #[.val (.long p0), .second, .val (.long p1), .second, .val (.long p2), .second, .val (.int p3), .val (.int (1 : Int32)), .val (.int (1 : Int32)), .val (.ref b275), .val (.ref b279), .val (.ref b285), .val (.ref b291), .val (.int (1 : Int32)), .unset, .unset, .unset, .unset, .unset, .unset]
    let Lb321 : Array Slot := #[.val (.long p0), .second, .val (.long p1), .second, .val (.long p2), .second, .val (.int p3), .val (.int (1 : Int32)), .val (.int (1 : Int32)), .val (.ref b275), .val (.ref b279), .val (.ref b285), .val (.ref b291), .val (.int (1 : Int32)), .val (.long (0 : Int64)), .second, .unset, .unset, .unset, .unset]
    have t322 := (own_exa t301 K314)
    have t323 := (own_exa t302 K314)
    have t324 := (own_fld t313 K314 (own_nlb (Ne.symm ne297) (own_nls (sn72 hw) (own_nls (sn73 hw) (own_nls (sn74 hw) (own_nls (sn75 hw) (own_nlb (Ne.symm ne297) (own_nlb (Ne.symm ne297) (own_nlb (Ne.symm ne297) (own_nlb (Ne.symm ne297) own_nl0))))))))))
    obtain ⟨cq325, kq325, q325a, q325b, q325c⟩ := isOf hZ e319 t322
    obtain ⟨_, _, ⟨T325, L325, kk325, nn325⟩, -, X325, ⟨Lc325, hQ325, l325, y325, z325⟩, st325⟩ := X319.virtualBack hx (y := ym9) (z := ym9) hown (mvT hZ (wk83 hw)) (mvT hZ (wk84 hw)) (notFace_of_selects (args := #[]) (mvT hZ (wk86 hw))) (mvT hZ (wk86 hw)) (mvT hZ (wk85 hw)) (by decide) (backOf (W := 0) (rm8_11 l Z a0 hw w hW [] b275 b279 ((0 : Int64) + p0) p0 T314.heap n0 O315 r314_4 r314_5 t322 r314_6 gg275 (Ne.symm ne297) r314_3 t323 gg279 r314_2 r314_7 r314_8 t324) hZ (wk87 hw) (wk2 hw) (by decide) (by decide)) q325a q325c (g := (mkF m 148 Lb321 [(.ref b279), (.ref b275)])) rfl (by rw [hml]; rfl) (Steps.refl _) (argsL := [(.ref b279)]) (rest := []) (lenOf pds_5 rfl) rfl (by show 2 * 0 + _ ≤ _; exact Nat.le_of_eq rfl) (hb hby at_148) (fun _ _ => ⟨rfl, e319, (by decide : 4 + 0 ≤ _), (by decide : 59 + 0 ≤ _)⟩)
    dsimp only [Pt.U, Pt.locs, Pt.cells, Pt.slots] at X325 l325 y325 z325 st325 hQ325
    subst l325 y325 z325
    obtain ⟨rfl, N325q, K325, r325_0, r325_1, r325_2, r325_3, r325_4, r325_5, r325_6⟩ := hQ325
    have N325 := Fr.app N314 N325q
    have O326 := own_old O315 K325 (own_ngc gg275 (own_ngc gg275 (own_ngc gg279 (own_ngc gg279 (own_ngc gg279 (own_ngc gg275 (own_ngc gg275 own_ng0)))))))
    have t327 := (own_fld r314_0 K325 (own_nls (sn76 hw) (own_nls (sn77 hw) (own_nlb ne297 (own_nlb ne297 (own_nlb ne297 (own_nls (sn78 hw) (own_nls (sn79 hw) own_nl0))))))))
    have t328 := (own_exa t322 K325)
    have t329 := (own_exa t323 K325)
    have t330 := (own_fld r314_1 K325 (own_nlb (Ne.symm ne297) (own_nlb (Ne.symm ne297) (own_nls (sn81 hw) (own_nls (sn82 hw) (own_nls (sn80 hw) (own_nlb (Ne.symm ne297) (own_nlb (Ne.symm ne297) own_nl0))))))))
    have t331 := (own_fld t324 K325 (own_nlb (Ne.symm ne297) (own_nlb (Ne.symm ne297) (own_nls (sn74 hw) (own_nls (sn75 hw) (own_nls (sn73 hw) (own_nlb (Ne.symm ne297) (own_nlb (Ne.symm ne297) own_nl0))))))))
    obtain ⟨cq332, kq332, q332a, q332b, q332c⟩ := isOf hZ rfl t328
    obtain ⟨_, _, ⟨T332, L332, kk332, nn332⟩, -, X332, ⟨Lc332, hQ332, l332, y332, z332⟩, st332⟩ := X325.virtualBack hx (y := ym5) (z := ym5) hown (mvT hZ (wk55 hw)) (mvT hZ (wk56 hw)) (notFace_of_selects (args := #[]) (mvT hZ (wk58 hw))) (mvT hZ (wk58 hw)) (mvT hZ (wk57 hw)) (by decide) (backOf (W := 0) (rm7_12 l Z a0 hw w hW [] b275 b279 (((0 : Int64) + p0) - p0) p0 T325.heap n0 O326 t327 t328 gg275 t329 t330 (Ne.symm ne297) gg279 r325_4 r325_3 r325_0 r325_1 r325_2 r325_5 r325_6 t331) hZ (wk59 hw) (wk2 hw) (by decide) (by decide)) q332a q332c (g := (mkF m 155 Lb321 [(.ref b279), (.ref b275)])) rfl (by rw [hml]; rfl) (Steps.refl _) (argsL := [(.ref b279)]) (rest := []) (lenOf pds_5 rfl) rfl (by show 2 * 0 + _ ≤ _; exact Nat.le_of_eq rfl) (hb hby at_155) (fun _ _ => ⟨rfl, rfl, (by decide : 4 + 0 ≤ _), (by decide : 59 + 0 ≤ _)⟩)
    dsimp only [Pt.U, Pt.locs, Pt.cells, Pt.slots] at X332 l332 y332 z332 st332 hQ332
    subst l332 y332 z332
    obtain ⟨rfl, N332q, K332, r332_0, r332_1, r332_2, r332_3, r332_4, r332_5, r332_6, r332_7, r332_8⟩ := hQ332
    have N332 := Fr.app N325 N332q
    have O333 := own_old O326 K332 (own_ngc gg275 (own_ngc gg279 (own_ngc gg279 (own_ngc gg279 (own_ngc gg279 (own_ngc gg275 (own_ngc gg275 (own_ngc gg275 (own_ngc gg275 own_ng0)))))))))
    obtain ⟨T334, X334, e334, st334⟩ := getF X332 hx hZ hown (host := "") (Or.inl (wk79 hw)) Via.refl rfl r332_1 (g := (mkF m 165 Lb321 [(.ref b279)])) rfl rfl (hb hby at_165)
    obtain ⟨T335, X335, e335, st335⟩ := getF X334 hx hZ hown (host := "") (Or.inl (wk80 hw)) Via.refl e334 r332_2 (g := (mkF m 177 Lb321 [(.ref b279)])) rfl rfl (hb hby at_177)
    obtain ⟨T336, X336, e336, st336⟩ := getF X335 hx hZ hown (host := "") (Or.inl (wk81 hw)) Via.refl e335 r332_4 (g := (mkF m 187 Lb321 [(.ref b279)])) rfl rfl (hb hby at_187)
    obtain ⟨T337, X337, e337, st337⟩ := getF X336 hx hZ hown (host := "") (Or.inl (wk82 hw)) Via.refl e336 r332_5 (g := (mkF m 195 Lb321 [(.ref b279)])) rfl rfl (hb hby at_195)
    let Lb338 : Array Slot := #[.val (.long p0), .second, .val (.long p1), .second, .val (.long p2), .second, .val (.int p3), .val (.int (1 : Int32)), .val (.int (1 : Int32)), .val (.ref b275), .val (.ref b279), .val (.ref b285), .val (.ref b291), .val (.int (1 : Int32)), .val (.long (1 : Int64)), .second, .unset, .unset, .unset, .unset]
    have t339 := (own_exa t328 K332)
    have t340 := (own_exa (own_exa (own_exa (own_exa ((own_exa A285 K288).ext E291) K294) K314) K325) K332)
    have ne341 : b285 ≠ b291 := (Nat.ne_of_lt (Nat.lt_of_lt_of_le (Nat.lt_of_lt_of_le A285.lt K288.1) (Nat.le_of_eq g291.symm)))
    have t342 := (own_fld (own_fld (own_fld (own_fld ((own_fld i285_63 K288 (own_nls (sn99 hw) (own_nls (sn98 hw) (own_nls (sn97 hw) (own_nls (sn96 hw) (own_nls (sn95 hw) (own_nls (sn94 hw) (own_nls (sn93 hw) (own_nls (sn92 hw) own_nl0))))))))).ext E291) K294 (own_nlb ne341 (own_nlb ne341 (own_nlb ne341 (own_nlb ne341 (own_nlb ne341 (own_nlb ne341 (own_nlb ne341 (own_nlb ne341 own_nl0))))))))) K314 (own_nlb (Ne.symm ne298) (own_nlb (Ne.symm ne303) (own_nlb (Ne.symm ne303) (own_nlb (Ne.symm ne303) (own_nlb (Ne.symm ne303) (own_nlb (Ne.symm ne298) (own_nlb (Ne.symm ne298) (own_nlb (Ne.symm ne298) (own_nlb (Ne.symm ne298) own_nl0)))))))))) K325 (own_nlb (Ne.symm ne298) (own_nlb (Ne.symm ne298) (own_nlb (Ne.symm ne303) (own_nlb (Ne.symm ne303) (own_nlb (Ne.symm ne303) (own_nlb (Ne.symm ne298) (own_nlb (Ne.symm ne298) own_nl0)))))))) K332 (own_nlb (Ne.symm ne298) (own_nlb (Ne.symm ne303) (own_nlb (Ne.symm ne303) (own_nlb (Ne.symm ne303) (own_nlb (Ne.symm ne303) (own_nlb (Ne.symm ne298) (own_nlb (Ne.symm ne298) (own_nlb (Ne.symm ne298) (own_nlb (Ne.symm ne298) own_nl0))))))))))
    have t343 := (own_fld (own_fld (own_fld (own_fld ((own_fld i285_65 K288 (own_nls (sn107 hw) (own_nls (sn106 hw) (own_nls (sn105 hw) (own_nls (sn104 hw) (own_nls (sn103 hw) (own_nls (sn102 hw) (own_nls (sn101 hw) (own_nls (sn100 hw) own_nl0))))))))).ext E291) K294 (own_nlb ne341 (own_nlb ne341 (own_nlb ne341 (own_nlb ne341 (own_nlb ne341 (own_nlb ne341 (own_nlb ne341 (own_nlb ne341 own_nl0))))))))) K314 (own_nlb (Ne.symm ne298) (own_nlb (Ne.symm ne303) (own_nlb (Ne.symm ne303) (own_nlb (Ne.symm ne303) (own_nlb (Ne.symm ne303) (own_nlb (Ne.symm ne298) (own_nlb (Ne.symm ne298) (own_nlb (Ne.symm ne298) (own_nlb (Ne.symm ne298) own_nl0)))))))))) K325 (own_nlb (Ne.symm ne298) (own_nlb (Ne.symm ne298) (own_nlb (Ne.symm ne303) (own_nlb (Ne.symm ne303) (own_nlb (Ne.symm ne303) (own_nlb (Ne.symm ne298) (own_nlb (Ne.symm ne298) own_nl0)))))))) K332 (own_nlb (Ne.symm ne298) (own_nlb (Ne.symm ne303) (own_nlb (Ne.symm ne303) (own_nlb (Ne.symm ne303) (own_nlb (Ne.symm ne303) (own_nlb (Ne.symm ne298) (own_nlb (Ne.symm ne298) (own_nlb (Ne.symm ne298) (own_nlb (Ne.symm ne298) own_nl0))))))))))
    have t344 := (own_fld (own_fld (own_fld (own_fld ((own_fld i285_69 K288 (own_nls (sn115 hw) (own_nls (sn114 hw) (own_nls (sn113 hw) (own_nls (sn112 hw) (own_nls (sn111 hw) (own_nls (sn110 hw) (own_nls (sn109 hw) (own_nls (sn108 hw) own_nl0))))))))).ext E291) K294 (own_nlb ne341 (own_nlb ne341 (own_nlb ne341 (own_nlb ne341 (own_nlb ne341 (own_nlb ne341 (own_nlb ne341 (own_nlb ne341 own_nl0))))))))) K314 (own_nlb (Ne.symm ne298) (own_nlb (Ne.symm ne303) (own_nlb (Ne.symm ne303) (own_nlb (Ne.symm ne303) (own_nlb (Ne.symm ne303) (own_nlb (Ne.symm ne298) (own_nlb (Ne.symm ne298) (own_nlb (Ne.symm ne298) (own_nlb (Ne.symm ne298) own_nl0)))))))))) K325 (own_nlb (Ne.symm ne298) (own_nlb (Ne.symm ne298) (own_nlb (Ne.symm ne303) (own_nlb (Ne.symm ne303) (own_nlb (Ne.symm ne303) (own_nlb (Ne.symm ne298) (own_nlb (Ne.symm ne298) own_nl0)))))))) K332 (own_nlb (Ne.symm ne298) (own_nlb (Ne.symm ne303) (own_nlb (Ne.symm ne303) (own_nlb (Ne.symm ne303) (own_nlb (Ne.symm ne303) (own_nlb (Ne.symm ne298) (own_nlb (Ne.symm ne298) (own_nlb (Ne.symm ne298) (own_nlb (Ne.symm ne298) own_nl0))))))))))
    have t345 := (own_fld (own_fld (own_fld (own_fld ((own_fld i285_71 K288 (own_nls (sn123 hw) (own_nls (sn122 hw) (own_nls (sn121 hw) (own_nls (sn120 hw) (own_nls (sn119 hw) (own_nls (sn118 hw) (own_nls (sn117 hw) (own_nls (sn116 hw) own_nl0))))))))).ext E291) K294 (own_nlb ne341 (own_nlb ne341 (own_nlb ne341 (own_nlb ne341 (own_nlb ne341 (own_nlb ne341 (own_nlb ne341 (own_nlb ne341 own_nl0))))))))) K314 (own_nlb (Ne.symm ne298) (own_nlb (Ne.symm ne303) (own_nlb (Ne.symm ne303) (own_nlb (Ne.symm ne303) (own_nlb (Ne.symm ne303) (own_nlb (Ne.symm ne298) (own_nlb (Ne.symm ne298) (own_nlb (Ne.symm ne298) (own_nlb (Ne.symm ne298) own_nl0)))))))))) K325 (own_nlb (Ne.symm ne298) (own_nlb (Ne.symm ne298) (own_nlb (Ne.symm ne303) (own_nlb (Ne.symm ne303) (own_nlb (Ne.symm ne303) (own_nlb (Ne.symm ne298) (own_nlb (Ne.symm ne298) own_nl0)))))))) K332 (own_nlb (Ne.symm ne298) (own_nlb (Ne.symm ne303) (own_nlb (Ne.symm ne303) (own_nlb (Ne.symm ne303) (own_nlb (Ne.symm ne303) (own_nlb (Ne.symm ne298) (own_nlb (Ne.symm ne298) (own_nlb (Ne.symm ne298) (own_nlb (Ne.symm ne298) own_nl0))))))))))
    have t346 := (own_exa t329 K332)
    have t347 := (own_fld (own_fld (own_fld (own_fld (r288_2.ext E291) K294 (own_nlb ne341 (own_nlb ne341 (own_nlb ne341 (own_nlb ne341 (own_nlb ne341 (own_nlb ne341 (own_nlb ne341 (own_nlb ne341 own_nl0))))))))) K314 (own_nlb (Ne.symm ne298) (own_nlb (Ne.symm ne303) (own_nlb (Ne.symm ne303) (own_nlb (Ne.symm ne303) (own_nlb (Ne.symm ne303) (own_nlb (Ne.symm ne298) (own_nlb (Ne.symm ne298) (own_nlb (Ne.symm ne298) (own_nlb (Ne.symm ne298) own_nl0)))))))))) K325 (own_nlb (Ne.symm ne298) (own_nlb (Ne.symm ne298) (own_nlb (Ne.symm ne303) (own_nlb (Ne.symm ne303) (own_nlb (Ne.symm ne303) (own_nlb (Ne.symm ne298) (own_nlb (Ne.symm ne298) own_nl0)))))))) K332 (own_nlb (Ne.symm ne298) (own_nlb (Ne.symm ne303) (own_nlb (Ne.symm ne303) (own_nlb (Ne.symm ne303) (own_nlb (Ne.symm ne303) (own_nlb (Ne.symm ne298) (own_nlb (Ne.symm ne298) (own_nlb (Ne.symm ne298) (own_nlb (Ne.symm ne298) own_nl0))))))))))
    obtain ⟨cq348, kq348, q348a, q348b, q348c⟩ := isOf hZ e337 t339
    obtain ⟨_, _, ⟨T348, L348, kk348, nn348⟩, -, X348, ⟨Lc348, hQ348, l348, y348, z348⟩, st348⟩ := X337.virtualBack hx (y := ym5) (z := ym5) hown (mvT hZ (wk55 hw)) (mvT hZ (wk56 hw)) (notFace_of_selects (args := #[]) (mvT hZ (wk58 hw))) (mvT hZ (wk58 hw)) (mvT hZ (wk57 hw)) (by decide) (backOf (W := 0) (rm7_13 l Z a0 hw w hW [] b275 b285 b279 ((((0 : Int64) + p0) - p0) + p0) p1 T332.heap n0 O333 r332_0 t339 gg275 t340 t342 (Ne.symm ne298) gg285 t343 r332_3 t344 t345 t346 r332_5 (Ne.symm ne297) ne303 gg279 r332_7 r332_8 t347) hZ (wk59 hw) (wk2 hw) (by decide) (by decide)) q348a q348c (g := (mkF m 215 Lb338 [(.ref b285), (.ref b275)])) rfl (by rw [hml]; rfl) (Steps.refl _) (argsL := [(.ref b285)]) (rest := []) (lenOf pds_5 rfl) rfl (by show 2 * 0 + _ ≤ _; exact Nat.le_of_eq rfl) (hb hby at_215) (fun _ _ => ⟨rfl, e337, (by decide : 4 + 0 ≤ _), (by decide : 59 + 0 ≤ _)⟩)
    dsimp only [Pt.U, Pt.locs, Pt.cells, Pt.slots] at X348 l348 y348 z348 st348 hQ348
    subst l348 y348 z348
    obtain ⟨rfl, N348q, K348, r348_0, r348_1, r348_2, r348_3, r348_4, r348_5, r348_6, r348_7, r348_8⟩ := hQ348
    have N348 := Fr.app N332 N348q
    have O349 := own_old O333 K348 (own_ngc gg275 (own_ngc gg285 (own_ngc gg285 (own_ngc gg285 (own_ngc gg285 (own_ngc gg279 (own_ngc gg275 (own_ngc gg275 (own_ngc gg275 own_ng0)))))))))
    obtain ⟨T350, X350, e350, st350⟩ := getF X348 hx hZ hown (host := "") (Or.inl (wk79 hw)) Via.refl rfl r348_1 (g := (mkF m 225 Lb338 [(.ref b285)])) rfl rfl (hb hby at_225)
    obtain ⟨T351, X351, e351, st351⟩ := getF X350 hx hZ hown (host := "") (Or.inl (wk80 hw)) Via.refl e350 r348_2 (g := (mkF m 240 Lb338 [(.ref b285)])) rfl rfl (hb hby at_240)
    obtain ⟨T352, X352, e352, st352⟩ := getF X351 hx hZ hown (host := "") (Or.inl (wk81 hw)) Via.refl e351 r348_4 (g := (mkF m 250 Lb338 [(.ref b285)])) rfl rfl (hb hby at_250)
    obtain ⟨T353, X353, e353, st353⟩ := getF X352 hx hZ hown (host := "") (Or.inl (wk82 hw)) Via.refl e352 r348_5 (g := (mkF m 260 Lb338 [(.ref b285)])) rfl rfl (hb hby at_260)
    obtain ⟨T354, X354, e354, st354⟩ := getF X353 hx hZ hown (host := "") (Or.inl (wk82 hw)) Via.refl e353 r348_6 (g := (mkF m 268 Lb338 [(.ref b279)])) rfl rfl (hb hby at_268)
    have t355 := (own_fld r332_4 K348 (own_nlb (Ne.symm ne297) (own_nlb ne303 (own_nlb ne303 (own_nlb ne303 (own_nlb ne303 (own_nls (sn87 hw) (own_nlb (Ne.symm ne297) (own_nlb (Ne.symm ne297) (own_nlb (Ne.symm ne297) own_nl0))))))))))
    obtain ⟨T356, X356, e356, st356⟩ := getF X354 hx hZ hown (host := "") (Or.inl (wk81 hw)) Via.refl e354 t355 (g := (mkF m 278 Lb338 [(.ref b279)])) rfl rfl (hb hby at_278)
    have pre357 : ∀ t, Steps p.tables e below (T356.setTop (mkF m 289 Lb338 [(.int (1 : Int32))])) t → Steps p.tables e below (s₁.setTop (entryFrame m #[(.long p0), (.long p1), (.long p2), (.int p3)] maxLocals)) t := fun t k => pre175 t (by
     show Steps p.tables e below (s₁.setTop (mkF m 18 Lb174 [(.int (p3 &&& (2 : Int32)))])) _
     refine sN X0 hx hby at_18 ((if0 _ _).trans (feq (hc176 : ¬ ((p3 &&& (2 : Int32)) = (0 : Int32)))).1) ?_
     refine sc X0 hx hby at_21 ?_
     refine sg (pc := 22) (pc' := 26) X0 hx hby at_22 (by decide) (by decide) ?_
     refine XS.istore X0.here hx rfl (hb hby at_26) rfl (l' := Lb274) rfl ?_
     refine st275 _ ?_
     refine XS.dup X275.here hx rfl (hb hby at_31) rfl rfl ?_
     refine st277.trans ?_
     refine XS.astore X277.here hx rfl (hb hby at_35) rfl rfl (l' := Lb278) rfl ?_
     refine st279 _ ?_
     refine XS.dup X279.here hx rfl (hb hby at_40) rfl rfl ?_
     refine XS.aconstNull X279.here hx rfl (hb hby at_41) ?_
     refine XS.aconstNull X279.here hx rfl (hb hby at_42) ?_
     refine st281 _ ?_
     refine XS.lconst X281.here hx rfl (hb hby at_46) ?_
     refine sL X281 hx hby at_47 rfl ?_
     refine st282.trans ?_
     refine XS.astore X282.here hx rfl (hb hby at_51) rfl rfl (l' := Lb284) rfl ?_
     refine st285 _ ?_
     refine XS.dup X285.here hx rfl (hb hby at_56) rfl rfl ?_
     refine XS.aconstNull X285.here hx rfl (hb hby at_57) ?_
     refine XS.aconstNull X285.here hx rfl (hb hby at_58) ?_
     refine st287 _ ?_
     refine XS.lconst X287.here hx rfl (hb hby at_62) ?_
     refine sL X287 hx hby at_63 rfl ?_
     refine st288.trans ?_
     refine XS.astore X288.here hx rfl (hb hby at_67) rfl rfl (l' := Lb290) rfl ?_
     refine st291 _ ?_
     refine XS.dup X291.here hx rfl (hb hby at_72) rfl rfl ?_
     refine XS.aconstNull X291.here hx rfl (hb hby at_73) ?_
     refine XS.aconstNull X291.here hx rfl (hb hby at_74) ?_
     refine st293 _ ?_
     refine XS.lconst X293.here hx rfl (hb hby at_78) ?_
     refine XS.lload X293.here hx rfl (hb hby at_79) rfl ?_
     refine st294.trans ?_
     refine XS.astore X294.here hx rfl (hb hby at_84) rfl rfl (l' := Lb296) rfl ?_
     refine sa X294 hx hby at_86 rfl rfl ?_
     refine sa X294 hx hby at_88 rfl rfl ?_
     refine st314.trans ?_
     refine sa X314 hx hby at_93 rfl rfl ?_
     refine st316 _ ?_
     refine XS.lconst X316.here hx rfl (hb hby at_98) ?_
     refine XS.lcmp X316.here hx rfl (hb hby at_99) rfl ?_
     refine sN X316 hx hby at_100 (by decide) ?_
     refine sa X316 hx hby at_103 rfl rfl ?_
     refine st317 _ ?_
     refine sa X317 hx hby at_108 rfl rfl ?_
     refine Jvm.RoadKit.acmp (g := (mkF m 110 Lb296 [(.ref b275), (.ref b275)])) X317 hx rfl rfl rfl (pc0 := 110) (pc' := 113) (same := true) rfl (hb hby at_110) rfl (decide_eq_true rfl) (by decide) (by decide) ?_
     refine sa X317 hx hby at_113 rfl rfl ?_
     refine st318 _ ?_
     refine XS.ifnonnullNo X318.here hx rfl (hb hby at_118) rfl ?_
     refine sa X318 hx hby at_121 rfl rfl ?_
     refine st319 _ ?_
     refine XS.ifnonnullNo X319.here hx rfl (hb hby at_126) rfl ?_
     refine sc X319 hx hby at_129 ?_
     refine sg (pc := 130) (pc' := 134) X319 hx hby at_130 (by decide) (by decide) ?_
     refine XS.istore X319.here hx rfl (hb hby at_134) rfl (l' := Lb320) rfl ?_
     refine XS.lconst X319.here hx rfl (hb hby at_136) ?_
     refine XS.lstore X319.here hx rfl (hb hby at_137) rfl (l' := Lb321) rfl ?_
     refine si X319 hx hby at_139 rfl ?_
     refine sN X319 hx hby at_141 (by decide) ?_
     refine sa X319 hx hby at_144 rfl rfl ?_
     refine sa X319 hx hby at_146 rfl rfl ?_
     refine st325.trans ?_
     refine sa X325 hx hby at_151 rfl rfl ?_
     refine sa X325 hx hby at_153 rfl rfl ?_
     refine st332.trans ?_
     refine si X332 hx hby at_158 rfl ?_
     refine sN X332 hx hby at_160 (by decide) ?_
     refine sa X332 hx hby at_163 rfl rfl ?_
     refine st334 _ ?_
     refine X334.ldc2Long hx hown (mvT hZ (wk88 hw)) (g := (mkF m 168 Lb321 [(.long (2 : Int64))])) rfl (hb hby at_168) _ ?_
     refine XS.lcmp X334.here hx rfl (hb hby at_171) rfl ?_
     refine sN X334 hx hby at_172 (by decide) ?_
     refine sa X334 hx hby at_175 rfl rfl ?_
     refine st335 _ ?_
     refine sa X335 hx hby at_180 rfl rfl ?_
     refine Jvm.RoadKit.acmp (g := (mkF m 182 Lb321 [(.ref b275), (.ref b275)])) X335 hx rfl rfl rfl (pc0 := 182) (pc' := 185) (same := true) rfl (hb hby at_182) rfl (decide_eq_true rfl) (by decide) (by decide) ?_
     refine sa X335 hx hby at_185 rfl rfl ?_
     refine st336 _ ?_
     refine XS.ifnonnullNo X336.here hx rfl (hb hby at_190) rfl ?_
     refine sa X336 hx hby at_193 rfl rfl ?_
     refine st337 _ ?_
     refine XS.ifnonnullNo X337.here hx rfl (hb hby at_198) rfl ?_
     refine sc X337 hx hby at_201 ?_
     refine sg (pc := 202) (pc' := 206) X337 hx hby at_202 (by decide) (by decide) ?_
     refine XS.istore X337.here hx rfl (hb hby at_206) rfl (l' := Lb321) rfl ?_
     refine XS.lconst X337.here hx rfl (hb hby at_208) ?_
     refine XS.lstore X337.here hx rfl (hb hby at_209) rfl (l' := Lb338) rfl ?_
     refine sa X337 hx hby at_211 rfl rfl ?_
     refine sa X337 hx hby at_213 rfl rfl ?_
     refine st348.trans ?_
     refine si X348 hx hby at_218 rfl ?_
     refine sN X348 hx hby at_220 (by decide) ?_
     refine sa X348 hx hby at_223 rfl rfl ?_
     refine st350 _ ?_
     refine XS.lload X350.here hx rfl (hb hby at_228) rfl ?_
     refine X350.ldc2Long hx hown (mvT hZ (wk88 hw)) (g := (mkF m 230 Lb338 [(.long (1 : Int64)), (.long (3 : Int64))])) rfl (hb hby at_230) _ ?_
     refine XS.ladd X350.here hx rfl (hb hby at_233) rfl ?_
     refine XS.lcmp X350.here hx rfl (hb hby at_234) rfl ?_
     refine sN X350 hx hby at_235 (by decide) ?_
     refine sa X350 hx hby at_238 rfl rfl ?_
     refine st351 _ ?_
     refine sa X351 hx hby at_243 rfl rfl ?_
     refine Jvm.RoadKit.acmp (g := (mkF m 245 Lb338 [(.ref b275), (.ref b275)])) X351 hx rfl rfl rfl (pc0 := 245) (pc' := 248) (same := true) rfl (hb hby at_245) rfl (decide_eq_true rfl) (by decide) (by decide) ?_
     refine sa X351 hx hby at_248 rfl rfl ?_
     refine st352 _ ?_
     refine sa X352 hx hby at_253 rfl rfl ?_
     refine Jvm.RoadKit.acmp (g := (mkF m 255 Lb338 [(.ref b279), (.ref b279)])) X352 hx rfl rfl rfl (pc0 := 255) (pc' := 258) (same := true) rfl (hb hby at_255) rfl (decide_eq_true rfl) (by decide) (by decide) ?_
     refine sa X352 hx hby at_258 rfl rfl ?_
     refine st353 _ ?_
     refine XS.ifnonnullNo X353.here hx rfl (hb hby at_263) rfl ?_
     refine sa X353 hx hby at_266 rfl rfl ?_
     refine st354 _ ?_
     refine sa X354 hx hby at_271 rfl rfl ?_
     refine Jvm.RoadKit.acmp (g := (mkF m 273 Lb338 [(.ref b285), (.ref b285)])) X354 hx rfl rfl rfl (pc0 := 273) (pc' := 276) (same := true) rfl (hb hby at_273) rfl (decide_eq_true rfl) (by decide) (by decide) ?_
     refine sa X354 hx hby at_276 rfl rfl ?_
     refine st356 _ ?_
     refine XS.ifnonnullNo X356.here hx rfl (hb hby at_281) rfl ?_
     refine sc X356 hx hby at_284 ?_
     refine sg (pc := 285) (pc' := 289) X356 hx hby at_285 (by decide) (by decide) ?_
     exact k)
    have t358 := (own_exa t339 K348)
    have t359 := (own_exa (own_exa (own_exa (own_exa (own_exa A291 K294) K314) K325) K332) K348)
    have t360 := (own_fld (own_fld (own_fld (own_fld (own_fld i291_63 K294 (own_nls (sn99 hw) (own_nls (sn98 hw) (own_nls (sn97 hw) (own_nls (sn96 hw) (own_nls (sn95 hw) (own_nls (sn94 hw) (own_nls (sn93 hw) (own_nls (sn92 hw) own_nl0))))))))) K314 (own_nlb (Ne.symm ne299) (own_nlb (Ne.symm ne304) (own_nlb (Ne.symm ne304) (own_nlb (Ne.symm ne304) (own_nlb (Ne.symm ne304) (own_nlb (Ne.symm ne299) (own_nlb (Ne.symm ne299) (own_nlb (Ne.symm ne299) (own_nlb (Ne.symm ne299) own_nl0)))))))))) K325 (own_nlb (Ne.symm ne299) (own_nlb (Ne.symm ne299) (own_nlb (Ne.symm ne304) (own_nlb (Ne.symm ne304) (own_nlb (Ne.symm ne304) (own_nlb (Ne.symm ne299) (own_nlb (Ne.symm ne299) own_nl0)))))))) K332 (own_nlb (Ne.symm ne299) (own_nlb (Ne.symm ne304) (own_nlb (Ne.symm ne304) (own_nlb (Ne.symm ne304) (own_nlb (Ne.symm ne304) (own_nlb (Ne.symm ne299) (own_nlb (Ne.symm ne299) (own_nlb (Ne.symm ne299) (own_nlb (Ne.symm ne299) own_nl0)))))))))) K348 (own_nlb (Ne.symm ne299) (own_nlb (Ne.symm ne341) (own_nlb (Ne.symm ne341) (own_nlb (Ne.symm ne341) (own_nlb (Ne.symm ne341) (own_nlb (Ne.symm ne304) (own_nlb (Ne.symm ne299) (own_nlb (Ne.symm ne299) (own_nlb (Ne.symm ne299) own_nl0))))))))))
    have t361 := (own_fld (own_fld (own_fld (own_fld (own_fld i291_65 K294 (own_nls (sn107 hw) (own_nls (sn106 hw) (own_nls (sn105 hw) (own_nls (sn104 hw) (own_nls (sn103 hw) (own_nls (sn102 hw) (own_nls (sn101 hw) (own_nls (sn100 hw) own_nl0))))))))) K314 (own_nlb (Ne.symm ne299) (own_nlb (Ne.symm ne304) (own_nlb (Ne.symm ne304) (own_nlb (Ne.symm ne304) (own_nlb (Ne.symm ne304) (own_nlb (Ne.symm ne299) (own_nlb (Ne.symm ne299) (own_nlb (Ne.symm ne299) (own_nlb (Ne.symm ne299) own_nl0)))))))))) K325 (own_nlb (Ne.symm ne299) (own_nlb (Ne.symm ne299) (own_nlb (Ne.symm ne304) (own_nlb (Ne.symm ne304) (own_nlb (Ne.symm ne304) (own_nlb (Ne.symm ne299) (own_nlb (Ne.symm ne299) own_nl0)))))))) K332 (own_nlb (Ne.symm ne299) (own_nlb (Ne.symm ne304) (own_nlb (Ne.symm ne304) (own_nlb (Ne.symm ne304) (own_nlb (Ne.symm ne304) (own_nlb (Ne.symm ne299) (own_nlb (Ne.symm ne299) (own_nlb (Ne.symm ne299) (own_nlb (Ne.symm ne299) own_nl0)))))))))) K348 (own_nlb (Ne.symm ne299) (own_nlb (Ne.symm ne341) (own_nlb (Ne.symm ne341) (own_nlb (Ne.symm ne341) (own_nlb (Ne.symm ne341) (own_nlb (Ne.symm ne304) (own_nlb (Ne.symm ne299) (own_nlb (Ne.symm ne299) (own_nlb (Ne.symm ne299) own_nl0))))))))))
    have t362 := (own_fld (own_fld (own_fld (own_fld (own_fld i291_69 K294 (own_nls (sn115 hw) (own_nls (sn114 hw) (own_nls (sn113 hw) (own_nls (sn112 hw) (own_nls (sn111 hw) (own_nls (sn110 hw) (own_nls (sn109 hw) (own_nls (sn108 hw) own_nl0))))))))) K314 (own_nlb (Ne.symm ne299) (own_nlb (Ne.symm ne304) (own_nlb (Ne.symm ne304) (own_nlb (Ne.symm ne304) (own_nlb (Ne.symm ne304) (own_nlb (Ne.symm ne299) (own_nlb (Ne.symm ne299) (own_nlb (Ne.symm ne299) (own_nlb (Ne.symm ne299) own_nl0)))))))))) K325 (own_nlb (Ne.symm ne299) (own_nlb (Ne.symm ne299) (own_nlb (Ne.symm ne304) (own_nlb (Ne.symm ne304) (own_nlb (Ne.symm ne304) (own_nlb (Ne.symm ne299) (own_nlb (Ne.symm ne299) own_nl0)))))))) K332 (own_nlb (Ne.symm ne299) (own_nlb (Ne.symm ne304) (own_nlb (Ne.symm ne304) (own_nlb (Ne.symm ne304) (own_nlb (Ne.symm ne304) (own_nlb (Ne.symm ne299) (own_nlb (Ne.symm ne299) (own_nlb (Ne.symm ne299) (own_nlb (Ne.symm ne299) own_nl0)))))))))) K348 (own_nlb (Ne.symm ne299) (own_nlb (Ne.symm ne341) (own_nlb (Ne.symm ne341) (own_nlb (Ne.symm ne341) (own_nlb (Ne.symm ne341) (own_nlb (Ne.symm ne304) (own_nlb (Ne.symm ne299) (own_nlb (Ne.symm ne299) (own_nlb (Ne.symm ne299) own_nl0))))))))))
    have t363 := (own_fld (own_fld (own_fld (own_fld (own_fld i291_71 K294 (own_nls (sn123 hw) (own_nls (sn122 hw) (own_nls (sn121 hw) (own_nls (sn120 hw) (own_nls (sn119 hw) (own_nls (sn118 hw) (own_nls (sn117 hw) (own_nls (sn116 hw) own_nl0))))))))) K314 (own_nlb (Ne.symm ne299) (own_nlb (Ne.symm ne304) (own_nlb (Ne.symm ne304) (own_nlb (Ne.symm ne304) (own_nlb (Ne.symm ne304) (own_nlb (Ne.symm ne299) (own_nlb (Ne.symm ne299) (own_nlb (Ne.symm ne299) (own_nlb (Ne.symm ne299) own_nl0)))))))))) K325 (own_nlb (Ne.symm ne299) (own_nlb (Ne.symm ne299) (own_nlb (Ne.symm ne304) (own_nlb (Ne.symm ne304) (own_nlb (Ne.symm ne304) (own_nlb (Ne.symm ne299) (own_nlb (Ne.symm ne299) own_nl0)))))))) K332 (own_nlb (Ne.symm ne299) (own_nlb (Ne.symm ne304) (own_nlb (Ne.symm ne304) (own_nlb (Ne.symm ne304) (own_nlb (Ne.symm ne304) (own_nlb (Ne.symm ne299) (own_nlb (Ne.symm ne299) (own_nlb (Ne.symm ne299) (own_nlb (Ne.symm ne299) own_nl0)))))))))) K348 (own_nlb (Ne.symm ne299) (own_nlb (Ne.symm ne341) (own_nlb (Ne.symm ne341) (own_nlb (Ne.symm ne341) (own_nlb (Ne.symm ne341) (own_nlb (Ne.symm ne304) (own_nlb (Ne.symm ne299) (own_nlb (Ne.symm ne299) (own_nlb (Ne.symm ne299) own_nl0))))))))))
    have t364 := (own_exa t340 K348)
    have t365 := (own_fld (own_fld (own_fld (own_fld r294_2 K314 (own_nlb (Ne.symm ne299) (own_nlb (Ne.symm ne304) (own_nlb (Ne.symm ne304) (own_nlb (Ne.symm ne304) (own_nlb (Ne.symm ne304) (own_nlb (Ne.symm ne299) (own_nlb (Ne.symm ne299) (own_nlb (Ne.symm ne299) (own_nlb (Ne.symm ne299) own_nl0)))))))))) K325 (own_nlb (Ne.symm ne299) (own_nlb (Ne.symm ne299) (own_nlb (Ne.symm ne304) (own_nlb (Ne.symm ne304) (own_nlb (Ne.symm ne304) (own_nlb (Ne.symm ne299) (own_nlb (Ne.symm ne299) own_nl0)))))))) K332 (own_nlb (Ne.symm ne299) (own_nlb (Ne.symm ne304) (own_nlb (Ne.symm ne304) (own_nlb (Ne.symm ne304) (own_nlb (Ne.symm ne304) (own_nlb (Ne.symm ne299) (own_nlb (Ne.symm ne299) (own_nlb (Ne.symm ne299) (own_nlb (Ne.symm ne299) own_nl0)))))))))) K348 (own_nlb (Ne.symm ne299) (own_nlb (Ne.symm ne341) (own_nlb (Ne.symm ne341) (own_nlb (Ne.symm ne341) (own_nlb (Ne.symm ne341) (own_nlb (Ne.symm ne304) (own_nlb (Ne.symm ne299) (own_nlb (Ne.symm ne299) (own_nlb (Ne.symm ne299) own_nl0))))))))))
    obtain ⟨cq366, kq366, q366a, q366b, q366c⟩ := isOf hZ e356 t358
    obtain ⟨_, _, ⟨T366, L366, kk366, nn366⟩, -, X366, ⟨Lc366, hQ366, l366, y366, z366⟩, st366⟩ := X356.virtualBack hx (y := ym5) (z := ym5) hown (mvT hZ (wk55 hw)) (mvT hZ (wk56 hw)) (notFace_of_selects (args := #[]) (mvT hZ (wk58 hw))) (mvT hZ (wk58 hw)) (mvT hZ (wk57 hw)) (by decide) (backOf (W := 0) (rm7_16 l Z a0 hw w hW [] b275 b291 b285 (((((0 : Int64) + p0) - p0) + p0) + p1) p2 T348.heap n0 O349 r348_0 t358 gg275 t359 t360 (Ne.symm ne299) gg291 t361 r348_3 t362 t363 t364 r348_5 (Ne.symm ne298) ne341 gg285 r348_7 r348_8 t365) hZ (wk59 hw) (wk2 hw) (by decide) (by decide)) q366a q366c (g := (mkF m 300 Lb338 [(.ref b291), (.ref b275)])) rfl (by rw [hml]; rfl) (Steps.refl _) (argsL := [(.ref b291)]) (rest := []) (lenOf pds_5 rfl) rfl (by show 2 * 0 + _ ≤ _; exact Nat.le_of_eq rfl) (hb hby at_300) (fun _ _ => ⟨rfl, e356, (by decide : 4 + 0 ≤ _), (by decide : 59 + 0 ≤ _)⟩)
    dsimp only [Pt.U, Pt.locs, Pt.cells, Pt.slots] at X366 l366 y366 z366 st366 hQ366
    subst l366 y366 z366
    obtain ⟨rfl, N366q, K366, r366_0, r366_1, r366_2, r366_3, r366_4, r366_5, r366_6, r366_7, r366_8⟩ := hQ366
    have N366 := Fr.app N348 N366q
    have O367 := own_old O349 K366 (own_ngc gg275 (own_ngc gg291 (own_ngc gg291 (own_ngc gg291 (own_ngc gg291 (own_ngc gg285 (own_ngc gg275 (own_ngc gg275 (own_ngc gg275 own_ng0)))))))))
    obtain ⟨T368, X368, e368, st368⟩ := getF X366 hx hZ hown (host := "") (Or.inl (wk79 hw)) Via.refl rfl r366_1 (g := (mkF m 310 Lb338 [(.ref b291)])) rfl rfl (hb hby at_310)
    obtain ⟨T369, X369, e369, st369⟩ := getF X368 hx hZ hown (host := "") (Or.inl (wk80 hw)) Via.refl e368 r366_2 (g := (mkF m 325 Lb338 [(.ref b291)])) rfl rfl (hb hby at_325)
    obtain ⟨T370, X370, e370, st370⟩ := getF X369 hx hZ hown (host := "") (Or.inl (wk81 hw)) Via.refl e369 r366_4 (g := (mkF m 335 Lb338 [(.ref b291)])) rfl rfl (hb hby at_335)
    obtain ⟨T371, X371, e371, st371⟩ := getF X370 hx hZ hown (host := "") (Or.inl (wk82 hw)) Via.refl e370 r366_5 (g := (mkF m 345 Lb338 [(.ref b291)])) rfl rfl (hb hby at_345)
    obtain ⟨T372, X372, e372, st372⟩ := getF X371 hx hZ hown (host := "") (Or.inl (wk82 hw)) Via.refl e371 r366_6 (g := (mkF m 353 Lb338 [(.ref b285)])) rfl rfl (hb hby at_353)
    have t373 := (own_fld r348_4 K366 (own_nlb (Ne.symm ne298) (own_nlb ne341 (own_nlb ne341 (own_nlb ne341 (own_nlb ne341 (own_nls (sn87 hw) (own_nlb (Ne.symm ne298) (own_nlb (Ne.symm ne298) (own_nlb (Ne.symm ne298) own_nl0))))))))))
    obtain ⟨T374, X374, e374, st374⟩ := getF X372 hx hZ hown (host := "") (Or.inl (wk81 hw)) Via.refl e372 t373 (g := (mkF m 363 Lb338 [(.ref b285)])) rfl rfl (hb hby at_363)
    have t375 := (own_fld r348_6 K366 (own_nlb (Ne.symm ne297) (own_nlb ne304 (own_nlb ne304 (own_nlb ne304 (own_nlb ne304 (own_nlb ne303 (own_nlb (Ne.symm ne297) (own_nlb (Ne.symm ne297) (own_nlb (Ne.symm ne297) own_nl0))))))))))
    obtain ⟨T376, X376, e376, st376⟩ := getF X374 hx hZ hown (host := "") (Or.inl (wk82 hw)) Via.refl e374 t375 (g := (mkF m 373 Lb338 [(.ref b279)])) rfl rfl (hb hby at_373)
    have t377 := (own_fld t355 K366 (own_nlb (Ne.symm ne297) (own_nlb ne304 (own_nlb ne304 (own_nlb ne304 (own_nlb ne304 (own_nlb ne303 (own_nlb (Ne.symm ne297) (own_nlb (Ne.symm ne297) (own_nlb (Ne.symm ne297) own_nl0))))))))))
    obtain ⟨T378, X378, e378, st378⟩ := getF X376 hx hZ hown (host := "") (Or.inl (wk81 hw)) Via.refl e376 t377 (g := (mkF m 383 Lb338 [(.ref b279)])) rfl rfl (hb hby at_383)
    let Lb379 : Array Slot := #[.val (.long p0), .second, .val (.long p1), .second, .val (.long p2), .second, .val (.int p3), .val (.int (1 : Int32)), .val (.int (1 : Int32)), .val (.ref b275), .val (.ref b279), .val (.ref b285), .val (.ref b291), .val (.int (1 : Int32)), .val (.long (1 : Int64)), .second, .val (.long (3 : Int64)), .second, .unset, .unset]
    let Lb380 : Array Slot := #[.val (.long p0), .second, .val (.long p1), .second, .val (.long p2), .second, .val (.int p3), .val (.int (1 : Int32)), .val (.int (1 : Int32)), .val (.ref b275), .val (.ref b279), .val (.ref b285), .val (.ref b291), .val (.int (1 : Int32)), .val (.long (1 : Int64)), .second, .val (.long (3 : Int64)), .second, .val (.long ((p0 + p1) + p2)), .second]
    have t382 := (own_exa t358 K366)
    obtain ⟨cq381, kq381, q381a, q381b, q381c⟩ := isOf hZ e378 t382
    obtain ⟨_, _, ⟨T381, L381, kk381, nn381⟩, -, X381, ⟨Lc381, hQ381, l381, y381, z381⟩, st381⟩ := X378.virtualBack hx (y := ym6) (z := ym6) hown (mvT hZ (wk89 hw)) (mvT hZ (wk90 hw)) (notFace_of_selects (args := #[]) (mvT hZ (wk92 hw))) (mvT hZ (wk92 hw)) (mvT hZ (wk91 hw)) (by decide) (backOf (W := 0) (rm9_15 l Z a0 hw w hW [] b275 T366.heap n0 O367 r366_7) hZ (wk93 hw) (wk2 hw) (by decide) (by decide)) q381a q381c (g := (mkF m 436 Lb380 [(.ref b275)])) rfl (by rw [hml]; rfl) (Steps.refl _) (argsL := []) (rest := []) (lenOf pds_6 rfl) rfl (by show 2 * 0 + _ ≤ _; exact Nat.le_of_eq rfl) (hb hby at_436) (fun _ _ => ⟨rfl, e378, (by decide : 4 + 0 ≤ _), (by decide : 59 + 0 ≤ _)⟩)
    dsimp only [Pt.U, Pt.locs, Pt.cells, Pt.slots] at X381 l381 y381 z381 st381 hQ381
    subst l381 y381 z381
    obtain ⟨rfl, N381q, e381⟩ := hQ381
    have N381 := Fr.app N366 N381q
    obtain ⟨cq383, kq383, q383a, q383b, q383c⟩ := isOf hZ e381 t382
    obtain ⟨_, _, ⟨T383, L383, kk383, nn383⟩, -, X383, ⟨Lc383, hQ383, l383, y383, z383⟩, st383⟩ := X381.virtualBack hx (y := ym7) (z := ym7) hown (mvT hZ (wk94 hw)) (mvT hZ (wk95 hw)) (notFace_of_selects (args := #[]) (mvT hZ (wk97 hw))) (mvT hZ (wk97 hw)) (mvT hZ (wk96 hw)) (by decide) (backOf (W := 0) (rm10_9 l Z a0 hw w hW [] b275 ((((((0 : Int64) + p0) - p0) + p0) + p1) + p2) T366.heap n0 O367 r366_8) hZ (wk98 hw) (wk2 hw) (by decide) (by decide)) q383a q383c (g := (mkF m 447 Lb380 [(.ref b275)])) rfl (by rw [hml]; rfl) (Steps.refl _) (argsL := []) (rest := []) (lenOf pds_6 rfl) rfl (by show 2 * 0 + _ ≤ _; exact Nat.le_of_eq rfl) (hb hby at_447) (fun _ _ => ⟨rfl, e381, (by decide : 4 + 0 ≤ _), (by decide : 59 + 0 ≤ _)⟩)
    dsimp only [Pt.U, Pt.locs, Pt.cells, Pt.slots] at X383 l383 y383 z383 st383 hQ383
    subst l383 y383 z383
    obtain ⟨rfl, N383q, e383⟩ := hQ383
    have N383 := Fr.app N381 N383q
    have pre384 : ∀ t, Steps p.tables e below (T383.setTop (mkF m 453 Lb380 [(.int (lcmpW ((((((0 : Int64) + p0) - p0) + p0) + p1) + p2) ((p0 + p1) + p2)))])) t → Steps p.tables e below (s₁.setTop (entryFrame m #[(.long p0), (.long p1), (.long p2), (.int p3)] maxLocals)) t := fun t k => pre357 t (by
     show Steps p.tables e below (T356.setTop (mkF m 289 Lb338 [(.int (1 : Int32))])) _
     refine XS.istore X356.here hx rfl (hb hby at_289) rfl (l' := Lb338) rfl ?_
     refine si X356 hx hby at_291 rfl ?_
     refine sN X356 hx hby at_293 (by decide) ?_
     refine sa X356 hx hby at_296 rfl rfl ?_
     refine sa X356 hx hby at_298 rfl rfl ?_
     refine st366.trans ?_
     refine si X366 hx hby at_303 rfl ?_
     refine sN X366 hx hby at_305 (by decide) ?_
     refine sa X366 hx hby at_308 rfl rfl ?_
     refine st368 _ ?_
     refine XS.lload X368.here hx rfl (hb hby at_313) rfl ?_
     refine X368.ldc2Long hx hown (mvT hZ (wk104 hw)) (g := (mkF m 315 Lb338 [(.long (1 : Int64)), (.long (4 : Int64))])) rfl (hb hby at_315) _ ?_
     refine XS.ladd X368.here hx rfl (hb hby at_318) rfl ?_
     refine XS.lcmp X368.here hx rfl (hb hby at_319) rfl ?_
     refine sN X368 hx hby at_320 (by decide) ?_
     refine sa X368 hx hby at_323 rfl rfl ?_
     refine st369 _ ?_
     refine sa X369 hx hby at_328 rfl rfl ?_
     refine Jvm.RoadKit.acmp (g := (mkF m 330 Lb338 [(.ref b275), (.ref b275)])) X369 hx rfl rfl rfl (pc0 := 330) (pc' := 333) (same := true) rfl (hb hby at_330) rfl (decide_eq_true rfl) (by decide) (by decide) ?_
     refine sa X369 hx hby at_333 rfl rfl ?_
     refine st370 _ ?_
     refine sa X370 hx hby at_338 rfl rfl ?_
     refine Jvm.RoadKit.acmp (g := (mkF m 340 Lb338 [(.ref b285), (.ref b285)])) X370 hx rfl rfl rfl (pc0 := 340) (pc' := 343) (same := true) rfl (hb hby at_340) rfl (decide_eq_true rfl) (by decide) (by decide) ?_
     refine sa X370 hx hby at_343 rfl rfl ?_
     refine st371 _ ?_
     refine XS.ifnonnullNo X371.here hx rfl (hb hby at_348) rfl ?_
     refine sa X371 hx hby at_351 rfl rfl ?_
     refine st372 _ ?_
     refine sa X372 hx hby at_356 rfl rfl ?_
     refine Jvm.RoadKit.acmp (g := (mkF m 358 Lb338 [(.ref b291), (.ref b291)])) X372 hx rfl rfl rfl (pc0 := 358) (pc' := 361) (same := true) rfl (hb hby at_358) rfl (decide_eq_true rfl) (by decide) (by decide) ?_
     refine sa X372 hx hby at_361 rfl rfl ?_
     refine st374 _ ?_
     refine sa X374 hx hby at_366 rfl rfl ?_
     refine Jvm.RoadKit.acmp (g := (mkF m 368 Lb338 [(.ref b279), (.ref b279)])) X374 hx rfl rfl rfl (pc0 := 368) (pc' := 371) (same := true) rfl (hb hby at_368) rfl (decide_eq_true rfl) (by decide) (by decide) ?_
     refine sa X374 hx hby at_371 rfl rfl ?_
     refine st376 _ ?_
     refine sa X376 hx hby at_376 rfl rfl ?_
     refine Jvm.RoadKit.acmp (g := (mkF m 378 Lb338 [(.ref b285), (.ref b285)])) X376 hx rfl rfl rfl (pc0 := 378) (pc' := 381) (same := true) rfl (hb hby at_378) rfl (decide_eq_true rfl) (by decide) (by decide) ?_
     refine sa X376 hx hby at_381 rfl rfl ?_
     refine st378 _ ?_
     refine XS.ifnonnullNo X378.here hx rfl (hb hby at_386) rfl ?_
     refine sc X378 hx hby at_389 ?_
     refine sg (pc := 390) (pc' := 394) X378 hx hby at_390 (by decide) (by decide) ?_
     refine XS.istore X378.here hx rfl (hb hby at_394) rfl (l' := Lb338) rfl ?_
     refine si X378 hx hby at_396 rfl ?_
     refine sN X378 hx hby at_398 (by decide) ?_
     refine X378.ldc2Long hx hown (mvT hZ (wk104 hw)) (g := (mkF m 401 Lb338 [])) rfl (hb hby at_401) _ ?_
     refine sg (pc := 404) (pc' := 410) X378 hx hby at_404 (by decide) (by decide) ?_
     refine XS.lstore X378.here hx rfl (hb hby at_410) rfl (l' := Lb379) rfl ?_
     refine sL X378 hx hby at_412 rfl ?_
     refine sL X378 hx hby at_413 rfl ?_
     refine XS.ladd X378.here hx rfl (hb hby at_414) rfl ?_
     refine si X378 hx hby at_415 rfl ?_
     refine sN X378 hx hby at_417 (by decide) ?_
     refine XS.lload X378.here hx rfl (hb hby at_420) rfl ?_
     refine sg (pc := 422) (pc' := 426) X378 hx hby at_422 (by decide) (by decide) ?_
     refine XS.ladd X378.here hx rfl (hb hby at_426) rfl ?_
     refine XS.lstore X378.here hx rfl (hb hby at_427) rfl (l' := Lb380) rfl ?_
     refine si X378 hx hby at_429 rfl ?_
     refine sN X378 hx hby at_431 (by decide) ?_
     refine sa X378 hx hby at_434 rfl rfl ?_
     refine st381.trans ?_
     refine XS.lload X381.here hx rfl (hb hby at_439) rfl ?_
     refine XS.lcmp X381.here hx rfl (hb hby at_441) rfl ?_
     refine sN X381 hx hby at_442 (by decide) ?_
     refine sa X381 hx hby at_445 rfl rfl ?_
     refine st383.trans ?_
     refine XS.lload X383.here hx rfl (hb hby at_450) rfl ?_
     refine XS.lcmp X383.here hx rfl (hb hby at_452) rfl ?_
     exact k)
    by_cases hc385 : ((((((0 : Int64) + p0) - p0) + p0) + p1) + p2) = ((p0 + p1) + p2)
    ·
     have t386 := (own_fld (own_fld r332_6 K348 (own_nls (sn63 hw) (own_nlb ne298 (own_nlb ne298 (own_nlb ne298 (own_nlb ne298 (own_nlb ne297 (own_nls (sn88 hw) (own_nls (sn89 hw) (own_nls (sn90 hw) own_nl0)))))))))) K366 (own_nls (sn63 hw) (own_nlb ne299 (own_nlb ne299 (own_nlb ne299 (own_nlb ne299 (own_nlb ne298 (own_nls (sn88 hw) (own_nls (sn89 hw) (own_nls (sn90 hw) own_nl0))))))))))
     obtain ⟨cq387, kq387, q387a, q387b, q387c⟩ := isOf hZ e383 t382
     obtain ⟨_, _, ⟨T387, L387, kk387, nn387⟩, -, X387, ⟨Lc387, hQ387, l387, y387, z387⟩, st387⟩ := X383.virtualBack hx (y := ym8) (z := ym8) hown (mvT hZ (wk99 hw)) (mvT hZ (wk100 hw)) (notFace_of_selects (args := #[]) (mvT hZ (wk102 hw))) (mvT hZ (wk102 hw)) (mvT hZ (wk101 hw)) (by decide) (backOf (W := 0) (rm11_10 l Z a0 hw w hW [] b275 b279 T366.heap n0 O367 t386) hZ (wk103 hw) (wk2 hw) (by decide) (by decide)) q387a q387c (g := (mkF m 458 Lb380 [(.ref b275)])) rfl (by rw [hml]; rfl) (Steps.refl _) (argsL := []) (rest := []) (lenOf pds_7 rfl) rfl (by show 2 * 0 + _ ≤ _; exact Nat.le_of_eq rfl) (hb hby at_458) (fun _ _ => ⟨rfl, e383, (by decide : 4 + 0 ≤ _), (by decide : 59 + 0 ≤ _)⟩)
     dsimp only [Pt.U, Pt.locs, Pt.cells, Pt.slots] at X387 l387 y387 z387 st387 hQ387
     subst l387 y387 z387
     obtain ⟨rfl, N387q, e387⟩ := hQ387
     have N387 := Fr.app N383 N387q
     obtain ⟨fs, hr, hrun, hended, hWm, hsame⟩ := X387.leave (v := some (.int (1 : Int32))) (fun h => by rw [Bd.returns] at h; cases h)
     refine ⟨_, _, pre384 _ ?_, hrun, hended, _, _, rfl, ?_, ⟨_, rfl⟩, hWm, hsame.mono (by decide) (by decide)⟩
     · show Steps p.tables e below (T383.setTop (mkF m 453 Lb380 [(.int (lcmpW ((((((0 : Int64) + p0) - p0) + p0) + p1) + p2) ((p0 + p1) + p2)))])) _
       refine sN X383 hx hby at_453 ((if0 _ _).trans (teq (((lw_eq _ _).mpr hc385) : (lcmpW ((((((0 : Int64) + p0) - p0) + p0) + p1) + p2) ((p0 + p1) + p2)) = (0 : Int32))).2) ?_
       refine sa X383 hx hby at_456 rfl rfl ?_
       refine st387.trans ?_
       refine sa X387 hx hby at_461 rfl rfl ?_
       refine Jvm.RoadKit.acmp (g := (mkF m 463 Lb380 [(.ref b279), (.ref b279)])) X387 hx rfl rfl rfl (pc0 := 463) (pc' := 466) (same := true) rfl (hb hby at_463) rfl (decide_eq_true rfl) (by decide) (by decide) ?_
       refine sc X387 hx hby at_466 ?_
       refine sg (pc := 467) (pc' := 471) X387 hx hby at_467 (by decide) (by decide) ?_
       refine XS.istore X387.here hx rfl (hb hby at_471) rfl (l' := Lb380) rfl ?_
       refine si X387 hx hby at_473 rfl ?_
       exact retN X387 hx (t := .boolean) Bd.returns (by simp) (hb hby at_475) hr
     · show Q0 n0 _ T387.heap _
       rw [e387]
       exact ⟨rfl, N387⟩
    ·
     exfalso
     have z19 : (((((((0 : Int64) + p0) - p0) + p0) + p1) + p2)).toInt ≠ (((p0 + p1) + p2)).toInt := fun q => hc385 (Int64.toInt_inj.mp q)
     have z1 := rng64 ((((((0 : Int64) + p0) - p0) + p0) + p1) + p2)
     have z2 := rng64 (((((0 : Int64) + p0) - p0) + p0) + p1)
     have z3 := rng64 ((((0 : Int64) + p0) - p0) + p0)
     have z4 := rng64 (((0 : Int64) + p0) - p0)
     have z5 := rng64 ((0 : Int64) + p0)
     have z6 : ((0 : Int64)).toInt = 0 := by decide
     have z7 := rng64 p0
     have z8 := c_ladd (0 : Int64) p0
     have z9 := c_lsub ((0 : Int64) + p0) p0
     have z10 := c_ladd (((0 : Int64) + p0) - p0) p0
     have z11 := rng64 p1
     have z12 := c_ladd ((((0 : Int64) + p0) - p0) + p0) p1
     have z13 := rng64 p2
     have z14 := c_ladd (((((0 : Int64) + p0) - p0) + p0) + p1) p2
     have z15 := rng64 ((p0 + p1) + p2)
     have z16 := rng64 (p0 + p1)
     have z17 := c_ladd p0 p1
     have z18 := c_ladd (p0 + p1) p2
     omega
set_option maxRecDepth 65536 in
set_option maxHeartbeats 400000000 in
theorem comes_1 {Post : Tables → Env → Array Value → State → Outcome → State → Prop} (hpost : ∀ tb e args s v u, (limb_1_1.after args s (.returned v) u = true ∧ limb_1_2.after args s (.returned v) u = true ∧ True) → FrameEnd s (.returned v) u (Jvm.fieldLocs frame_1_writes args s ++ Jvm.arrayLocs frame_1_arrays args s ++ Jvm.staticLocs frame_1_statics s) 16 192 → Post tb e args s (.returned v) u) :
    ArmFor flags0 classFile x code maxLocals ret World_1 tables_1 room_1 Calls_1 rest_1 Pre_1 Post := by
  intro l hfl _ _ p e ha hc hk s m args below hf hA hF happ hP
  obtain ⟨hcalls, hrest, hpre⟩ := hP
  obtain ⟨-, -, -, hnamed, -, -, -, hat⟩ := (Spec.applies_iff hf).mp happ
  obtain ⟨hg, hn⟩ := and_e (Cond.before_iff.mp (show (Jvm.Cond.and given_1 narrow_1).before args s = true from hpre))
  obtain ⟨ga4, gb4⟩ := and_e hg
  obtain ⟨ga5, gb5⟩ := and_e gb4
  obtain ⟨ga6, gb6⟩ := and_e gb5
  obtain ⟨ga7, gb7⟩ := and_e gb6
  obtain ⟨v0, v1, v2, v3, rfl⟩ : ∃ v0 v1 v2 v3 : Value, args = #[v0, v1, v2, v3] := by
    have hs : args.size = 4 := by simpa [Cond.value, given_1] using ga4
    obtain ⟨L⟩ := args
    match L, hs with
    | [v0, v1, v2, v3], _ => exact ⟨v0, v1, v2, v3, rfl⟩
  have hw := fun d (hd : d ∈ tables_1) => atoms_spec (ws := Jvm.Cond.code x code maxLocals ret :: tables_1) hat d (List.mem_cons_of_mem _ hd)
  have hfit : Fit s := fun {y c} hc i hi => by
    obtain ⟨ha, rfl⟩ := Array.getElem?_eq_some_iff.mp hc
    have q := List.all_eq_true.mp ((Array.all_eq_true_iff_forall_mem.mp hF) _ (Array.getElem_mem ha)) i (List.mem_range.mpr hi)
    simpa [Array.getElem?_eq_getElem hi] using q
  obtain ⟨i0, ei0⟩ := isL_v ga5
  obtain rfl : v0 = (.long i0) := Option.some.inj ei0
  obtain ⟨i1, ei1⟩ := isL_v ga6
  obtain rfl : v1 = (.long i1) := Option.some.inj ei1
  obtain ⟨i2, ei2⟩ := isL_v ga7
  obtain rfl : v2 = (.long i2) := Option.some.inj ei2
  obtain ⟨i3, ei3⟩ := is_v gb7
  obtain rfl : v3 = (.int i3) := Option.some.inj ei3
  obtain ⟨na0, nb0⟩ := and_e hn
  obtain ⟨na1, nb1⟩ := and_e nb0
  obtain ⟨x0, ev0⟩ := exa_v na0
  have hW : Wd s (fun i => ([x0] : List Addr).getD i 0) := ⟨(Sta.start ev0 (Or.inr ⟨(wk13 hw), (wk14 hw)⟩)), (Exa.start ev0 na0), (own_fldJ ev0 na1), (own_fldJ ev0 nb1), trivial⟩
  obtain ⟨n, o, h1, h2, h3, _, L, rfl, ⟨rfl, N⟩, hq⟩ := rm0 l s _ hw _ hW tables_1 i0 i1 i2 i3 s.heap s.heap.size (Old.start s) p e ha hc hk s m _ below hf ((Spec.applies_iff_loose hf).mp happ).1 ⟨rfl, State.Warmed39.refl s, rfl⟩ trivial
  refine ⟨n, _, h1, h2, h3, hpost _ _ _ _ _ _ ⟨Cond.after_iff.mpr rfl, Cond.after_iff.mpr (eq_i res_at (Term.int_eval (1)) rfl), trivial⟩ ⟨hq.1, hq.2.1, (hq.2.2.sift fun y hy => Or.inr (N y hy)).mono (by decide) (by decide)⟩⟩
theorem main_1_1 : Claimed_1_1 := comes_1 fun _ _ _ _ _ _ h hF => ⟨h.1, hF⟩
theorem main_1_2 : Claimed_1_2 := comes_1 fun _ _ _ _ _ _ h hF => ⟨h.2.1, hF⟩
end Jvm.Pilot.@@N@@
namespace Jvm.Pilot.@@N@@
open Jvm Jvm.ClassFile Sem Op Lib Jvm.Free Jvm.Stand Jvm.Pilot.@@N@@.Jvm.D
/-! MADE BY PROGRAM (witnessworld.py) out of the Statement's table words and the real class files: 12 classes; the members and pool entries that the words name. The judged class is class 1, her method 1. -/
namespace start1
open Jvm.ClassFile
def u (s : String) : CpInfo := .utf8 (stringToUtf16 s)
/-- a pool by its gaps: so many unusable entries, then the entry; so many at the end -/
def gap : Nat → List CpInfo → List CpInfo
  | 0, r => r
  | n + 1, r => .unusable :: gap n r
def poolList (es : List (Nat × CpInfo)) (last : Nat) : List CpInfo := es.foldr (fun e r => gap e.1 (e.2 :: r)) (gap last [])
def pool (es : List (Nat × CpInfo)) (last : Nat) : Array CpInfo := ⟨poolList es last⟩
def fileOf (pool : Array CpInfo) (this : Nat) (attrs : Array Attribute := #[]) (ms : Array MethodInfo := #[]) (fl : Nat := 33) (sup : Nat := 0) (ifs : Array Nat := #[]) (fds : Array FieldInfo := #[]) : ClassFile where
  minorVersion := 0
  majorVersion := 65
  constantPool := pool
  accessFlags := fl
  thisClass := this
  superClass := sup
  interfaces := ifs
  fields := fds
  methods := ms
  attributes := attrs
def plain (name : String) (sup : Option ClassId) : Class where
  name := name
  kind := .ordinary
  loader := none
  accessFlags := 33
  super := sup
  interfaces := #[]
  cf := none
  fields := #[]
  methods := #[]
  instanceTypes := #[]
  staticTypes := #[]
  resolved := #[]
  callSites := []
  init := .initialized
  statics := none
  mirror := none

def pool0 : Array CpInfo := pool [(5, u "<init>"), (0, u "()V"), (1, .class_ 10), (1, u "java/lang/Object")] 113

def k0c0 : Code := { maxStack := 0, maxLocals := 1, code := object_method_1_code, exceptionTable := #[], attributes := #[] }
def k0m0 : Method := { name := "<init>", desc := "()V", sig := { parameters := [], returnType := none }, accessFlags := 1, code := some k0c0 }
/-- java/lang/Object -/
def k0 : Class := { plain "java/lang/Object" none with
  accessFlags := 33
  interfaces := #[]
  cf := some (fileOf pool0 8 #[] #[{ accessFlags := 1, nameIndex := 5, descriptorIndex := 6, attributes := #[] }] 33 0 #[] #[])
  fields := #[]
  methods := #[k0m0]
  instanceTypes := #[]
  staticTypes := #[]
  resolved := Array.replicate 124 none
  statics := none }

def pool1 : Array CpInfo := pool [(2, .class_ 4), (0, .nameAndType 5 6), (0, u "java/lang/Object"), (0, u "<init>"), (0, u "()V"), (0, .class_ 8), (0, u "com/example/tidemark/tidemark/RecencyList"), (0, .methodref 7 3), (0, .class_ 11), (0, u "com/example/tidemark/tidemark/MemoryEntry"), (0, .fieldref 13 14), (0, .class_ 15), (0, .nameAndType 16 17), (0, u "com/example/tidemark/tidemark/Expiry"), (0, u "NEVER"), (0, u "Lcom/example/tidemark/tidemark/Expiry;"), (0, .methodref 10 19), (0, .nameAndType 5 20), (0, u "(Ljava/lang/Object;Ljava/lang/Object;Lcom/example/tidemark/tidemark/Expiry;JJ)V"), (0, .methodref 7 22), (0, .nameAndType 23 24), (0, u "addNewest"), (0, u "(Lcom/example/tidemark/tidemark/MemoryEntry;)V"), (0, .fieldref 10 26), (0, .nameAndType 27 28), (0, u "stamp"), (0, u "J"), (0, .fieldref 10 30), (0, .nameAndType 31 32), (0, u "list"), (0, u "Lcom/example/tidemark/tidemark/RecencyList;"), (0, .fieldref 10 34), (0, .nameAndType 35 36), (0, u "older"), (0, u "Lcom/example/tidemark/tidemark/MemoryEntry;"), (0, .fieldref 10 38), (0, .nameAndType 39 36), (0, u "newer"), (0, .methodref 7 41), (0, .nameAndType 42 24), (0, u "remove"), (0, .long 2), (1, .long 3), (1, .methodref 7 48), (0, .nameAndType 49 50), (0, u "size"), (0, u "()J"), (0, .methodref 7 52), (0, .nameAndType 53 50), (0, u "weight"), (0, .methodref 7 55), (0, .nameAndType 56 57), (0, u "oldest"), (0, u "()Lcom/example/tidemark/tidemark/MemoryEntry;"), (0, .class_ 59), (0, u "com/example/tidemark/tidemark/RecencyListAddNewestPinLaw"), (2, u "law"), (0, u "(JJJI)Z")] 3

def k1m0 : Method := { name := "<init>", desc := "()V", sig := { parameters := [], returnType := none }, accessFlags := 1, code := none }
def k1c1 : Code := { maxStack := 9, maxLocals := 20, code := code, exceptionTable := #[], attributes := #[] }
def k1m1 : Method := { name := "law", desc := "(JJJI)Z", sig := { parameters := [.long, .long, .long, .int], returnType := some .boolean }, accessFlags := 9, code := some k1c1 }
/-- com/example/tidemark/tidemark/RecencyListAddNewestPinLaw -/
def k1 : Class := { plain "com/example/tidemark/tidemark/RecencyListAddNewestPinLaw" (some 0) with
  accessFlags := 49
  interfaces := #[]
  cf := some (fileOf pool1 58 #[] #[{ accessFlags := 1, nameIndex := 5, descriptorIndex := 6, attributes := #[] }, { accessFlags := 9, nameIndex := 62, descriptorIndex := 63, attributes := #[] }] 49 2 #[] #[])
  fields := #[]
  methods := #[k1m0, k1m1]
  instanceTypes := #[]
  staticTypes := #[]
  resolved := Array.replicate 67 none
  statics := none }

def pool2 : Array CpInfo := pool [(1, .methodref 2 3), (0, .class_ 4), (0, .nameAndType 5 6), (0, u "java/lang/Object"), (0, u "<init>"), (0, u "()V"), (0, .fieldref 8 9), (0, .class_ 10), (0, .nameAndType 11 12), (0, u "com/example/tidemark/tidemark/RecencyList"), (0, u "oldest"), (0, u "Lcom/example/tidemark/tidemark/MemoryEntry;"), (0, .fieldref 14 15), (0, .class_ 16), (0, .nameAndType 17 12), (0, u "com/example/tidemark/tidemark/MemoryEntry"), (0, u "newer"), (0, .fieldref 8 19), (0, .nameAndType 20 21), (0, u "size"), (0, u "J"), (0, .fieldref 8 23), (0, .nameAndType 24 21), (0, u "weight"), (0, .fieldref 8 26), (0, .nameAndType 27 21), (0, u "stamps"), (0, .fieldref 14 29), (0, .nameAndType 30 21), (0, u "stamp"), (0, .fieldref 14 32), (0, .nameAndType 33 34), (0, u "list"), (0, u "Lcom/example/tidemark/tidemark/RecencyList;"), (0, .fieldref 8 36), (0, .nameAndType 37 12), (0, u "newest"), (0, .fieldref 14 39), (0, .nameAndType 40 12), (0, u "older"), (0, .fieldref 14 42), (0, .nameAndType 43 21), (0, u "charge"), (2, u "remove"), (0, u "(Lcom/example/tidemark/tidemark/MemoryEntry;)V"), (2, u "addNewest"), (4, u "()Lcom/example/tidemark/tidemark/MemoryEntry;"), (5, u "()J")] 11

def k2c0 : Code := { maxStack := 1, maxLocals := 1, code := prog_41_method_1_code, exceptionTable := #[], attributes := #[] }
def k2m0 : Method := { name := "<init>", desc := "()V", sig := { parameters := [], returnType := none }, accessFlags := 0, code := some k2c0 }
def k2c1 : Code := { maxStack := 1, maxLocals := 1, code := prog_41_method_2_code, exceptionTable := #[], attributes := #[] }
def k2m1 : Method := { name := "oldest", desc := "()Lcom/example/tidemark/tidemark/MemoryEntry;", sig := { parameters := [], returnType := some (.object "com/example/tidemark/tidemark/MemoryEntry") }, accessFlags := 0, code := some k2c1 }
def k2c2 : Code := { maxStack := 2, maxLocals := 1, code := prog_41_method_4_code, exceptionTable := #[], attributes := #[] }
def k2m2 : Method := { name := "size", desc := "()J", sig := { parameters := [], returnType := some .long }, accessFlags := 0, code := some k2c2 }
def k2c3 : Code := { maxStack := 2, maxLocals := 1, code := prog_41_method_5_code, exceptionTable := #[], attributes := #[] }
def k2m3 : Method := { name := "weight", desc := "()J", sig := { parameters := [], returnType := some .long }, accessFlags := 0, code := some k2c3 }
def k2c4 : Code := { maxStack := 6, maxLocals := 2, code := prog_41_method_7_code, exceptionTable := #[], attributes := #[] }
def k2m4 : Method := { name := "addNewest", desc := "(Lcom/example/tidemark/tidemark/MemoryEntry;)V", sig := { parameters := [(.object "com/example/tidemark/tidemark/MemoryEntry")], returnType := none }, accessFlags := 0, code := some k2c4 }
def k2c5 : Code := { maxStack := 5, maxLocals := 2, code := prog_41_method_10_code, exceptionTable := #[], attributes := #[] }
def k2m5 : Method := { name := "remove", desc := "(Lcom/example/tidemark/tidemark/MemoryEntry;)V", sig := { parameters := [(.object "com/example/tidemark/tidemark/MemoryEntry")], returnType := none }, accessFlags := 0, code := some k2c5 }
/-- com/example/tidemark/tidemark/RecencyList -/
def k2 : Class := { plain "com/example/tidemark/tidemark/RecencyList" (some 0) with
  accessFlags := 48
  interfaces := #[]
  cf := some (fileOf pool2 8 #[] #[{ accessFlags := 0, nameIndex := 5, descriptorIndex := 6, attributes := #[] }, { accessFlags := 0, nameIndex := 11, descriptorIndex := 55, attributes := #[] }, { accessFlags := 0, nameIndex := 20, descriptorIndex := 61, attributes := #[] }, { accessFlags := 0, nameIndex := 24, descriptorIndex := 61, attributes := #[] }, { accessFlags := 0, nameIndex := 50, descriptorIndex := 47, attributes := #[] }, { accessFlags := 0, nameIndex := 46, descriptorIndex := 47, attributes := #[] }] 48 2 #[] #[{ accessFlags := 2, nameIndex := 11, descriptorIndex := 12, attributes := #[] }, { accessFlags := 2, nameIndex := 37, descriptorIndex := 12, attributes := #[] }, { accessFlags := 2, nameIndex := 20, descriptorIndex := 21, attributes := #[] }, { accessFlags := 2, nameIndex := 24, descriptorIndex := 21, attributes := #[] }, { accessFlags := 2, nameIndex := 27, descriptorIndex := 21, attributes := #[] }])
  fields := #[{ name := "oldest", type := (.object "com/example/tidemark/tidemark/MemoryEntry"), accessFlags := 2, slot := 0, constantValue := 0 }, { name := "newest", type := (.object "com/example/tidemark/tidemark/MemoryEntry"), accessFlags := 2, slot := 1, constantValue := 0 }, { name := "size", type := .long, accessFlags := 2, slot := 2, constantValue := 0 }, { name := "weight", type := .long, accessFlags := 2, slot := 3, constantValue := 0 }, { name := "stamps", type := .long, accessFlags := 2, slot := 4, constantValue := 0 }]
  methods := #[k2m0, k2m1, k2m2, k2m3, k2m4, k2m5]
  instanceTypes := #[(.object "com/example/tidemark/tidemark/MemoryEntry"), (.object "com/example/tidemark/tidemark/MemoryEntry"), .long, .long, .long]
  staticTypes := #[]
  resolved := Array.replicate 73 none
  statics := none }

def pool3 : Array CpInfo := pool [(1, .methodref 2 3), (0, .class_ 4), (0, .nameAndType 5 6), (0, u "java/lang/Object"), (0, u "<init>"), (0, u "()V"), (2, .fieldref 10 11), (0, .class_ 12), (0, .nameAndType 13 14), (0, u "com/example/tidemark/tidemark/MemoryEntry"), (0, u "slot"), (0, u "I"), (0, .fieldref 10 16), (0, .nameAndType 17 18), (0, u "key"), (0, u "Ljava/lang/Object;"), (0, .fieldref 10 20), (0, .nameAndType 21 22), (0, u "charge"), (0, u "J"), (0, .methodref 10 24), (0, .nameAndType 25 26), (0, u "write"), (0, u "(Ljava/lang/Object;Lcom/example/tidemark/tidemark/Expiry;J)V"), (0, .fieldref 10 28), (0, .nameAndType 29 18), (0, u "value"), (0, .fieldref 10 31), (0, .nameAndType 32 22), (0, u "lastUsed"), (0, .fieldref 10 34), (0, .nameAndType 35 36), (0, u "expiry"), (0, u "Lcom/example/tidemark/tidemark/Expiry;"), (0, .methodref 10 38), (0, .nameAndType 39 40), (0, u "restart"), (0, u "(J)V"), (0, .methodref 42 43), (0, .class_ 44), (0, .nameAndType 45 46), (0, u "com/example/tidemark/tidemark/Expiry"), (0, u "canExpire"), (0, u "()Z"), (0, .fieldref 10 48), (0, .nameAndType 49 18), (0, u "lockFreeValue"), (2, u "LOCK_FREE_VALUE"), (0, u "Ljava/lang/invoke/VarHandle;"), (13, .fieldref 10 68), (0, .nameAndType 69 22), (0, u "created"), (31, u "pending"), (0, u "Z"), (0, u "list"), (0, u "Lcom/example/tidemark/tidemark/RecencyList;"), (1, u "older"), (0, u "Lcom/example/tidemark/tidemark/MemoryEntry;"), (1, u "newer"), (0, u "stamp"), (0, u "usedInWindow"), (0, u "arrivedBefore"), (0, u "arrivedAfter"), (0, u "filedBefore"), (0, u "filedAfter"), (0, u "(Ljava/lang/Object;Ljava/lang/Object;Lcom/example/tidemark/tidemark/Expiry;JJ)V")] 20

def k3c0 : Code := { maxStack := 5, maxLocals := 8, code := prog_40_method_1_code, exceptionTable := #[], attributes := #[] }
def k3m0 : Method := { name := "<init>", desc := "(Ljava/lang/Object;Ljava/lang/Object;Lcom/example/tidemark/tidemark/Expiry;JJ)V", sig := { parameters := [(.object "java/lang/Object"), (.object "java/lang/Object"), (.object "com/example/tidemark/tidemark/Expiry"), .long, .long], returnType := none }, accessFlags := 0, code := some k3c0 }
def k3c1 : Code := { maxStack := 3, maxLocals := 5, code := prog_40_method_2_code, exceptionTable := #[], attributes := #[] }
def k3m1 : Method := { name := "write", desc := "(Ljava/lang/Object;Lcom/example/tidemark/tidemark/Expiry;J)V", sig := { parameters := [(.object "java/lang/Object"), (.object "com/example/tidemark/tidemark/Expiry"), .long], returnType := none }, accessFlags := 0, code := some k3c1 }
def k3c2 : Code := { maxStack := 3, maxLocals := 3, code := prog_40_method_6_code, exceptionTable := #[], attributes := #[] }
def k3m2 : Method := { name := "restart", desc := "(J)V", sig := { parameters := [.long], returnType := none }, accessFlags := 0, code := some k3c2 }
/-- com/example/tidemark/tidemark/MemoryEntry -/
def k3 : Class := { plain "com/example/tidemark/tidemark/MemoryEntry" (some 0) with
  accessFlags := 48
  interfaces := #[]
  cf := some (fileOf pool3 10 #[] #[{ accessFlags := 0, nameIndex := 5, descriptorIndex := 116, attributes := #[] }, { accessFlags := 0, nameIndex := 25, descriptorIndex := 26, attributes := #[] }, { accessFlags := 0, nameIndex := 39, descriptorIndex := 40, attributes := #[] }] 48 2 #[] #[{ accessFlags := 26, nameIndex := 52, descriptorIndex := 53, attributes := #[] }, { accessFlags := 16, nameIndex := 17, descriptorIndex := 18, attributes := #[] }, { accessFlags := 2, nameIndex := 29, descriptorIndex := 18, attributes := #[] }, { accessFlags := 0, nameIndex := 35, descriptorIndex := 36, attributes := #[] }, { accessFlags := 64, nameIndex := 49, descriptorIndex := 18, attributes := #[] }, { accessFlags := 0, nameIndex := 101, descriptorIndex := 102, attributes := #[] }, { accessFlags := 0, nameIndex := 69, descriptorIndex := 22, attributes := #[] }, { accessFlags := 0, nameIndex := 32, descriptorIndex := 22, attributes := #[] }, { accessFlags := 0, nameIndex := 21, descriptorIndex := 22, attributes := #[] }, { accessFlags := 0, nameIndex := 103, descriptorIndex := 104, attributes := #[] }, { accessFlags := 0, nameIndex := 106, descriptorIndex := 107, attributes := #[] }, { accessFlags := 0, nameIndex := 109, descriptorIndex := 107, attributes := #[] }, { accessFlags := 0, nameIndex := 110, descriptorIndex := 22, attributes := #[] }, { accessFlags := 0, nameIndex := 111, descriptorIndex := 102, attributes := #[] }, { accessFlags := 0, nameIndex := 112, descriptorIndex := 107, attributes := #[] }, { accessFlags := 0, nameIndex := 113, descriptorIndex := 107, attributes := #[] }, { accessFlags := 0, nameIndex := 13, descriptorIndex := 14, attributes := #[] }, { accessFlags := 0, nameIndex := 114, descriptorIndex := 107, attributes := #[] }, { accessFlags := 0, nameIndex := 115, descriptorIndex := 107, attributes := #[] }])
  fields := #[{ name := "LOCK_FREE_VALUE", type := (.object "java/lang/invoke/VarHandle"), accessFlags := 26, slot := 0, constantValue := 0 }, { name := "key", type := (.object "java/lang/Object"), accessFlags := 16, slot := 0, constantValue := 0 }, { name := "value", type := (.object "java/lang/Object"), accessFlags := 2, slot := 1, constantValue := 0 }, { name := "expiry", type := (.object "com/example/tidemark/tidemark/Expiry"), accessFlags := 0, slot := 2, constantValue := 0 }, { name := "lockFreeValue", type := (.object "java/lang/Object"), accessFlags := 64, slot := 3, constantValue := 0 }, { name := "pending", type := .boolean, accessFlags := 0, slot := 4, constantValue := 0 }, { name := "created", type := .long, accessFlags := 0, slot := 5, constantValue := 0 }, { name := "lastUsed", type := .long, accessFlags := 0, slot := 6, constantValue := 0 }, { name := "charge", type := .long, accessFlags := 0, slot := 7, constantValue := 0 }, { name := "list", type := (.object "com/example/tidemark/tidemark/RecencyList"), accessFlags := 0, slot := 8, constantValue := 0 }, { name := "older", type := (.object "com/example/tidemark/tidemark/MemoryEntry"), accessFlags := 0, slot := 9, constantValue := 0 }, { name := "newer", type := (.object "com/example/tidemark/tidemark/MemoryEntry"), accessFlags := 0, slot := 10, constantValue := 0 }, { name := "stamp", type := .long, accessFlags := 0, slot := 11, constantValue := 0 }, { name := "usedInWindow", type := .boolean, accessFlags := 0, slot := 12, constantValue := 0 }, { name := "arrivedBefore", type := (.object "com/example/tidemark/tidemark/MemoryEntry"), accessFlags := 0, slot := 13, constantValue := 0 }, { name := "arrivedAfter", type := (.object "com/example/tidemark/tidemark/MemoryEntry"), accessFlags := 0, slot := 14, constantValue := 0 }, { name := "slot", type := .int, accessFlags := 0, slot := 15, constantValue := 0 }, { name := "filedBefore", type := (.object "com/example/tidemark/tidemark/MemoryEntry"), accessFlags := 0, slot := 16, constantValue := 0 }, { name := "filedAfter", type := (.object "com/example/tidemark/tidemark/MemoryEntry"), accessFlags := 0, slot := 17, constantValue := 0 }]
  methods := #[k3m0, k3m1, k3m2]
  instanceTypes := #[(.object "java/lang/Object"), (.object "java/lang/Object"), (.object "com/example/tidemark/tidemark/Expiry"), (.object "java/lang/Object"), .boolean, .long, .long, .long, (.object "com/example/tidemark/tidemark/RecencyList"), (.object "com/example/tidemark/tidemark/MemoryEntry"), (.object "com/example/tidemark/tidemark/MemoryEntry"), .long, .boolean, (.object "com/example/tidemark/tidemark/MemoryEntry"), (.object "com/example/tidemark/tidemark/MemoryEntry"), .int, (.object "com/example/tidemark/tidemark/MemoryEntry"), (.object "com/example/tidemark/tidemark/MemoryEntry")]
  staticTypes := #[(.object "java/lang/invoke/VarHandle")]
  resolved := Array.replicate 137 none
  statics := none }

def pool4 : Array CpInfo := pool [(2, .class_ 4), (1, u "java/lang/Object"), (0, u "<init>"), (0, u "()V"), (0, .class_ 8), (0, u "java/lang/Record")] 13

def k4m0 : Method := { name := "<init>", desc := "()V", sig := { parameters := [], returnType := none }, accessFlags := 4, code := none }
/-- java/lang/Record -/
def k4 : Class := { plain "java/lang/Record" (some 0) with
  accessFlags := 1057
  interfaces := #[]
  cf := some (fileOf pool4 7 #[] #[{ accessFlags := 4, nameIndex := 5, descriptorIndex := 6, attributes := #[] }] 1057 2 #[] #[])
  fields := #[]
  methods := #[k4m0]
  instanceTypes := #[]
  staticTypes := #[]
  resolved := Array.replicate 22 none
  statics := none }

def pool5 : Array CpInfo := pool [(2, .class_ 4), (1, u "java/lang/Record"), (3, u "lifespan"), (1, .class_ 12), (1, u "com/example/tidemark/tidemark/Expiry"), (3, u "maxIdle"), (0, .fieldref 10 18), (0, .nameAndType 8 19), (0, u "J"), (0, .fieldref 10 21), (0, .nameAndType 16 19), (7, .long 18446744073709551615), (37, u "NEVER"), (0, u "Lcom/example/tidemark/tidemark/Expiry;"), (0, u "NO_LIMIT"), (9, u "canExpire"), (0, u "()Z")] 35

def k5c0 : Code := { maxStack := 4, maxLocals := 1, code := prog_21_method_5_code, exceptionTable := #[], attributes := #[] }
def k5m0 : Method := { name := "canExpire", desc := "()Z", sig := { parameters := [], returnType := some .boolean }, accessFlags := 0, code := some k5c0 }
/-- com/example/tidemark/tidemark/Expiry -/
def k5 : Class := { plain "com/example/tidemark/tidemark/Expiry" (some 4) with
  accessFlags := 49
  interfaces := #[]
  cf := some (fileOf pool5 10 #[] #[{ accessFlags := 0, nameIndex := 79, descriptorIndex := 80, attributes := #[] }] 49 2 #[] #[{ accessFlags := 18, nameIndex := 8, descriptorIndex := 19, attributes := #[] }, { accessFlags := 18, nameIndex := 16, descriptorIndex := 19, attributes := #[] }, { accessFlags := 25, nameIndex := 69, descriptorIndex := 19, attributes := #[] }, { accessFlags := 25, nameIndex := 67, descriptorIndex := 68, attributes := #[] }])
  fields := #[{ name := "lifespan", type := .long, accessFlags := 18, slot := 0, constantValue := 0 }, { name := "maxIdle", type := .long, accessFlags := 18, slot := 1, constantValue := 0 }, { name := "NO_LIMIT", type := .long, accessFlags := 25, slot := 0, constantValue := 0 }, { name := "NEVER", type := (.object "com/example/tidemark/tidemark/Expiry"), accessFlags := 25, slot := 1, constantValue := 0 }]
  methods := #[k5m0]
  instanceTypes := #[.long, .long]
  staticTypes := #[.long, (.object "com/example/tidemark/tidemark/Expiry")]
  resolved := Array.replicate 116 none
  statics := some 0 }

def pool6 : Array CpInfo := pool [(1, u "java/lang/Cloneable"), (0, .class_ 1), (0, u "java/lang/Object"), (0, .class_ 3)] 3

/-- java/lang/Cloneable -/
def k6 : Class := { plain "java/lang/Cloneable" (some 0) with
  accessFlags := 1537
  interfaces := #[]
  cf := some (fileOf pool6 2 #[] #[] 1537 4 #[] #[])
  fields := #[]
  methods := #[]
  instanceTypes := #[]
  staticTypes := #[]
  resolved := Array.replicate 8 none
  statics := none }

def pool7 : Array CpInfo := pool [(1, u "java/io/Serializable"), (0, .class_ 1), (0, u "java/lang/Object"), (0, .class_ 3)] 3

/-- java/io/Serializable -/
def k7 : Class := { plain "java/io/Serializable" (some 0) with
  accessFlags := 1537
  interfaces := #[]
  cf := some (fileOf pool7 2 #[] #[] 1537 4 #[] #[])
  fields := #[]
  methods := #[]
  instanceTypes := #[]
  staticTypes := #[]
  resolved := Array.replicate 8 none
  statics := none }

/-- the primitive byte -/
def k8 : Class := { plain "byte" none with kind := .primitive 'B', accessFlags := 0x411 }
/-- [B -/
def k9 : Class := { plain "[B" (some 0) with kind := .array 8 .byte, interfaces := #[6, 7], accessFlags := 1041 }

/-- the primitive int -/
def k10 : Class := { plain "int" none with kind := .primitive 'I', accessFlags := 0x411 }
/-- [I -/
def k11 : Class := { plain "[I" (some 0) with kind := .array 10 .int, interfaces := #[6, 7], accessFlags := 1041 }

def heap : Heap := #[{ cls := 5, slots := #[.long 0, .ref 1], vm := .statics 5 },
  { cls := 5, slots := #[.long (-1), .long (-1)], vm := .none }]
def classes : Array Class := #[k0, k1, k2, k3, k4, k5, k6, k7, k8, k9, k10, k11]
def interned : List (Array UInt16 × Addr) := []
def slotsUsed : Nat := 4
def theMethod : MethodId := ⟨1, 1⟩
def args0 : Array Value := #[.long 3, .long 4, .long 5, .int 8]
def aboutOver (below : List Frame) : State where
  vm := { classes := classes, interned := interned.toArray }
  heap := heap
  slotsUsed := slotsUsed
  threads := #[{ frames := .invoking theMethod args0 :: below }]
def below0 : List Frame := [.native { method := ⟨0, 0⟩, args := #[] }]
def about1 : State := aboutOver below0
def p0 : Program := .bare "" "" ""
def e0 : Env := launch0.env 0 0 0
theorem w_frames : about1.frames = Frame.invoking theMethod args0 :: below0 := rfl
set_option maxRecDepth 65536 in
theorem w_args : argsFit about1.vm theMethod args0 = true := by decide +kernel
set_option maxRecDepth 65536 in
theorem w_heap : heapFits about1 = true := by decide +kernel
set_option maxRecDepth 65536 in
theorem w_runnable : about1.curStatus? = some .runnable := by decide +kernel
set_option maxRecDepth 65536 in
theorem w_alone : about1.alone = true := by decide +kernel
set_option maxRecDepth 65536 in
theorem w_named : about1.methodNamed? x = some theMethod := by decide +kernel
set_option maxRecDepth 65536 in
theorem w_hears : about1.hears theMethod below0 = true := by decide +kernel
set_option maxRecDepth 65536 in
theorem w_ripe : about1.ripe theMethod args0 below0 = true := by decide +kernel
theorem w_running : about1.status = .running := rfl
set_option maxRecDepth 65536 in
theorem w_room : about1.hasRoom e0.platform room_1 = true :=
  launch0.hasRoom_least _ room_1 (by decide +kernel) (by decide +kernel) (by decide +kernel) (by decide +kernel) (by decide +kernel) (by decide +kernel)
theorem allAtoms_all (ts : List Jvm.Cond) (a : Array Jvm.Value) (st : Jvm.State) : (allAtoms ts).before a st = ts.all (fun c => c.before a st) := by
  induction ts with
  | nil => rfl
  | cons c t ih =>
    show (Jvm.Cond.and c (allAtoms t)).before a st = _
    rw [Jvm.Cond.before_and, ih, List.all_cons]
def words1 : List Jvm.Cond := Jvm.Cond.code x code maxLocals ret :: tables_1
/-- a 'code' word, met by the world's own term for the bytes: nothing is compared byte by byte -/
theorem code_word {y : MethodName} {bytes : ByteArray} {mx : Nat} {rt : Option FieldType} {a : Array Value} {s : State} {m : MethodId} {meth : Method} {c : Code} (h1 : s.methodNamed? y = some m) (h2 : s.vm.method? m = some meth) (h3 : meth.code = some c) (h4 : c.code = bytes)
    (h5 : (c.maxLocals == mx && c.exceptionTable.isEmpty && decide (c.maxStack ≤ mostOperands) && decide (meth.sig.returnType = rt) && !meth.locks && decide (parseMethodDescriptor y.desc = some meth.sig)) = true) : (Jvm.Cond.code y bytes mx rt).before a s = true := by
  simp only [Bool.and_eq_true, beq_iff_eq, Bool.not_eq_true', decide_eq_true_eq] at h5
  obtain ⟨⟨⟨⟨⟨g1, g2⟩, g3⟩, g4⟩, g5⟩, g6⟩ := h5
  simp [Cond.before, Cond.holds, Cond.value, h1, h2, h3, h4, g1, g2, g3, g4, g5, g6]
def isCode : Jvm.Cond → Bool
  | .code _ _ _ _ => true
  | _ => false
theorem all_split {L : List Jvm.Cond} {P : Jvm.Cond → Bool} (h1 : L.all (fun c => isCode c || P c) = true) (h2 : ∀ c ∈ L.filter isCode, P c = true) : L.all P = true := by
  refine List.all_eq_true.mpr fun c hc => ?_
  have h := List.all_eq_true.mp h1 c hc
  rcases Bool.eq_false_or_eq_true (isCode c) with hi | hi
  · exact h2 c (List.mem_filter.mpr ⟨hc, hi⟩)
  · simpa [hi] using h
set_option maxRecDepth 65536 in
theorem w_c0 : (Jvm.Cond.code x code maxLocals ret).before args0 about1 = true := code_word (m := ⟨1, 1⟩) (meth := k1m1) (c := k1c1) (by decide +kernel) rfl rfl rfl (by decide +kernel)
set_option maxRecDepth 65536 in
theorem w_c1 : (Jvm.Cond.code ({ cls := "com/example/tidemark/tidemark/RecencyList", name := "<init>", desc := "()V" } : Jvm.MethodName) prog_41_method_1_code (1 : Nat) (Option.none : Option Jvm.ClassFile.FieldType)).before args0 about1 = true := code_word (m := ⟨2, 0⟩) (meth := k2m0) (c := k2c0) (by decide +kernel) rfl rfl rfl (by decide +kernel)
set_option maxRecDepth 65536 in
theorem w_c2 : (Jvm.Cond.code ({ cls := "java/lang/Object", name := "<init>", desc := "()V" } : Jvm.MethodName) object_method_1_code (1 : Nat) (Option.none : Option Jvm.ClassFile.FieldType)).before args0 about1 = true := code_word (m := ⟨0, 0⟩) (meth := k0m0) (c := k0c0) (by decide +kernel) rfl rfl rfl (by decide +kernel)
set_option maxRecDepth 65536 in
theorem w_c3 : (Jvm.Cond.code ({ cls := "com/example/tidemark/tidemark/MemoryEntry", name := "<init>", desc := "(Ljava/lang/Object;Ljava/lang/Object;Lcom/example/tidemark/tidemark/Expiry;JJ)V" } : Jvm.MethodName) prog_40_method_1_code (8 : Nat) (Option.none : Option Jvm.ClassFile.FieldType)).before args0 about1 = true := code_word (m := ⟨3, 0⟩) (meth := k3m0) (c := k3c0) (by decide +kernel) rfl rfl rfl (by decide +kernel)
set_option maxRecDepth 65536 in
theorem w_c4 : (Jvm.Cond.code ({ cls := "com/example/tidemark/tidemark/MemoryEntry", name := "write", desc := "(Ljava/lang/Object;Lcom/example/tidemark/tidemark/Expiry;J)V" } : Jvm.MethodName) prog_40_method_2_code (5 : Nat) (Option.none : Option Jvm.ClassFile.FieldType)).before args0 about1 = true := code_word (m := ⟨3, 1⟩) (meth := k3m1) (c := k3c1) (by decide +kernel) rfl rfl rfl (by decide +kernel)
set_option maxRecDepth 65536 in
theorem w_c5 : (Jvm.Cond.code ({ cls := "com/example/tidemark/tidemark/MemoryEntry", name := "restart", desc := "(J)V" } : Jvm.MethodName) prog_40_method_6_code (3 : Nat) (Option.none : Option Jvm.ClassFile.FieldType)).before args0 about1 = true := code_word (m := ⟨3, 2⟩) (meth := k3m2) (c := k3c2) (by decide +kernel) rfl rfl rfl (by decide +kernel)
set_option maxRecDepth 65536 in
theorem w_c6 : (Jvm.Cond.code ({ cls := "com/example/tidemark/tidemark/Expiry", name := "canExpire", desc := "()Z" } : Jvm.MethodName) prog_21_method_5_code (1 : Nat) (Option.some Jvm.ClassFile.FieldType.boolean)).before args0 about1 = true := code_word (m := ⟨5, 0⟩) (meth := k5m0) (c := k5c0) (by decide +kernel) rfl rfl rfl (by decide +kernel)
set_option maxRecDepth 65536 in
theorem w_c7 : (Jvm.Cond.code ({ cls := "com/example/tidemark/tidemark/RecencyList", name := "addNewest", desc := "(Lcom/example/tidemark/tidemark/MemoryEntry;)V" } : Jvm.MethodName) prog_41_method_7_code (2 : Nat) (Option.none : Option Jvm.ClassFile.FieldType)).before args0 about1 = true := code_word (m := ⟨2, 4⟩) (meth := k2m4) (c := k2c4) (by decide +kernel) rfl rfl rfl (by decide +kernel)
set_option maxRecDepth 65536 in
theorem w_c8 : (Jvm.Cond.code ({ cls := "com/example/tidemark/tidemark/RecencyList", name := "remove", desc := "(Lcom/example/tidemark/tidemark/MemoryEntry;)V" } : Jvm.MethodName) prog_41_method_10_code (2 : Nat) (Option.none : Option Jvm.ClassFile.FieldType)).before args0 about1 = true := code_word (m := ⟨2, 5⟩) (meth := k2m5) (c := k2c5) (by decide +kernel) rfl rfl rfl (by decide +kernel)
set_option maxRecDepth 65536 in
theorem w_c9 : (Jvm.Cond.code ({ cls := "com/example/tidemark/tidemark/RecencyList", name := "size", desc := "()J" } : Jvm.MethodName) prog_41_method_4_code (1 : Nat) (Option.some Jvm.ClassFile.FieldType.long)).before args0 about1 = true := code_word (m := ⟨2, 2⟩) (meth := k2m2) (c := k2c2) (by decide +kernel) rfl rfl rfl (by decide +kernel)
set_option maxRecDepth 65536 in
theorem w_c10 : (Jvm.Cond.code ({ cls := "com/example/tidemark/tidemark/RecencyList", name := "weight", desc := "()J" } : Jvm.MethodName) prog_41_method_5_code (1 : Nat) (Option.some Jvm.ClassFile.FieldType.long)).before args0 about1 = true := code_word (m := ⟨2, 3⟩) (meth := k2m3) (c := k2c3) (by decide +kernel) rfl rfl rfl (by decide +kernel)
set_option maxRecDepth 65536 in
theorem w_c11 : (Jvm.Cond.code ({ cls := "com/example/tidemark/tidemark/RecencyList", name := "oldest", desc := "()Lcom/example/tidemark/tidemark/MemoryEntry;" } : Jvm.MethodName) prog_41_method_2_code (1 : Nat) (Option.some (Jvm.ClassFile.FieldType.object "com/example/tidemark/tidemark/MemoryEntry"))).before args0 about1 = true := code_word (m := ⟨2, 1⟩) (meth := k2m1) (c := k2c1) (by decide +kernel) rfl rfl rfl (by decide +kernel)
def codes1 : List Jvm.Cond := [Jvm.Cond.code x code maxLocals ret, Jvm.Cond.code ({ cls := "com/example/tidemark/tidemark/RecencyList", name := "<init>", desc := "()V" } : Jvm.MethodName) prog_41_method_1_code (1 : Nat) (Option.none : Option Jvm.ClassFile.FieldType), Jvm.Cond.code ({ cls := "java/lang/Object", name := "<init>", desc := "()V" } : Jvm.MethodName) object_method_1_code (1 : Nat) (Option.none : Option Jvm.ClassFile.FieldType), Jvm.Cond.code ({ cls := "com/example/tidemark/tidemark/MemoryEntry", name := "<init>", desc := "(Ljava/lang/Object;Ljava/lang/Object;Lcom/example/tidemark/tidemark/Expiry;JJ)V" } : Jvm.MethodName) prog_40_method_1_code (8 : Nat) (Option.none : Option Jvm.ClassFile.FieldType), Jvm.Cond.code ({ cls := "com/example/tidemark/tidemark/MemoryEntry", name := "write", desc := "(Ljava/lang/Object;Lcom/example/tidemark/tidemark/Expiry;J)V" } : Jvm.MethodName) prog_40_method_2_code (5 : Nat) (Option.none : Option Jvm.ClassFile.FieldType), Jvm.Cond.code ({ cls := "com/example/tidemark/tidemark/MemoryEntry", name := "restart", desc := "(J)V" } : Jvm.MethodName) prog_40_method_6_code (3 : Nat) (Option.none : Option Jvm.ClassFile.FieldType), Jvm.Cond.code ({ cls := "com/example/tidemark/tidemark/Expiry", name := "canExpire", desc := "()Z" } : Jvm.MethodName) prog_21_method_5_code (1 : Nat) (Option.some Jvm.ClassFile.FieldType.boolean), Jvm.Cond.code ({ cls := "com/example/tidemark/tidemark/RecencyList", name := "addNewest", desc := "(Lcom/example/tidemark/tidemark/MemoryEntry;)V" } : Jvm.MethodName) prog_41_method_7_code (2 : Nat) (Option.none : Option Jvm.ClassFile.FieldType), Jvm.Cond.code ({ cls := "com/example/tidemark/tidemark/RecencyList", name := "remove", desc := "(Lcom/example/tidemark/tidemark/MemoryEntry;)V" } : Jvm.MethodName) prog_41_method_10_code (2 : Nat) (Option.none : Option Jvm.ClassFile.FieldType), Jvm.Cond.code ({ cls := "com/example/tidemark/tidemark/RecencyList", name := "size", desc := "()J" } : Jvm.MethodName) prog_41_method_4_code (1 : Nat) (Option.some Jvm.ClassFile.FieldType.long), Jvm.Cond.code ({ cls := "com/example/tidemark/tidemark/RecencyList", name := "weight", desc := "()J" } : Jvm.MethodName) prog_41_method_5_code (1 : Nat) (Option.some Jvm.ClassFile.FieldType.long), Jvm.Cond.code ({ cls := "com/example/tidemark/tidemark/RecencyList", name := "oldest", desc := "()Lcom/example/tidemark/tidemark/MemoryEntry;" } : Jvm.MethodName) prog_41_method_2_code (1 : Nat) (Option.some (Jvm.ClassFile.FieldType.object "com/example/tidemark/tidemark/MemoryEntry"))]
set_option maxRecDepth 65536 in
theorem codes_eq : words1.filter isCode = codes1 := rfl
theorem w_codes : ∀ c ∈ words1.filter isCode, c.before args0 about1 = true := by
  rw [codes_eq]
  intro c hc
  simp only [codes1, List.mem_cons, List.not_mem_nil, or_false] at hc
  rcases hc with rfl | rfl | rfl | rfl | rfl | rfl | rfl | rfl | rfl | rfl | rfl | rfl
  · exact w_c0
  · exact w_c1
  · exact w_c2
  · exact w_c3
  · exact w_c4
  · exact w_c5
  · exact w_c6
  · exact w_c7
  · exact w_c8
  · exact w_c9
  · exact w_c10
  · exact w_c11
set_option maxRecDepth 65536 in
theorem w_t1 : (words1.take 24).all (fun c => isCode c || c.before args0 about1) = true := by decide +kernel
set_option maxRecDepth 65536 in
theorem w_t2 : ((words1.drop 24).take 24).all (fun c => isCode c || c.before args0 about1) = true := by decide +kernel
set_option maxRecDepth 65536 in
theorem w_t3 : (((words1.drop 24).drop 24).take 24).all (fun c => isCode c || c.before args0 about1) = true := by decide +kernel
set_option maxRecDepth 65536 in
theorem w_t4 : ((((words1.drop 24).drop 24).drop 24).take 24).all (fun c => isCode c || c.before args0 about1) = true := by decide +kernel
set_option maxRecDepth 65536 in
theorem w_t5 : ((((words1.drop 24).drop 24).drop 24).drop 24).all (fun c => isCode c || c.before args0 about1) = true := by decide +kernel
theorem w_tables : (allAtoms (Jvm.Cond.code x code maxLocals ret :: tables_1)).before args0 about1 = true := by
  rw [allAtoms_all]
  show words1.all (fun c => c.before args0 about1) = true
  refine all_split ?_ w_codes
  rw [← List.take_append_drop 24 words1, List.all_append, w_t1, ← List.take_append_drop 24 (words1.drop 24), List.all_append, w_t2, ← List.take_append_drop 24 ((words1.drop 24).drop 24), List.all_append, w_t3, ← List.take_append_drop 24 (((words1.drop 24).drop 24).drop 24), List.all_append, w_t4, w_t5]
  rfl
set_option maxRecDepth 65536 in
theorem w_case : (Jvm.Cond.and given_1 narrow_1).before args0 about1 = true := by decide +kernel
theorem w_applies : (headSpec (Jvm.Cond.code x code maxLocals ret :: tables_1) room_1).applies x e0.platform about1 = true :=
  (Spec.applies_iff w_frames).mpr ⟨w_running, w_runnable, w_alone, w_named, w_hears, w_ripe, w_room, w_tables⟩
theorem atStart : AtStart classFile x code maxLocals ret World_1 tables_1 room_1 Calls_1 rest_1 Pre_1 launch0 p0 e0 about1 theMethod args0 below0 :=
  ⟨lists_1, trivial, launch0.admits_env _ _ _, launch0.least_env, fairChoices_fair.cas, fairChoices_fair.clock, w_frames, w_args, w_heap, w_applies, trivial, trivial, w_case⟩
end start1
theorem witness_1 : WitnessClaimed_1 := ⟨start1.p0, start1.e0, start1.about1, start1.theMethod, start1.args0, start1.below0, start1.atStart⟩
end Jvm.Pilot.@@N@@
