import JvmDerived
import JvmDerived.Pilot.@@N@@Statement
import JvmDerived.Pilot.@@N@@Code
set_option linter.unusedVariables false
set_option linter.unusedSimpArgs false
namespace Jvm.RoadKit
open Sem ClassFile Op Lib Jvm.Stand Jvm.Free Jvm.LawKit
section New
variable {p : Program} {l : Launch} {e : Env} {R : Room} {s : State} {m : MethodId} {args : Array Value} {below : List Frame} {meth : Method} {c : Code} {T : State} {locs : List Loc} {cells slots : Nat}
theorem retI (X : Stand p l e R s m args below meth c T locs cells slots) (hx : p.tables.exec = Jvm.exec) {pc : Nat} {Ls : Array Slot} {z : Int32} {rest : List Value} (hret : meth.sig.returnType = some .int) (hd : decode c.code pc = .ok (.ireturn, 1)) {fs : List Frame}
    (hl : ∀ (f : JFrame) (acts : List Action), f.method = m → f.locked = none → f.entered = [] → (doReturn e (T.setTop f) acts (some (.int z))).1 = T.setFrames fs) : Steps p.tables e below (T.setTop (mkF m pc Ls (.int z :: rest))) (T.setFrames fs) := by
  have hm' : T.vm.method? m = some meth := X.method'
  have hn : narrow .int (.int z) = .int z := rfl
  show Steps p.tables e below (T.setTop { method := m, pc := pc, locals := Ls, stack := _ :: rest, locked := none }) _
  jvm_step X.here [X.here.top, hx, hd, hm', hret, hn]
  first | (intro acts; rw [hl _ acts rfl rfl rfl]) | rw [hl _ _ rfl rfl rfl]
  exact Steps.refl _
end New
end Jvm.RoadKit
namespace Jvm.Pilot.@@N@@
open Jvm Jvm.ClassFile Sem Op Lib Jvm.Free Jvm.Stand Jvm.LawKit Jvm.RoadKit Bundle Jvm.Pilot.@@N@@.Jvm.D
theorem own_irr32 (x : Int32) : ¬ x < x := Int32.lt_irrefl
theorem own_irr64 (x : Int64) : ¬ x < x := Int64.lt_irrefl
theorem own_fldI {args : Array Value} {s : State} {t : Term} {C n d : String} {x : Addr} {k : Int32} (ht : t.eval args s none [] s = some (.ref x)) (h : (Cond.eq (Term.field t C n d) (Term.int k)).value args s none s [] = some true) : Fld s s.heap x C n d (.int k) := Fld.start ((fld_at ht).symm.trans (eqv_i (Term.int_eval k) h))
theorem own_fldJ {args : Array Value} {s : State} {t : Term} {C n d : String} {x : Addr} {k : Int64} (ht : t.eval args s none [] s = some (.ref x)) (h : (Cond.eq (Term.field t C n d) (Term.long k)).value args s none s [] = some true) : Fld s s.heap x C n d (.long k) := Fld.start ((fld_at ht).symm.trans (eqv_l (long_at k) h))
theorem own_len {args : Array Value} {s : State} {t : Term} {x : Addr} {cl : Cell} {ty : FieldType} {k : Int32} (ht : t.eval args s none [] s = some (.ref x)) (A : Arr s s.heap x cl ty) (h : (Cond.eq (Term.length t) (Term.int k)).value args s none s [] = some true) : cl.slots.size.toInt32 = k ∧ cl.slots.size < 2 ^ 31 := by
  have e := eqv_i (Term.int_eval k) h
  have ha := A.fin (Vm.Alike.refl _)
  by_cases q : cl.slots.size < 2 ^ 31
  · have e2 := (len_f ht ha q).symm.trans e
    exact ⟨Value.int.inj (Option.some.inj e2), q⟩
  · simp [Term.eval, ht, ha, q] at e
theorem own_elem {args : Array Value} {s : State} {t u : Term} {x : Addr} {cl : Cell} {ty : FieldType} {k : Int32} {v : Value} (ht : t.eval args s none [] s = some (.ref x)) (A : Arr s s.heap x cl ty) (hu : u.eval args s none [] s = some v) (hv : v.isRef = true) (h : (Cond.eq (Term.elem t (Term.int k)) u).value args s none s [] = some true) : cl.slots[k.toNatClampNeg]? = some v := by
  obtain ⟨a, b, h1, h2, h3, h4⟩ := cmp_v (Or.inl h)
  have hb := Option.some.inj (h2.symm.trans hu)
  subst hb
  obtain ⟨c', e1, e2, e3⟩ := elem_at h1 ht (Term.int_eval k)
  have ec := Option.some.inj (e1.symm.trans A.1)
  subst ec
  have ha : a.isRef = true := by
    rcases ref_cases hv with rfl | ⟨y, rfl⟩
    · exact h4.2
    · exact h4.2
  rw [e3, gotT (eq_R h1 h2 ha hv) h]
def own_KL (h h' : Heap) (ls : List Loc) : Prop := h.size ≤ h'.size ∧ ∀ (x : Addr) (c : Cell), h[x]? = some c → ∃ c' : Cell, h'[x]? = some c' ∧ c'.cls = c.cls ∧ c'.vm = c.vm ∧ c'.slots.size = c.slots.size ∧ ((∀ y ∈ ls, y.base ≠ x) → c' = c) ∧ ∀ i, (⟨x, i⟩ : Loc) ∉ ls → c'.slots[i]? = c.slots[i]?
section OwnKL
variable {Z : State} {h0 h h' : Heap} {ls ls' : List Loc} {a b x : Addr} {i j sl n0 : Nat} {v : Value} {C n d : String}
theorem own_kl0 (h : Heap) (ls : List Loc) : own_KL h h ls := ⟨Nat.le_refl _, fun x c q => ⟨c, q, rfl, rfl, rfl, fun _ => rfl, fun _ _ => rfl⟩⟩
theorem own_klE (K : own_KL h0 h ls) (E : Ext h h') : own_KL h0 h' ls := ⟨Nat.le_trans K.1 E.1, fun x c q => by obtain ⟨c', q', r⟩ := K.2 x c q; exact ⟨c', E.2 x c' q', r⟩⟩
theorem own_klT (K : own_KL h0 h ls) (K' : own_KL h h' ls') (q : ∀ y ∈ ls', y ∈ ls ∨ h0.size ≤ y.base) : own_KL h0 h' ls := by
  refine ⟨Nat.le_trans K.1 K'.1, fun x c hc => ?_⟩
  obtain ⟨c1, a1, a2, a3, a4, a5, a6⟩ := K.2 x c hc
  obtain ⟨c2, b1, b2, b3, b4, b5, b6⟩ := K'.2 x c1 a1
  have hx : x < h0.size := (Array.getElem?_eq_some_iff.mp hc).1
  refine ⟨c2, b1, b2.trans a2, b3.trans a3, b4.trans a4, fun hn => ?_, fun i hi => ?_⟩
  · rw [← a5 hn]; exact b5 fun y hy e => (q y hy).elim (fun z => hn y z e) (fun z => absurd hx (Nat.not_lt.mpr (e ▸ z)))
  · rw [← a6 i hi]; exact b6 i fun z => (q _ z).elim hi (fun u => absurd hx (Nat.not_lt.mpr u))
theorem own_klofW (W : Wr h h' a sl v) : own_KL h h' [⟨a, sl⟩] := by
  refine ⟨Nat.le_of_eq W.size.symm, fun x c hc => ?_⟩
  obtain ⟨c', e1, e2, e3, e4, e5, e6, -⟩ := wr_at W hc
  refine ⟨c', e1, e2, e3, e4, fun hn => e5 fun q => hn _ (List.mem_singleton.mpr rfl) q.symm, fun i hi => ?_⟩
  by_cases q : x = a
  · exact e6 i fun r => hi (by rw [q, r]; exact List.mem_singleton.mpr rfl)
  · rw [e5 q]
theorem own_klW (K : own_KL h0 h ls) (W : Wr h h' a sl v) (q : (⟨a, sl⟩ : Loc) ∈ ls ∨ h0.size ≤ a) : own_KL h0 h' ls := own_klT K (own_klofW W) fun y hy => by cases List.mem_singleton.mp hy; exact q
theorem own_ka0 : ∀ y ∈ ([] : List Loc), y ∈ ls ∨ n0 ≤ y.base := fun _ q => nomatch q
theorem own_kac (q : (⟨a, sl⟩ : Loc) ∈ ls ∨ n0 ≤ a) (r : ∀ y ∈ ls', y ∈ ls ∨ n0 ≤ y.base) : ∀ y ∈ (⟨a, sl⟩ : Loc) :: ls', y ∈ ls ∨ n0 ≤ y.base := fun y z => (List.mem_cons.mp z).elim (fun u => u ▸ q) (r y)
theorem own_ng0 : ∀ y ∈ ([] : List Loc), n0 ≤ y.base := fun _ q => nomatch q
theorem own_ngc (q : n0 ≤ a) (r : ∀ y ∈ ls', n0 ≤ y.base) : ∀ y ∈ (⟨a, sl⟩ : Loc) :: ls', n0 ≤ y.base := fun y z => (List.mem_cons.mp z).elim (fun u => u ▸ q) (r y)
theorem own_nb0 : ∀ y ∈ ([] : List Loc), y.base ≠ a := fun _ q => nomatch q
theorem own_nbc (q : b ≠ a) (r : ∀ y ∈ ls', y.base ≠ a) : ∀ y ∈ (⟨b, sl⟩ : Loc) :: ls', y.base ≠ a := fun y z => (List.mem_cons.mp z).elim (fun u => u ▸ q) (r y)
theorem own_nl0 : (⟨a, i⟩ : Loc) ∉ ([] : List Loc) := fun q => nomatch q
theorem own_nlb (q : a ≠ b) (r : (⟨a, i⟩ : Loc) ∉ ls) : (⟨a, i⟩ : Loc) ∉ (⟨b, j⟩ : Loc) :: ls := fun z => (List.mem_cons.mp z).elim (fun u => q (congrArg Loc.base u)) r
theorem own_nls (q : i ≠ j) (r : (⟨a, i⟩ : Loc) ∉ ls) : (⟨a, i⟩ : Loc) ∉ (⟨b, j⟩ : Loc) :: ls := fun z => (List.mem_cons.mp z).elim (fun u => q (congrArg Loc.slot u)) r
theorem own_exa (F : Exa Z h a C) (K : own_KL h h' ls) : Exa Z h' a C := by
  obtain ⟨cell, k, h1, h2, h3, h4, h5⟩ := F
  obtain ⟨c', e1, e2, e3, e4, -⟩ := K.2 _ _ h1
  exact ⟨c', k, e1, by rw [e2]; exact h2, by rw [e2]; exact h3, by rw [e3]; exact h4, by rw [e4]; exact h5⟩
theorem own_fld (F : Fld Z h a C n d v) (K : own_KL h h' ls) (q : (⟨a, Jvm.RoadKit.slotOf Z C n d⟩ : Loc) ∉ ls) : Fld Z h' a C n d v := by
  obtain ⟨cell, cf, k, i, f, h1, h2, h3, h4, h5, h6, h7⟩ := F
  obtain ⟨c', e1, e2, e3, e4, -, e6⟩ := K.2 _ _ h1
  refine ⟨c', cf, k, i, f, e1, h2, h3, by rw [e3]; exact h4, by rw [e3]; exact h5, by rw [e2]; exact h6, ?_⟩
  rw [e6 _ (by simpa [Jvm.RoadKit.slotOf, h2] using q)]; exact h7
theorem own_arv {k : ClassId} {ty : FieldType} {z : Int32} {vs : List Value} {dv : Value} (F : Arv Z h a k ty z vs dv) (K : own_KL h h' ls) (q : ∀ y ∈ ls, y.base ≠ a) : Arv Z h' a k ty z vs dv := by
  obtain ⟨c, A, r⟩ := F
  obtain ⟨c', e1, -, -, -, e5, -⟩ := K.2 _ _ A.1
  cases e5 q
  exact ⟨c, ⟨e1, A.2⟩, r⟩
theorem own_old (O : Old Z n0 h) (K : own_KL h h' ls) (q : ∀ y ∈ ls, n0 ≤ y.base) : Old Z n0 h' := ⟨O.1, Nat.le_trans O.2.1 K.1, fun x c r => by
  obtain ⟨c', e1, -, -, -, e5, -⟩ := K.2 x c (O.2.2 x c r)
  have hx : x < n0 := O.1 ▸ (Array.getElem?_eq_some_iff.mp r).1
  rw [e1, e5 fun y hy e => absurd hx (Nat.not_lt.mpr (e ▸ q y hy))]⟩
end OwnKL
theorem own_NSroot {Z : State} {a0 : Array Value} {O K : String} {n : Nat} (w : (Cond.noSuperclass O).before a0 Z = true) (wk : (Cond.instantiable K n).before a0 Z = true) (hn : O ≠ K) : NS Z O K := by
  obtain ⟨c, k, h1, h2, h3, -, -⟩ := Cond.noSuperclass_spec w
  obtain ⟨t, -, g1, -⟩ := Cond.instantiable_spec wk
  have ne := ids_ne h1 g1 hn
  refine ⟨c, t, h1, g1, fun fuel => ?_⟩
  cases fuel with
  | zero => rfl
  | succ f => simp [Vm.isSubclassAux, ne, h2, h3]
theorem own_NSno {Z : State} {a0 : Array Value} {C S K : String} {n : Nat} (w : (Cond.superclass C S).before a0 Z = true) (wk : (Cond.instantiable K n).before a0 Z = true) (u : NS Z C K) (hn : C ≠ K) : ∃ c t, Z.vm.findClass C = some c ∧ Z.vm.findClass K = some t ∧ Z.vm.assignable c t = false := by
  obtain ⟨c, t, h0, g0, n3⟩ := u
  obtain ⟨p, k, kp, h1, h2, h3, h4, h5, -, h7⟩ := Cond.superclass_spec h0 w
  obtain ⟨t', k', g1, g2, g5, g7, -⟩ := Cond.instantiable_spec wk
  cases g0.symm.trans g1
  have ne := ids_ne h0 g0 hn
  have g8 : k'.isInterface = false := by cases hI : k'.isInterface <;> simp [hI] at g7 ⊢
  refine ⟨c, t, h0, g0, ?_⟩
  show Z.vm.assignableAux (255 + 1) c t = false
  simp [Vm.assignableAux, ne, h2, g2, h5, g5, g8, Vm.isSubclass, n3]
theorem own_boxI {Z : State} {args : Array Value} {t : Term} {a : Addr} {c : Cell} {K : String} {z : Int32} (et : ∀ idx, t.eval args Z none idx Z = some (.ref a)) (A : Arr Z Z.heap a c (.object K)) (q : c.slots.size.toInt32 = z ∧ c.slots.size < 2 ^ 31) (hz : ¬ z < 0)
    (h : (Cond.all t (.and (.exactly (.elem t (.index 0)) K) (.eq (.field (.elem t (.index 0)) K "value" "I") (.sub (.index 0) (.int 128))))).value args Z none Z [] = some true) : Bxs Z a c K "I" z (fun j => .int (j - 128)) :=
  Bxs.start et A q.2 q.1 hz h fun X j nn hh => eqv_i (by simp [Term.eval, idx_at nn, (back32 nn).1]) hh
theorem own_boxJ {Z : State} {args : Array Value} {t : Term} {a : Addr} {c : Cell} {K : String} {z : Int32} (et : ∀ idx, t.eval args Z none idx Z = some (.ref a)) (A : Arr Z Z.heap a c (.object K)) (q : c.slots.size.toInt32 = z ∧ c.slots.size < 2 ^ 31) (hz : ¬ z < 0)
    (h : (Cond.all t (.and (.exactly (.elem t (.index 0)) K) (.eq (.field (.elem t (.index 0)) K "value" "J") (.op1 .i2l (.sub (.index 0) (.int 128)))))).value args Z none Z [] = some true) : Bxs Z a c K "J" z (fun j => .long (j - 128).toInt64) :=
  Bxs.start et A q.2 q.1 hz h fun X j nn hh => eqv_l (i2l_at (by simp [Term.eval, idx_at nn, (back32 nn).1])) hh
theorem own_staI {s : State} {args : Array Value} {C n d : String} {k : Int32} (h : (Cond.eq (Term.static C n d) (Term.int k)).value args s none s [] = some true) : (Term.static C n d).eval args s none [] s = some (.int k) := eqv_i (Term.int_eval k) h
theorem own_selp {Z : State} {a0 : Array Value} {y : MethodName} {n : Nat} (wi : (Cond.instantiable y.cls n).before a0 Z = true) (wp : (Cond.privateMethod y).before a0 Z = true) (wm : (Cond.instanceMethod y).before a0 Z = true) (hy : y.cls ≠ "java/lang/invoke/MethodHandle" ∧ y.cls ≠ "java/lang/invoke/VarHandle") : (Cond.selects y.cls y y).before a0 Z = true := by
  obtain ⟨c, k, h1, h2, -, h4, -⟩ := Cond.instantiable_spec wi
  exact selects_self_of_private h1 h2 (by cases hI : k.isInterface <;> simp [hI] at h4 ⊢) (Cond.privateMethod_at wp) wm hy
def own_Gk (Z : State) (h : Heap) (a : Addr) (k : ClassId) (ty : FieldType) (n j : Int32) (v : Value) : Prop := ∃ c : Cell, Arr Z h a c ty ∧ c.cls = k ∧ c.slots.size = n.toNatClampNeg ∧ ¬ n < 0 ∧ c.slots[j.toNatClampNeg]? = some v
section OwnGk
variable {Z : State} {h h' : Heap} {ls : List Loc} {a b : Addr} {k : ClassId} {ty : FieldType} {n j : Int32} {v u : Value} {sl : Nat}
theorem own_Gk.lt (F : own_Gk Z h a k ty n j v) : a < h.size := by obtain ⟨c, A, -⟩ := F; exact A.lt
theorem own_gk_ext (F : own_Gk Z h a k ty n j v) (E : Ext h h') : own_Gk Z h' a k ty n j v := by obtain ⟨c, A, r⟩ := F; exact ⟨c, A.ext E, r⟩
theorem own_gk_oth (F : own_Gk Z h a k ty n j v) (W : Wr h h' b sl u) (q : a ≠ b) : own_Gk Z h' a k ty n j v := by obtain ⟨c, A, r⟩ := F; exact ⟨c, A.other W q, r⟩
theorem own_gk_kl (F : own_Gk Z h a k ty n j v) (K : own_KL h h' ls) (q : ∀ y ∈ ls, y.base ≠ a) : own_Gk Z h' a k ty n j v := by
  obtain ⟨c, A, r⟩ := F
  obtain ⟨c', e1, -, -, -, e5, -⟩ := K.2 _ _ A.1
  cases e5 q
  exact ⟨c, ⟨e1, A.2⟩, r⟩
theorem own_gk_set {c : Cell} (A : Arr Z h a c ty) (q1 : c.cls = k) (S : c.slots.size = n.toNatClampNeg) (N : ¬ n < 0) (W : Wr h h' a j.toNatClampNeg v) : own_Gk Z h' a k ty n j v := by
  obtain ⟨c', e1, e2, e3, e4, -, -, e7⟩ := wr_at W A.1
  have e8 := (e7 rfl).1
  exact ⟨_, A.same W, q1, by rw [sz_set]; exact S, N, by rw [← e8]; exact (e7 rfl).2.1⟩
end OwnGk
section OwnSteps
variable {p : Program} {l : Launch} {e : Env} {R : Room} {s : State} {m : MethodId} {args : Array Value} {below : List Frame} {meth : Method} {c : Code} {T target : State} {locs : List Loc} {cells slots : Nat} {code : ByteArray} {pc : Nat} {Ls : Array Slot} {K : List Value}
theorem sc (X : Stand p l e R s m args below meth c T locs cells slots) (hx : p.tables.exec = Jvm.exec) (hby : c.code = code) {i : Int} (hd : decode code pc = .ok (.iconst i, 1)) (hr : Steps p.tables e below (T.setTop (mkF m (pc + 1) Ls (.int (Int32.ofInt i) :: K))) target) : Steps p.tables e below (T.setTop (mkF m pc Ls K)) target := XS.iconst X.here hx rfl (hb hby hd) hr
theorem sa (X : Stand p l e R s m args below meth c T locs cells slots) (hx : p.tables.exec = Jvm.exec) (hby : c.code = code) {k : Nat} {v : Value} (hd : decode code pc = .ok (.aload k, 2)) (hl : Ls[k]? = some (.val v)) (hv : v.isRef = true) (hr : Steps p.tables e below (T.setTop (mkF m (pc + 2) Ls (v :: K))) target) : Steps p.tables e below (T.setTop (mkF m pc Ls K)) target := XS.aload X.here hx rfl (hb hby hd) hl hv hr
theorem sA (X : Stand p l e R s m args below meth c T locs cells slots) (hx : p.tables.exec = Jvm.exec) (hby : c.code = code) {k : Fin 4} {v : Value} (hd : decode code pc = .ok (.aload_n k, 1)) (hl : Ls[k.val]? = some (.val v)) (hv : v.isRef = true) (hr : Steps p.tables e below (T.setTop (mkF m (pc + 1) Ls (v :: K))) target) : Steps p.tables e below (T.setTop (mkF m pc Ls K)) target := XS.aloadN X.here hx rfl (hb hby hd) hl hv hr
theorem si (X : Stand p l e R s m args below meth c T locs cells slots) (hx : p.tables.exec = Jvm.exec) (hby : c.code = code) {k : Nat} {v : Int32} (hd : decode code pc = .ok (.iload k, 2)) (hl : Ls[k]? = some (.val (.int v))) (hr : Steps p.tables e below (T.setTop (mkF m (pc + 2) Ls (.int v :: K))) target) : Steps p.tables e below (T.setTop (mkF m pc Ls K)) target := XS.iload X.here hx rfl (hb hby hd) hl hr
theorem sI (X : Stand p l e R s m args below meth c T locs cells slots) (hx : p.tables.exec = Jvm.exec) (hby : c.code = code) {k : Fin 4} {v : Int32} (hd : decode code pc = .ok (.iload_n k, 1)) (hl : Ls[k.val]? = some (.val (.int v))) (hr : Steps p.tables e below (T.setTop (mkF m (pc + 1) Ls (.int v :: K))) target) : Steps p.tables e below (T.setTop (mkF m pc Ls K)) target := XS.iloadN X.here hx rfl (hb hby hd) hl hr
theorem sL (X : Stand p l e R s m args below meth c T locs cells slots) (hx : p.tables.exec = Jvm.exec) (hby : c.code = code) {k : Fin 4} {v : Int64} (hd : decode code pc = .ok (.lload_n k, 1)) (hl : Ls[k.val]? = some (.val (.long v))) (hr : Steps p.tables e below (T.setTop (mkF m (pc + 1) Ls (.long v :: K))) target) : Steps p.tables e below (T.setTop (mkF m pc Ls K)) target := XS.lloadN X.here hx rfl (hb hby hd) hl hr
theorem sg (X : Stand p l e R s m args below meth c T locs cells slots) (hx : p.tables.exec = Jvm.exec) (hby : c.code = code) {o : Int} {pc' : Nat} (hd : decode code pc = .ok (.goto o, 3)) (ho : 0 ≤ (pc : Int) + o) (hp : ((pc : Int) + o).toNat = pc') (hr : Steps p.tables e below (T.setTop (mkF m pc' Ls K)) target) : Steps p.tables e below (T.setTop (mkF m pc Ls K)) target := XS.goto X.here hx rfl rfl (hb hby hd) ho hp hr
theorem sn (X : Stand p l e R s m args below meth c T locs cells slots) (hx : p.tables.exec = Jvm.exec) (hby : c.code = code) {cd : ClassFile.Cond} {o : Int} {x y : Int32} (hd : decode code pc = .ok (.if_icmp cd o, 3)) (hc : if_icmp.holds cd x y = false) (hr : Steps p.tables e below (T.setTop (mkF m (pc + 3) Ls K)) target) : Steps p.tables e below (T.setTop (mkF m pc Ls (.int y :: .int x :: K))) target := XS.icmpNo X.here hx rfl (hb hby hd) rfl hc hr
theorem sN (X : Stand p l e R s m args below meth c T locs cells slots) (hx : p.tables.exec = Jvm.exec) (hby : c.code = code) {cd : ClassFile.Cond} {o : Int} {x : Int32} (hd : decode code pc = .ok (.ifCond cd o, 3)) (hc : ifCond.holds cd x = false) (hr : Steps p.tables e below (T.setTop (mkF m (pc + 3) Ls K)) target) : Steps p.tables e below (T.setTop (mkF m pc Ls (.int x :: K))) target := XS.ifNo X.here hx rfl (hb hby hd) rfl hc hr
end OwnSteps

theorem own_and3 (x : Int32) : x &&& 3 = 0 ∨ x &&& 3 = 1 ∨ x &&& 3 = 2 ∨ x &&& 3 = 3 := by
  have h : (x &&& 3).toInt = x.toInt % 4 := c_mask x 3 2 (by decide) (by decide)
  have hr : (x &&& 3).toInt = 0 ∨ (x &&& 3).toInt = 1 ∨ (x &&& 3).toInt = 2 ∨ (x &&& 3).toInt = 3 := by omega
  rcases hr with q | q | q | q
  · exact Or.inl (Int32.toInt_inj.mp q)
  · exact Or.inr (Or.inl (Int32.toInt_inj.mp q))
  · exact Or.inr (Or.inr (Or.inl (Int32.toInt_inj.mp q)))
  · exact Or.inr (Or.inr (Or.inr (Int32.toInt_inj.mp q)))
theorem own_core (c s s2 ms : Int64) (hc : 0 ≤ c.toInt ∧ c.toInt < 2305843009213693952) (hs : 0 < s.toInt ∧ s.toInt < 2147483648) (h2 : s2.toInt = 2 * s.toInt) (hm : ms.toInt = - s.toInt) :
    ¬ (2 * (c - ((2 * c + s) / s2) * s) < ms) ∧ 2 * (c - ((2 * c + s) / s2) * s) < s := by
  have e2 : (2 : Int64).toInt = 2 := by decide
  have a1 := c_lmul 2 c
  rw [e2] at a1
  have r1 := rng64 (2 * c)
  have b1 : (2 * c).toInt = 2 * c.toInt := by omega
  have a2 := c_ladd (2 * c) s
  have r2 := rng64 (2 * c + s)
  have b2 : (2 * c + s).toInt = 2 * c.toInt + s.toInt := by omega
  have b3 : ((2 * c + s) / s2).toInt = (2 * c.toInt + s.toInt) / (2 * s.toInt) := by
    rw [Int64.toInt_div, b2, h2, Int.tdiv_eq_ediv_of_nonneg (by omega)]
    have q1 : 0 ≤ (2 * c.toInt + s.toInt) / (2 * s.toInt) := Int.ediv_nonneg (by omega) (by omega)
    have q2 : (2 * c.toInt + s.toInt) / (2 * s.toInt) ≤ 2 * c.toInt + s.toInt := Int.ediv_le_self _ (by omega)
    exact Int.bmod_eq_of_le (by omega) (by omega)
  have hq := Int.mul_ediv_add_emod (2 * c.toInt + s.toInt) (2 * s.toInt)
  have hr1 := Int.emod_nonneg (2 * c.toInt + s.toInt) (show 2 * s.toInt ≠ 0 by omega)
  have hr2 := Int.emod_lt_of_pos (2 * c.toInt + s.toInt) (show 0 < 2 * s.toInt by omega)
  have hq0 : 0 ≤ (2 * c.toInt + s.toInt) / (2 * s.toInt) := Int.ediv_nonneg (by omega) (by omega)
  have a3 := c_lmul ((2 * c + s) / s2) s
  rw [b3] at a3
  generalize (2 * c.toInt + s.toInt) / (2 * s.toInt) = Q at *
  generalize (2 * c.toInt + s.toInt) % (2 * s.toInt) = R at *
  have e : 2 * s.toInt * Q = 2 * (Q * s.toInt) := by rw [Int.mul_assoc, Int.mul_comm s.toInt Q]
  have hp : 0 ≤ Q * s.toInt := Int.mul_nonneg hq0 (by omega)
  rw [e] at hq
  generalize Q * s.toInt = P at *
  have r3 := rng64 ((2 * c + s) / s2 * s)
  have b4 : ((2 * c + s) / s2 * s).toInt = P := by omega
  have a5 := c_lsub c ((2 * c + s) / s2 * s)
  have r5 := rng64 (c - (2 * c + s) / s2 * s)
  have b5 : (c - (2 * c + s) / s2 * s).toInt = c.toInt - P := by omega
  have a6 := c_lmul 2 (c - (2 * c + s) / s2 * s)
  rw [e2, b5] at a6
  have r6 := rng64 (2 * (c - (2 * c + s) / s2 * s))
  have b6 : (2 * (c - (2 * c + s) / s2 * s)).toInt = 2 * (c.toInt - P) := by omega
  rw [Int64.lt_iff_toInt_lt, Int64.lt_iff_toInt_lt, b6, hm]
  omega
theorem own_cb (x : Int64) : 0 ≤ (x &&& 2305843009213693951).toInt ∧ (x &&& 2305843009213693951).toInt < 2305843009213693952 := by
  have h : (x &&& 2305843009213693951).toInt = x.toInt % 2305843009213693952 := c_maskL x 2305843009213693951 61 (by decide) (by decide)
  omega
theorem own_sb (x : Int32) (h : (1 : Int32) < (x &&& 2147483647)) : 0 < ((x &&& 2147483647).toInt64).toInt ∧ ((x &&& 2147483647).toInt64).toInt < 2147483648 := by
  have q := Int32.lt_iff_toInt_lt.mp h
  have e : (1 : Int32).toInt = 1 := by decide
  have r := rng32 (x &&& 2147483647)
  have u := c_i2l (x &&& 2147483647)
  omega
theorem own_s2 (x : Int32) (h : (1 : Int32) < (x &&& 2147483647)) : (2 * (x &&& 2147483647).toInt64).toInt = 2 * ((x &&& 2147483647).toInt64).toInt := by
  have q := own_sb x h
  have r := rng64 (2 * (x &&& 2147483647).toInt64)
  have u := c_lmul 2 (x &&& 2147483647).toInt64
  rw [(by decide : (2 : Int64).toInt = 2)] at u
  omega
theorem own_sm (x : Int32) (h : (1 : Int32) < (x &&& 2147483647)) : (-(x &&& 2147483647).toInt64).toInt = - ((x &&& 2147483647).toInt64).toInt := by
  have q := own_sb x h
  have r := rng64 (-(x &&& 2147483647).toInt64)
  have u := c_lneg (x &&& 2147483647).toInt64
  omega
abbrev ym0 : MethodName := ⟨"java/lang/Math", "max", "(II)I"⟩
abbrev ym1 : MethodName := ⟨"com/example/lusto/lusto/ResultCommitsPerSecondPinLaw", "levelOf", "(I)Lcom/example/lusto/lusto/IsolationLevel;"⟩
abbrev ym2 : MethodName := ⟨"java/lang/Record", "<init>", "()V"⟩
abbrev ym3 : MethodName := ⟨"com/example/lusto/lusto/TransferBench$Result", "<init>", "(Lcom/example/lusto/lusto/IsolationLevel;IIIJJJ)V"⟩
abbrev ym4 : MethodName := ⟨"com/example/lusto/lusto/TransferBench$Result", "commitsPerSecond", "()J"⟩
theorem wk0 {Z : State} {a0 : Array Value} (hw : ∀ d ∈ tables_1, d.before a0 Z = true) : (Jvm.Cond.constantLong "com/example/lusto/lusto/ResultCommitsPerSecondPinLaw" (22 : Nat) (2305843009213693951 : Int64)).before a0 Z = true := hw _ (List.mem_of_getElem? (i := 0) rfl)
theorem wk1 {Z : State} {a0 : Array Value} (hw : ∀ d ∈ tables_1, d.before a0 Z = true) : (Jvm.Cond.constant "com/example/lusto/lusto/ResultCommitsPerSecondPinLaw" (24 : Nat) (2147483647 : Int32)).before a0 Z = true := hw _ (List.mem_of_getElem? (i := 1) rfl)
theorem wk2 {Z : State} {a0 : Array Value} (hw : ∀ d ∈ tables_1, d.before a0 Z = true) : (Jvm.Cond.methodLink "com/example/lusto/lusto/ResultCommitsPerSecondPinLaw" (25 : Nat) ({ cls := "java/lang/Math", name := "max", desc := "(II)I" } : Jvm.MethodName)).before a0 Z = true := hw _ (List.mem_of_getElem? (i := 2) rfl)
theorem wk3 {Z : State} {a0 : Array Value} (hw : ∀ d ∈ tables_1, d.before a0 Z = true) : (Jvm.Cond.static ({ cls := "java/lang/Math", name := "max", desc := "(II)I" } : Jvm.MethodName)).before a0 Z = true := hw _ (List.mem_of_getElem? (i := 3) rfl)
theorem wk4 {Z : State} {a0 : Array Value} (hw : ∀ d ∈ tables_1, d.before a0 Z = true) : (Jvm.Cond.initialized "java/lang/Math").before a0 Z = true := hw _ (List.mem_of_getElem? (i := 4) rfl)
theorem wk5 {Z : State} {a0 : Array Value} (hw : ∀ d ∈ tables_1, d.before a0 Z = true) : (Jvm.Cond.code ({ cls := "java/lang/Math", name := "max", desc := "(II)I" } : Jvm.MethodName) jdk_29_method_65_code (2 : Nat) (Option.some Jvm.ClassFile.FieldType.int)).before a0 Z = true := hw _ (List.mem_of_getElem? (i := 5) rfl)
theorem wk6 {Z : State} {a0 : Array Value} (hw : ∀ d ∈ tables_1, d.before a0 Z = true) : (Jvm.Cond.classLink "com/example/lusto/lusto/ResultCommitsPerSecondPinLaw" (31 : Nat) "com/example/lusto/lusto/TransferBench$Result").before a0 Z = true := hw _ (List.mem_of_getElem? (i := 6) rfl)
theorem wk7 {Z : State} {a0 : Array Value} (hw : ∀ d ∈ tables_1, d.before a0 Z = true) : (Jvm.Cond.instantiable "com/example/lusto/lusto/TransferBench$Result" (7 : Nat)).before a0 Z = true := hw _ (List.mem_of_getElem? (i := 7) rfl)
theorem wk8 {Z : State} {a0 : Array Value} (hw : ∀ d ∈ tables_1, d.before a0 Z = true) : (Jvm.Cond.initialized "com/example/lusto/lusto/TransferBench$Result").before a0 Z = true := hw _ (List.mem_of_getElem? (i := 8) rfl)
theorem wk9 {Z : State} {a0 : Array Value} (hw : ∀ d ∈ tables_1, d.before a0 Z = true) : (Jvm.Cond.methodLink "com/example/lusto/lusto/ResultCommitsPerSecondPinLaw" (33 : Nat) ({ cls := "com/example/lusto/lusto/ResultCommitsPerSecondPinLaw", name := "levelOf", desc := "(I)Lcom/example/lusto/lusto/IsolationLevel;" } : Jvm.MethodName)).before a0 Z = true := hw _ (List.mem_of_getElem? (i := 9) rfl)
theorem wk10 {Z : State} {a0 : Array Value} (hw : ∀ d ∈ tables_1, d.before a0 Z = true) : (Jvm.Cond.static ({ cls := "com/example/lusto/lusto/ResultCommitsPerSecondPinLaw", name := "levelOf", desc := "(I)Lcom/example/lusto/lusto/IsolationLevel;" } : Jvm.MethodName)).before a0 Z = true := hw _ (List.mem_of_getElem? (i := 10) rfl)
theorem wk11 {Z : State} {a0 : Array Value} (hw : ∀ d ∈ tables_1, d.before a0 Z = true) : (Jvm.Cond.initialized "com/example/lusto/lusto/ResultCommitsPerSecondPinLaw").before a0 Z = true := hw _ (List.mem_of_getElem? (i := 11) rfl)
theorem wk12 {Z : State} {a0 : Array Value} (hw : ∀ d ∈ tables_1, d.before a0 Z = true) : (Jvm.Cond.code ({ cls := "com/example/lusto/lusto/ResultCommitsPerSecondPinLaw", name := "levelOf", desc := "(I)Lcom/example/lusto/lusto/IsolationLevel;" } : Jvm.MethodName) method_2_code (2 : Nat) (Option.some (Jvm.ClassFile.FieldType.object "com/example/lusto/lusto/IsolationLevel"))).before a0 Z = true := hw _ (List.mem_of_getElem? (i := 12) rfl)
theorem wk13 {Z : State} {a0 : Array Value} (hw : ∀ d ∈ tables_1, d.before a0 Z = true) : (Jvm.Cond.fieldLink "com/example/lusto/lusto/ResultCommitsPerSecondPinLaw" (13 : Nat) "com/example/lusto/lusto/IsolationLevel" "READ_COMMITTED" "Lcom/example/lusto/lusto/IsolationLevel;").before a0 Z = true := hw _ (List.mem_of_getElem? (i := 13) rfl)
theorem wk14 {Z : State} {a0 : Array Value} (hw : ∀ d ∈ tables_1, d.before a0 Z = true) : (Jvm.Cond.initialized "com/example/lusto/lusto/IsolationLevel").before a0 Z = true := hw _ (List.mem_of_getElem? (i := 14) rfl)
theorem wk15 {Z : State} {a0 : Array Value} (hw : ∀ d ∈ tables_1, d.before a0 Z = true) : (Jvm.Cond.laysStatic "com/example/lusto/lusto/IsolationLevel" "READ_COMMITTED" "Lcom/example/lusto/lusto/IsolationLevel;").before a0 Z = true := hw _ (List.mem_of_getElem? (i := 15) rfl)
theorem wk16 {Z : State} {a0 : Array Value} (hw : ∀ d ∈ tables_1, d.before a0 Z = true) : (Jvm.Cond.methodLink "com/example/lusto/lusto/ResultCommitsPerSecondPinLaw" (39 : Nat) ({ cls := "com/example/lusto/lusto/TransferBench$Result", name := "<init>", desc := "(Lcom/example/lusto/lusto/IsolationLevel;IIIJJJ)V" } : Jvm.MethodName)).before a0 Z = true := hw _ (List.mem_of_getElem? (i := 16) rfl)
theorem wk17 {Z : State} {a0 : Array Value} (hw : ∀ d ∈ tables_1, d.before a0 Z = true) : (Jvm.Cond.instanceMethod ({ cls := "com/example/lusto/lusto/TransferBench$Result", name := "<init>", desc := "(Lcom/example/lusto/lusto/IsolationLevel;IIIJJJ)V" } : Jvm.MethodName)).before a0 Z = true := hw _ (List.mem_of_getElem? (i := 17) rfl)
theorem wk18 {Z : State} {a0 : Array Value} (hw : ∀ d ∈ tables_1, d.before a0 Z = true) : (Jvm.Cond.code ({ cls := "com/example/lusto/lusto/TransferBench$Result", name := "<init>", desc := "(Lcom/example/lusto/lusto/IsolationLevel;IIIJJJ)V" } : Jvm.MethodName) prog_52_method_1_code (11 : Nat) (Option.none : Option Jvm.ClassFile.FieldType)).before a0 Z = true := hw _ (List.mem_of_getElem? (i := 18) rfl)
theorem wk19 {Z : State} {a0 : Array Value} (hw : ∀ d ∈ tables_1, d.before a0 Z = true) : (Jvm.Cond.methodLink "com/example/lusto/lusto/TransferBench$Result" (3 : Nat) ({ cls := "java/lang/Record", name := "<init>", desc := "()V" } : Jvm.MethodName)).before a0 Z = true := hw _ (List.mem_of_getElem? (i := 19) rfl)
theorem wk20 {Z : State} {a0 : Array Value} (hw : ∀ d ∈ tables_1, d.before a0 Z = true) : (Jvm.Cond.instanceMethod ({ cls := "java/lang/Record", name := "<init>", desc := "()V" } : Jvm.MethodName)).before a0 Z = true := hw _ (List.mem_of_getElem? (i := 20) rfl)
theorem wk22 {Z : State} {a0 : Array Value} (hw : ∀ d ∈ tables_1, d.before a0 Z = true) : (Jvm.Cond.initialized "java/lang/Record").before a0 Z = true := hw _ (List.mem_of_getElem? (i := 22) rfl)
theorem wk23 {Z : State} {a0 : Array Value} (hw : ∀ d ∈ tables_1, d.before a0 Z = true) : (Jvm.Cond.code ({ cls := "java/lang/Record", name := "<init>", desc := "()V" } : Jvm.MethodName) jdk_30_method_1_code (1 : Nat) (Option.none : Option Jvm.ClassFile.FieldType)).before a0 Z = true := hw _ (List.mem_of_getElem? (i := 23) rfl)
theorem wk24 {Z : State} {a0 : Array Value} (hw : ∀ d ∈ tables_1, d.before a0 Z = true) : (Jvm.Cond.methodLink "java/lang/Record" (1 : Nat) ({ cls := "java/lang/Object", name := "<init>", desc := "()V" } : Jvm.MethodName)).before a0 Z = true := hw _ (List.mem_of_getElem? (i := 24) rfl)
theorem wk25 {Z : State} {a0 : Array Value} (hw : ∀ d ∈ tables_1, d.before a0 Z = true) : (Jvm.Cond.instanceMethod ({ cls := "java/lang/Object", name := "<init>", desc := "()V" } : Jvm.MethodName)).before a0 Z = true := hw _ (List.mem_of_getElem? (i := 25) rfl)
theorem wk26 {Z : State} {a0 : Array Value} (hw : ∀ d ∈ tables_1, d.before a0 Z = true) : (Jvm.Cond.code ({ cls := "java/lang/Object", name := "<init>", desc := "()V" } : Jvm.MethodName) object_method_1_code (1 : Nat) (Option.none : Option Jvm.ClassFile.FieldType)).before a0 Z = true := hw _ (List.mem_of_getElem? (i := 26) rfl)
theorem wk27 {Z : State} {a0 : Array Value} (hw : ∀ d ∈ tables_1, d.before a0 Z = true) : (Jvm.Cond.fieldLink "com/example/lusto/lusto/TransferBench$Result" (9 : Nat) "com/example/lusto/lusto/TransferBench$Result" "level" "Lcom/example/lusto/lusto/IsolationLevel;").before a0 Z = true := hw _ (List.mem_of_getElem? (i := 27) rfl)
theorem wk28 {Z : State} {a0 : Array Value} (hw : ∀ d ∈ tables_1, d.before a0 Z = true) : (Jvm.Cond.laysFinal "com/example/lusto/lusto/TransferBench$Result" "com/example/lusto/lusto/TransferBench$Result" "level" "Lcom/example/lusto/lusto/IsolationLevel;").before a0 Z = true := hw _ (List.mem_of_getElem? (i := 28) rfl)
theorem wk29 {Z : State} {a0 : Array Value} (hw : ∀ d ∈ tables_1, d.before a0 Z = true) : (Jvm.Cond.fieldLink "com/example/lusto/lusto/TransferBench$Result" (15 : Nat) "com/example/lusto/lusto/TransferBench$Result" "threads" "I").before a0 Z = true := hw _ (List.mem_of_getElem? (i := 29) rfl)
theorem wk30 {Z : State} {a0 : Array Value} (hw : ∀ d ∈ tables_1, d.before a0 Z = true) : (Jvm.Cond.laysFinal "com/example/lusto/lusto/TransferBench$Result" "com/example/lusto/lusto/TransferBench$Result" "threads" "I").before a0 Z = true := hw _ (List.mem_of_getElem? (i := 30) rfl)
theorem wk31 {Z : State} {a0 : Array Value} (hw : ∀ d ∈ tables_1, d.before a0 Z = true) : (Jvm.Cond.fieldLink "com/example/lusto/lusto/TransferBench$Result" (19 : Nat) "com/example/lusto/lusto/TransferBench$Result" "accounts" "I").before a0 Z = true := hw _ (List.mem_of_getElem? (i := 31) rfl)
theorem wk32 {Z : State} {a0 : Array Value} (hw : ∀ d ∈ tables_1, d.before a0 Z = true) : (Jvm.Cond.laysFinal "com/example/lusto/lusto/TransferBench$Result" "com/example/lusto/lusto/TransferBench$Result" "accounts" "I").before a0 Z = true := hw _ (List.mem_of_getElem? (i := 32) rfl)
theorem wk33 {Z : State} {a0 : Array Value} (hw : ∀ d ∈ tables_1, d.before a0 Z = true) : (Jvm.Cond.fieldLink "com/example/lusto/lusto/TransferBench$Result" (22 : Nat) "com/example/lusto/lusto/TransferBench$Result" "seconds" "I").before a0 Z = true := hw _ (List.mem_of_getElem? (i := 33) rfl)
theorem wk34 {Z : State} {a0 : Array Value} (hw : ∀ d ∈ tables_1, d.before a0 Z = true) : (Jvm.Cond.laysFinal "com/example/lusto/lusto/TransferBench$Result" "com/example/lusto/lusto/TransferBench$Result" "seconds" "I").before a0 Z = true := hw _ (List.mem_of_getElem? (i := 34) rfl)
theorem wk35 {Z : State} {a0 : Array Value} (hw : ∀ d ∈ tables_1, d.before a0 Z = true) : (Jvm.Cond.fieldLink "com/example/lusto/lusto/TransferBench$Result" (25 : Nat) "com/example/lusto/lusto/TransferBench$Result" "commits" "J").before a0 Z = true := hw _ (List.mem_of_getElem? (i := 35) rfl)
theorem wk36 {Z : State} {a0 : Array Value} (hw : ∀ d ∈ tables_1, d.before a0 Z = true) : (Jvm.Cond.laysFinal "com/example/lusto/lusto/TransferBench$Result" "com/example/lusto/lusto/TransferBench$Result" "commits" "J").before a0 Z = true := hw _ (List.mem_of_getElem? (i := 36) rfl)
theorem wk37 {Z : State} {a0 : Array Value} (hw : ∀ d ∈ tables_1, d.before a0 Z = true) : (Jvm.Cond.fieldLink "com/example/lusto/lusto/TransferBench$Result" (29 : Nat) "com/example/lusto/lusto/TransferBench$Result" "aborts" "J").before a0 Z = true := hw _ (List.mem_of_getElem? (i := 37) rfl)
theorem wk38 {Z : State} {a0 : Array Value} (hw : ∀ d ∈ tables_1, d.before a0 Z = true) : (Jvm.Cond.laysFinal "com/example/lusto/lusto/TransferBench$Result" "com/example/lusto/lusto/TransferBench$Result" "aborts" "J").before a0 Z = true := hw _ (List.mem_of_getElem? (i := 38) rfl)
theorem wk39 {Z : State} {a0 : Array Value} (hw : ∀ d ∈ tables_1, d.before a0 Z = true) : (Jvm.Cond.fieldLink "com/example/lusto/lusto/TransferBench$Result" (32 : Nat) "com/example/lusto/lusto/TransferBench$Result" "total" "J").before a0 Z = true := hw _ (List.mem_of_getElem? (i := 39) rfl)
theorem wk40 {Z : State} {a0 : Array Value} (hw : ∀ d ∈ tables_1, d.before a0 Z = true) : (Jvm.Cond.laysFinal "com/example/lusto/lusto/TransferBench$Result" "com/example/lusto/lusto/TransferBench$Result" "total" "J").before a0 Z = true := hw _ (List.mem_of_getElem? (i := 40) rfl)
theorem wk41 {Z : State} {a0 : Array Value} (hw : ∀ d ∈ tables_1, d.before a0 Z = true) : (Jvm.Cond.methodLink "com/example/lusto/lusto/ResultCommitsPerSecondPinLaw" (42 : Nat) ({ cls := "com/example/lusto/lusto/TransferBench$Result", name := "commitsPerSecond", desc := "()J" } : Jvm.MethodName)).before a0 Z = true := hw _ (List.mem_of_getElem? (i := 41) rfl)
theorem wk42 {Z : State} {a0 : Array Value} (hw : ∀ d ∈ tables_1, d.before a0 Z = true) : (Jvm.Cond.declares ({ cls := "com/example/lusto/lusto/TransferBench$Result", name := "commitsPerSecond", desc := "()J" } : Jvm.MethodName)).before a0 Z = true := hw _ (List.mem_of_getElem? (i := 42) rfl)
theorem wk43 {Z : State} {a0 : Array Value} (hw : ∀ d ∈ tables_1, d.before a0 Z = true) : (Jvm.Cond.instanceMethod ({ cls := "com/example/lusto/lusto/TransferBench$Result", name := "commitsPerSecond", desc := "()J" } : Jvm.MethodName)).before a0 Z = true := hw _ (List.mem_of_getElem? (i := 43) rfl)
theorem wk44 {Z : State} {a0 : Array Value} (hw : ∀ d ∈ tables_1, d.before a0 Z = true) : (Jvm.Cond.selects "com/example/lusto/lusto/TransferBench$Result" ({ cls := "com/example/lusto/lusto/TransferBench$Result", name := "commitsPerSecond", desc := "()J" } : Jvm.MethodName) ({ cls := "com/example/lusto/lusto/TransferBench$Result", name := "commitsPerSecond", desc := "()J" } : Jvm.MethodName)).before a0 Z = true := hw _ (List.mem_of_getElem? (i := 44) rfl)
theorem wk45 {Z : State} {a0 : Array Value} (hw : ∀ d ∈ tables_1, d.before a0 Z = true) : (Jvm.Cond.code ({ cls := "com/example/lusto/lusto/TransferBench$Result", name := "commitsPerSecond", desc := "()J" } : Jvm.MethodName) prog_52_method_4_code (1 : Nat) (Option.some Jvm.ClassFile.FieldType.long)).before a0 Z = true := hw _ (List.mem_of_getElem? (i := 45) rfl)
theorem wk46 {Z : State} {a0 : Array Value} (hw : ∀ d ∈ tables_1, d.before a0 Z = true) : (Jvm.Cond.constantLong "com/example/lusto/lusto/TransferBench$Result" (41 : Nat) (2 : Int64)).before a0 Z = true := hw _ (List.mem_of_getElem? (i := 46) rfl)
theorem wk47 {Z : State} {a0 : Array Value} (hw : ∀ d ∈ tables_1, d.before a0 Z = true) : (Jvm.Cond.constantLong "com/example/lusto/lusto/ResultCommitsPerSecondPinLaw" (46 : Nat) (2 : Int64)).before a0 Z = true := hw _ (List.mem_of_getElem? (i := 47) rfl)
theorem wk48 {Z : State} {a0 : Array Value} (hw : ∀ d ∈ tables_1, d.before a0 Z = true) : (Jvm.Cond.fieldLink "com/example/lusto/lusto/ResultCommitsPerSecondPinLaw" (16 : Nat) "com/example/lusto/lusto/IsolationLevel" "REPEATABLE_READ" "Lcom/example/lusto/lusto/IsolationLevel;").before a0 Z = true := hw _ (List.mem_of_getElem? (i := 48) rfl)
theorem wk49 {Z : State} {a0 : Array Value} (hw : ∀ d ∈ tables_1, d.before a0 Z = true) : (Jvm.Cond.laysStatic "com/example/lusto/lusto/IsolationLevel" "REPEATABLE_READ" "Lcom/example/lusto/lusto/IsolationLevel;").before a0 Z = true := hw _ (List.mem_of_getElem? (i := 49) rfl)
theorem wk50 {Z : State} {a0 : Array Value} (hw : ∀ d ∈ tables_1, d.before a0 Z = true) : (Jvm.Cond.fieldLink "com/example/lusto/lusto/ResultCommitsPerSecondPinLaw" (19 : Nat) "com/example/lusto/lusto/IsolationLevel" "SERIALIZABLE" "Lcom/example/lusto/lusto/IsolationLevel;").before a0 Z = true := hw _ (List.mem_of_getElem? (i := 50) rfl)
theorem wk51 {Z : State} {a0 : Array Value} (hw : ∀ d ∈ tables_1, d.before a0 Z = true) : (Jvm.Cond.laysStatic "com/example/lusto/lusto/IsolationLevel" "SERIALIZABLE" "Lcom/example/lusto/lusto/IsolationLevel;").before a0 Z = true := hw _ (List.mem_of_getElem? (i := 51) rfl)
theorem wk52 {Z : State} {a0 : Array Value} (hw : ∀ d ∈ tables_1, d.before a0 Z = true) : (Jvm.Cond.fieldLink "com/example/lusto/lusto/ResultCommitsPerSecondPinLaw" (7 : Nat) "com/example/lusto/lusto/IsolationLevel" "READ_UNCOMMITTED" "Lcom/example/lusto/lusto/IsolationLevel;").before a0 Z = true := hw _ (List.mem_of_getElem? (i := 52) rfl)
theorem wk53 {Z : State} {a0 : Array Value} (hw : ∀ d ∈ tables_1, d.before a0 Z = true) : (Jvm.Cond.laysStatic "com/example/lusto/lusto/IsolationLevel" "READ_UNCOMMITTED" "Lcom/example/lusto/lusto/IsolationLevel;").before a0 Z = true := hw _ (List.mem_of_getElem? (i := 53) rfl)
theorem sn0 {Z : State} {a0 : Array Value} (hw : ∀ d ∈ tables_1, d.before a0 Z = true) : Jvm.RoadKit.slotOf Z "com/example/lusto/lusto/TransferBench$Result" "threads" "I" ≠ Jvm.RoadKit.slotOf Z "com/example/lusto/lusto/TransferBench$Result" "level" "Lcom/example/lusto/lusto/IsolationLevel;" := slot_ne (Or.inr (wk30 hw)) (Or.inr (wk28 hw)) (by decide) (t := .int) (t' := (.object "com/example/lusto/lusto/IsolationLevel")) (by decide) (by decide)
theorem sn1 {Z : State} {a0 : Array Value} (hw : ∀ d ∈ tables_1, d.before a0 Z = true) : Jvm.RoadKit.slotOf Z "com/example/lusto/lusto/TransferBench$Result" "accounts" "I" ≠ Jvm.RoadKit.slotOf Z "com/example/lusto/lusto/TransferBench$Result" "level" "Lcom/example/lusto/lusto/IsolationLevel;" := slot_ne (Or.inr (wk32 hw)) (Or.inr (wk28 hw)) (by decide) (t := .int) (t' := (.object "com/example/lusto/lusto/IsolationLevel")) (by decide) (by decide)
theorem sn2 {Z : State} {a0 : Array Value} (hw : ∀ d ∈ tables_1, d.before a0 Z = true) : Jvm.RoadKit.slotOf Z "com/example/lusto/lusto/TransferBench$Result" "accounts" "I" ≠ Jvm.RoadKit.slotOf Z "com/example/lusto/lusto/TransferBench$Result" "threads" "I" := slot_ne (Or.inr (wk32 hw)) (Or.inr (wk30 hw)) (by decide) (t := .int) (t' := .int) (by decide) (by decide)
theorem sn3 {Z : State} {a0 : Array Value} (hw : ∀ d ∈ tables_1, d.before a0 Z = true) : Jvm.RoadKit.slotOf Z "com/example/lusto/lusto/TransferBench$Result" "seconds" "I" ≠ Jvm.RoadKit.slotOf Z "com/example/lusto/lusto/TransferBench$Result" "level" "Lcom/example/lusto/lusto/IsolationLevel;" := slot_ne (Or.inr (wk34 hw)) (Or.inr (wk28 hw)) (by decide) (t := .int) (t' := (.object "com/example/lusto/lusto/IsolationLevel")) (by decide) (by decide)
theorem sn4 {Z : State} {a0 : Array Value} (hw : ∀ d ∈ tables_1, d.before a0 Z = true) : Jvm.RoadKit.slotOf Z "com/example/lusto/lusto/TransferBench$Result" "seconds" "I" ≠ Jvm.RoadKit.slotOf Z "com/example/lusto/lusto/TransferBench$Result" "threads" "I" := slot_ne (Or.inr (wk34 hw)) (Or.inr (wk30 hw)) (by decide) (t := .int) (t' := .int) (by decide) (by decide)
theorem sn5 {Z : State} {a0 : Array Value} (hw : ∀ d ∈ tables_1, d.before a0 Z = true) : Jvm.RoadKit.slotOf Z "com/example/lusto/lusto/TransferBench$Result" "seconds" "I" ≠ Jvm.RoadKit.slotOf Z "com/example/lusto/lusto/TransferBench$Result" "accounts" "I" := slot_ne (Or.inr (wk34 hw)) (Or.inr (wk32 hw)) (by decide) (t := .int) (t' := .int) (by decide) (by decide)
theorem sn6 {Z : State} {a0 : Array Value} (hw : ∀ d ∈ tables_1, d.before a0 Z = true) : Jvm.RoadKit.slotOf Z "com/example/lusto/lusto/TransferBench$Result" "commits" "J" ≠ Jvm.RoadKit.slotOf Z "com/example/lusto/lusto/TransferBench$Result" "level" "Lcom/example/lusto/lusto/IsolationLevel;" := slot_ne (Or.inr (wk36 hw)) (Or.inr (wk28 hw)) (by decide) (t := .long) (t' := (.object "com/example/lusto/lusto/IsolationLevel")) (by decide) (by decide)
theorem sn7 {Z : State} {a0 : Array Value} (hw : ∀ d ∈ tables_1, d.before a0 Z = true) : Jvm.RoadKit.slotOf Z "com/example/lusto/lusto/TransferBench$Result" "commits" "J" ≠ Jvm.RoadKit.slotOf Z "com/example/lusto/lusto/TransferBench$Result" "threads" "I" := slot_ne (Or.inr (wk36 hw)) (Or.inr (wk30 hw)) (by decide) (t := .long) (t' := .int) (by decide) (by decide)
theorem sn8 {Z : State} {a0 : Array Value} (hw : ∀ d ∈ tables_1, d.before a0 Z = true) : Jvm.RoadKit.slotOf Z "com/example/lusto/lusto/TransferBench$Result" "commits" "J" ≠ Jvm.RoadKit.slotOf Z "com/example/lusto/lusto/TransferBench$Result" "accounts" "I" := slot_ne (Or.inr (wk36 hw)) (Or.inr (wk32 hw)) (by decide) (t := .long) (t' := .int) (by decide) (by decide)
theorem sn9 {Z : State} {a0 : Array Value} (hw : ∀ d ∈ tables_1, d.before a0 Z = true) : Jvm.RoadKit.slotOf Z "com/example/lusto/lusto/TransferBench$Result" "commits" "J" ≠ Jvm.RoadKit.slotOf Z "com/example/lusto/lusto/TransferBench$Result" "seconds" "I" := slot_ne (Or.inr (wk36 hw)) (Or.inr (wk34 hw)) (by decide) (t := .long) (t' := .int) (by decide) (by decide)
theorem sn10 {Z : State} {a0 : Array Value} (hw : ∀ d ∈ tables_1, d.before a0 Z = true) : Jvm.RoadKit.slotOf Z "com/example/lusto/lusto/TransferBench$Result" "aborts" "J" ≠ Jvm.RoadKit.slotOf Z "com/example/lusto/lusto/TransferBench$Result" "level" "Lcom/example/lusto/lusto/IsolationLevel;" := slot_ne (Or.inr (wk38 hw)) (Or.inr (wk28 hw)) (by decide) (t := .long) (t' := (.object "com/example/lusto/lusto/IsolationLevel")) (by decide) (by decide)
theorem sn11 {Z : State} {a0 : Array Value} (hw : ∀ d ∈ tables_1, d.before a0 Z = true) : Jvm.RoadKit.slotOf Z "com/example/lusto/lusto/TransferBench$Result" "aborts" "J" ≠ Jvm.RoadKit.slotOf Z "com/example/lusto/lusto/TransferBench$Result" "threads" "I" := slot_ne (Or.inr (wk38 hw)) (Or.inr (wk30 hw)) (by decide) (t := .long) (t' := .int) (by decide) (by decide)
theorem sn12 {Z : State} {a0 : Array Value} (hw : ∀ d ∈ tables_1, d.before a0 Z = true) : Jvm.RoadKit.slotOf Z "com/example/lusto/lusto/TransferBench$Result" "aborts" "J" ≠ Jvm.RoadKit.slotOf Z "com/example/lusto/lusto/TransferBench$Result" "accounts" "I" := slot_ne (Or.inr (wk38 hw)) (Or.inr (wk32 hw)) (by decide) (t := .long) (t' := .int) (by decide) (by decide)
theorem sn13 {Z : State} {a0 : Array Value} (hw : ∀ d ∈ tables_1, d.before a0 Z = true) : Jvm.RoadKit.slotOf Z "com/example/lusto/lusto/TransferBench$Result" "aborts" "J" ≠ Jvm.RoadKit.slotOf Z "com/example/lusto/lusto/TransferBench$Result" "seconds" "I" := slot_ne (Or.inr (wk38 hw)) (Or.inr (wk34 hw)) (by decide) (t := .long) (t' := .int) (by decide) (by decide)
theorem sn14 {Z : State} {a0 : Array Value} (hw : ∀ d ∈ tables_1, d.before a0 Z = true) : Jvm.RoadKit.slotOf Z "com/example/lusto/lusto/TransferBench$Result" "aborts" "J" ≠ Jvm.RoadKit.slotOf Z "com/example/lusto/lusto/TransferBench$Result" "commits" "J" := slot_ne (Or.inr (wk38 hw)) (Or.inr (wk36 hw)) (by decide) (t := .long) (t' := .long) (by decide) (by decide)
theorem sn15 {Z : State} {a0 : Array Value} (hw : ∀ d ∈ tables_1, d.before a0 Z = true) : Jvm.RoadKit.slotOf Z "com/example/lusto/lusto/TransferBench$Result" "total" "J" ≠ Jvm.RoadKit.slotOf Z "com/example/lusto/lusto/TransferBench$Result" "level" "Lcom/example/lusto/lusto/IsolationLevel;" := slot_ne (Or.inr (wk40 hw)) (Or.inr (wk28 hw)) (by decide) (t := .long) (t' := (.object "com/example/lusto/lusto/IsolationLevel")) (by decide) (by decide)
theorem sn16 {Z : State} {a0 : Array Value} (hw : ∀ d ∈ tables_1, d.before a0 Z = true) : Jvm.RoadKit.slotOf Z "com/example/lusto/lusto/TransferBench$Result" "total" "J" ≠ Jvm.RoadKit.slotOf Z "com/example/lusto/lusto/TransferBench$Result" "threads" "I" := slot_ne (Or.inr (wk40 hw)) (Or.inr (wk30 hw)) (by decide) (t := .long) (t' := .int) (by decide) (by decide)
theorem sn17 {Z : State} {a0 : Array Value} (hw : ∀ d ∈ tables_1, d.before a0 Z = true) : Jvm.RoadKit.slotOf Z "com/example/lusto/lusto/TransferBench$Result" "total" "J" ≠ Jvm.RoadKit.slotOf Z "com/example/lusto/lusto/TransferBench$Result" "accounts" "I" := slot_ne (Or.inr (wk40 hw)) (Or.inr (wk32 hw)) (by decide) (t := .long) (t' := .int) (by decide) (by decide)
theorem sn18 {Z : State} {a0 : Array Value} (hw : ∀ d ∈ tables_1, d.before a0 Z = true) : Jvm.RoadKit.slotOf Z "com/example/lusto/lusto/TransferBench$Result" "total" "J" ≠ Jvm.RoadKit.slotOf Z "com/example/lusto/lusto/TransferBench$Result" "seconds" "I" := slot_ne (Or.inr (wk40 hw)) (Or.inr (wk34 hw)) (by decide) (t := .long) (t' := .int) (by decide) (by decide)
theorem sn19 {Z : State} {a0 : Array Value} (hw : ∀ d ∈ tables_1, d.before a0 Z = true) : Jvm.RoadKit.slotOf Z "com/example/lusto/lusto/TransferBench$Result" "total" "J" ≠ Jvm.RoadKit.slotOf Z "com/example/lusto/lusto/TransferBench$Result" "commits" "J" := slot_ne (Or.inr (wk40 hw)) (Or.inr (wk36 hw)) (by decide) (t := .long) (t' := .long) (by decide) (by decide)
theorem sn20 {Z : State} {a0 : Array Value} (hw : ∀ d ∈ tables_1, d.before a0 Z = true) : Jvm.RoadKit.slotOf Z "com/example/lusto/lusto/TransferBench$Result" "total" "J" ≠ Jvm.RoadKit.slotOf Z "com/example/lusto/lusto/TransferBench$Result" "aborts" "J" := slot_ne (Or.inr (wk40 hw)) (Or.inr (wk38 hw)) (by decide) (t := .long) (t' := .long) (by decide) (by decide)
theorem sn21 {Z : State} {a0 : Array Value} (hw : ∀ d ∈ tables_1, d.before a0 Z = true) : Jvm.RoadKit.slotOf Z "com/example/lusto/lusto/TransferBench$Result" "level" "Lcom/example/lusto/lusto/IsolationLevel;" ≠ Jvm.RoadKit.slotOf Z "com/example/lusto/lusto/TransferBench$Result" "threads" "I" := slot_ne (Or.inr (wk28 hw)) (Or.inr (wk30 hw)) (by decide) (t := (.object "com/example/lusto/lusto/IsolationLevel")) (t' := .int) (by decide) (by decide)
theorem sn22 {Z : State} {a0 : Array Value} (hw : ∀ d ∈ tables_1, d.before a0 Z = true) : Jvm.RoadKit.slotOf Z "com/example/lusto/lusto/TransferBench$Result" "level" "Lcom/example/lusto/lusto/IsolationLevel;" ≠ Jvm.RoadKit.slotOf Z "com/example/lusto/lusto/TransferBench$Result" "accounts" "I" := slot_ne (Or.inr (wk28 hw)) (Or.inr (wk32 hw)) (by decide) (t := (.object "com/example/lusto/lusto/IsolationLevel")) (t' := .int) (by decide) (by decide)
theorem sn23 {Z : State} {a0 : Array Value} (hw : ∀ d ∈ tables_1, d.before a0 Z = true) : Jvm.RoadKit.slotOf Z "com/example/lusto/lusto/TransferBench$Result" "level" "Lcom/example/lusto/lusto/IsolationLevel;" ≠ Jvm.RoadKit.slotOf Z "com/example/lusto/lusto/TransferBench$Result" "seconds" "I" := slot_ne (Or.inr (wk28 hw)) (Or.inr (wk34 hw)) (by decide) (t := (.object "com/example/lusto/lusto/IsolationLevel")) (t' := .int) (by decide) (by decide)
theorem sn24 {Z : State} {a0 : Array Value} (hw : ∀ d ∈ tables_1, d.before a0 Z = true) : Jvm.RoadKit.slotOf Z "com/example/lusto/lusto/TransferBench$Result" "level" "Lcom/example/lusto/lusto/IsolationLevel;" ≠ Jvm.RoadKit.slotOf Z "com/example/lusto/lusto/TransferBench$Result" "commits" "J" := slot_ne (Or.inr (wk28 hw)) (Or.inr (wk36 hw)) (by decide) (t := (.object "com/example/lusto/lusto/IsolationLevel")) (t' := .long) (by decide) (by decide)
theorem sn25 {Z : State} {a0 : Array Value} (hw : ∀ d ∈ tables_1, d.before a0 Z = true) : Jvm.RoadKit.slotOf Z "com/example/lusto/lusto/TransferBench$Result" "level" "Lcom/example/lusto/lusto/IsolationLevel;" ≠ Jvm.RoadKit.slotOf Z "com/example/lusto/lusto/TransferBench$Result" "aborts" "J" := slot_ne (Or.inr (wk28 hw)) (Or.inr (wk38 hw)) (by decide) (t := (.object "com/example/lusto/lusto/IsolationLevel")) (t' := .long) (by decide) (by decide)
theorem sn26 {Z : State} {a0 : Array Value} (hw : ∀ d ∈ tables_1, d.before a0 Z = true) : Jvm.RoadKit.slotOf Z "com/example/lusto/lusto/TransferBench$Result" "level" "Lcom/example/lusto/lusto/IsolationLevel;" ≠ Jvm.RoadKit.slotOf Z "com/example/lusto/lusto/TransferBench$Result" "total" "J" := slot_ne (Or.inr (wk28 hw)) (Or.inr (wk40 hw)) (by decide) (t := (.object "com/example/lusto/lusto/IsolationLevel")) (t' := .long) (by decide) (by decide)
theorem sn27 {Z : State} {a0 : Array Value} (hw : ∀ d ∈ tables_1, d.before a0 Z = true) : Jvm.RoadKit.slotOf Z "com/example/lusto/lusto/TransferBench$Result" "threads" "I" ≠ Jvm.RoadKit.slotOf Z "com/example/lusto/lusto/TransferBench$Result" "accounts" "I" := slot_ne (Or.inr (wk30 hw)) (Or.inr (wk32 hw)) (by decide) (t := .int) (t' := .int) (by decide) (by decide)
theorem sn28 {Z : State} {a0 : Array Value} (hw : ∀ d ∈ tables_1, d.before a0 Z = true) : Jvm.RoadKit.slotOf Z "com/example/lusto/lusto/TransferBench$Result" "threads" "I" ≠ Jvm.RoadKit.slotOf Z "com/example/lusto/lusto/TransferBench$Result" "seconds" "I" := slot_ne (Or.inr (wk30 hw)) (Or.inr (wk34 hw)) (by decide) (t := .int) (t' := .int) (by decide) (by decide)
theorem sn29 {Z : State} {a0 : Array Value} (hw : ∀ d ∈ tables_1, d.before a0 Z = true) : Jvm.RoadKit.slotOf Z "com/example/lusto/lusto/TransferBench$Result" "threads" "I" ≠ Jvm.RoadKit.slotOf Z "com/example/lusto/lusto/TransferBench$Result" "commits" "J" := slot_ne (Or.inr (wk30 hw)) (Or.inr (wk36 hw)) (by decide) (t := .int) (t' := .long) (by decide) (by decide)
theorem sn30 {Z : State} {a0 : Array Value} (hw : ∀ d ∈ tables_1, d.before a0 Z = true) : Jvm.RoadKit.slotOf Z "com/example/lusto/lusto/TransferBench$Result" "threads" "I" ≠ Jvm.RoadKit.slotOf Z "com/example/lusto/lusto/TransferBench$Result" "aborts" "J" := slot_ne (Or.inr (wk30 hw)) (Or.inr (wk38 hw)) (by decide) (t := .int) (t' := .long) (by decide) (by decide)
theorem sn31 {Z : State} {a0 : Array Value} (hw : ∀ d ∈ tables_1, d.before a0 Z = true) : Jvm.RoadKit.slotOf Z "com/example/lusto/lusto/TransferBench$Result" "threads" "I" ≠ Jvm.RoadKit.slotOf Z "com/example/lusto/lusto/TransferBench$Result" "total" "J" := slot_ne (Or.inr (wk30 hw)) (Or.inr (wk40 hw)) (by decide) (t := .int) (t' := .long) (by decide) (by decide)
theorem sn32 {Z : State} {a0 : Array Value} (hw : ∀ d ∈ tables_1, d.before a0 Z = true) : Jvm.RoadKit.slotOf Z "com/example/lusto/lusto/TransferBench$Result" "accounts" "I" ≠ Jvm.RoadKit.slotOf Z "com/example/lusto/lusto/TransferBench$Result" "seconds" "I" := slot_ne (Or.inr (wk32 hw)) (Or.inr (wk34 hw)) (by decide) (t := .int) (t' := .int) (by decide) (by decide)
theorem sn33 {Z : State} {a0 : Array Value} (hw : ∀ d ∈ tables_1, d.before a0 Z = true) : Jvm.RoadKit.slotOf Z "com/example/lusto/lusto/TransferBench$Result" "accounts" "I" ≠ Jvm.RoadKit.slotOf Z "com/example/lusto/lusto/TransferBench$Result" "commits" "J" := slot_ne (Or.inr (wk32 hw)) (Or.inr (wk36 hw)) (by decide) (t := .int) (t' := .long) (by decide) (by decide)
theorem sn34 {Z : State} {a0 : Array Value} (hw : ∀ d ∈ tables_1, d.before a0 Z = true) : Jvm.RoadKit.slotOf Z "com/example/lusto/lusto/TransferBench$Result" "accounts" "I" ≠ Jvm.RoadKit.slotOf Z "com/example/lusto/lusto/TransferBench$Result" "aborts" "J" := slot_ne (Or.inr (wk32 hw)) (Or.inr (wk38 hw)) (by decide) (t := .int) (t' := .long) (by decide) (by decide)
theorem sn35 {Z : State} {a0 : Array Value} (hw : ∀ d ∈ tables_1, d.before a0 Z = true) : Jvm.RoadKit.slotOf Z "com/example/lusto/lusto/TransferBench$Result" "accounts" "I" ≠ Jvm.RoadKit.slotOf Z "com/example/lusto/lusto/TransferBench$Result" "total" "J" := slot_ne (Or.inr (wk32 hw)) (Or.inr (wk40 hw)) (by decide) (t := .int) (t' := .long) (by decide) (by decide)
theorem sn36 {Z : State} {a0 : Array Value} (hw : ∀ d ∈ tables_1, d.before a0 Z = true) : Jvm.RoadKit.slotOf Z "com/example/lusto/lusto/TransferBench$Result" "seconds" "I" ≠ Jvm.RoadKit.slotOf Z "com/example/lusto/lusto/TransferBench$Result" "commits" "J" := slot_ne (Or.inr (wk34 hw)) (Or.inr (wk36 hw)) (by decide) (t := .int) (t' := .long) (by decide) (by decide)
theorem sn37 {Z : State} {a0 : Array Value} (hw : ∀ d ∈ tables_1, d.before a0 Z = true) : Jvm.RoadKit.slotOf Z "com/example/lusto/lusto/TransferBench$Result" "seconds" "I" ≠ Jvm.RoadKit.slotOf Z "com/example/lusto/lusto/TransferBench$Result" "aborts" "J" := slot_ne (Or.inr (wk34 hw)) (Or.inr (wk38 hw)) (by decide) (t := .int) (t' := .long) (by decide) (by decide)
theorem sn38 {Z : State} {a0 : Array Value} (hw : ∀ d ∈ tables_1, d.before a0 Z = true) : Jvm.RoadKit.slotOf Z "com/example/lusto/lusto/TransferBench$Result" "seconds" "I" ≠ Jvm.RoadKit.slotOf Z "com/example/lusto/lusto/TransferBench$Result" "total" "J" := slot_ne (Or.inr (wk34 hw)) (Or.inr (wk40 hw)) (by decide) (t := .int) (t' := .long) (by decide) (by decide)
theorem sn39 {Z : State} {a0 : Array Value} (hw : ∀ d ∈ tables_1, d.before a0 Z = true) : Jvm.RoadKit.slotOf Z "com/example/lusto/lusto/TransferBench$Result" "commits" "J" ≠ Jvm.RoadKit.slotOf Z "com/example/lusto/lusto/TransferBench$Result" "aborts" "J" := slot_ne (Or.inr (wk36 hw)) (Or.inr (wk38 hw)) (by decide) (t := .long) (t' := .long) (by decide) (by decide)
theorem sn40 {Z : State} {a0 : Array Value} (hw : ∀ d ∈ tables_1, d.before a0 Z = true) : Jvm.RoadKit.slotOf Z "com/example/lusto/lusto/TransferBench$Result" "commits" "J" ≠ Jvm.RoadKit.slotOf Z "com/example/lusto/lusto/TransferBench$Result" "total" "J" := slot_ne (Or.inr (wk36 hw)) (Or.inr (wk40 hw)) (by decide) (t := .long) (t' := .long) (by decide) (by decide)
theorem sn41 {Z : State} {a0 : Array Value} (hw : ∀ d ∈ tables_1, d.before a0 Z = true) : Jvm.RoadKit.slotOf Z "com/example/lusto/lusto/TransferBench$Result" "aborts" "J" ≠ Jvm.RoadKit.slotOf Z "com/example/lusto/lusto/TransferBench$Result" "total" "J" := slot_ne (Or.inr (wk38 hw)) (Or.inr (wk40 hw)) (by decide) (t := .long) (t' := .long) (by decide) (by decide)
def Wd (Z : State) (w : Nat → Addr) : Prop := Sta Z Z.heap "com/example/lusto/lusto/IsolationLevel" "READ_COMMITTED" "Lcom/example/lusto/lusto/IsolationLevel;" (.ref (w 0)) ∧ Exa Z Z.heap (w 0) "com/example/lusto/lusto/IsolationLevel" ∧ Sta Z Z.heap "com/example/lusto/lusto/IsolationLevel" "REPEATABLE_READ" "Lcom/example/lusto/lusto/IsolationLevel;" (.ref (w 1)) ∧ Exa Z Z.heap (w 1) "com/example/lusto/lusto/IsolationLevel" ∧ Sta Z Z.heap "com/example/lusto/lusto/IsolationLevel" "SERIALIZABLE" "Lcom/example/lusto/lusto/IsolationLevel;" (.ref (w 2)) ∧ Exa Z Z.heap (w 2) "com/example/lusto/lusto/IsolationLevel" ∧ Sta Z Z.heap "com/example/lusto/lusto/IsolationLevel" "READ_UNCOMMITTED" "Lcom/example/lusto/lusto/IsolationLevel;" (.ref (w 3)) ∧ Exa Z Z.heap (w 3) "com/example/lusto/lusto/IsolationLevel" ∧ True
theorem wd0 {Z : State} {w : Nat → Addr} (hW : Wd Z w) : Sta Z Z.heap "com/example/lusto/lusto/IsolationLevel" "READ_COMMITTED" "Lcom/example/lusto/lusto/IsolationLevel;" (.ref (w 0)) := hW.1
theorem wd1 {Z : State} {w : Nat → Addr} (hW : Wd Z w) : Exa Z Z.heap (w 0) "com/example/lusto/lusto/IsolationLevel" := hW.2.1
theorem wd2 {Z : State} {w : Nat → Addr} (hW : Wd Z w) : Sta Z Z.heap "com/example/lusto/lusto/IsolationLevel" "REPEATABLE_READ" "Lcom/example/lusto/lusto/IsolationLevel;" (.ref (w 1)) := hW.2.2.1
theorem wd3 {Z : State} {w : Nat → Addr} (hW : Wd Z w) : Exa Z Z.heap (w 1) "com/example/lusto/lusto/IsolationLevel" := hW.2.2.2.1
theorem wd4 {Z : State} {w : Nat → Addr} (hW : Wd Z w) : Sta Z Z.heap "com/example/lusto/lusto/IsolationLevel" "SERIALIZABLE" "Lcom/example/lusto/lusto/IsolationLevel;" (.ref (w 2)) := hW.2.2.2.2.1
theorem wd5 {Z : State} {w : Nat → Addr} (hW : Wd Z w) : Exa Z Z.heap (w 2) "com/example/lusto/lusto/IsolationLevel" := hW.2.2.2.2.2.1
theorem wd6 {Z : State} {w : Nat → Addr} (hW : Wd Z w) : Sta Z Z.heap "com/example/lusto/lusto/IsolationLevel" "READ_UNCOMMITTED" "Lcom/example/lusto/lusto/IsolationLevel;" (.ref (w 3)) := hW.2.2.2.2.2.2.1
theorem wd7 {Z : State} {w : Nat → Addr} (hW : Wd Z w) : Exa Z Z.heap (w 3) "com/example/lusto/lusto/IsolationLevel" := hW.2.2.2.2.2.2.2.1
theorem d1_0 : decode jdk_29_method_65_code 0 = .ok (.iload_n 0, 1) := by decide +kernel
theorem d1_1 : decode jdk_29_method_65_code 1 = .ok (.iload_n 1, 1) := by decide +kernel
theorem d1_2 : decode jdk_29_method_65_code 2 = .ok (.if_icmp .lt 7, 3) := by decide +kernel
theorem d1_9 : decode jdk_29_method_65_code 9 = .ok (.iload_n 1, 1) := by decide +kernel
theorem d1_10 : decode jdk_29_method_65_code 10 = .ok (.ireturn, 1) := by decide +kernel
theorem ef_1_1 (m : MethodId) (q1 : Int32) : entryFrame m #[(.int (1 : Int32)), (.int q1)] 2 = mkF m 0 #[.val (.int (1 : Int32)), .val (.int q1)] [] := by first | (simp [entryFrame, mkF, argsToLocals, Value.category]; done) | rfl
def Q1_1 (Z : State) (w : Nat → Addr) (q1 : Int32) (h0 : Heap) (n0 : Nat) (v : Option Value) (h : Heap) (L : List Loc) : Prop := v = some (.int q1) ∧ Fr n0 L ∧ h = h0
set_option maxRecDepth 65536 in
set_option maxHeartbeats 40000000 in
theorem rm1_1 (l : Launch) (Z : State) (a0 : Array Value) (hw : ∀ d ∈ tables_1, d.before a0 Z = true) (w : Nat → Addr) (hW : Wd Z w) (ws : List Jvm.Cond) (q1 : Int32) (h0 : Heap) (n0 : Nat) (O0 : Old Z n0 h0) (c1 : (1 : Int32) < q1) :
    MetFree l ym0 (head1 (Jvm.Cond.code ym0 jdk_29_method_65_code 2 (some .int) :: ws) ({ frames := 0, cells := 0, slots := 0, locals := 0 } : Room)) (fun a U => a = #[(.int (1 : Int32)), (.int q1)] ∧ Z.Warmed39 U.vm ∧ U.heap = h0) (fun _ _ _ _ _ => True) (fun _ U o U' => ∃ v L, o = .returned v ∧ Q1_1 Z w q1 h0 n0 v U'.heap L ∧ FrameEnd U o U' L ({ frames := 0, cells := 0, slots := 0, locals := 0 } : Room).cells ({ frames := 0, cells := 0, slots := 0, locals := 0 } : Room).slots) := by
  refine MetFree.of_bodySF (Jvm.Free.JP.mathPlain rfl (by decide +kernel)) hisR ?_
  intro p e s m args below meth c s₁ Bd hml0 hP hK
  obtain ⟨rfl, hZ, hh⟩ := hP
  have hx := Bd.exec
  have hby := Bd.bytes
  have hml : c.maxLocals = 2 := hml0
  have hown : s.vm.findClass "java/lang/Math" = some m.cls := findClass_of_methodNamed Bd.named
  have hnm := (name_of_methodNamed Bd.named Bd.method).1
  have X0 : Stand p l e ({ frames := 0, cells := 0, slots := 0, locals := 0 } : Room) s m #[(.int (1 : Int32)), (.int q1)] below meth c s₁ [] 0 0 := Stand.of_body Bd
  have e0 : s₁.heap = h0 := by rw [← hh, Bd.state]; rfl
  have N0 := Fr.nil n0
  skip
  have pre0 : ∀ t, Steps p.tables e below (s₁.setTop (mkF m 0 #[.val (.int (1 : Int32)), .val (.int q1)] [])) t → Steps p.tables e below (s₁.setTop (entryFrame m #[(.int (1 : Int32)), (.int q1)] 2)) t := fun t k => castTop (ef_1_1 m q1) k
  obtain ⟨fs, hr, hrun, hended, hWm, hsame⟩ := X0.leave (v := some (.int q1)) (fun h => by rw [Bd.returns] at h; cases h)
  refine ⟨_, _, pre0 _ ?_, hrun, hended, _, _, rfl, ?_, ⟨_, rfl⟩, hWm, hsame.mono (by decide) (by decide)⟩
  · show Steps p.tables e below (s₁.setTop (mkF m 0 #[.val (.int (1 : Int32)), .val (.int q1)] [])) _
    refine sI X0 hx hby d1_0 rfl ?_
    refine sI X0 hx hby d1_1 rfl ?_
    refine XS.icmpYes X0.here hx rfl (pc0 := 2) (pc' := 9) rfl (hb hby d1_2) rfl (tlt (c1 : (1 : Int32) < q1)).1 (by decide) (by decide) ?_
    refine sI X0 hx hby d1_9 rfl ?_
    exact retI X0 hx Bd.returns (hb hby d1_10) hr
  · show Q1_1 Z w q1 h0 n0 _ s₁.heap _
    rw [e0]
    exact ⟨rfl, N0, rfl⟩
theorem pds_0 : parseMethodDescriptor "(II)I" = some ⟨[.int, .int], some .int⟩ := by decide +kernel
theorem d2_0 : decode method_2_code 0 = .ok (.iload_n 0, 1) := by decide +kernel
theorem d2_1 : decode method_2_code 1 = .ok (.iconst 3, 1) := by decide +kernel
theorem d2_2 : decode method_2_code 2 = .ok (.iand, 1) := by decide +kernel
theorem d2_3 : decode method_2_code 3 = .ok (.istore_n 1, 1) := by decide +kernel
theorem d2_4 : decode method_2_code 4 = .ok (.iload_n 1, 1) := by decide +kernel
theorem d2_5 : decode method_2_code 5 = .ok (.ifCond .ne 7, 3) := by decide +kernel
theorem d2_8 : decode method_2_code 8 = .ok (.getstatic 7, 3) := by decide +kernel
theorem d2_11 : decode method_2_code 11 = .ok (.areturn, 1) := by decide +kernel
theorem ef_2_2 (m : MethodId) (q1 : Int32) : entryFrame m #[(.int q1)] 2 = mkF m 0 #[.val (.int q1), .unset] [] := by first | (simp [entryFrame, mkF, argsToLocals, Value.category]; done) | rfl
theorem pnc_0 : plainName "com/example/lusto/lusto/ResultCommitsPerSecondPinLaw" = true := by first | (simp [plainName, overriddenIn]; done) | decide +kernel
def Q2_2 (Z : State) (w : Nat → Addr) (q1 : Int32) (h0 : Heap) (n0 : Nat) (v : Option Value) (h : Heap) (L : List Loc) : Prop := v = some (.ref (w 3)) ∧ Fr n0 L ∧ h = h0
set_option maxRecDepth 65536 in
set_option maxHeartbeats 40000000 in
theorem rm2_2 (l : Launch) (Z : State) (a0 : Array Value) (hw : ∀ d ∈ tables_1, d.before a0 Z = true) (w : Nat → Addr) (hW : Wd Z w) (ws : List Jvm.Cond) (q1 : Int32) (h0 : Heap) (n0 : Nat) (O0 : Old Z n0 h0) (c1 : (q1 &&& (3 : Int32)) = (0 : Int32)) :
    MetFree l ym1 (head1 (Jvm.Cond.code ym1 method_2_code 2 (some (.object "com/example/lusto/lusto/IsolationLevel")) :: ws) ({ frames := 0, cells := 0, slots := 0, locals := 0 } : Room)) (fun a U => a = #[(.int q1)] ∧ Z.Warmed39 U.vm ∧ U.heap = h0) (fun _ _ _ _ _ => True) (fun _ U o U' => ∃ v L, o = .returned v ∧ Q2_2 Z w q1 h0 n0 v U'.heap L ∧ FrameEnd U o U' L ({ frames := 0, cells := 0, slots := 0, locals := 0 } : Room).cells ({ frames := 0, cells := 0, slots := 0, locals := 0 } : Room).slots) := by
  refine MetFree.of_bodySF (plainFor_of_name pnc_0) hisR ?_
  intro p e s m args below meth c s₁ Bd hml0 hP hK
  obtain ⟨rfl, hZ, hh⟩ := hP
  have hx := Bd.exec
  have hby := Bd.bytes
  have hml : c.maxLocals = 2 := hml0
  have hown : s.vm.findClass "com/example/lusto/lusto/ResultCommitsPerSecondPinLaw" = some m.cls := findClass_of_methodNamed Bd.named
  have hnm := (name_of_methodNamed Bd.named Bd.method).1
  have X0 : Stand p l e ({ frames := 0, cells := 0, slots := 0, locals := 0 } : Room) s m #[(.int q1)] below meth c s₁ [] 0 0 := Stand.of_body Bd
  have e0 : s₁.heap = h0 := by rw [← hh, Bd.state]; rfl
  have N0 := Fr.nil n0
  skip
  have pre0 : ∀ t, Steps p.tables e below (s₁.setTop (mkF m 0 #[.val (.int q1), .unset] [])) t → Steps p.tables e below (s₁.setTop (entryFrame m #[(.int q1)] 2)) t := fun t k => castTop (ef_2_2 m q1) k
  let Lb1 : Array Slot := #[.val (.int q1), .val (.int (q1 &&& (3 : Int32)))]
  obtain ⟨T2, X2, e2, st2⟩ := getS2 X0 hx hZ hown (host := "") (Or.inl (wk52 hw)) Via.refl e0 ((wd6 hW).ext O0.2) (g := (mkF m 8 Lb1 [])) rfl (hb hby d2_8)
  obtain ⟨fs, hr, hrun, hended, hWm, hsame⟩ := X2.leave (v := some (.ref (w 3))) (fun h => by rw [Bd.returns] at h; cases h)
  refine ⟨_, _, pre0 _ ?_, hrun, hended, _, _, rfl, ?_, ⟨_, rfl⟩, hWm, hsame.mono (by decide) (by decide)⟩
  · show Steps p.tables e below (s₁.setTop (mkF m 0 #[.val (.int q1), .unset] [])) _
    refine sI X0 hx hby d2_0 rfl ?_
    refine sc X0 hx hby d2_1 ?_
    refine XS.iand X0.here hx rfl (hb hby d2_2) rfl ?_
    refine XS.istoreN X0.here hx rfl (hb hby d2_3) rfl (l' := Lb1) rfl ?_
    refine sI X0 hx hby d2_4 rfl ?_
    refine sN X0 hx hby d2_5 ((if0 _ _).trans (teq (c1 : (q1 &&& (3 : Int32)) = (0 : Int32))).2) ?_
    refine st2 _ ?_
    jvm_step X2.here [X2.here.top, hx, (hb hby d2_11), X2.method', Bd.returns, Value.isRef, FieldType.isReference]
    first | (intro acts; rw [hr _ acts rfl rfl rfl]) | rw [hr _ _ rfl rfl rfl]
    exact Steps.refl _
  · show Q2_2 Z w q1 h0 n0 _ T2.heap _
    rw [e2]
    exact ⟨rfl, N0, rfl⟩
theorem pds_1 : parseMethodDescriptor "(I)Lcom/example/lusto/lusto/IsolationLevel;" = some ⟨[.int], some (.object "com/example/lusto/lusto/IsolationLevel")⟩ := by decide +kernel
theorem d3_0 : decode prog_52_method_1_code 0 = .ok (.aload_n 0, 1) := by decide +kernel
theorem d3_1 : decode prog_52_method_1_code 1 = .ok (.invokespecial 3, 3) := by decide +kernel
theorem d4_0 : decode jdk_30_method_1_code 0 = .ok (.aload_n 0, 1) := by decide +kernel
theorem d4_1 : decode jdk_30_method_1_code 1 = .ok (.invokespecial 1, 3) := by decide +kernel
theorem d4_4 : decode jdk_30_method_1_code 4 = .ok (.return_, 1) := by decide +kernel
theorem ef_4_3 (m : MethodId) (o1 : Addr) : entryFrame m #[(.ref o1)] 1 = mkF m 0 #[.val (.ref o1)] [] := by first | (simp [entryFrame, mkF, argsToLocals, Value.category]; done) | rfl
theorem pnc_1 : plainName "java/lang/Record" = true := by first | (simp [plainName, overriddenIn]; done) | decide +kernel
def Q4_3 (Z : State) (w : Nat → Addr) (o1 : Addr) (h0 : Heap) (n0 : Nat) (v : Option Value) (h : Heap) (L : List Loc) : Prop := v = none ∧ Fr n0 L ∧ h = h0
set_option maxRecDepth 65536 in
set_option maxHeartbeats 40000000 in
theorem rm4_3 (l : Launch) (Z : State) (a0 : Array Value) (hw : ∀ d ∈ tables_1, d.before a0 Z = true) (w : Nat → Addr) (hW : Wd Z w) (ws : List Jvm.Cond) (o1 : Addr) (h0 : Heap) (n0 : Nat) (O0 : Old Z n0 h0) :
    MetFree l ym2 (head1 (Jvm.Cond.code ym2 jdk_30_method_1_code 1 none :: ws) ({ frames := 1, cells := 0, slots := 0, locals := 12 } : Room)) (fun a U => a = #[(.ref o1)] ∧ Z.Warmed39 U.vm ∧ U.heap = h0) (fun _ _ _ _ _ => True) (fun _ U o U' => ∃ v L, o = .returned v ∧ Q4_3 Z w o1 h0 n0 v U'.heap L ∧ FrameEnd U o U' L ({ frames := 1, cells := 0, slots := 0, locals := 12 } : Room).cells ({ frames := 1, cells := 0, slots := 0, locals := 12 } : Room).slots) := by
  refine MetFree.of_bodySF (plainFor_of_name pnc_1) hisR ?_
  intro p e s m args below meth c s₁ Bd hml0 hP hK
  obtain ⟨rfl, hZ, hh⟩ := hP
  have hx := Bd.exec
  have hby := Bd.bytes
  have hml : c.maxLocals = 1 := hml0
  have hown : s.vm.findClass "java/lang/Record" = some m.cls := findClass_of_methodNamed Bd.named
  have hnm := (name_of_methodNamed Bd.named Bd.method).1
  have X0 : Stand p l e ({ frames := 1, cells := 0, slots := 0, locals := 12 } : Room) s m #[(.ref o1)] below meth c s₁ [] 0 0 := Stand.of_body Bd
  have e0 : s₁.heap = h0 := by rw [← hh, Bd.state]; rfl
  have N0 := Fr.nil n0
  skip
  have pre0 : ∀ t, Steps p.tables e below (s₁.setTop (mkF m 0 #[.val (.ref o1)] [])) t → Steps p.tables e below (s₁.setTop (entryFrame m #[(.ref o1)] 1)) t := fun t k => castTop (ef_4_3 m o1) k
  obtain ⟨T1, X1, e1, st1⟩ := initO X0 hx hZ hown (wk24 hw) (wk25 hw) (wk26 hw) e0 (g := (mkF m 1 #[.val (.ref o1)] [(.ref o1)])) rfl (by rw [hml]; rfl) rfl (hb hby d4_1) (by decide) (W := 0) (by show 2 * 0 + _ ≤ _; exact Nat.le_of_eq rfl) (by decide)
  obtain ⟨fs, hr, hrun, hended, hWm, hsame⟩ := X1.leave (v := none) (fun _ => rfl)
  refine ⟨_, _, pre0 _ ?_, hrun, hended, _, _, rfl, ?_, ⟨_, rfl⟩, hWm, hsame.mono (by decide) (by decide)⟩
  · show Steps p.tables e below (s₁.setTop (mkF m 0 #[.val (.ref o1)] [])) _
    refine sA X0 hx hby d4_0 rfl rfl ?_
    refine st1 _ ?_
    exact X1.returnOut hx Bd.returns (hb hby d4_4) hr
  · show Q4_3 Z w o1 h0 n0 _ T1.heap _
    rw [e1]
    exact ⟨rfl, N0, rfl⟩
theorem pds_2 : parseMethodDescriptor "()V" = some ⟨[], none⟩ := by decide +kernel
theorem d3_4 : decode prog_52_method_1_code 4 = .ok (.aload_n 0, 1) := by decide +kernel
theorem d3_5 : decode prog_52_method_1_code 5 = .ok (.aload_n 1, 1) := by decide +kernel
theorem d3_6 : decode prog_52_method_1_code 6 = .ok (.putfield 9, 3) := by decide +kernel
theorem d3_9 : decode prog_52_method_1_code 9 = .ok (.aload_n 0, 1) := by decide +kernel
theorem d3_10 : decode prog_52_method_1_code 10 = .ok (.iload_n 2, 1) := by decide +kernel
theorem d3_11 : decode prog_52_method_1_code 11 = .ok (.putfield 15, 3) := by decide +kernel
theorem d3_14 : decode prog_52_method_1_code 14 = .ok (.aload_n 0, 1) := by decide +kernel
theorem d3_15 : decode prog_52_method_1_code 15 = .ok (.iload_n 3, 1) := by decide +kernel
theorem d3_16 : decode prog_52_method_1_code 16 = .ok (.putfield 19, 3) := by decide +kernel
theorem d3_19 : decode prog_52_method_1_code 19 = .ok (.aload_n 0, 1) := by decide +kernel
theorem d3_20 : decode prog_52_method_1_code 20 = .ok (.iload 4, 2) := by decide +kernel
theorem d3_22 : decode prog_52_method_1_code 22 = .ok (.putfield 22, 3) := by decide +kernel
theorem d3_25 : decode prog_52_method_1_code 25 = .ok (.aload_n 0, 1) := by decide +kernel
theorem d3_26 : decode prog_52_method_1_code 26 = .ok (.lload 5, 2) := by decide +kernel
theorem d3_28 : decode prog_52_method_1_code 28 = .ok (.putfield 25, 3) := by decide +kernel
theorem d3_31 : decode prog_52_method_1_code 31 = .ok (.aload_n 0, 1) := by decide +kernel
theorem d3_32 : decode prog_52_method_1_code 32 = .ok (.lload 7, 2) := by decide +kernel
theorem d3_34 : decode prog_52_method_1_code 34 = .ok (.putfield 29, 3) := by decide +kernel
theorem d3_37 : decode prog_52_method_1_code 37 = .ok (.aload_n 0, 1) := by decide +kernel
theorem d3_38 : decode prog_52_method_1_code 38 = .ok (.lload 9, 2) := by decide +kernel
theorem d3_40 : decode prog_52_method_1_code 40 = .ok (.putfield 32, 3) := by decide +kernel
theorem d3_43 : decode prog_52_method_1_code 43 = .ok (.return_, 1) := by decide +kernel
theorem ef_3_4 (m : MethodId) (w : Nat → Addr) (o1 : Addr) (q2 : Int32) (q3 : Int32) (q4 : Int32) (q5 : Int64) (q6 : Int64) (q7 : Int64) : entryFrame m #[(.ref o1), (.ref (w 3)), (.int q2), (.int q3), (.int q4), (.long q5), (.long q6), (.long q7)] 11 = mkF m 0 #[.val (.ref o1), .val (.ref (w 3)), .val (.int q2), .val (.int q3), .val (.int q4), .val (.long q5), .second, .val (.long q6), .second, .val (.long q7), .second] [] := by first | (simp [entryFrame, mkF, argsToLocals, Value.category]; done) | rfl
theorem pnc_2 : plainName "com/example/lusto/lusto/TransferBench$Result" = true := by first | (simp [plainName, overriddenIn]; done) | decide +kernel
def Q3_4 (Z : State) (w : Nat → Addr) (o1 : Addr) (q2 : Int32) (q3 : Int32) (q4 : Int32) (q5 : Int64) (q6 : Int64) (q7 : Int64) (h0 : Heap) (n0 : Nat) (v : Option Value) (h : Heap) (L : List Loc) : Prop := v = none ∧ Fr n0 L ∧ own_KL h0 h [⟨o1, Jvm.RoadKit.slotOf Z "com/example/lusto/lusto/TransferBench$Result" "level" "Lcom/example/lusto/lusto/IsolationLevel;"⟩, ⟨o1, Jvm.RoadKit.slotOf Z "com/example/lusto/lusto/TransferBench$Result" "threads" "I"⟩, ⟨o1, Jvm.RoadKit.slotOf Z "com/example/lusto/lusto/TransferBench$Result" "accounts" "I"⟩, ⟨o1, Jvm.RoadKit.slotOf Z "com/example/lusto/lusto/TransferBench$Result" "seconds" "I"⟩, ⟨o1, Jvm.RoadKit.slotOf Z "com/example/lusto/lusto/TransferBench$Result" "commits" "J"⟩, ⟨o1, Jvm.RoadKit.slotOf Z "com/example/lusto/lusto/TransferBench$Result" "aborts" "J"⟩, ⟨o1, Jvm.RoadKit.slotOf Z "com/example/lusto/lusto/TransferBench$Result" "total" "J"⟩] ∧ Fld Z h o1 "com/example/lusto/lusto/TransferBench$Result" "level" "Lcom/example/lusto/lusto/IsolationLevel;" (.ref (w 3)) ∧ Fld Z h o1 "com/example/lusto/lusto/TransferBench$Result" "threads" "I" (.int q2) ∧ Fld Z h o1 "com/example/lusto/lusto/TransferBench$Result" "accounts" "I" (.int q3) ∧ Fld Z h o1 "com/example/lusto/lusto/TransferBench$Result" "seconds" "I" (.int q4) ∧ Fld Z h o1 "com/example/lusto/lusto/TransferBench$Result" "commits" "J" (.long q5) ∧ Fld Z h o1 "com/example/lusto/lusto/TransferBench$Result" "aborts" "J" (.long q6) ∧ Fld Z h o1 "com/example/lusto/lusto/TransferBench$Result" "total" "J" (.long q7)
set_option maxRecDepth 65536 in
set_option maxHeartbeats 40000000 in
theorem rm3_4 (l : Launch) (Z : State) (a0 : Array Value) (hw : ∀ d ∈ tables_1, d.before a0 Z = true) (w : Nat → Addr) (hW : Wd Z w) (ws : List Jvm.Cond) (o1 : Addr) (q2 : Int32) (q3 : Int32) (q4 : Int32) (q5 : Int64) (q6 : Int64) (q7 : Int64) (h0 : Heap) (n0 : Nat) (O0 : Old Z n0 h0) (f1 : Exa Z h0 o1 "com/example/lusto/lusto/TransferBench$Result") (f2 : Fld Z h0 o1 "com/example/lusto/lusto/TransferBench$Result" "level" "Lcom/example/lusto/lusto/IsolationLevel;" .null) (g3 : n0 ≤ o1) (f4 : Fld Z h0 o1 "com/example/lusto/lusto/TransferBench$Result" "threads" "I" (.int (0 : Int32))) (f5 : Fld Z h0 o1 "com/example/lusto/lusto/TransferBench$Result" "accounts" "I" (.int (0 : Int32))) (f6 : Fld Z h0 o1 "com/example/lusto/lusto/TransferBench$Result" "seconds" "I" (.int (0 : Int32))) (f7 : Fld Z h0 o1 "com/example/lusto/lusto/TransferBench$Result" "commits" "J" (.long (0 : Int64))) (f8 : Fld Z h0 o1 "com/example/lusto/lusto/TransferBench$Result" "aborts" "J" (.long (0 : Int64))) (f9 : Fld Z h0 o1 "com/example/lusto/lusto/TransferBench$Result" "total" "J" (.long (0 : Int64))) :
    MetFree l ym3 (head1 (Jvm.Cond.code ym3 prog_52_method_1_code 11 none :: ws) ({ frames := 2, cells := 0, slots := 0, locals := 24 } : Room)) (fun a U => a = #[(.ref o1), (.ref (w 3)), (.int q2), (.int q3), (.int q4), (.long q5), (.long q6), (.long q7)] ∧ Z.Warmed39 U.vm ∧ U.heap = h0) (fun _ _ _ _ _ => True) (fun _ U o U' => ∃ v L, o = .returned v ∧ Q3_4 Z w o1 q2 q3 q4 q5 q6 q7 h0 n0 v U'.heap L ∧ FrameEnd U o U' L ({ frames := 2, cells := 0, slots := 0, locals := 24 } : Room).cells ({ frames := 2, cells := 0, slots := 0, locals := 24 } : Room).slots) := by
  refine MetFree.of_bodySF (plainFor_of_name pnc_2) hisR ?_
  intro p e s m args below meth c s₁ Bd hml0 hP hK
  obtain ⟨rfl, hZ, hh⟩ := hP
  have hx := Bd.exec
  have hby := Bd.bytes
  have hml : c.maxLocals = 11 := hml0
  have hown : s.vm.findClass "com/example/lusto/lusto/TransferBench$Result" = some m.cls := findClass_of_methodNamed Bd.named
  have hnm := (name_of_methodNamed Bd.named Bd.method).1
  have X0 : Stand p l e ({ frames := 2, cells := 0, slots := 0, locals := 24 } : Room) s m #[(.ref o1), (.ref (w 3)), (.int q2), (.int q3), (.int q4), (.long q5), (.long q6), (.long q7)] below meth c s₁ [] 0 0 := Stand.of_body Bd
  have e0 : s₁.heap = h0 := by rw [← hh, Bd.state]; rfl
  have N0 := Fr.nil n0
  let La : Array Slot := #[.val (.ref o1), .val (.ref (w 3)), .val (.int q2), .val (.int q3), .val (.int q4), .val (.long q5), .second, .val (.long q6), .second, .val (.long q7), .second]
  have pre0 : ∀ t, Steps p.tables e below (s₁.setTop (mkF m 0 #[.val (.ref o1), .val (.ref (w 3)), .val (.int q2), .val (.int q3), .val (.int q4), .val (.long q5), .second, .val (.long q6), .second, .val (.long q7), .second] [])) t → Steps p.tables e below (s₁.setTop (entryFrame m #[(.ref o1), (.ref (w 3)), (.int q2), (.int q3), (.int q4), (.long q5), (.long q6), (.long q7)] 11)) t := fun t k => castTop (ef_3_4 m w o1 q2 q3 q4 q5 q6 q7) k
  obtain ⟨_, _, ⟨T1, L1, kk1, nn1⟩, -, X1, ⟨Lc1, hQ1, l1, y1, z1⟩, st1⟩ := X0.specialBack hx (y := ym2) rfl hown (mvT hZ (wk19 hw)) (mvT hZ (wk20 hw)) (mvT hZ (wk23 hw)) (by decide) (backOf (W := 0) (rm4_3 l Z a0 hw w hW [] o1 h0 n0 O0 ) hZ (wk23 hw) (wk22 hw) (by decide) (by decide)) (g := (mkF m 1 La [(.ref o1)])) rfl (by rw [hml]; rfl) (Steps.refl _) (a := o1) (argsL := []) (rest := []) (lenOf pds_2 rfl) rfl (by show 2 * 0 + _ ≤ _; exact Nat.le_of_eq rfl) (hb hby d3_1) (fun _ _ => ⟨rfl, e0, (by decide : 0 + 0 ≤ _), (by decide : 0 + 0 ≤ _)⟩)
  dsimp only [Pt.U, Pt.locs, Pt.cells, Pt.slots] at X1 l1 y1 z1 st1 hQ1
  subst l1 y1 z1
  obtain ⟨rfl, N1q, e1⟩ := hQ1
  have N1 := Fr.app N0 N1q
  obtain ⟨T2, h2, X2, e2, W2, st2⟩ := putF X1 hx hZ hown (host := "") (Or.inl (wk27 hw)) Via.refl e1 f2 f1 (Or.inr ⟨(wk28 hw), rfl, hnm⟩) (wk7 hw) (ty := (.object "com/example/lusto/lusto/IsolationLevel")) (by decide) rfl rfl (g := (mkF m 6 La [(.ref (w 3)), (.ref o1)])) rfl rfl (hb hby d3_6)
  have F2 : Fld Z h2 o1 "com/example/lusto/lusto/TransferBench$Result" "level" "Lcom/example/lusto/lusto/IsolationLevel;" (.ref (w 3)) := f2.same W2
  have N2 := Fr.snoc X2 N1 g3
  have O3 := O0.wr W2 g3
  have t4 := (f4.other W2 (Or.inr (sn0 hw)))
  have t5 := (f1.wr W2)
  obtain ⟨T6, h6, X6, e6, W6, st6⟩ := putF X2 hx hZ hown (host := "") (Or.inl (wk29 hw)) Via.refl e2 t4 t5 (Or.inr ⟨(wk30 hw), rfl, hnm⟩) (wk7 hw) (ty := .int) (by decide) rfl rfl (g := (mkF m 11 La [(.int q2), (.ref o1)])) rfl rfl (hb hby d3_11)
  have F6 : Fld Z h6 o1 "com/example/lusto/lusto/TransferBench$Result" "threads" "I" (.int q2) := t4.same W6
  have N6 := Fr.snoc X6 N2 g3
  have O7 := O3.wr W6 g3
  have t8 := ((f5.other W2 (Or.inr (sn1 hw))).other W6 (Or.inr (sn2 hw)))
  have t9 := (t5.wr W6)
  obtain ⟨T10, h10, X10, e10, W10, st10⟩ := putF X6 hx hZ hown (host := "") (Or.inl (wk31 hw)) Via.refl e6 t8 t9 (Or.inr ⟨(wk32 hw), rfl, hnm⟩) (wk7 hw) (ty := .int) (by decide) rfl rfl (g := (mkF m 16 La [(.int q3), (.ref o1)])) rfl rfl (hb hby d3_16)
  have F10 : Fld Z h10 o1 "com/example/lusto/lusto/TransferBench$Result" "accounts" "I" (.int q3) := t8.same W10
  have N10 := Fr.snoc X10 N6 g3
  have O11 := O7.wr W10 g3
  have t12 := (((f6.other W2 (Or.inr (sn3 hw))).other W6 (Or.inr (sn4 hw))).other W10 (Or.inr (sn5 hw)))
  have t13 := (t9.wr W10)
  obtain ⟨T14, h14, X14, e14, W14, st14⟩ := putF X10 hx hZ hown (host := "") (Or.inl (wk33 hw)) Via.refl e10 t12 t13 (Or.inr ⟨(wk34 hw), rfl, hnm⟩) (wk7 hw) (ty := .int) (by decide) rfl rfl (g := (mkF m 22 La [(.int q4), (.ref o1)])) rfl rfl (hb hby d3_22)
  have F14 : Fld Z h14 o1 "com/example/lusto/lusto/TransferBench$Result" "seconds" "I" (.int q4) := t12.same W14
  have N14 := Fr.snoc X14 N10 g3
  have O15 := O11.wr W14 g3
  have t16 := ((((f7.other W2 (Or.inr (sn6 hw))).other W6 (Or.inr (sn7 hw))).other W10 (Or.inr (sn8 hw))).other W14 (Or.inr (sn9 hw)))
  have t17 := (t13.wr W14)
  obtain ⟨T18, h18, X18, e18, W18, st18⟩ := putF X14 hx hZ hown (host := "") (Or.inl (wk35 hw)) Via.refl e14 t16 t17 (Or.inr ⟨(wk36 hw), rfl, hnm⟩) (wk7 hw) (ty := .long) (by decide) rfl rfl (g := (mkF m 28 La [(.long q5), (.ref o1)])) rfl rfl (hb hby d3_28)
  have F18 : Fld Z h18 o1 "com/example/lusto/lusto/TransferBench$Result" "commits" "J" (.long q5) := t16.same W18
  have N18 := Fr.snoc X18 N14 g3
  have O19 := O15.wr W18 g3
  have t20 := (((((f8.other W2 (Or.inr (sn10 hw))).other W6 (Or.inr (sn11 hw))).other W10 (Or.inr (sn12 hw))).other W14 (Or.inr (sn13 hw))).other W18 (Or.inr (sn14 hw)))
  have t21 := (t17.wr W18)
  obtain ⟨T22, h22, X22, e22, W22, st22⟩ := putF X18 hx hZ hown (host := "") (Or.inl (wk37 hw)) Via.refl e18 t20 t21 (Or.inr ⟨(wk38 hw), rfl, hnm⟩) (wk7 hw) (ty := .long) (by decide) rfl rfl (g := (mkF m 34 La [(.long q6), (.ref o1)])) rfl rfl (hb hby d3_34)
  have F22 : Fld Z h22 o1 "com/example/lusto/lusto/TransferBench$Result" "aborts" "J" (.long q6) := t20.same W22
  have N22 := Fr.snoc X22 N18 g3
  have O23 := O19.wr W22 g3
  have t24 := ((((((f9.other W2 (Or.inr (sn15 hw))).other W6 (Or.inr (sn16 hw))).other W10 (Or.inr (sn17 hw))).other W14 (Or.inr (sn18 hw))).other W18 (Or.inr (sn19 hw))).other W22 (Or.inr (sn20 hw)))
  have t25 := (t21.wr W22)
  obtain ⟨T26, h26, X26, e26, W26, st26⟩ := putF X22 hx hZ hown (host := "") (Or.inl (wk39 hw)) Via.refl e22 t24 t25 (Or.inr ⟨(wk40 hw), rfl, hnm⟩) (wk7 hw) (ty := .long) (by decide) rfl rfl (g := (mkF m 40 La [(.long q7), (.ref o1)])) rfl rfl (hb hby d3_40)
  have F26 : Fld Z h26 o1 "com/example/lusto/lusto/TransferBench$Result" "total" "J" (.long q7) := t24.same W26
  have N26 := Fr.snoc X26 N22 g3
  have O27 := O23.wr W26 g3
  obtain ⟨fs, hr, hrun, hended, hWm, hsame⟩ := X26.leave (v := none) (fun _ => rfl)
  have Kf28 : own_KL h0 h26 [⟨o1, Jvm.RoadKit.slotOf Z "com/example/lusto/lusto/TransferBench$Result" "level" "Lcom/example/lusto/lusto/IsolationLevel;"⟩, ⟨o1, Jvm.RoadKit.slotOf Z "com/example/lusto/lusto/TransferBench$Result" "threads" "I"⟩, ⟨o1, Jvm.RoadKit.slotOf Z "com/example/lusto/lusto/TransferBench$Result" "accounts" "I"⟩, ⟨o1, Jvm.RoadKit.slotOf Z "com/example/lusto/lusto/TransferBench$Result" "seconds" "I"⟩, ⟨o1, Jvm.RoadKit.slotOf Z "com/example/lusto/lusto/TransferBench$Result" "commits" "J"⟩, ⟨o1, Jvm.RoadKit.slotOf Z "com/example/lusto/lusto/TransferBench$Result" "aborts" "J"⟩, ⟨o1, Jvm.RoadKit.slotOf Z "com/example/lusto/lusto/TransferBench$Result" "total" "J"⟩] := (own_klW (own_klW (own_klW (own_klW (own_klW (own_klW (own_klW (own_kl0 h0 [⟨o1, Jvm.RoadKit.slotOf Z "com/example/lusto/lusto/TransferBench$Result" "level" "Lcom/example/lusto/lusto/IsolationLevel;"⟩, ⟨o1, Jvm.RoadKit.slotOf Z "com/example/lusto/lusto/TransferBench$Result" "threads" "I"⟩, ⟨o1, Jvm.RoadKit.slotOf Z "com/example/lusto/lusto/TransferBench$Result" "accounts" "I"⟩, ⟨o1, Jvm.RoadKit.slotOf Z "com/example/lusto/lusto/TransferBench$Result" "seconds" "I"⟩, ⟨o1, Jvm.RoadKit.slotOf Z "com/example/lusto/lusto/TransferBench$Result" "commits" "J"⟩, ⟨o1, Jvm.RoadKit.slotOf Z "com/example/lusto/lusto/TransferBench$Result" "aborts" "J"⟩, ⟨o1, Jvm.RoadKit.slotOf Z "com/example/lusto/lusto/TransferBench$Result" "total" "J"⟩]) W2 (Or.inl (List.mem_of_getElem? (i := 0) rfl))) W6 (Or.inl (List.mem_of_getElem? (i := 1) rfl))) W10 (Or.inl (List.mem_of_getElem? (i := 2) rfl))) W14 (Or.inl (List.mem_of_getElem? (i := 3) rfl))) W18 (Or.inl (List.mem_of_getElem? (i := 4) rfl))) W22 (Or.inl (List.mem_of_getElem? (i := 5) rfl))) W26 (Or.inl (List.mem_of_getElem? (i := 6) rfl)))
  have t29 := ((((((F2.other W6 (Or.inr (sn21 hw))).other W10 (Or.inr (sn22 hw))).other W14 (Or.inr (sn23 hw))).other W18 (Or.inr (sn24 hw))).other W22 (Or.inr (sn25 hw))).other W26 (Or.inr (sn26 hw)))
  have t30 := (((((F6.other W10 (Or.inr (sn27 hw))).other W14 (Or.inr (sn28 hw))).other W18 (Or.inr (sn29 hw))).other W22 (Or.inr (sn30 hw))).other W26 (Or.inr (sn31 hw)))
  have t31 := ((((F10.other W14 (Or.inr (sn32 hw))).other W18 (Or.inr (sn33 hw))).other W22 (Or.inr (sn34 hw))).other W26 (Or.inr (sn35 hw)))
  have t32 := (((F14.other W18 (Or.inr (sn36 hw))).other W22 (Or.inr (sn37 hw))).other W26 (Or.inr (sn38 hw)))
  have t33 := ((F18.other W22 (Or.inr (sn39 hw))).other W26 (Or.inr (sn40 hw)))
  have t34 := (F22.other W26 (Or.inr (sn41 hw)))
  refine ⟨_, _, pre0 _ ?_, hrun, hended, _, _, rfl, ?_, ⟨_, rfl⟩, hWm, hsame.mono (by decide) (by decide)⟩
  · show Steps p.tables e below (s₁.setTop (mkF m 0 La [])) _
    refine sA X0 hx hby d3_0 rfl rfl ?_
    refine st1.trans ?_
    refine sA X1 hx hby d3_4 rfl rfl ?_
    refine sA X1 hx hby d3_5 rfl rfl ?_
    refine st2 _ ?_
    refine sA X2 hx hby d3_9 rfl rfl ?_
    refine sI X2 hx hby d3_10 rfl ?_
    refine st6 _ ?_
    refine sA X6 hx hby d3_14 rfl rfl ?_
    refine sI X6 hx hby d3_15 rfl ?_
    refine st10 _ ?_
    refine sA X10 hx hby d3_19 rfl rfl ?_
    refine si X10 hx hby d3_20 rfl ?_
    refine st14 _ ?_
    refine sA X14 hx hby d3_25 rfl rfl ?_
    refine XS.lload X14.here hx rfl (hb hby d3_26) rfl ?_
    refine st18 _ ?_
    refine sA X18 hx hby d3_31 rfl rfl ?_
    refine XS.lload X18.here hx rfl (hb hby d3_32) rfl ?_
    refine st22 _ ?_
    refine sA X22 hx hby d3_37 rfl rfl ?_
    refine XS.lload X22.here hx rfl (hb hby d3_38) rfl ?_
    refine st26 _ ?_
    exact X26.returnOut hx Bd.returns (hb hby d3_43) hr
  · show Q3_4 Z w o1 q2 q3 q4 q5 q6 q7 h0 n0 _ T26.heap _
    rw [e26]
    exact ⟨rfl, N26, Kf28, t29, t30, t31, t32, t33, t34, F26⟩
theorem pds_3 : parseMethodDescriptor "(Lcom/example/lusto/lusto/IsolationLevel;IIIJJJ)V" = some ⟨[(.object "com/example/lusto/lusto/IsolationLevel"), .int, .int, .int, .long, .long, .long], none⟩ := by decide +kernel
theorem d6_0 : decode prog_52_method_4_code 0 = .ok (.ldc2_w 41, 3) := by decide +kernel
theorem d6_3 : decode prog_52_method_4_code 3 = .ok (.aload_n 0, 1) := by decide +kernel
theorem d6_4 : decode prog_52_method_4_code 4 = .ok (.getfield 25, 3) := by decide +kernel
theorem d6_7 : decode prog_52_method_4_code 7 = .ok (.lmul, 1) := by decide +kernel
theorem d6_8 : decode prog_52_method_4_code 8 = .ok (.aload_n 0, 1) := by decide +kernel
theorem d6_9 : decode prog_52_method_4_code 9 = .ok (.getfield 22, 3) := by decide +kernel
theorem d6_12 : decode prog_52_method_4_code 12 = .ok (.i2l, 1) := by decide +kernel
theorem d6_13 : decode prog_52_method_4_code 13 = .ok (.ladd, 1) := by decide +kernel
theorem d6_14 : decode prog_52_method_4_code 14 = .ok (.ldc2_w 41, 3) := by decide +kernel
theorem d6_17 : decode prog_52_method_4_code 17 = .ok (.aload_n 0, 1) := by decide +kernel
theorem d6_18 : decode prog_52_method_4_code 18 = .ok (.getfield 22, 3) := by decide +kernel
theorem d6_21 : decode prog_52_method_4_code 21 = .ok (.i2l, 1) := by decide +kernel
theorem d6_22 : decode prog_52_method_4_code 22 = .ok (.lmul, 1) := by decide +kernel
theorem d6_23 : decode prog_52_method_4_code 23 = .ok (.ldiv, 1) := by decide +kernel
theorem d6_24 : decode prog_52_method_4_code 24 = .ok (.lreturn, 1) := by decide +kernel
theorem ef_6_5 (m : MethodId) (o1 : Addr) : entryFrame m #[(.ref o1)] 1 = mkF m 0 #[.val (.ref o1)] [] := by first | (simp [entryFrame, mkF, argsToLocals, Value.category]; done) | rfl
def Q6_5 (Z : State) (w : Nat → Addr) (o1 : Addr) (q2 : Int64) (q3 : Int32) (h0 : Heap) (n0 : Nat) (v : Option Value) (h : Heap) (L : List Loc) : Prop := v = some (.long ((((2 : Int64) * q2) + (q3.toInt64)) / ((2 : Int64) * (q3.toInt64)))) ∧ Fr n0 L ∧ h = h0
set_option maxRecDepth 65536 in
set_option maxHeartbeats 40000000 in
theorem rm6_5 (l : Launch) (Z : State) (a0 : Array Value) (hw : ∀ d ∈ tables_1, d.before a0 Z = true) (w : Nat → Addr) (hW : Wd Z w) (ws : List Jvm.Cond) (o1 : Addr) (q2 : Int64) (q3 : Int32) (h0 : Heap) (n0 : Nat) (O0 : Old Z n0 h0) (f1 : Fld Z h0 o1 "com/example/lusto/lusto/TransferBench$Result" "commits" "J" (.long q2)) (f2 : Fld Z h0 o1 "com/example/lusto/lusto/TransferBench$Result" "seconds" "I" (.int q3)) (c3 : ¬ (((2 : Int64) * (q3.toInt64)) = (0 : Int64))) :
    MetFree l ym4 (head1 (Jvm.Cond.code ym4 prog_52_method_4_code 1 (some .long) :: ws) ({ frames := 0, cells := 0, slots := 0, locals := 0 } : Room)) (fun a U => a = #[(.ref o1)] ∧ Z.Warmed39 U.vm ∧ U.heap = h0) (fun _ _ _ _ _ => True) (fun _ U o U' => ∃ v L, o = .returned v ∧ Q6_5 Z w o1 q2 q3 h0 n0 v U'.heap L ∧ FrameEnd U o U' L ({ frames := 0, cells := 0, slots := 0, locals := 0 } : Room).cells ({ frames := 0, cells := 0, slots := 0, locals := 0 } : Room).slots) := by
  refine MetFree.of_bodySF (plainFor_of_name pnc_2) hisR ?_
  intro p e s m args below meth c s₁ Bd hml0 hP hK
  obtain ⟨rfl, hZ, hh⟩ := hP
  have hx := Bd.exec
  have hby := Bd.bytes
  have hml : c.maxLocals = 1 := hml0
  have hown : s.vm.findClass "com/example/lusto/lusto/TransferBench$Result" = some m.cls := findClass_of_methodNamed Bd.named
  have hnm := (name_of_methodNamed Bd.named Bd.method).1
  have X0 : Stand p l e ({ frames := 0, cells := 0, slots := 0, locals := 0 } : Room) s m #[(.ref o1)] below meth c s₁ [] 0 0 := Stand.of_body Bd
  have e0 : s₁.heap = h0 := by rw [← hh, Bd.state]; rfl
  have N0 := Fr.nil n0
  skip
  have pre0 : ∀ t, Steps p.tables e below (s₁.setTop (mkF m 0 #[.val (.ref o1)] [])) t → Steps p.tables e below (s₁.setTop (entryFrame m #[(.ref o1)] 1)) t := fun t k => castTop (ef_6_5 m o1) k
  obtain ⟨T1, X1, e1, st1⟩ := getF X0 hx hZ hown (host := "") (Or.inl (wk35 hw)) Via.refl e0 f1 (g := (mkF m 4 #[.val (.ref o1)] [(.ref o1), (.long (2 : Int64))])) rfl rfl (hb hby d6_4)
  obtain ⟨T2, X2, e2, st2⟩ := getF X1 hx hZ hown (host := "") (Or.inl (wk33 hw)) Via.refl e1 f2 (g := (mkF m 9 #[.val (.ref o1)] [(.ref o1), (.long ((2 : Int64) * q2))])) rfl rfl (hb hby d6_9)
  obtain ⟨T3, X3, e3, st3⟩ := getF X2 hx hZ hown (host := "") (Or.inl (wk33 hw)) Via.refl e2 f2 (g := (mkF m 18 #[.val (.ref o1)] [(.ref o1), (.long (2 : Int64)), (.long (((2 : Int64) * q2) + (q3.toInt64)))])) rfl rfl (hb hby d6_18)
  obtain ⟨fs, hr, hrun, hended, hWm, hsame⟩ := X3.leave (v := some (.long ((((2 : Int64) * q2) + (q3.toInt64)) / ((2 : Int64) * (q3.toInt64))))) (fun h => by rw [Bd.returns] at h; cases h)
  refine ⟨_, _, pre0 _ ?_, hrun, hended, _, _, rfl, ?_, ⟨_, rfl⟩, hWm, hsame.mono (by decide) (by decide)⟩
  · show Steps p.tables e below (s₁.setTop (mkF m 0 #[.val (.ref o1)] [])) _
    refine X0.ldc2Long hx hown (mvT hZ (wk46 hw)) (g := (mkF m 0 #[.val (.ref o1)] [])) rfl (hb hby d6_0) _ ?_
    refine sA X0 hx hby d6_3 rfl rfl ?_
    refine st1 _ ?_
    refine XS.lmul X1.here hx rfl (hb hby d6_7) rfl ?_
    refine sA X1 hx hby d6_8 rfl rfl ?_
    refine st2 _ ?_
    refine XS.i2l X2.here hx rfl (hb hby d6_12) rfl ?_
    refine XS.ladd X2.here hx rfl (hb hby d6_13) rfl ?_
    refine X2.ldc2Long hx hown (mvT hZ (wk46 hw)) (g := (mkF m 14 #[.val (.ref o1)] [(.long (((2 : Int64) * q2) + (q3.toInt64)))])) rfl (hb hby d6_14) _ ?_
    refine sA X2 hx hby d6_17 rfl rfl ?_
    refine st3 _ ?_
    refine XS.i2l X3.here hx rfl (hb hby d6_21) rfl ?_
    refine XS.lmul X3.here hx rfl (hb hby d6_22) rfl ?_
    refine XS.ldiv X3.here hx rfl (hb hby d6_23) rfl c3 ?_
    jvm_step X3.here [X3.here.top, hx, (hb hby d6_24), X3.method', Bd.returns, narrow]
    first | (intro acts; rw [hr _ acts rfl rfl rfl]) | rw [hr _ _ rfl rfl rfl]
    exact Steps.refl _
  · show Q6_5 Z w o1 q2 q3 h0 n0 _ T3.heap _
    rw [e3]
    exact ⟨rfl, N0, rfl⟩
theorem pds_4 : parseMethodDescriptor "()J" = some ⟨[], some .long⟩ := by decide +kernel
theorem d2_12 : decode method_2_code 12 = .ok (.iload_n 1, 1) := by decide +kernel
theorem d2_13 : decode method_2_code 13 = .ok (.iconst 1, 1) := by decide +kernel
theorem d2_14 : decode method_2_code 14 = .ok (.if_icmp .ne 7, 3) := by decide +kernel
theorem d2_17 : decode method_2_code 17 = .ok (.getstatic 13, 3) := by decide +kernel
theorem d2_20 : decode method_2_code 20 = .ok (.areturn, 1) := by decide +kernel
theorem ef_2_6 (m : MethodId) (q1 : Int32) : entryFrame m #[(.int q1)] 2 = mkF m 0 #[.val (.int q1), .unset] [] := by first | (simp [entryFrame, mkF, argsToLocals, Value.category]; done) | rfl
def Q2_6 (Z : State) (w : Nat → Addr) (q1 : Int32) (h0 : Heap) (n0 : Nat) (v : Option Value) (h : Heap) (L : List Loc) : Prop := v = some (.ref (w 0)) ∧ Fr n0 L ∧ h = h0
set_option maxRecDepth 65536 in
set_option maxHeartbeats 40000000 in
theorem rm2_6 (l : Launch) (Z : State) (a0 : Array Value) (hw : ∀ d ∈ tables_1, d.before a0 Z = true) (w : Nat → Addr) (hW : Wd Z w) (ws : List Jvm.Cond) (q1 : Int32) (h0 : Heap) (n0 : Nat) (O0 : Old Z n0 h0) (c1 : ¬ ((q1 &&& (3 : Int32)) = (0 : Int32))) (c2 : (q1 &&& (3 : Int32)) = (1 : Int32)) :
    MetFree l ym1 (head1 (Jvm.Cond.code ym1 method_2_code 2 (some (.object "com/example/lusto/lusto/IsolationLevel")) :: ws) ({ frames := 0, cells := 0, slots := 0, locals := 0 } : Room)) (fun a U => a = #[(.int q1)] ∧ Z.Warmed39 U.vm ∧ U.heap = h0) (fun _ _ _ _ _ => True) (fun _ U o U' => ∃ v L, o = .returned v ∧ Q2_6 Z w q1 h0 n0 v U'.heap L ∧ FrameEnd U o U' L ({ frames := 0, cells := 0, slots := 0, locals := 0 } : Room).cells ({ frames := 0, cells := 0, slots := 0, locals := 0 } : Room).slots) := by
  refine MetFree.of_bodySF (plainFor_of_name pnc_0) hisR ?_
  intro p e s m args below meth c s₁ Bd hml0 hP hK
  obtain ⟨rfl, hZ, hh⟩ := hP
  have hx := Bd.exec
  have hby := Bd.bytes
  have hml : c.maxLocals = 2 := hml0
  have hown : s.vm.findClass "com/example/lusto/lusto/ResultCommitsPerSecondPinLaw" = some m.cls := findClass_of_methodNamed Bd.named
  have hnm := (name_of_methodNamed Bd.named Bd.method).1
  have X0 : Stand p l e ({ frames := 0, cells := 0, slots := 0, locals := 0 } : Room) s m #[(.int q1)] below meth c s₁ [] 0 0 := Stand.of_body Bd
  have e0 : s₁.heap = h0 := by rw [← hh, Bd.state]; rfl
  have N0 := Fr.nil n0
  skip
  have pre0 : ∀ t, Steps p.tables e below (s₁.setTop (mkF m 0 #[.val (.int q1), .unset] [])) t → Steps p.tables e below (s₁.setTop (entryFrame m #[(.int q1)] 2)) t := fun t k => castTop (ef_2_6 m q1) k
  let Lb1 : Array Slot := #[.val (.int q1), .val (.int (q1 &&& (3 : Int32)))]
  obtain ⟨T2, X2, e2, st2⟩ := getS2 X0 hx hZ hown (host := "") (Or.inl (wk13 hw)) Via.refl e0 ((wd0 hW).ext O0.2) (g := (mkF m 17 Lb1 [])) rfl (hb hby d2_17)
  obtain ⟨fs, hr, hrun, hended, hWm, hsame⟩ := X2.leave (v := some (.ref (w 0))) (fun h => by rw [Bd.returns] at h; cases h)
  refine ⟨_, _, pre0 _ ?_, hrun, hended, _, _, rfl, ?_, ⟨_, rfl⟩, hWm, hsame.mono (by decide) (by decide)⟩
  · show Steps p.tables e below (s₁.setTop (mkF m 0 #[.val (.int q1), .unset] [])) _
    refine sI X0 hx hby d2_0 rfl ?_
    refine sc X0 hx hby d2_1 ?_
    refine XS.iand X0.here hx rfl (hb hby d2_2) rfl ?_
    refine XS.istoreN X0.here hx rfl (hb hby d2_3) rfl (l' := Lb1) rfl ?_
    refine sI X0 hx hby d2_4 rfl ?_
    refine XS.ifYes X0.here hx rfl (pc0 := 5) (pc' := 12) rfl (hb hby d2_5) rfl ((if0 _ _).trans (feq (c1 : ¬ ((q1 &&& (3 : Int32)) = (0 : Int32)))).2) (by decide) (by decide) ?_
    refine sI X0 hx hby d2_12 rfl ?_
    refine sc X0 hx hby d2_13 ?_
    refine sn X0 hx hby d2_14 (teq (c2 : (q1 &&& (3 : Int32)) = (1 : Int32))).2 ?_
    refine st2 _ ?_
    jvm_step X2.here [X2.here.top, hx, (hb hby d2_20), X2.method', Bd.returns, Value.isRef, FieldType.isReference]
    first | (intro acts; rw [hr _ acts rfl rfl rfl]) | rw [hr _ _ rfl rfl rfl]
    exact Steps.refl _
  · show Q2_6 Z w q1 h0 n0 _ T2.heap _
    rw [e2]
    exact ⟨rfl, N0, rfl⟩
theorem ef_3_7 (m : MethodId) (w : Nat → Addr) (o1 : Addr) (q2 : Int32) (q3 : Int32) (q4 : Int32) (q5 : Int64) (q6 : Int64) (q7 : Int64) : entryFrame m #[(.ref o1), (.ref (w 0)), (.int q2), (.int q3), (.int q4), (.long q5), (.long q6), (.long q7)] 11 = mkF m 0 #[.val (.ref o1), .val (.ref (w 0)), .val (.int q2), .val (.int q3), .val (.int q4), .val (.long q5), .second, .val (.long q6), .second, .val (.long q7), .second] [] := by first | (simp [entryFrame, mkF, argsToLocals, Value.category]; done) | rfl
def Q3_7 (Z : State) (w : Nat → Addr) (o1 : Addr) (q2 : Int32) (q3 : Int32) (q4 : Int32) (q5 : Int64) (q6 : Int64) (q7 : Int64) (h0 : Heap) (n0 : Nat) (v : Option Value) (h : Heap) (L : List Loc) : Prop := v = none ∧ Fr n0 L ∧ own_KL h0 h [⟨o1, Jvm.RoadKit.slotOf Z "com/example/lusto/lusto/TransferBench$Result" "level" "Lcom/example/lusto/lusto/IsolationLevel;"⟩, ⟨o1, Jvm.RoadKit.slotOf Z "com/example/lusto/lusto/TransferBench$Result" "threads" "I"⟩, ⟨o1, Jvm.RoadKit.slotOf Z "com/example/lusto/lusto/TransferBench$Result" "accounts" "I"⟩, ⟨o1, Jvm.RoadKit.slotOf Z "com/example/lusto/lusto/TransferBench$Result" "seconds" "I"⟩, ⟨o1, Jvm.RoadKit.slotOf Z "com/example/lusto/lusto/TransferBench$Result" "commits" "J"⟩, ⟨o1, Jvm.RoadKit.slotOf Z "com/example/lusto/lusto/TransferBench$Result" "aborts" "J"⟩, ⟨o1, Jvm.RoadKit.slotOf Z "com/example/lusto/lusto/TransferBench$Result" "total" "J"⟩] ∧ Fld Z h o1 "com/example/lusto/lusto/TransferBench$Result" "level" "Lcom/example/lusto/lusto/IsolationLevel;" (.ref (w 0)) ∧ Fld Z h o1 "com/example/lusto/lusto/TransferBench$Result" "threads" "I" (.int q2) ∧ Fld Z h o1 "com/example/lusto/lusto/TransferBench$Result" "accounts" "I" (.int q3) ∧ Fld Z h o1 "com/example/lusto/lusto/TransferBench$Result" "seconds" "I" (.int q4) ∧ Fld Z h o1 "com/example/lusto/lusto/TransferBench$Result" "commits" "J" (.long q5) ∧ Fld Z h o1 "com/example/lusto/lusto/TransferBench$Result" "aborts" "J" (.long q6) ∧ Fld Z h o1 "com/example/lusto/lusto/TransferBench$Result" "total" "J" (.long q7)
set_option maxRecDepth 65536 in
set_option maxHeartbeats 40000000 in
theorem rm3_7 (l : Launch) (Z : State) (a0 : Array Value) (hw : ∀ d ∈ tables_1, d.before a0 Z = true) (w : Nat → Addr) (hW : Wd Z w) (ws : List Jvm.Cond) (o1 : Addr) (q2 : Int32) (q3 : Int32) (q4 : Int32) (q5 : Int64) (q6 : Int64) (q7 : Int64) (h0 : Heap) (n0 : Nat) (O0 : Old Z n0 h0) (f1 : Exa Z h0 o1 "com/example/lusto/lusto/TransferBench$Result") (f2 : Fld Z h0 o1 "com/example/lusto/lusto/TransferBench$Result" "level" "Lcom/example/lusto/lusto/IsolationLevel;" .null) (g3 : n0 ≤ o1) (f4 : Fld Z h0 o1 "com/example/lusto/lusto/TransferBench$Result" "threads" "I" (.int (0 : Int32))) (f5 : Fld Z h0 o1 "com/example/lusto/lusto/TransferBench$Result" "accounts" "I" (.int (0 : Int32))) (f6 : Fld Z h0 o1 "com/example/lusto/lusto/TransferBench$Result" "seconds" "I" (.int (0 : Int32))) (f7 : Fld Z h0 o1 "com/example/lusto/lusto/TransferBench$Result" "commits" "J" (.long (0 : Int64))) (f8 : Fld Z h0 o1 "com/example/lusto/lusto/TransferBench$Result" "aborts" "J" (.long (0 : Int64))) (f9 : Fld Z h0 o1 "com/example/lusto/lusto/TransferBench$Result" "total" "J" (.long (0 : Int64))) :
    MetFree l ym3 (head1 (Jvm.Cond.code ym3 prog_52_method_1_code 11 none :: ws) ({ frames := 2, cells := 0, slots := 0, locals := 24 } : Room)) (fun a U => a = #[(.ref o1), (.ref (w 0)), (.int q2), (.int q3), (.int q4), (.long q5), (.long q6), (.long q7)] ∧ Z.Warmed39 U.vm ∧ U.heap = h0) (fun _ _ _ _ _ => True) (fun _ U o U' => ∃ v L, o = .returned v ∧ Q3_7 Z w o1 q2 q3 q4 q5 q6 q7 h0 n0 v U'.heap L ∧ FrameEnd U o U' L ({ frames := 2, cells := 0, slots := 0, locals := 24 } : Room).cells ({ frames := 2, cells := 0, slots := 0, locals := 24 } : Room).slots) := by
  refine MetFree.of_bodySF (plainFor_of_name pnc_2) hisR ?_
  intro p e s m args below meth c s₁ Bd hml0 hP hK
  obtain ⟨rfl, hZ, hh⟩ := hP
  have hx := Bd.exec
  have hby := Bd.bytes
  have hml : c.maxLocals = 11 := hml0
  have hown : s.vm.findClass "com/example/lusto/lusto/TransferBench$Result" = some m.cls := findClass_of_methodNamed Bd.named
  have hnm := (name_of_methodNamed Bd.named Bd.method).1
  have X0 : Stand p l e ({ frames := 2, cells := 0, slots := 0, locals := 24 } : Room) s m #[(.ref o1), (.ref (w 0)), (.int q2), (.int q3), (.int q4), (.long q5), (.long q6), (.long q7)] below meth c s₁ [] 0 0 := Stand.of_body Bd
  have e0 : s₁.heap = h0 := by rw [← hh, Bd.state]; rfl
  have N0 := Fr.nil n0
  let La : Array Slot := #[.val (.ref o1), .val (.ref (w 0)), .val (.int q2), .val (.int q3), .val (.int q4), .val (.long q5), .second, .val (.long q6), .second, .val (.long q7), .second]
  have pre0 : ∀ t, Steps p.tables e below (s₁.setTop (mkF m 0 #[.val (.ref o1), .val (.ref (w 0)), .val (.int q2), .val (.int q3), .val (.int q4), .val (.long q5), .second, .val (.long q6), .second, .val (.long q7), .second] [])) t → Steps p.tables e below (s₁.setTop (entryFrame m #[(.ref o1), (.ref (w 0)), (.int q2), (.int q3), (.int q4), (.long q5), (.long q6), (.long q7)] 11)) t := fun t k => castTop (ef_3_7 m w o1 q2 q3 q4 q5 q6 q7) k
  obtain ⟨_, _, ⟨T1, L1, kk1, nn1⟩, -, X1, ⟨Lc1, hQ1, l1, y1, z1⟩, st1⟩ := X0.specialBack hx (y := ym2) rfl hown (mvT hZ (wk19 hw)) (mvT hZ (wk20 hw)) (mvT hZ (wk23 hw)) (by decide) (backOf (W := 0) (rm4_3 l Z a0 hw w hW [] o1 h0 n0 O0 ) hZ (wk23 hw) (wk22 hw) (by decide) (by decide)) (g := (mkF m 1 La [(.ref o1)])) rfl (by rw [hml]; rfl) (Steps.refl _) (a := o1) (argsL := []) (rest := []) (lenOf pds_2 rfl) rfl (by show 2 * 0 + _ ≤ _; exact Nat.le_of_eq rfl) (hb hby d3_1) (fun _ _ => ⟨rfl, e0, (by decide : 0 + 0 ≤ _), (by decide : 0 + 0 ≤ _)⟩)
  dsimp only [Pt.U, Pt.locs, Pt.cells, Pt.slots] at X1 l1 y1 z1 st1 hQ1
  subst l1 y1 z1
  obtain ⟨rfl, N1q, e1⟩ := hQ1
  have N1 := Fr.app N0 N1q
  obtain ⟨T2, h2, X2, e2, W2, st2⟩ := putF X1 hx hZ hown (host := "") (Or.inl (wk27 hw)) Via.refl e1 f2 f1 (Or.inr ⟨(wk28 hw), rfl, hnm⟩) (wk7 hw) (ty := (.object "com/example/lusto/lusto/IsolationLevel")) (by decide) rfl rfl (g := (mkF m 6 La [(.ref (w 0)), (.ref o1)])) rfl rfl (hb hby d3_6)
  have F2 : Fld Z h2 o1 "com/example/lusto/lusto/TransferBench$Result" "level" "Lcom/example/lusto/lusto/IsolationLevel;" (.ref (w 0)) := f2.same W2
  have N2 := Fr.snoc X2 N1 g3
  have O3 := O0.wr W2 g3
  have t4 := (f4.other W2 (Or.inr (sn0 hw)))
  have t5 := (f1.wr W2)
  obtain ⟨T6, h6, X6, e6, W6, st6⟩ := putF X2 hx hZ hown (host := "") (Or.inl (wk29 hw)) Via.refl e2 t4 t5 (Or.inr ⟨(wk30 hw), rfl, hnm⟩) (wk7 hw) (ty := .int) (by decide) rfl rfl (g := (mkF m 11 La [(.int q2), (.ref o1)])) rfl rfl (hb hby d3_11)
  have F6 : Fld Z h6 o1 "com/example/lusto/lusto/TransferBench$Result" "threads" "I" (.int q2) := t4.same W6
  have N6 := Fr.snoc X6 N2 g3
  have O7 := O3.wr W6 g3
  have t8 := ((f5.other W2 (Or.inr (sn1 hw))).other W6 (Or.inr (sn2 hw)))
  have t9 := (t5.wr W6)
  obtain ⟨T10, h10, X10, e10, W10, st10⟩ := putF X6 hx hZ hown (host := "") (Or.inl (wk31 hw)) Via.refl e6 t8 t9 (Or.inr ⟨(wk32 hw), rfl, hnm⟩) (wk7 hw) (ty := .int) (by decide) rfl rfl (g := (mkF m 16 La [(.int q3), (.ref o1)])) rfl rfl (hb hby d3_16)
  have F10 : Fld Z h10 o1 "com/example/lusto/lusto/TransferBench$Result" "accounts" "I" (.int q3) := t8.same W10
  have N10 := Fr.snoc X10 N6 g3
  have O11 := O7.wr W10 g3
  have t12 := (((f6.other W2 (Or.inr (sn3 hw))).other W6 (Or.inr (sn4 hw))).other W10 (Or.inr (sn5 hw)))
  have t13 := (t9.wr W10)
  obtain ⟨T14, h14, X14, e14, W14, st14⟩ := putF X10 hx hZ hown (host := "") (Or.inl (wk33 hw)) Via.refl e10 t12 t13 (Or.inr ⟨(wk34 hw), rfl, hnm⟩) (wk7 hw) (ty := .int) (by decide) rfl rfl (g := (mkF m 22 La [(.int q4), (.ref o1)])) rfl rfl (hb hby d3_22)
  have F14 : Fld Z h14 o1 "com/example/lusto/lusto/TransferBench$Result" "seconds" "I" (.int q4) := t12.same W14
  have N14 := Fr.snoc X14 N10 g3
  have O15 := O11.wr W14 g3
  have t16 := ((((f7.other W2 (Or.inr (sn6 hw))).other W6 (Or.inr (sn7 hw))).other W10 (Or.inr (sn8 hw))).other W14 (Or.inr (sn9 hw)))
  have t17 := (t13.wr W14)
  obtain ⟨T18, h18, X18, e18, W18, st18⟩ := putF X14 hx hZ hown (host := "") (Or.inl (wk35 hw)) Via.refl e14 t16 t17 (Or.inr ⟨(wk36 hw), rfl, hnm⟩) (wk7 hw) (ty := .long) (by decide) rfl rfl (g := (mkF m 28 La [(.long q5), (.ref o1)])) rfl rfl (hb hby d3_28)
  have F18 : Fld Z h18 o1 "com/example/lusto/lusto/TransferBench$Result" "commits" "J" (.long q5) := t16.same W18
  have N18 := Fr.snoc X18 N14 g3
  have O19 := O15.wr W18 g3
  have t20 := (((((f8.other W2 (Or.inr (sn10 hw))).other W6 (Or.inr (sn11 hw))).other W10 (Or.inr (sn12 hw))).other W14 (Or.inr (sn13 hw))).other W18 (Or.inr (sn14 hw)))
  have t21 := (t17.wr W18)
  obtain ⟨T22, h22, X22, e22, W22, st22⟩ := putF X18 hx hZ hown (host := "") (Or.inl (wk37 hw)) Via.refl e18 t20 t21 (Or.inr ⟨(wk38 hw), rfl, hnm⟩) (wk7 hw) (ty := .long) (by decide) rfl rfl (g := (mkF m 34 La [(.long q6), (.ref o1)])) rfl rfl (hb hby d3_34)
  have F22 : Fld Z h22 o1 "com/example/lusto/lusto/TransferBench$Result" "aborts" "J" (.long q6) := t20.same W22
  have N22 := Fr.snoc X22 N18 g3
  have O23 := O19.wr W22 g3
  have t24 := ((((((f9.other W2 (Or.inr (sn15 hw))).other W6 (Or.inr (sn16 hw))).other W10 (Or.inr (sn17 hw))).other W14 (Or.inr (sn18 hw))).other W18 (Or.inr (sn19 hw))).other W22 (Or.inr (sn20 hw)))
  have t25 := (t21.wr W22)
  obtain ⟨T26, h26, X26, e26, W26, st26⟩ := putF X22 hx hZ hown (host := "") (Or.inl (wk39 hw)) Via.refl e22 t24 t25 (Or.inr ⟨(wk40 hw), rfl, hnm⟩) (wk7 hw) (ty := .long) (by decide) rfl rfl (g := (mkF m 40 La [(.long q7), (.ref o1)])) rfl rfl (hb hby d3_40)
  have F26 : Fld Z h26 o1 "com/example/lusto/lusto/TransferBench$Result" "total" "J" (.long q7) := t24.same W26
  have N26 := Fr.snoc X26 N22 g3
  have O27 := O23.wr W26 g3
  obtain ⟨fs, hr, hrun, hended, hWm, hsame⟩ := X26.leave (v := none) (fun _ => rfl)
  have Kf28 : own_KL h0 h26 [⟨o1, Jvm.RoadKit.slotOf Z "com/example/lusto/lusto/TransferBench$Result" "level" "Lcom/example/lusto/lusto/IsolationLevel;"⟩, ⟨o1, Jvm.RoadKit.slotOf Z "com/example/lusto/lusto/TransferBench$Result" "threads" "I"⟩, ⟨o1, Jvm.RoadKit.slotOf Z "com/example/lusto/lusto/TransferBench$Result" "accounts" "I"⟩, ⟨o1, Jvm.RoadKit.slotOf Z "com/example/lusto/lusto/TransferBench$Result" "seconds" "I"⟩, ⟨o1, Jvm.RoadKit.slotOf Z "com/example/lusto/lusto/TransferBench$Result" "commits" "J"⟩, ⟨o1, Jvm.RoadKit.slotOf Z "com/example/lusto/lusto/TransferBench$Result" "aborts" "J"⟩, ⟨o1, Jvm.RoadKit.slotOf Z "com/example/lusto/lusto/TransferBench$Result" "total" "J"⟩] := (own_klW (own_klW (own_klW (own_klW (own_klW (own_klW (own_klW (own_kl0 h0 [⟨o1, Jvm.RoadKit.slotOf Z "com/example/lusto/lusto/TransferBench$Result" "level" "Lcom/example/lusto/lusto/IsolationLevel;"⟩, ⟨o1, Jvm.RoadKit.slotOf Z "com/example/lusto/lusto/TransferBench$Result" "threads" "I"⟩, ⟨o1, Jvm.RoadKit.slotOf Z "com/example/lusto/lusto/TransferBench$Result" "accounts" "I"⟩, ⟨o1, Jvm.RoadKit.slotOf Z "com/example/lusto/lusto/TransferBench$Result" "seconds" "I"⟩, ⟨o1, Jvm.RoadKit.slotOf Z "com/example/lusto/lusto/TransferBench$Result" "commits" "J"⟩, ⟨o1, Jvm.RoadKit.slotOf Z "com/example/lusto/lusto/TransferBench$Result" "aborts" "J"⟩, ⟨o1, Jvm.RoadKit.slotOf Z "com/example/lusto/lusto/TransferBench$Result" "total" "J"⟩]) W2 (Or.inl (List.mem_of_getElem? (i := 0) rfl))) W6 (Or.inl (List.mem_of_getElem? (i := 1) rfl))) W10 (Or.inl (List.mem_of_getElem? (i := 2) rfl))) W14 (Or.inl (List.mem_of_getElem? (i := 3) rfl))) W18 (Or.inl (List.mem_of_getElem? (i := 4) rfl))) W22 (Or.inl (List.mem_of_getElem? (i := 5) rfl))) W26 (Or.inl (List.mem_of_getElem? (i := 6) rfl)))
  have t29 := ((((((F2.other W6 (Or.inr (sn21 hw))).other W10 (Or.inr (sn22 hw))).other W14 (Or.inr (sn23 hw))).other W18 (Or.inr (sn24 hw))).other W22 (Or.inr (sn25 hw))).other W26 (Or.inr (sn26 hw)))
  have t30 := (((((F6.other W10 (Or.inr (sn27 hw))).other W14 (Or.inr (sn28 hw))).other W18 (Or.inr (sn29 hw))).other W22 (Or.inr (sn30 hw))).other W26 (Or.inr (sn31 hw)))
  have t31 := ((((F10.other W14 (Or.inr (sn32 hw))).other W18 (Or.inr (sn33 hw))).other W22 (Or.inr (sn34 hw))).other W26 (Or.inr (sn35 hw)))
  have t32 := (((F14.other W18 (Or.inr (sn36 hw))).other W22 (Or.inr (sn37 hw))).other W26 (Or.inr (sn38 hw)))
  have t33 := ((F18.other W22 (Or.inr (sn39 hw))).other W26 (Or.inr (sn40 hw)))
  have t34 := (F22.other W26 (Or.inr (sn41 hw)))
  refine ⟨_, _, pre0 _ ?_, hrun, hended, _, _, rfl, ?_, ⟨_, rfl⟩, hWm, hsame.mono (by decide) (by decide)⟩
  · show Steps p.tables e below (s₁.setTop (mkF m 0 La [])) _
    refine sA X0 hx hby d3_0 rfl rfl ?_
    refine st1.trans ?_
    refine sA X1 hx hby d3_4 rfl rfl ?_
    refine sA X1 hx hby d3_5 rfl rfl ?_
    refine st2 _ ?_
    refine sA X2 hx hby d3_9 rfl rfl ?_
    refine sI X2 hx hby d3_10 rfl ?_
    refine st6 _ ?_
    refine sA X6 hx hby d3_14 rfl rfl ?_
    refine sI X6 hx hby d3_15 rfl ?_
    refine st10 _ ?_
    refine sA X10 hx hby d3_19 rfl rfl ?_
    refine si X10 hx hby d3_20 rfl ?_
    refine st14 _ ?_
    refine sA X14 hx hby d3_25 rfl rfl ?_
    refine XS.lload X14.here hx rfl (hb hby d3_26) rfl ?_
    refine st18 _ ?_
    refine sA X18 hx hby d3_31 rfl rfl ?_
    refine XS.lload X18.here hx rfl (hb hby d3_32) rfl ?_
    refine st22 _ ?_
    refine sA X22 hx hby d3_37 rfl rfl ?_
    refine XS.lload X22.here hx rfl (hb hby d3_38) rfl ?_
    refine st26 _ ?_
    exact X26.returnOut hx Bd.returns (hb hby d3_43) hr
  · show Q3_7 Z w o1 q2 q3 q4 q5 q6 q7 h0 n0 _ T26.heap _
    rw [e26]
    exact ⟨rfl, N26, Kf28, t29, t30, t31, t32, t33, t34, F26⟩
theorem d2_21 : decode method_2_code 21 = .ok (.iload_n 1, 1) := by decide +kernel
theorem d2_22 : decode method_2_code 22 = .ok (.iconst 2, 1) := by decide +kernel
theorem d2_23 : decode method_2_code 23 = .ok (.if_icmp .ne 7, 3) := by decide +kernel
theorem d2_26 : decode method_2_code 26 = .ok (.getstatic 16, 3) := by decide +kernel
theorem d2_29 : decode method_2_code 29 = .ok (.areturn, 1) := by decide +kernel
theorem ef_2_8 (m : MethodId) (q1 : Int32) : entryFrame m #[(.int q1)] 2 = mkF m 0 #[.val (.int q1), .unset] [] := by first | (simp [entryFrame, mkF, argsToLocals, Value.category]; done) | rfl
def Q2_8 (Z : State) (w : Nat → Addr) (q1 : Int32) (h0 : Heap) (n0 : Nat) (v : Option Value) (h : Heap) (L : List Loc) : Prop := v = some (.ref (w 1)) ∧ Fr n0 L ∧ h = h0
set_option maxRecDepth 65536 in
set_option maxHeartbeats 40000000 in
theorem rm2_8 (l : Launch) (Z : State) (a0 : Array Value) (hw : ∀ d ∈ tables_1, d.before a0 Z = true) (w : Nat → Addr) (hW : Wd Z w) (ws : List Jvm.Cond) (q1 : Int32) (h0 : Heap) (n0 : Nat) (O0 : Old Z n0 h0) (c1 : ¬ ((q1 &&& (3 : Int32)) = (0 : Int32))) (c2 : ¬ ((q1 &&& (3 : Int32)) = (1 : Int32))) (c3 : (q1 &&& (3 : Int32)) = (2 : Int32)) :
    MetFree l ym1 (head1 (Jvm.Cond.code ym1 method_2_code 2 (some (.object "com/example/lusto/lusto/IsolationLevel")) :: ws) ({ frames := 0, cells := 0, slots := 0, locals := 0 } : Room)) (fun a U => a = #[(.int q1)] ∧ Z.Warmed39 U.vm ∧ U.heap = h0) (fun _ _ _ _ _ => True) (fun _ U o U' => ∃ v L, o = .returned v ∧ Q2_8 Z w q1 h0 n0 v U'.heap L ∧ FrameEnd U o U' L ({ frames := 0, cells := 0, slots := 0, locals := 0 } : Room).cells ({ frames := 0, cells := 0, slots := 0, locals := 0 } : Room).slots) := by
  refine MetFree.of_bodySF (plainFor_of_name pnc_0) hisR ?_
  intro p e s m args below meth c s₁ Bd hml0 hP hK
  obtain ⟨rfl, hZ, hh⟩ := hP
  have hx := Bd.exec
  have hby := Bd.bytes
  have hml : c.maxLocals = 2 := hml0
  have hown : s.vm.findClass "com/example/lusto/lusto/ResultCommitsPerSecondPinLaw" = some m.cls := findClass_of_methodNamed Bd.named
  have hnm := (name_of_methodNamed Bd.named Bd.method).1
  have X0 : Stand p l e ({ frames := 0, cells := 0, slots := 0, locals := 0 } : Room) s m #[(.int q1)] below meth c s₁ [] 0 0 := Stand.of_body Bd
  have e0 : s₁.heap = h0 := by rw [← hh, Bd.state]; rfl
  have N0 := Fr.nil n0
  skip
  have pre0 : ∀ t, Steps p.tables e below (s₁.setTop (mkF m 0 #[.val (.int q1), .unset] [])) t → Steps p.tables e below (s₁.setTop (entryFrame m #[(.int q1)] 2)) t := fun t k => castTop (ef_2_8 m q1) k
  let Lb1 : Array Slot := #[.val (.int q1), .val (.int (q1 &&& (3 : Int32)))]
  obtain ⟨T2, X2, e2, st2⟩ := getS2 X0 hx hZ hown (host := "") (Or.inl (wk48 hw)) Via.refl e0 ((wd2 hW).ext O0.2) (g := (mkF m 26 Lb1 [])) rfl (hb hby d2_26)
  obtain ⟨fs, hr, hrun, hended, hWm, hsame⟩ := X2.leave (v := some (.ref (w 1))) (fun h => by rw [Bd.returns] at h; cases h)
  refine ⟨_, _, pre0 _ ?_, hrun, hended, _, _, rfl, ?_, ⟨_, rfl⟩, hWm, hsame.mono (by decide) (by decide)⟩
  · show Steps p.tables e below (s₁.setTop (mkF m 0 #[.val (.int q1), .unset] [])) _
    refine sI X0 hx hby d2_0 rfl ?_
    refine sc X0 hx hby d2_1 ?_
    refine XS.iand X0.here hx rfl (hb hby d2_2) rfl ?_
    refine XS.istoreN X0.here hx rfl (hb hby d2_3) rfl (l' := Lb1) rfl ?_
    refine sI X0 hx hby d2_4 rfl ?_
    refine XS.ifYes X0.here hx rfl (pc0 := 5) (pc' := 12) rfl (hb hby d2_5) rfl ((if0 _ _).trans (feq (c1 : ¬ ((q1 &&& (3 : Int32)) = (0 : Int32)))).2) (by decide) (by decide) ?_
    refine sI X0 hx hby d2_12 rfl ?_
    refine sc X0 hx hby d2_13 ?_
    refine XS.icmpYes X0.here hx rfl (pc0 := 14) (pc' := 21) rfl (hb hby d2_14) rfl (feq (c2 : ¬ ((q1 &&& (3 : Int32)) = (1 : Int32)))).2 (by decide) (by decide) ?_
    refine sI X0 hx hby d2_21 rfl ?_
    refine sc X0 hx hby d2_22 ?_
    refine sn X0 hx hby d2_23 (teq (c3 : (q1 &&& (3 : Int32)) = (2 : Int32))).2 ?_
    refine st2 _ ?_
    jvm_step X2.here [X2.here.top, hx, (hb hby d2_29), X2.method', Bd.returns, Value.isRef, FieldType.isReference]
    first | (intro acts; rw [hr _ acts rfl rfl rfl]) | rw [hr _ _ rfl rfl rfl]
    exact Steps.refl _
  · show Q2_8 Z w q1 h0 n0 _ T2.heap _
    rw [e2]
    exact ⟨rfl, N0, rfl⟩
theorem ef_3_9 (m : MethodId) (w : Nat → Addr) (o1 : Addr) (q2 : Int32) (q3 : Int32) (q4 : Int32) (q5 : Int64) (q6 : Int64) (q7 : Int64) : entryFrame m #[(.ref o1), (.ref (w 1)), (.int q2), (.int q3), (.int q4), (.long q5), (.long q6), (.long q7)] 11 = mkF m 0 #[.val (.ref o1), .val (.ref (w 1)), .val (.int q2), .val (.int q3), .val (.int q4), .val (.long q5), .second, .val (.long q6), .second, .val (.long q7), .second] [] := by first | (simp [entryFrame, mkF, argsToLocals, Value.category]; done) | rfl
def Q3_9 (Z : State) (w : Nat → Addr) (o1 : Addr) (q2 : Int32) (q3 : Int32) (q4 : Int32) (q5 : Int64) (q6 : Int64) (q7 : Int64) (h0 : Heap) (n0 : Nat) (v : Option Value) (h : Heap) (L : List Loc) : Prop := v = none ∧ Fr n0 L ∧ own_KL h0 h [⟨o1, Jvm.RoadKit.slotOf Z "com/example/lusto/lusto/TransferBench$Result" "level" "Lcom/example/lusto/lusto/IsolationLevel;"⟩, ⟨o1, Jvm.RoadKit.slotOf Z "com/example/lusto/lusto/TransferBench$Result" "threads" "I"⟩, ⟨o1, Jvm.RoadKit.slotOf Z "com/example/lusto/lusto/TransferBench$Result" "accounts" "I"⟩, ⟨o1, Jvm.RoadKit.slotOf Z "com/example/lusto/lusto/TransferBench$Result" "seconds" "I"⟩, ⟨o1, Jvm.RoadKit.slotOf Z "com/example/lusto/lusto/TransferBench$Result" "commits" "J"⟩, ⟨o1, Jvm.RoadKit.slotOf Z "com/example/lusto/lusto/TransferBench$Result" "aborts" "J"⟩, ⟨o1, Jvm.RoadKit.slotOf Z "com/example/lusto/lusto/TransferBench$Result" "total" "J"⟩] ∧ Fld Z h o1 "com/example/lusto/lusto/TransferBench$Result" "level" "Lcom/example/lusto/lusto/IsolationLevel;" (.ref (w 1)) ∧ Fld Z h o1 "com/example/lusto/lusto/TransferBench$Result" "threads" "I" (.int q2) ∧ Fld Z h o1 "com/example/lusto/lusto/TransferBench$Result" "accounts" "I" (.int q3) ∧ Fld Z h o1 "com/example/lusto/lusto/TransferBench$Result" "seconds" "I" (.int q4) ∧ Fld Z h o1 "com/example/lusto/lusto/TransferBench$Result" "commits" "J" (.long q5) ∧ Fld Z h o1 "com/example/lusto/lusto/TransferBench$Result" "aborts" "J" (.long q6) ∧ Fld Z h o1 "com/example/lusto/lusto/TransferBench$Result" "total" "J" (.long q7)
set_option maxRecDepth 65536 in
set_option maxHeartbeats 40000000 in
theorem rm3_9 (l : Launch) (Z : State) (a0 : Array Value) (hw : ∀ d ∈ tables_1, d.before a0 Z = true) (w : Nat → Addr) (hW : Wd Z w) (ws : List Jvm.Cond) (o1 : Addr) (q2 : Int32) (q3 : Int32) (q4 : Int32) (q5 : Int64) (q6 : Int64) (q7 : Int64) (h0 : Heap) (n0 : Nat) (O0 : Old Z n0 h0) (f1 : Exa Z h0 o1 "com/example/lusto/lusto/TransferBench$Result") (f2 : Fld Z h0 o1 "com/example/lusto/lusto/TransferBench$Result" "level" "Lcom/example/lusto/lusto/IsolationLevel;" .null) (g3 : n0 ≤ o1) (f4 : Fld Z h0 o1 "com/example/lusto/lusto/TransferBench$Result" "threads" "I" (.int (0 : Int32))) (f5 : Fld Z h0 o1 "com/example/lusto/lusto/TransferBench$Result" "accounts" "I" (.int (0 : Int32))) (f6 : Fld Z h0 o1 "com/example/lusto/lusto/TransferBench$Result" "seconds" "I" (.int (0 : Int32))) (f7 : Fld Z h0 o1 "com/example/lusto/lusto/TransferBench$Result" "commits" "J" (.long (0 : Int64))) (f8 : Fld Z h0 o1 "com/example/lusto/lusto/TransferBench$Result" "aborts" "J" (.long (0 : Int64))) (f9 : Fld Z h0 o1 "com/example/lusto/lusto/TransferBench$Result" "total" "J" (.long (0 : Int64))) :
    MetFree l ym3 (head1 (Jvm.Cond.code ym3 prog_52_method_1_code 11 none :: ws) ({ frames := 2, cells := 0, slots := 0, locals := 24 } : Room)) (fun a U => a = #[(.ref o1), (.ref (w 1)), (.int q2), (.int q3), (.int q4), (.long q5), (.long q6), (.long q7)] ∧ Z.Warmed39 U.vm ∧ U.heap = h0) (fun _ _ _ _ _ => True) (fun _ U o U' => ∃ v L, o = .returned v ∧ Q3_9 Z w o1 q2 q3 q4 q5 q6 q7 h0 n0 v U'.heap L ∧ FrameEnd U o U' L ({ frames := 2, cells := 0, slots := 0, locals := 24 } : Room).cells ({ frames := 2, cells := 0, slots := 0, locals := 24 } : Room).slots) := by
  refine MetFree.of_bodySF (plainFor_of_name pnc_2) hisR ?_
  intro p e s m args below meth c s₁ Bd hml0 hP hK
  obtain ⟨rfl, hZ, hh⟩ := hP
  have hx := Bd.exec
  have hby := Bd.bytes
  have hml : c.maxLocals = 11 := hml0
  have hown : s.vm.findClass "com/example/lusto/lusto/TransferBench$Result" = some m.cls := findClass_of_methodNamed Bd.named
  have hnm := (name_of_methodNamed Bd.named Bd.method).1
  have X0 : Stand p l e ({ frames := 2, cells := 0, slots := 0, locals := 24 } : Room) s m #[(.ref o1), (.ref (w 1)), (.int q2), (.int q3), (.int q4), (.long q5), (.long q6), (.long q7)] below meth c s₁ [] 0 0 := Stand.of_body Bd
  have e0 : s₁.heap = h0 := by rw [← hh, Bd.state]; rfl
  have N0 := Fr.nil n0
  let La : Array Slot := #[.val (.ref o1), .val (.ref (w 1)), .val (.int q2), .val (.int q3), .val (.int q4), .val (.long q5), .second, .val (.long q6), .second, .val (.long q7), .second]
  have pre0 : ∀ t, Steps p.tables e below (s₁.setTop (mkF m 0 #[.val (.ref o1), .val (.ref (w 1)), .val (.int q2), .val (.int q3), .val (.int q4), .val (.long q5), .second, .val (.long q6), .second, .val (.long q7), .second] [])) t → Steps p.tables e below (s₁.setTop (entryFrame m #[(.ref o1), (.ref (w 1)), (.int q2), (.int q3), (.int q4), (.long q5), (.long q6), (.long q7)] 11)) t := fun t k => castTop (ef_3_9 m w o1 q2 q3 q4 q5 q6 q7) k
  obtain ⟨_, _, ⟨T1, L1, kk1, nn1⟩, -, X1, ⟨Lc1, hQ1, l1, y1, z1⟩, st1⟩ := X0.specialBack hx (y := ym2) rfl hown (mvT hZ (wk19 hw)) (mvT hZ (wk20 hw)) (mvT hZ (wk23 hw)) (by decide) (backOf (W := 0) (rm4_3 l Z a0 hw w hW [] o1 h0 n0 O0 ) hZ (wk23 hw) (wk22 hw) (by decide) (by decide)) (g := (mkF m 1 La [(.ref o1)])) rfl (by rw [hml]; rfl) (Steps.refl _) (a := o1) (argsL := []) (rest := []) (lenOf pds_2 rfl) rfl (by show 2 * 0 + _ ≤ _; exact Nat.le_of_eq rfl) (hb hby d3_1) (fun _ _ => ⟨rfl, e0, (by decide : 0 + 0 ≤ _), (by decide : 0 + 0 ≤ _)⟩)
  dsimp only [Pt.U, Pt.locs, Pt.cells, Pt.slots] at X1 l1 y1 z1 st1 hQ1
  subst l1 y1 z1
  obtain ⟨rfl, N1q, e1⟩ := hQ1
  have N1 := Fr.app N0 N1q
  obtain ⟨T2, h2, X2, e2, W2, st2⟩ := putF X1 hx hZ hown (host := "") (Or.inl (wk27 hw)) Via.refl e1 f2 f1 (Or.inr ⟨(wk28 hw), rfl, hnm⟩) (wk7 hw) (ty := (.object "com/example/lusto/lusto/IsolationLevel")) (by decide) rfl rfl (g := (mkF m 6 La [(.ref (w 1)), (.ref o1)])) rfl rfl (hb hby d3_6)
  have F2 : Fld Z h2 o1 "com/example/lusto/lusto/TransferBench$Result" "level" "Lcom/example/lusto/lusto/IsolationLevel;" (.ref (w 1)) := f2.same W2
  have N2 := Fr.snoc X2 N1 g3
  have O3 := O0.wr W2 g3
  have t4 := (f4.other W2 (Or.inr (sn0 hw)))
  have t5 := (f1.wr W2)
  obtain ⟨T6, h6, X6, e6, W6, st6⟩ := putF X2 hx hZ hown (host := "") (Or.inl (wk29 hw)) Via.refl e2 t4 t5 (Or.inr ⟨(wk30 hw), rfl, hnm⟩) (wk7 hw) (ty := .int) (by decide) rfl rfl (g := (mkF m 11 La [(.int q2), (.ref o1)])) rfl rfl (hb hby d3_11)
  have F6 : Fld Z h6 o1 "com/example/lusto/lusto/TransferBench$Result" "threads" "I" (.int q2) := t4.same W6
  have N6 := Fr.snoc X6 N2 g3
  have O7 := O3.wr W6 g3
  have t8 := ((f5.other W2 (Or.inr (sn1 hw))).other W6 (Or.inr (sn2 hw)))
  have t9 := (t5.wr W6)
  obtain ⟨T10, h10, X10, e10, W10, st10⟩ := putF X6 hx hZ hown (host := "") (Or.inl (wk31 hw)) Via.refl e6 t8 t9 (Or.inr ⟨(wk32 hw), rfl, hnm⟩) (wk7 hw) (ty := .int) (by decide) rfl rfl (g := (mkF m 16 La [(.int q3), (.ref o1)])) rfl rfl (hb hby d3_16)
  have F10 : Fld Z h10 o1 "com/example/lusto/lusto/TransferBench$Result" "accounts" "I" (.int q3) := t8.same W10
  have N10 := Fr.snoc X10 N6 g3
  have O11 := O7.wr W10 g3
  have t12 := (((f6.other W2 (Or.inr (sn3 hw))).other W6 (Or.inr (sn4 hw))).other W10 (Or.inr (sn5 hw)))
  have t13 := (t9.wr W10)
  obtain ⟨T14, h14, X14, e14, W14, st14⟩ := putF X10 hx hZ hown (host := "") (Or.inl (wk33 hw)) Via.refl e10 t12 t13 (Or.inr ⟨(wk34 hw), rfl, hnm⟩) (wk7 hw) (ty := .int) (by decide) rfl rfl (g := (mkF m 22 La [(.int q4), (.ref o1)])) rfl rfl (hb hby d3_22)
  have F14 : Fld Z h14 o1 "com/example/lusto/lusto/TransferBench$Result" "seconds" "I" (.int q4) := t12.same W14
  have N14 := Fr.snoc X14 N10 g3
  have O15 := O11.wr W14 g3
  have t16 := ((((f7.other W2 (Or.inr (sn6 hw))).other W6 (Or.inr (sn7 hw))).other W10 (Or.inr (sn8 hw))).other W14 (Or.inr (sn9 hw)))
  have t17 := (t13.wr W14)
  obtain ⟨T18, h18, X18, e18, W18, st18⟩ := putF X14 hx hZ hown (host := "") (Or.inl (wk35 hw)) Via.refl e14 t16 t17 (Or.inr ⟨(wk36 hw), rfl, hnm⟩) (wk7 hw) (ty := .long) (by decide) rfl rfl (g := (mkF m 28 La [(.long q5), (.ref o1)])) rfl rfl (hb hby d3_28)
  have F18 : Fld Z h18 o1 "com/example/lusto/lusto/TransferBench$Result" "commits" "J" (.long q5) := t16.same W18
  have N18 := Fr.snoc X18 N14 g3
  have O19 := O15.wr W18 g3
  have t20 := (((((f8.other W2 (Or.inr (sn10 hw))).other W6 (Or.inr (sn11 hw))).other W10 (Or.inr (sn12 hw))).other W14 (Or.inr (sn13 hw))).other W18 (Or.inr (sn14 hw)))
  have t21 := (t17.wr W18)
  obtain ⟨T22, h22, X22, e22, W22, st22⟩ := putF X18 hx hZ hown (host := "") (Or.inl (wk37 hw)) Via.refl e18 t20 t21 (Or.inr ⟨(wk38 hw), rfl, hnm⟩) (wk7 hw) (ty := .long) (by decide) rfl rfl (g := (mkF m 34 La [(.long q6), (.ref o1)])) rfl rfl (hb hby d3_34)
  have F22 : Fld Z h22 o1 "com/example/lusto/lusto/TransferBench$Result" "aborts" "J" (.long q6) := t20.same W22
  have N22 := Fr.snoc X22 N18 g3
  have O23 := O19.wr W22 g3
  have t24 := ((((((f9.other W2 (Or.inr (sn15 hw))).other W6 (Or.inr (sn16 hw))).other W10 (Or.inr (sn17 hw))).other W14 (Or.inr (sn18 hw))).other W18 (Or.inr (sn19 hw))).other W22 (Or.inr (sn20 hw)))
  have t25 := (t21.wr W22)
  obtain ⟨T26, h26, X26, e26, W26, st26⟩ := putF X22 hx hZ hown (host := "") (Or.inl (wk39 hw)) Via.refl e22 t24 t25 (Or.inr ⟨(wk40 hw), rfl, hnm⟩) (wk7 hw) (ty := .long) (by decide) rfl rfl (g := (mkF m 40 La [(.long q7), (.ref o1)])) rfl rfl (hb hby d3_40)
  have F26 : Fld Z h26 o1 "com/example/lusto/lusto/TransferBench$Result" "total" "J" (.long q7) := t24.same W26
  have N26 := Fr.snoc X26 N22 g3
  have O27 := O23.wr W26 g3
  obtain ⟨fs, hr, hrun, hended, hWm, hsame⟩ := X26.leave (v := none) (fun _ => rfl)
  have Kf28 : own_KL h0 h26 [⟨o1, Jvm.RoadKit.slotOf Z "com/example/lusto/lusto/TransferBench$Result" "level" "Lcom/example/lusto/lusto/IsolationLevel;"⟩, ⟨o1, Jvm.RoadKit.slotOf Z "com/example/lusto/lusto/TransferBench$Result" "threads" "I"⟩, ⟨o1, Jvm.RoadKit.slotOf Z "com/example/lusto/lusto/TransferBench$Result" "accounts" "I"⟩, ⟨o1, Jvm.RoadKit.slotOf Z "com/example/lusto/lusto/TransferBench$Result" "seconds" "I"⟩, ⟨o1, Jvm.RoadKit.slotOf Z "com/example/lusto/lusto/TransferBench$Result" "commits" "J"⟩, ⟨o1, Jvm.RoadKit.slotOf Z "com/example/lusto/lusto/TransferBench$Result" "aborts" "J"⟩, ⟨o1, Jvm.RoadKit.slotOf Z "com/example/lusto/lusto/TransferBench$Result" "total" "J"⟩] := (own_klW (own_klW (own_klW (own_klW (own_klW (own_klW (own_klW (own_kl0 h0 [⟨o1, Jvm.RoadKit.slotOf Z "com/example/lusto/lusto/TransferBench$Result" "level" "Lcom/example/lusto/lusto/IsolationLevel;"⟩, ⟨o1, Jvm.RoadKit.slotOf Z "com/example/lusto/lusto/TransferBench$Result" "threads" "I"⟩, ⟨o1, Jvm.RoadKit.slotOf Z "com/example/lusto/lusto/TransferBench$Result" "accounts" "I"⟩, ⟨o1, Jvm.RoadKit.slotOf Z "com/example/lusto/lusto/TransferBench$Result" "seconds" "I"⟩, ⟨o1, Jvm.RoadKit.slotOf Z "com/example/lusto/lusto/TransferBench$Result" "commits" "J"⟩, ⟨o1, Jvm.RoadKit.slotOf Z "com/example/lusto/lusto/TransferBench$Result" "aborts" "J"⟩, ⟨o1, Jvm.RoadKit.slotOf Z "com/example/lusto/lusto/TransferBench$Result" "total" "J"⟩]) W2 (Or.inl (List.mem_of_getElem? (i := 0) rfl))) W6 (Or.inl (List.mem_of_getElem? (i := 1) rfl))) W10 (Or.inl (List.mem_of_getElem? (i := 2) rfl))) W14 (Or.inl (List.mem_of_getElem? (i := 3) rfl))) W18 (Or.inl (List.mem_of_getElem? (i := 4) rfl))) W22 (Or.inl (List.mem_of_getElem? (i := 5) rfl))) W26 (Or.inl (List.mem_of_getElem? (i := 6) rfl)))
  have t29 := ((((((F2.other W6 (Or.inr (sn21 hw))).other W10 (Or.inr (sn22 hw))).other W14 (Or.inr (sn23 hw))).other W18 (Or.inr (sn24 hw))).other W22 (Or.inr (sn25 hw))).other W26 (Or.inr (sn26 hw)))
  have t30 := (((((F6.other W10 (Or.inr (sn27 hw))).other W14 (Or.inr (sn28 hw))).other W18 (Or.inr (sn29 hw))).other W22 (Or.inr (sn30 hw))).other W26 (Or.inr (sn31 hw)))
  have t31 := ((((F10.other W14 (Or.inr (sn32 hw))).other W18 (Or.inr (sn33 hw))).other W22 (Or.inr (sn34 hw))).other W26 (Or.inr (sn35 hw)))
  have t32 := (((F14.other W18 (Or.inr (sn36 hw))).other W22 (Or.inr (sn37 hw))).other W26 (Or.inr (sn38 hw)))
  have t33 := ((F18.other W22 (Or.inr (sn39 hw))).other W26 (Or.inr (sn40 hw)))
  have t34 := (F22.other W26 (Or.inr (sn41 hw)))
  refine ⟨_, _, pre0 _ ?_, hrun, hended, _, _, rfl, ?_, ⟨_, rfl⟩, hWm, hsame.mono (by decide) (by decide)⟩
  · show Steps p.tables e below (s₁.setTop (mkF m 0 La [])) _
    refine sA X0 hx hby d3_0 rfl rfl ?_
    refine st1.trans ?_
    refine sA X1 hx hby d3_4 rfl rfl ?_
    refine sA X1 hx hby d3_5 rfl rfl ?_
    refine st2 _ ?_
    refine sA X2 hx hby d3_9 rfl rfl ?_
    refine sI X2 hx hby d3_10 rfl ?_
    refine st6 _ ?_
    refine sA X6 hx hby d3_14 rfl rfl ?_
    refine sI X6 hx hby d3_15 rfl ?_
    refine st10 _ ?_
    refine sA X10 hx hby d3_19 rfl rfl ?_
    refine si X10 hx hby d3_20 rfl ?_
    refine st14 _ ?_
    refine sA X14 hx hby d3_25 rfl rfl ?_
    refine XS.lload X14.here hx rfl (hb hby d3_26) rfl ?_
    refine st18 _ ?_
    refine sA X18 hx hby d3_31 rfl rfl ?_
    refine XS.lload X18.here hx rfl (hb hby d3_32) rfl ?_
    refine st22 _ ?_
    refine sA X22 hx hby d3_37 rfl rfl ?_
    refine XS.lload X22.here hx rfl (hb hby d3_38) rfl ?_
    refine st26 _ ?_
    exact X26.returnOut hx Bd.returns (hb hby d3_43) hr
  · show Q3_9 Z w o1 q2 q3 q4 q5 q6 q7 h0 n0 _ T26.heap _
    rw [e26]
    exact ⟨rfl, N26, Kf28, t29, t30, t31, t32, t33, t34, F26⟩
theorem d2_30 : decode method_2_code 30 = .ok (.getstatic 19, 3) := by decide +kernel
theorem d2_33 : decode method_2_code 33 = .ok (.areturn, 1) := by decide +kernel
theorem ef_2_10 (m : MethodId) (q1 : Int32) : entryFrame m #[(.int q1)] 2 = mkF m 0 #[.val (.int q1), .unset] [] := by first | (simp [entryFrame, mkF, argsToLocals, Value.category]; done) | rfl
def Q2_10 (Z : State) (w : Nat → Addr) (q1 : Int32) (h0 : Heap) (n0 : Nat) (v : Option Value) (h : Heap) (L : List Loc) : Prop := v = some (.ref (w 2)) ∧ Fr n0 L ∧ h = h0
set_option maxRecDepth 65536 in
set_option maxHeartbeats 40000000 in
theorem rm2_10 (l : Launch) (Z : State) (a0 : Array Value) (hw : ∀ d ∈ tables_1, d.before a0 Z = true) (w : Nat → Addr) (hW : Wd Z w) (ws : List Jvm.Cond) (q1 : Int32) (h0 : Heap) (n0 : Nat) (O0 : Old Z n0 h0) (c1 : ¬ ((q1 &&& (3 : Int32)) = (0 : Int32))) (c2 : ¬ ((q1 &&& (3 : Int32)) = (1 : Int32))) (c3 : ¬ ((q1 &&& (3 : Int32)) = (2 : Int32))) :
    MetFree l ym1 (head1 (Jvm.Cond.code ym1 method_2_code 2 (some (.object "com/example/lusto/lusto/IsolationLevel")) :: ws) ({ frames := 0, cells := 0, slots := 0, locals := 0 } : Room)) (fun a U => a = #[(.int q1)] ∧ Z.Warmed39 U.vm ∧ U.heap = h0) (fun _ _ _ _ _ => True) (fun _ U o U' => ∃ v L, o = .returned v ∧ Q2_10 Z w q1 h0 n0 v U'.heap L ∧ FrameEnd U o U' L ({ frames := 0, cells := 0, slots := 0, locals := 0 } : Room).cells ({ frames := 0, cells := 0, slots := 0, locals := 0 } : Room).slots) := by
  refine MetFree.of_bodySF (plainFor_of_name pnc_0) hisR ?_
  intro p e s m args below meth c s₁ Bd hml0 hP hK
  obtain ⟨rfl, hZ, hh⟩ := hP
  have hx := Bd.exec
  have hby := Bd.bytes
  have hml : c.maxLocals = 2 := hml0
  have hown : s.vm.findClass "com/example/lusto/lusto/ResultCommitsPerSecondPinLaw" = some m.cls := findClass_of_methodNamed Bd.named
  have hnm := (name_of_methodNamed Bd.named Bd.method).1
  have X0 : Stand p l e ({ frames := 0, cells := 0, slots := 0, locals := 0 } : Room) s m #[(.int q1)] below meth c s₁ [] 0 0 := Stand.of_body Bd
  have e0 : s₁.heap = h0 := by rw [← hh, Bd.state]; rfl
  have N0 := Fr.nil n0
  skip
  have pre0 : ∀ t, Steps p.tables e below (s₁.setTop (mkF m 0 #[.val (.int q1), .unset] [])) t → Steps p.tables e below (s₁.setTop (entryFrame m #[(.int q1)] 2)) t := fun t k => castTop (ef_2_10 m q1) k
  let Lb1 : Array Slot := #[.val (.int q1), .val (.int (q1 &&& (3 : Int32)))]
  obtain ⟨T2, X2, e2, st2⟩ := getS2 X0 hx hZ hown (host := "") (Or.inl (wk50 hw)) Via.refl e0 ((wd4 hW).ext O0.2) (g := (mkF m 30 Lb1 [])) rfl (hb hby d2_30)
  obtain ⟨fs, hr, hrun, hended, hWm, hsame⟩ := X2.leave (v := some (.ref (w 2))) (fun h => by rw [Bd.returns] at h; cases h)
  refine ⟨_, _, pre0 _ ?_, hrun, hended, _, _, rfl, ?_, ⟨_, rfl⟩, hWm, hsame.mono (by decide) (by decide)⟩
  · show Steps p.tables e below (s₁.setTop (mkF m 0 #[.val (.int q1), .unset] [])) _
    refine sI X0 hx hby d2_0 rfl ?_
    refine sc X0 hx hby d2_1 ?_
    refine XS.iand X0.here hx rfl (hb hby d2_2) rfl ?_
    refine XS.istoreN X0.here hx rfl (hb hby d2_3) rfl (l' := Lb1) rfl ?_
    refine sI X0 hx hby d2_4 rfl ?_
    refine XS.ifYes X0.here hx rfl (pc0 := 5) (pc' := 12) rfl (hb hby d2_5) rfl ((if0 _ _).trans (feq (c1 : ¬ ((q1 &&& (3 : Int32)) = (0 : Int32)))).2) (by decide) (by decide) ?_
    refine sI X0 hx hby d2_12 rfl ?_
    refine sc X0 hx hby d2_13 ?_
    refine XS.icmpYes X0.here hx rfl (pc0 := 14) (pc' := 21) rfl (hb hby d2_14) rfl (feq (c2 : ¬ ((q1 &&& (3 : Int32)) = (1 : Int32)))).2 (by decide) (by decide) ?_
    refine sI X0 hx hby d2_21 rfl ?_
    refine sc X0 hx hby d2_22 ?_
    refine XS.icmpYes X0.here hx rfl (pc0 := 23) (pc' := 30) rfl (hb hby d2_23) rfl (feq (c3 : ¬ ((q1 &&& (3 : Int32)) = (2 : Int32)))).2 (by decide) (by decide) ?_
    refine st2 _ ?_
    jvm_step X2.here [X2.here.top, hx, (hb hby d2_33), X2.method', Bd.returns, Value.isRef, FieldType.isReference]
    first | (intro acts; rw [hr _ acts rfl rfl rfl]) | rw [hr _ _ rfl rfl rfl]
    exact Steps.refl _
  · show Q2_10 Z w q1 h0 n0 _ T2.heap _
    rw [e2]
    exact ⟨rfl, N0, rfl⟩
theorem ef_3_11 (m : MethodId) (w : Nat → Addr) (o1 : Addr) (q2 : Int32) (q3 : Int32) (q4 : Int32) (q5 : Int64) (q6 : Int64) (q7 : Int64) : entryFrame m #[(.ref o1), (.ref (w 2)), (.int q2), (.int q3), (.int q4), (.long q5), (.long q6), (.long q7)] 11 = mkF m 0 #[.val (.ref o1), .val (.ref (w 2)), .val (.int q2), .val (.int q3), .val (.int q4), .val (.long q5), .second, .val (.long q6), .second, .val (.long q7), .second] [] := by first | (simp [entryFrame, mkF, argsToLocals, Value.category]; done) | rfl
def Q3_11 (Z : State) (w : Nat → Addr) (o1 : Addr) (q2 : Int32) (q3 : Int32) (q4 : Int32) (q5 : Int64) (q6 : Int64) (q7 : Int64) (h0 : Heap) (n0 : Nat) (v : Option Value) (h : Heap) (L : List Loc) : Prop := v = none ∧ Fr n0 L ∧ own_KL h0 h [⟨o1, Jvm.RoadKit.slotOf Z "com/example/lusto/lusto/TransferBench$Result" "level" "Lcom/example/lusto/lusto/IsolationLevel;"⟩, ⟨o1, Jvm.RoadKit.slotOf Z "com/example/lusto/lusto/TransferBench$Result" "threads" "I"⟩, ⟨o1, Jvm.RoadKit.slotOf Z "com/example/lusto/lusto/TransferBench$Result" "accounts" "I"⟩, ⟨o1, Jvm.RoadKit.slotOf Z "com/example/lusto/lusto/TransferBench$Result" "seconds" "I"⟩, ⟨o1, Jvm.RoadKit.slotOf Z "com/example/lusto/lusto/TransferBench$Result" "commits" "J"⟩, ⟨o1, Jvm.RoadKit.slotOf Z "com/example/lusto/lusto/TransferBench$Result" "aborts" "J"⟩, ⟨o1, Jvm.RoadKit.slotOf Z "com/example/lusto/lusto/TransferBench$Result" "total" "J"⟩] ∧ Fld Z h o1 "com/example/lusto/lusto/TransferBench$Result" "level" "Lcom/example/lusto/lusto/IsolationLevel;" (.ref (w 2)) ∧ Fld Z h o1 "com/example/lusto/lusto/TransferBench$Result" "threads" "I" (.int q2) ∧ Fld Z h o1 "com/example/lusto/lusto/TransferBench$Result" "accounts" "I" (.int q3) ∧ Fld Z h o1 "com/example/lusto/lusto/TransferBench$Result" "seconds" "I" (.int q4) ∧ Fld Z h o1 "com/example/lusto/lusto/TransferBench$Result" "commits" "J" (.long q5) ∧ Fld Z h o1 "com/example/lusto/lusto/TransferBench$Result" "aborts" "J" (.long q6) ∧ Fld Z h o1 "com/example/lusto/lusto/TransferBench$Result" "total" "J" (.long q7)
set_option maxRecDepth 65536 in
set_option maxHeartbeats 40000000 in
theorem rm3_11 (l : Launch) (Z : State) (a0 : Array Value) (hw : ∀ d ∈ tables_1, d.before a0 Z = true) (w : Nat → Addr) (hW : Wd Z w) (ws : List Jvm.Cond) (o1 : Addr) (q2 : Int32) (q3 : Int32) (q4 : Int32) (q5 : Int64) (q6 : Int64) (q7 : Int64) (h0 : Heap) (n0 : Nat) (O0 : Old Z n0 h0) (f1 : Exa Z h0 o1 "com/example/lusto/lusto/TransferBench$Result") (f2 : Fld Z h0 o1 "com/example/lusto/lusto/TransferBench$Result" "level" "Lcom/example/lusto/lusto/IsolationLevel;" .null) (g3 : n0 ≤ o1) (f4 : Fld Z h0 o1 "com/example/lusto/lusto/TransferBench$Result" "threads" "I" (.int (0 : Int32))) (f5 : Fld Z h0 o1 "com/example/lusto/lusto/TransferBench$Result" "accounts" "I" (.int (0 : Int32))) (f6 : Fld Z h0 o1 "com/example/lusto/lusto/TransferBench$Result" "seconds" "I" (.int (0 : Int32))) (f7 : Fld Z h0 o1 "com/example/lusto/lusto/TransferBench$Result" "commits" "J" (.long (0 : Int64))) (f8 : Fld Z h0 o1 "com/example/lusto/lusto/TransferBench$Result" "aborts" "J" (.long (0 : Int64))) (f9 : Fld Z h0 o1 "com/example/lusto/lusto/TransferBench$Result" "total" "J" (.long (0 : Int64))) :
    MetFree l ym3 (head1 (Jvm.Cond.code ym3 prog_52_method_1_code 11 none :: ws) ({ frames := 2, cells := 0, slots := 0, locals := 24 } : Room)) (fun a U => a = #[(.ref o1), (.ref (w 2)), (.int q2), (.int q3), (.int q4), (.long q5), (.long q6), (.long q7)] ∧ Z.Warmed39 U.vm ∧ U.heap = h0) (fun _ _ _ _ _ => True) (fun _ U o U' => ∃ v L, o = .returned v ∧ Q3_11 Z w o1 q2 q3 q4 q5 q6 q7 h0 n0 v U'.heap L ∧ FrameEnd U o U' L ({ frames := 2, cells := 0, slots := 0, locals := 24 } : Room).cells ({ frames := 2, cells := 0, slots := 0, locals := 24 } : Room).slots) := by
  refine MetFree.of_bodySF (plainFor_of_name pnc_2) hisR ?_
  intro p e s m args below meth c s₁ Bd hml0 hP hK
  obtain ⟨rfl, hZ, hh⟩ := hP
  have hx := Bd.exec
  have hby := Bd.bytes
  have hml : c.maxLocals = 11 := hml0
  have hown : s.vm.findClass "com/example/lusto/lusto/TransferBench$Result" = some m.cls := findClass_of_methodNamed Bd.named
  have hnm := (name_of_methodNamed Bd.named Bd.method).1
  have X0 : Stand p l e ({ frames := 2, cells := 0, slots := 0, locals := 24 } : Room) s m #[(.ref o1), (.ref (w 2)), (.int q2), (.int q3), (.int q4), (.long q5), (.long q6), (.long q7)] below meth c s₁ [] 0 0 := Stand.of_body Bd
  have e0 : s₁.heap = h0 := by rw [← hh, Bd.state]; rfl
  have N0 := Fr.nil n0
  let La : Array Slot := #[.val (.ref o1), .val (.ref (w 2)), .val (.int q2), .val (.int q3), .val (.int q4), .val (.long q5), .second, .val (.long q6), .second, .val (.long q7), .second]
  have pre0 : ∀ t, Steps p.tables e below (s₁.setTop (mkF m 0 #[.val (.ref o1), .val (.ref (w 2)), .val (.int q2), .val (.int q3), .val (.int q4), .val (.long q5), .second, .val (.long q6), .second, .val (.long q7), .second] [])) t → Steps p.tables e below (s₁.setTop (entryFrame m #[(.ref o1), (.ref (w 2)), (.int q2), (.int q3), (.int q4), (.long q5), (.long q6), (.long q7)] 11)) t := fun t k => castTop (ef_3_11 m w o1 q2 q3 q4 q5 q6 q7) k
  obtain ⟨_, _, ⟨T1, L1, kk1, nn1⟩, -, X1, ⟨Lc1, hQ1, l1, y1, z1⟩, st1⟩ := X0.specialBack hx (y := ym2) rfl hown (mvT hZ (wk19 hw)) (mvT hZ (wk20 hw)) (mvT hZ (wk23 hw)) (by decide) (backOf (W := 0) (rm4_3 l Z a0 hw w hW [] o1 h0 n0 O0 ) hZ (wk23 hw) (wk22 hw) (by decide) (by decide)) (g := (mkF m 1 La [(.ref o1)])) rfl (by rw [hml]; rfl) (Steps.refl _) (a := o1) (argsL := []) (rest := []) (lenOf pds_2 rfl) rfl (by show 2 * 0 + _ ≤ _; exact Nat.le_of_eq rfl) (hb hby d3_1) (fun _ _ => ⟨rfl, e0, (by decide : 0 + 0 ≤ _), (by decide : 0 + 0 ≤ _)⟩)
  dsimp only [Pt.U, Pt.locs, Pt.cells, Pt.slots] at X1 l1 y1 z1 st1 hQ1
  subst l1 y1 z1
  obtain ⟨rfl, N1q, e1⟩ := hQ1
  have N1 := Fr.app N0 N1q
  obtain ⟨T2, h2, X2, e2, W2, st2⟩ := putF X1 hx hZ hown (host := "") (Or.inl (wk27 hw)) Via.refl e1 f2 f1 (Or.inr ⟨(wk28 hw), rfl, hnm⟩) (wk7 hw) (ty := (.object "com/example/lusto/lusto/IsolationLevel")) (by decide) rfl rfl (g := (mkF m 6 La [(.ref (w 2)), (.ref o1)])) rfl rfl (hb hby d3_6)
  have F2 : Fld Z h2 o1 "com/example/lusto/lusto/TransferBench$Result" "level" "Lcom/example/lusto/lusto/IsolationLevel;" (.ref (w 2)) := f2.same W2
  have N2 := Fr.snoc X2 N1 g3
  have O3 := O0.wr W2 g3
  have t4 := (f4.other W2 (Or.inr (sn0 hw)))
  have t5 := (f1.wr W2)
  obtain ⟨T6, h6, X6, e6, W6, st6⟩ := putF X2 hx hZ hown (host := "") (Or.inl (wk29 hw)) Via.refl e2 t4 t5 (Or.inr ⟨(wk30 hw), rfl, hnm⟩) (wk7 hw) (ty := .int) (by decide) rfl rfl (g := (mkF m 11 La [(.int q2), (.ref o1)])) rfl rfl (hb hby d3_11)
  have F6 : Fld Z h6 o1 "com/example/lusto/lusto/TransferBench$Result" "threads" "I" (.int q2) := t4.same W6
  have N6 := Fr.snoc X6 N2 g3
  have O7 := O3.wr W6 g3
  have t8 := ((f5.other W2 (Or.inr (sn1 hw))).other W6 (Or.inr (sn2 hw)))
  have t9 := (t5.wr W6)
  obtain ⟨T10, h10, X10, e10, W10, st10⟩ := putF X6 hx hZ hown (host := "") (Or.inl (wk31 hw)) Via.refl e6 t8 t9 (Or.inr ⟨(wk32 hw), rfl, hnm⟩) (wk7 hw) (ty := .int) (by decide) rfl rfl (g := (mkF m 16 La [(.int q3), (.ref o1)])) rfl rfl (hb hby d3_16)
  have F10 : Fld Z h10 o1 "com/example/lusto/lusto/TransferBench$Result" "accounts" "I" (.int q3) := t8.same W10
  have N10 := Fr.snoc X10 N6 g3
  have O11 := O7.wr W10 g3
  have t12 := (((f6.other W2 (Or.inr (sn3 hw))).other W6 (Or.inr (sn4 hw))).other W10 (Or.inr (sn5 hw)))
  have t13 := (t9.wr W10)
  obtain ⟨T14, h14, X14, e14, W14, st14⟩ := putF X10 hx hZ hown (host := "") (Or.inl (wk33 hw)) Via.refl e10 t12 t13 (Or.inr ⟨(wk34 hw), rfl, hnm⟩) (wk7 hw) (ty := .int) (by decide) rfl rfl (g := (mkF m 22 La [(.int q4), (.ref o1)])) rfl rfl (hb hby d3_22)
  have F14 : Fld Z h14 o1 "com/example/lusto/lusto/TransferBench$Result" "seconds" "I" (.int q4) := t12.same W14
  have N14 := Fr.snoc X14 N10 g3
  have O15 := O11.wr W14 g3
  have t16 := ((((f7.other W2 (Or.inr (sn6 hw))).other W6 (Or.inr (sn7 hw))).other W10 (Or.inr (sn8 hw))).other W14 (Or.inr (sn9 hw)))
  have t17 := (t13.wr W14)
  obtain ⟨T18, h18, X18, e18, W18, st18⟩ := putF X14 hx hZ hown (host := "") (Or.inl (wk35 hw)) Via.refl e14 t16 t17 (Or.inr ⟨(wk36 hw), rfl, hnm⟩) (wk7 hw) (ty := .long) (by decide) rfl rfl (g := (mkF m 28 La [(.long q5), (.ref o1)])) rfl rfl (hb hby d3_28)
  have F18 : Fld Z h18 o1 "com/example/lusto/lusto/TransferBench$Result" "commits" "J" (.long q5) := t16.same W18
  have N18 := Fr.snoc X18 N14 g3
  have O19 := O15.wr W18 g3
  have t20 := (((((f8.other W2 (Or.inr (sn10 hw))).other W6 (Or.inr (sn11 hw))).other W10 (Or.inr (sn12 hw))).other W14 (Or.inr (sn13 hw))).other W18 (Or.inr (sn14 hw)))
  have t21 := (t17.wr W18)
  obtain ⟨T22, h22, X22, e22, W22, st22⟩ := putF X18 hx hZ hown (host := "") (Or.inl (wk37 hw)) Via.refl e18 t20 t21 (Or.inr ⟨(wk38 hw), rfl, hnm⟩) (wk7 hw) (ty := .long) (by decide) rfl rfl (g := (mkF m 34 La [(.long q6), (.ref o1)])) rfl rfl (hb hby d3_34)
  have F22 : Fld Z h22 o1 "com/example/lusto/lusto/TransferBench$Result" "aborts" "J" (.long q6) := t20.same W22
  have N22 := Fr.snoc X22 N18 g3
  have O23 := O19.wr W22 g3
  have t24 := ((((((f9.other W2 (Or.inr (sn15 hw))).other W6 (Or.inr (sn16 hw))).other W10 (Or.inr (sn17 hw))).other W14 (Or.inr (sn18 hw))).other W18 (Or.inr (sn19 hw))).other W22 (Or.inr (sn20 hw)))
  have t25 := (t21.wr W22)
  obtain ⟨T26, h26, X26, e26, W26, st26⟩ := putF X22 hx hZ hown (host := "") (Or.inl (wk39 hw)) Via.refl e22 t24 t25 (Or.inr ⟨(wk40 hw), rfl, hnm⟩) (wk7 hw) (ty := .long) (by decide) rfl rfl (g := (mkF m 40 La [(.long q7), (.ref o1)])) rfl rfl (hb hby d3_40)
  have F26 : Fld Z h26 o1 "com/example/lusto/lusto/TransferBench$Result" "total" "J" (.long q7) := t24.same W26
  have N26 := Fr.snoc X26 N22 g3
  have O27 := O23.wr W26 g3
  obtain ⟨fs, hr, hrun, hended, hWm, hsame⟩ := X26.leave (v := none) (fun _ => rfl)
  have Kf28 : own_KL h0 h26 [⟨o1, Jvm.RoadKit.slotOf Z "com/example/lusto/lusto/TransferBench$Result" "level" "Lcom/example/lusto/lusto/IsolationLevel;"⟩, ⟨o1, Jvm.RoadKit.slotOf Z "com/example/lusto/lusto/TransferBench$Result" "threads" "I"⟩, ⟨o1, Jvm.RoadKit.slotOf Z "com/example/lusto/lusto/TransferBench$Result" "accounts" "I"⟩, ⟨o1, Jvm.RoadKit.slotOf Z "com/example/lusto/lusto/TransferBench$Result" "seconds" "I"⟩, ⟨o1, Jvm.RoadKit.slotOf Z "com/example/lusto/lusto/TransferBench$Result" "commits" "J"⟩, ⟨o1, Jvm.RoadKit.slotOf Z "com/example/lusto/lusto/TransferBench$Result" "aborts" "J"⟩, ⟨o1, Jvm.RoadKit.slotOf Z "com/example/lusto/lusto/TransferBench$Result" "total" "J"⟩] := (own_klW (own_klW (own_klW (own_klW (own_klW (own_klW (own_klW (own_kl0 h0 [⟨o1, Jvm.RoadKit.slotOf Z "com/example/lusto/lusto/TransferBench$Result" "level" "Lcom/example/lusto/lusto/IsolationLevel;"⟩, ⟨o1, Jvm.RoadKit.slotOf Z "com/example/lusto/lusto/TransferBench$Result" "threads" "I"⟩, ⟨o1, Jvm.RoadKit.slotOf Z "com/example/lusto/lusto/TransferBench$Result" "accounts" "I"⟩, ⟨o1, Jvm.RoadKit.slotOf Z "com/example/lusto/lusto/TransferBench$Result" "seconds" "I"⟩, ⟨o1, Jvm.RoadKit.slotOf Z "com/example/lusto/lusto/TransferBench$Result" "commits" "J"⟩, ⟨o1, Jvm.RoadKit.slotOf Z "com/example/lusto/lusto/TransferBench$Result" "aborts" "J"⟩, ⟨o1, Jvm.RoadKit.slotOf Z "com/example/lusto/lusto/TransferBench$Result" "total" "J"⟩]) W2 (Or.inl (List.mem_of_getElem? (i := 0) rfl))) W6 (Or.inl (List.mem_of_getElem? (i := 1) rfl))) W10 (Or.inl (List.mem_of_getElem? (i := 2) rfl))) W14 (Or.inl (List.mem_of_getElem? (i := 3) rfl))) W18 (Or.inl (List.mem_of_getElem? (i := 4) rfl))) W22 (Or.inl (List.mem_of_getElem? (i := 5) rfl))) W26 (Or.inl (List.mem_of_getElem? (i := 6) rfl)))
  have t29 := ((((((F2.other W6 (Or.inr (sn21 hw))).other W10 (Or.inr (sn22 hw))).other W14 (Or.inr (sn23 hw))).other W18 (Or.inr (sn24 hw))).other W22 (Or.inr (sn25 hw))).other W26 (Or.inr (sn26 hw)))
  have t30 := (((((F6.other W10 (Or.inr (sn27 hw))).other W14 (Or.inr (sn28 hw))).other W18 (Or.inr (sn29 hw))).other W22 (Or.inr (sn30 hw))).other W26 (Or.inr (sn31 hw)))
  have t31 := ((((F10.other W14 (Or.inr (sn32 hw))).other W18 (Or.inr (sn33 hw))).other W22 (Or.inr (sn34 hw))).other W26 (Or.inr (sn35 hw)))
  have t32 := (((F14.other W18 (Or.inr (sn36 hw))).other W22 (Or.inr (sn37 hw))).other W26 (Or.inr (sn38 hw)))
  have t33 := ((F18.other W22 (Or.inr (sn39 hw))).other W26 (Or.inr (sn40 hw)))
  have t34 := (F22.other W26 (Or.inr (sn41 hw)))
  refine ⟨_, _, pre0 _ ?_, hrun, hended, _, _, rfl, ?_, ⟨_, rfl⟩, hWm, hsame.mono (by decide) (by decide)⟩
  · show Steps p.tables e below (s₁.setTop (mkF m 0 La [])) _
    refine sA X0 hx hby d3_0 rfl rfl ?_
    refine st1.trans ?_
    refine sA X1 hx hby d3_4 rfl rfl ?_
    refine sA X1 hx hby d3_5 rfl rfl ?_
    refine st2 _ ?_
    refine sA X2 hx hby d3_9 rfl rfl ?_
    refine sI X2 hx hby d3_10 rfl ?_
    refine st6 _ ?_
    refine sA X6 hx hby d3_14 rfl rfl ?_
    refine sI X6 hx hby d3_15 rfl ?_
    refine st10 _ ?_
    refine sA X10 hx hby d3_19 rfl rfl ?_
    refine si X10 hx hby d3_20 rfl ?_
    refine st14 _ ?_
    refine sA X14 hx hby d3_25 rfl rfl ?_
    refine XS.lload X14.here hx rfl (hb hby d3_26) rfl ?_
    refine st18 _ ?_
    refine sA X18 hx hby d3_31 rfl rfl ?_
    refine XS.lload X18.here hx rfl (hb hby d3_32) rfl ?_
    refine st22 _ ?_
    refine sA X22 hx hby d3_37 rfl rfl ?_
    refine XS.lload X22.here hx rfl (hb hby d3_38) rfl ?_
    refine st26 _ ?_
    exact X26.returnOut hx Bd.returns (hb hby d3_43) hr
  · show Q3_11 Z w o1 q2 q3 q4 q5 q6 q7 h0 n0 _ T26.heap _
    rw [e26]
    exact ⟨rfl, N26, Kf28, t29, t30, t31, t32, t33, t34, F26⟩
theorem d1_5 : decode jdk_29_method_65_code 5 = .ok (.iload_n 0, 1) := by decide +kernel
theorem d1_6 : decode jdk_29_method_65_code 6 = .ok (.goto 4, 3) := by decide +kernel
theorem ef_1_12 (m : MethodId) (q1 : Int32) : entryFrame m #[(.int (1 : Int32)), (.int q1)] 2 = mkF m 0 #[.val (.int (1 : Int32)), .val (.int q1)] [] := by first | (simp [entryFrame, mkF, argsToLocals, Value.category]; done) | rfl
def Q1_12 (Z : State) (w : Nat → Addr) (q1 : Int32) (h0 : Heap) (n0 : Nat) (v : Option Value) (h : Heap) (L : List Loc) : Prop := v = some (.int (1 : Int32)) ∧ Fr n0 L ∧ h = h0
set_option maxRecDepth 65536 in
set_option maxHeartbeats 40000000 in
theorem rm1_12 (l : Launch) (Z : State) (a0 : Array Value) (hw : ∀ d ∈ tables_1, d.before a0 Z = true) (w : Nat → Addr) (hW : Wd Z w) (ws : List Jvm.Cond) (q1 : Int32) (h0 : Heap) (n0 : Nat) (O0 : Old Z n0 h0) (c1 : ¬ ((1 : Int32) < q1)) :
    MetFree l ym0 (head1 (Jvm.Cond.code ym0 jdk_29_method_65_code 2 (some .int) :: ws) ({ frames := 0, cells := 0, slots := 0, locals := 0 } : Room)) (fun a U => a = #[(.int (1 : Int32)), (.int q1)] ∧ Z.Warmed39 U.vm ∧ U.heap = h0) (fun _ _ _ _ _ => True) (fun _ U o U' => ∃ v L, o = .returned v ∧ Q1_12 Z w q1 h0 n0 v U'.heap L ∧ FrameEnd U o U' L ({ frames := 0, cells := 0, slots := 0, locals := 0 } : Room).cells ({ frames := 0, cells := 0, slots := 0, locals := 0 } : Room).slots) := by
  refine MetFree.of_bodySF (Jvm.Free.JP.mathPlain rfl (by decide +kernel)) hisR ?_
  intro p e s m args below meth c s₁ Bd hml0 hP hK
  obtain ⟨rfl, hZ, hh⟩ := hP
  have hx := Bd.exec
  have hby := Bd.bytes
  have hml : c.maxLocals = 2 := hml0
  have hown : s.vm.findClass "java/lang/Math" = some m.cls := findClass_of_methodNamed Bd.named
  have hnm := (name_of_methodNamed Bd.named Bd.method).1
  have X0 : Stand p l e ({ frames := 0, cells := 0, slots := 0, locals := 0 } : Room) s m #[(.int (1 : Int32)), (.int q1)] below meth c s₁ [] 0 0 := Stand.of_body Bd
  have e0 : s₁.heap = h0 := by rw [← hh, Bd.state]; rfl
  have N0 := Fr.nil n0
  skip
  have pre0 : ∀ t, Steps p.tables e below (s₁.setTop (mkF m 0 #[.val (.int (1 : Int32)), .val (.int q1)] [])) t → Steps p.tables e below (s₁.setTop (entryFrame m #[(.int (1 : Int32)), (.int q1)] 2)) t := fun t k => castTop (ef_1_12 m q1) k
  obtain ⟨fs, hr, hrun, hended, hWm, hsame⟩ := X0.leave (v := some (.int (1 : Int32))) (fun h => by rw [Bd.returns] at h; cases h)
  refine ⟨_, _, pre0 _ ?_, hrun, hended, _, _, rfl, ?_, ⟨_, rfl⟩, hWm, hsame.mono (by decide) (by decide)⟩
  · show Steps p.tables e below (s₁.setTop (mkF m 0 #[.val (.int (1 : Int32)), .val (.int q1)] [])) _
    refine sI X0 hx hby d1_0 rfl ?_
    refine sI X0 hx hby d1_1 rfl ?_
    refine sn X0 hx hby d1_2 (flt (c1 : ¬ ((1 : Int32) < q1))).1 ?_
    refine sI X0 hx hby d1_5 rfl ?_
    refine sg (pc := 6) (pc' := 10) X0 hx hby d1_6 (by decide) (by decide) ?_
    exact retI X0 hx Bd.returns (hb hby d1_10) hr
  · show Q1_12 Z w q1 h0 n0 _ s₁.heap _
    rw [e0]
    exact ⟨rfl, N0, rfl⟩
theorem ef_0_13 (m : MethodId) (p0 : Int64) (p1 : Int32) (p2 : Int32) (p3 : Int32) (p4 : Int64) (p5 : Int64) : entryFrame m #[(.long p0), (.int p1), (.int p2), (.int p3), (.long p4), (.long p5)] maxLocals = mkF m 0 #[.val (.long p0), .second, .val (.int p1), .val (.int p2), .val (.int p3), .val (.long p4), .second, .val (.long p5), .second, .unset, .unset, .unset, .unset, .unset, .unset, .unset, .unset, .unset, .unset] [] := by first | (simp [entryFrame, mkF, argsToLocals, Value.category, maxLocals]; done) | rfl
def Q0 (n0 : Nat) (v : Option Value) (h : Heap) (L : List Loc) : Prop := v = some (.int (1 : Int32)) ∧ Fr n0 L
set_option maxRecDepth 65536 in
set_option maxHeartbeats 400000000 in
theorem rm0 (l : Launch) (Z : State) (a0 : Array Value) (hw : ∀ d ∈ tables_1, d.before a0 Z = true) (w : Nat → Addr) (hW : Wd Z w) (ws : List Jvm.Cond) (p0 : Int64) (p1 : Int32) (p2 : Int32) (p3 : Int32) (p4 : Int64) (p5 : Int64) (h0 : Heap) (n0 : Nat) (O0 : Old Z n0 h0) :
    MetFree l x (head1 (Jvm.Cond.code x code maxLocals ret :: ws) room_1) (fun a U => a = #[(.long p0), (.int p1), (.int p2), (.int p3), (.long p4), (.long p5)] ∧ Z.Warmed39 U.vm ∧ U.heap = h0) (fun _ _ _ _ _ => True) (fun _ U o U' => ∃ v L, o = .returned v ∧ Q0 n0 v U'.heap L ∧ FrameEnd U o U' L room_1.cells room_1.slots) := by
  refine MetFree.of_bodySF (plainFor_of_name pnc_0) hisR ?_
  intro p e s m args below meth c s₁ Bd hml0 hP hK
  obtain ⟨rfl, hZ, hh⟩ := hP
  have hx := Bd.exec
  have hby := Bd.bytes
  have hml : c.maxLocals = 19 := hml0
  have hown : s.vm.findClass "com/example/lusto/lusto/ResultCommitsPerSecondPinLaw" = some m.cls := findClass_of_methodNamed Bd.named
  have hnm := (name_of_methodNamed Bd.named Bd.method).1
  have X0 : Stand p l e room_1 s m #[(.long p0), (.int p1), (.int p2), (.int p3), (.long p4), (.long p5)] below meth c s₁ [] 0 0 := Stand.of_body Bd
  have e0 : s₁.heap = h0 := by rw [← hh, Bd.state]; rfl
  have N0 := Fr.nil n0
  let La : Array Slot := #[.val (.long p0), .second, .val (.int p1), .val (.int p2), .val (.int p3), .val (.long p4), .second, .val (.long p5), .second, .unset, .unset, .unset, .unset, .unset, .unset, .unset, .unset, .unset, .unset]
  have pre0 : ∀ t, Steps p.tables e below (s₁.setTop (mkF m 0 #[.val (.long p0), .second, .val (.int p1), .val (.int p2), .val (.int p3), .val (.long p4), .second, .val (.long p5), .second, .unset, .unset, .unset, .unset, .unset, .unset, .unset, .unset, .unset, .unset] [])) t → Steps p.tables e below (s₁.setTop (entryFrame m #[(.long p0), (.int p1), (.int p2), (.int p3), (.long p4), (.long p5)] maxLocals)) t := fun t k => castTop (ef_0_13 m p0 p1 p2 p3 p4 p5) k
  let Lb1 : Array Slot := #[.val (.long p0), .second, .val (.int p1), .val (.int p2), .val (.int p3), .val (.long p4), .second, .val (.long p5), .second, .val (.long (p0 &&& (2305843009213693951 : Int64))), .second, .unset, .unset, .unset, .unset, .unset, .unset, .unset, .unset]
  have pre2 : ∀ t, Steps p.tables e below (s₁.setTop (mkF m 12 Lb1 [(.int (p1 &&& (2147483647 : Int32))), (.int (1 : Int32))])) t → Steps p.tables e below (s₁.setTop (entryFrame m #[(.long p0), (.int p1), (.int p2), (.int p3), (.long p4), (.long p5)] maxLocals)) t := fun t k => pre0 t (by
   show Steps p.tables e below (s₁.setTop (mkF m 0 La [])) _
   refine sL X0 hx hby at_0 rfl ?_
   refine X0.ldc2Long hx hown (mvT hZ (wk0 hw)) (g := (mkF m 1 La [(.long p0)])) rfl (hb hby at_1) _ ?_
   refine XS.land X0.here hx rfl (hb hby at_4) rfl ?_
   refine XS.lstore X0.here hx rfl (hb hby at_5) rfl (l' := Lb1) rfl ?_
   refine sc X0 hx hby at_7 ?_
   refine sI X0 hx hby at_8 rfl ?_
   refine X0.ldcInt hx hown (mvT hZ (wk1 hw)) (g := (mkF m 9 Lb1 [(.int p1), (.int (1 : Int32))])) rfl (hb hby at_9) _ ?_
   refine XS.iand X0.here hx rfl (hb hby at_11) rfl ?_
   exact k)
  by_cases hc3 : (1 : Int32) < (p1 &&& (2147483647 : Int32))
  ·
   obtain ⟨_, _, ⟨T4, L4, kk4, nn4⟩, -, X4, ⟨Lc4, hQ4, l4, y4, z4⟩, st4⟩ := Jvm.LawKit.callS X0 hx (y := ym0) hown (mvT hZ (wk2 hw)) (mvT hZ (wk3 hw)) (mvT hZ (wk4 hw)) (mvT hZ (wk5 hw)) (by decide) (backOf (W := 0) (rm1_1 l Z a0 hw w hW [] (p1 &&& (2147483647 : Int32)) h0 n0 O0 hc3) hZ (wk5 hw) (wk4 hw) (by decide) (by decide)) (g := (mkF m 12 Lb1 [(.int (p1 &&& (2147483647 : Int32))), (.int (1 : Int32))])) rfl (by rw [hml]; rfl) (argsL := [(.int (1 : Int32)), (.int (p1 &&& (2147483647 : Int32)))]) (rest := []) (lenOf pds_0 rfl) rfl (by show 2 * 0 + _ ≤ _; exact Nat.le_of_eq rfl) (hb hby at_12) (fun _ _ => ⟨rfl, e0, (by decide : 0 + 0 ≤ _), (by decide : 0 + 0 ≤ _)⟩)
   dsimp only [Pt.U, Pt.locs, Pt.cells, Pt.slots] at X4 l4 y4 z4 st4 hQ4
   subst l4 y4 z4
   obtain ⟨rfl, N4q, e4⟩ := hQ4
   have N4 := Fr.app N0 N4q
   let Lb5 : Array Slot := #[.val (.long p0), .second, .val (.int p1), .val (.int p2), .val (.int p3), .val (.long p4), .second, .val (.long p5), .second, .val (.long (p0 &&& (2305843009213693951 : Int64))), .second, .val (.int (p1 &&& (2147483647 : Int32))), .unset, .unset, .unset, .unset, .unset, .unset, .unset]
   obtain ⟨T6, h6, X6, e6, E6, A6, D6, -, st6⟩ := newO X4 hx hZ hown (wk6 hw) (wk7 hw) (wk8 hw) e4 (g := (mkF m 17 Lb5 [])) rfl (hb hby at_17) (by decide) (by decide)
   obtain ⟨b6, g6⟩ : ∃ z, z = h0.size := ⟨_, rfl⟩
   rw [← g6] at A6 D6 st6
   have gg6 : n0 ≤ b6 := by rw [← O0.1, g6]; exact O0.2.1
   have O7 := O0.ext E6
   have i6_28 : Fld Z h6 b6 "com/example/lusto/lusto/TransferBench$Result" "level" "Lcom/example/lusto/lusto/IsolationLevel;" .null := D6 (Or.inr (wk28 hw)) (ty := (.object "com/example/lusto/lusto/IsolationLevel")) (by decide)
   have i6_30 : Fld Z h6 b6 "com/example/lusto/lusto/TransferBench$Result" "threads" "I" (.int (0 : Int32)) := D6 (Or.inr (wk30 hw)) (ty := .int) (by decide)
   have i6_32 : Fld Z h6 b6 "com/example/lusto/lusto/TransferBench$Result" "accounts" "I" (.int (0 : Int32)) := D6 (Or.inr (wk32 hw)) (ty := .int) (by decide)
   have i6_34 : Fld Z h6 b6 "com/example/lusto/lusto/TransferBench$Result" "seconds" "I" (.int (0 : Int32)) := D6 (Or.inr (wk34 hw)) (ty := .int) (by decide)
   have i6_36 : Fld Z h6 b6 "com/example/lusto/lusto/TransferBench$Result" "commits" "J" (.long (0 : Int64)) := D6 (Or.inr (wk36 hw)) (ty := .long) (by decide)
   have i6_38 : Fld Z h6 b6 "com/example/lusto/lusto/TransferBench$Result" "aborts" "J" (.long (0 : Int64)) := D6 (Or.inr (wk38 hw)) (ty := .long) (by decide)
   have i6_40 : Fld Z h6 b6 "com/example/lusto/lusto/TransferBench$Result" "total" "J" (.long (0 : Int64)) := D6 (Or.inr (wk40 hw)) (ty := .long) (by decide)
   have pre8 : ∀ t, Steps p.tables e below (T6.setTop (mkF m 25 #[.val (.long p0), .second, .val (.int p1), .val (.int p2), .val (.int p3), .val (.long p4), .second, .val (.long p5), .second, .val (.long (p0 &&& (2305843009213693951 : Int64))), .second, .val (.int (p1 &&& (2147483647 : Int32))), .unset, .unset, .unset, .unset, .unset, .unset, .unset] [(.int (p2 ^^^ p3)), (.ref b6), (.ref b6)])) t → Steps p.tables e below (s₁.setTop (entryFrame m #[(.long p0), (.int p1), (.int p2), (.int p3), (.long p4), (.long p5)] maxLocals)) t := fun t k => pre2 t (by
    show Steps p.tables e below (s₁.setTop (mkF m 12 Lb1 [(.int (p1 &&& (2147483647 : Int32))), (.int (1 : Int32))])) _
    refine st4 _ ?_
    refine XS.istore X4.here hx rfl (hb hby at_15) rfl (l' := Lb5) rfl ?_
    refine st6 _ ?_
    refine XS.dup X6.here hx rfl (hb hby at_20) rfl rfl ?_
    refine sI X6 hx hby at_21 rfl ?_
    refine si X6 hx hby at_22 rfl ?_
    refine XS.ixor X6.here hx rfl (hb hby at_24) rfl ?_
    exact k)
   rcases (own_and3 (p2 ^^^ p3)) with hs9 | hs9 | hs9 | hs9
   ·
    obtain ⟨_, _, ⟨T10, L10, kk10, nn10⟩, -, X10, ⟨Lc10, hQ10, l10, y10, z10⟩, st10⟩ := Jvm.LawKit.callS X6 hx (y := ym1) hown (mvT hZ (wk9 hw)) (mvT hZ (wk10 hw)) (mvT hZ (wk11 hw)) (mvT hZ (wk12 hw)) (by decide) (backOf (W := 2) (rm2_2 l Z a0 hw w hW [] (p2 ^^^ p3) h6 n0 O7 (by rw [hs9] <;> decide)) hZ (wk12 hw) (wk11 hw) (by decide) (by decide)) (g := (mkF m 25 Lb5 [(.int (p2 ^^^ p3)), (.ref b6), (.ref b6)])) rfl (by rw [hml]; rfl) (argsL := [(.int (p2 ^^^ p3))]) (rest := [(.ref b6), (.ref b6)]) (lenOf pds_1 rfl) rfl (by show 2 * 0 + _ ≤ _; exact Nat.le_of_eq rfl) (hb hby at_25) (fun _ _ => ⟨rfl, e6, (by decide : 1 + 0 ≤ _), (by decide : 7 + 0 ≤ _)⟩)
    dsimp only [Pt.U, Pt.locs, Pt.cells, Pt.slots] at X10 l10 y10 z10 st10 hQ10
    subst l10 y10 z10
    obtain ⟨rfl, N10q, e10⟩ := hQ10
    have N10 := Fr.app N4 N10q
    obtain ⟨_, _, ⟨T11, L11, kk11, nn11⟩, -, X11, ⟨Lc11, hQ11, l11, y11, z11⟩, st11⟩ := X10.specialBack hx (y := ym3) rfl hown (mvT hZ (wk16 hw)) (mvT hZ (wk17 hw)) (mvT hZ (wk18 hw)) (by decide) (backOf (W := 1) (rm3_4 l Z a0 hw w hW [] b6 p2 p3 (p1 &&& (2147483647 : Int32)) (p0 &&& (2305843009213693951 : Int64)) p4 p5 h6 n0 O7 A6 i6_28 gg6 i6_30 i6_32 i6_34 i6_36 i6_38 i6_40) hZ (wk18 hw) (wk8 hw) (by decide) (by decide)) (g := (mkF m 39 Lb5 [(.long p5), (.long p4), (.long (p0 &&& (2305843009213693951 : Int64))), (.int (p1 &&& (2147483647 : Int32))), (.int p3), (.int p2), (.ref (w 3)), (.ref b6), (.ref b6)])) rfl (by rw [hml]; rfl) (Steps.refl _) (a := b6) (argsL := [(.ref (w 3)), (.int p2), (.int p3), (.int (p1 &&& (2147483647 : Int32))), (.long (p0 &&& (2305843009213693951 : Int64))), (.long p4), (.long p5)]) (rest := [(.ref b6)]) (lenOf pds_3 rfl) rfl (by show 2 * 0 + _ ≤ _; exact Nat.le_of_eq rfl) (hb hby at_39) (fun _ _ => ⟨rfl, e10, (by decide : 1 + 0 ≤ _), (by decide : 7 + 0 ≤ _)⟩)
    dsimp only [Pt.U, Pt.locs, Pt.cells, Pt.slots] at X11 l11 y11 z11 st11 hQ11
    subst l11 y11 z11
    obtain ⟨rfl, N11q, K11, r11_0, r11_1, r11_2, r11_3, r11_4, r11_5, r11_6⟩ := hQ11
    have N11 := Fr.app N10 N11q
    have O12 := own_old O7 K11 (own_ngc gg6 (own_ngc gg6 (own_ngc gg6 (own_ngc gg6 (own_ngc gg6 (own_ngc gg6 (own_ngc gg6 own_ng0)))))))
    let Lb13 : Array Slot := #[.val (.long p0), .second, .val (.int p1), .val (.int p2), .val (.int p3), .val (.long p4), .second, .val (.long p5), .second, .val (.long (p0 &&& (2305843009213693951 : Int64))), .second, .val (.int (p1 &&& (2147483647 : Int32))), .val (.ref b6), .unset, .unset, .unset, .unset, .unset, .unset]
    have pre14 : ∀ t, Steps p.tables e below (T11.setTop (mkF m 46 Lb13 [(.ref b6)])) t → Steps p.tables e below (s₁.setTop (entryFrame m #[(.long p0), (.int p1), (.int p2), (.int p3), (.long p4), (.long p5)] maxLocals)) t := fun t k => pre8 t (by
     show Steps p.tables e below (T6.setTop (mkF m 25 Lb5 [(.int (p2 ^^^ p3)), (.ref b6), (.ref b6)])) _
     refine st10 _ ?_
     refine sI X10 hx hby at_28 rfl ?_
     refine si X10 hx hby at_29 rfl ?_
     refine si X10 hx hby at_31 rfl ?_
     refine XS.lload X10.here hx rfl (hb hby at_33) rfl ?_
     refine XS.lload X10.here hx rfl (hb hby at_35) rfl ?_
     refine XS.lload X10.here hx rfl (hb hby at_37) rfl ?_
     refine st11.trans ?_
     refine XS.astore X11.here hx rfl (hb hby at_42) rfl rfl (l' := Lb13) rfl ?_
     refine sa X11 hx hby at_44 rfl rfl ?_
     exact k)
    by_cases hc15 : ((2 : Int64) * ((p1 &&& (2147483647 : Int32)).toInt64)) = (0 : Int64)
    ·
     exfalso
     have z6 := Int32.lt_iff_toInt_lt.mp hc3
     have z13 := congrArg Int64.toInt hc15
     have z1 : ((1 : Int32)).toInt = 1 := by decide
     have z2 := rng32 (p1 &&& (2147483647 : Int32))
     have z3 := rng32 p1
     have z4 : ((2147483647 : Int32)).toInt = 2147483647 := by decide
     have z5 : ((p1 &&& (2147483647 : Int32))).toInt = p1.toInt % 2147483648 := c_mask p1 (2147483647 : Int32) 31 (by decide) (by decide)
     have z7 := rng64 ((2 : Int64) * ((p1 &&& (2147483647 : Int32)).toInt64))
     have z8 : ((2 : Int64)).toInt = 2 := by decide
     have z9 := rng64 ((p1 &&& (2147483647 : Int32)).toInt64)
     have z10 := c_i2l (p1 &&& (2147483647 : Int32))
     have z11 := c_lmul (2 : Int64) ((p1 &&& (2147483647 : Int32)).toInt64)
     rw [(by decide : ((2 : Int64)).toInt = 2)] at z11
     have z12 : ((0 : Int64)).toInt = 0 := by decide
     omega
    ·
     have t17 := (own_exa A6 K11)
     obtain ⟨cq16, kq16, q16a, q16b, q16c⟩ := isOf hZ rfl t17
     obtain ⟨_, _, ⟨T16, L16, kk16, nn16⟩, -, X16, ⟨Lc16, hQ16, l16, y16, z16⟩, st16⟩ := X11.virtualBack hx (y := ym4) (z := ym4) hown (mvT hZ (wk41 hw)) (mvT hZ (wk42 hw)) (notFace_of_selects (args := #[]) (mvT hZ (wk44 hw))) (mvT hZ (wk44 hw)) (mvT hZ (wk43 hw)) (by decide) (backOf (W := 0) (rm6_5 l Z a0 hw w hW [] b6 (p0 &&& (2305843009213693951 : Int64)) (p1 &&& (2147483647 : Int32)) T11.heap n0 O12 r11_4 r11_3 hc15) hZ (wk45 hw) (wk8 hw) (by decide) (by decide)) q16a q16c (g := (mkF m 46 Lb13 [(.ref b6)])) rfl (by rw [hml]; rfl) (Steps.refl _) (argsL := []) (rest := []) (lenOf pds_4 rfl) rfl (by show 2 * 0 + _ ≤ _; exact Nat.le_of_eq rfl) (hb hby at_46) (fun _ _ => ⟨rfl, rfl, (by decide : 1 + 0 ≤ _), (by decide : 7 + 0 ≤ _)⟩)
     dsimp only [Pt.U, Pt.locs, Pt.cells, Pt.slots] at X16 l16 y16 z16 st16 hQ16
     subst l16 y16 z16
     obtain ⟨rfl, N16q, e16⟩ := hQ16
     have N16 := Fr.app N11 N16q
     let Lb18 : Array Slot := #[.val (.long p0), .second, .val (.int p1), .val (.int p2), .val (.int p3), .val (.long p4), .second, .val (.long p5), .second, .val (.long (p0 &&& (2305843009213693951 : Int64))), .second, .val (.int (p1 &&& (2147483647 : Int32))), .val (.ref b6), .val (.long ((((2 : Int64) * (p0 &&& (2305843009213693951 : Int64))) + ((p1 &&& (2147483647 : Int32)).toInt64)) / ((2 : Int64) * ((p1 &&& (2147483647 : Int32)).toInt64)))), .second, .unset, .unset, .unset, .unset]
     let Lb19 : Array Slot := #[.val (.long p0), .second, .val (.int p1), .val (.int p2), .val (.int p3), .val (.long p4), .second, .val (.long p5), .second, .val (.long (p0 &&& (2305843009213693951 : Int64))), .second, .val (.int (p1 &&& (2147483647 : Int32))), .val (.ref b6), .val (.long ((((2 : Int64) * (p0 &&& (2305843009213693951 : Int64))) + ((p1 &&& (2147483647 : Int32)).toInt64)) / ((2 : Int64) * ((p1 &&& (2147483647 : Int32)).toInt64)))), .second, .val (.long ((p1 &&& (2147483647 : Int32)).toInt64)), .second, .unset, .unset]
     let Lb20 : Array Slot := #[.val (.long p0), .second, .val (.int p1), .val (.int p2), .val (.int p3), .val (.long p4), .second, .val (.long p5), .second, .val (.long (p0 &&& (2305843009213693951 : Int64))), .second, .val (.int (p1 &&& (2147483647 : Int32))), .val (.ref b6), .val (.long ((((2 : Int64) * (p0 &&& (2305843009213693951 : Int64))) + ((p1 &&& (2147483647 : Int32)).toInt64)) / ((2 : Int64) * ((p1 &&& (2147483647 : Int32)).toInt64)))), .second, .val (.long ((p1 &&& (2147483647 : Int32)).toInt64)), .second, .val (.long ((2 : Int64) * ((p0 &&& (2305843009213693951 : Int64)) - (((((2 : Int64) * (p0 &&& (2305843009213693951 : Int64))) + ((p1 &&& (2147483647 : Int32)).toInt64)) / ((2 : Int64) * ((p1 &&& (2147483647 : Int32)).toInt64))) * ((p1 &&& (2147483647 : Int32)).toInt64))))), .second]
     obtain ⟨fs, hr, hrun, hended, hWm, hsame⟩ := X16.leave (v := some (.int (1 : Int32))) (fun h => by rw [Bd.returns] at h; cases h)
     refine ⟨_, _, pre14 _ ?_, hrun, hended, _, _, rfl, ?_, ⟨_, rfl⟩, hWm, hsame.mono (by decide) (by decide)⟩
     · show Steps p.tables e below (T11.setTop (mkF m 46 Lb13 [(.ref b6)])) _
       refine st16.trans ?_
       refine XS.lstore X16.here hx rfl (hb hby at_49) rfl (l' := Lb18) rfl ?_
       refine si X16 hx hby at_51 rfl ?_
       refine XS.i2l X16.here hx rfl (hb hby at_53) rfl ?_
       refine XS.lstore X16.here hx rfl (hb hby at_54) rfl (l' := Lb19) rfl ?_
       refine X16.ldc2Long hx hown (mvT hZ (wk47 hw)) (g := (mkF m 56 Lb19 [])) rfl (hb hby at_56) _ ?_
       refine XS.lload X16.here hx rfl (hb hby at_59) rfl ?_
       refine XS.lload X16.here hx rfl (hb hby at_61) rfl ?_
       refine XS.lload X16.here hx rfl (hb hby at_63) rfl ?_
       refine XS.lmul X16.here hx rfl (hb hby at_65) rfl ?_
       refine XS.lsub X16.here hx rfl (hb hby at_66) rfl ?_
       refine XS.lmul X16.here hx rfl (hb hby at_67) rfl ?_
       refine XS.lstore X16.here hx rfl (hb hby at_68) rfl (l' := Lb20) rfl ?_
       refine XS.lload X16.here hx rfl (hb hby at_70) rfl ?_
       refine XS.lneg X16.here hx rfl (hb hby at_72) rfl ?_
       refine XS.lload X16.here hx rfl (hb hby at_73) rfl ?_
       refine XS.lcmp X16.here hx rfl (hb hby at_75) rfl ?_
       refine sN X16 hx hby at_76 ((if0 _ _).trans (flt ((fun q => (own_core (p0 &&& (2305843009213693951 : Int64)) ((p1 &&& (2147483647 : Int32)).toInt64) ((2 : Int64) * ((p1 &&& (2147483647 : Int32)).toInt64)) (-((p1 &&& (2147483647 : Int32)).toInt64)) (own_cb p0) (own_sb p1 hc3) (own_s2 p1 hc3) (own_sm p1 hc3)).1 ((lw_gt _ _).mp q)) : ¬ ((0 : Int32) < (lcmpW (-((p1 &&& (2147483647 : Int32)).toInt64)) ((2 : Int64) * ((p0 &&& (2305843009213693951 : Int64)) - (((((2 : Int64) * (p0 &&& (2305843009213693951 : Int64))) + ((p1 &&& (2147483647 : Int32)).toInt64)) / ((2 : Int64) * ((p1 &&& (2147483647 : Int32)).toInt64))) * ((p1 &&& (2147483647 : Int32)).toInt64)))))))).2.2.1) ?_
       refine XS.lload X16.here hx rfl (hb hby at_79) rfl ?_
       refine XS.lload X16.here hx rfl (hb hby at_81) rfl ?_
       refine XS.lcmp X16.here hx rfl (hb hby at_83) rfl ?_
       refine sN X16 hx hby at_84 ((if0 _ _).trans (tlt (((lw_lt _ _).mpr (own_core (p0 &&& (2305843009213693951 : Int64)) ((p1 &&& (2147483647 : Int32)).toInt64) ((2 : Int64) * ((p1 &&& (2147483647 : Int32)).toInt64)) (-((p1 &&& (2147483647 : Int32)).toInt64)) (own_cb p0) (own_sb p1 hc3) (own_s2 p1 hc3) (own_sm p1 hc3)).2) : (lcmpW ((2 : Int64) * ((p0 &&& (2305843009213693951 : Int64)) - (((((2 : Int64) * (p0 &&& (2305843009213693951 : Int64))) + ((p1 &&& (2147483647 : Int32)).toInt64)) / ((2 : Int64) * ((p1 &&& (2147483647 : Int32)).toInt64))) * ((p1 &&& (2147483647 : Int32)).toInt64)))) ((p1 &&& (2147483647 : Int32)).toInt64)) < (0 : Int32))).2.1) ?_
       refine sc X16 hx hby at_87 ?_
       refine sg (pc := 88) (pc' := 92) X16 hx hby at_88 (by decide) (by decide) ?_
       exact retN X16 hx (t := .boolean) Bd.returns (by simp) (hb hby at_92) hr
     · show Q0 n0 _ T16.heap _
       rw [e16]
       exact ⟨rfl, N16⟩
   ·
    obtain ⟨_, _, ⟨T21, L21, kk21, nn21⟩, -, X21, ⟨Lc21, hQ21, l21, y21, z21⟩, st21⟩ := Jvm.LawKit.callS X6 hx (y := ym1) hown (mvT hZ (wk9 hw)) (mvT hZ (wk10 hw)) (mvT hZ (wk11 hw)) (mvT hZ (wk12 hw)) (by decide) (backOf (W := 2) (rm2_6 l Z a0 hw w hW [] (p2 ^^^ p3) h6 n0 O7 (by rw [hs9] <;> decide) (by rw [hs9] <;> decide)) hZ (wk12 hw) (wk11 hw) (by decide) (by decide)) (g := (mkF m 25 Lb5 [(.int (p2 ^^^ p3)), (.ref b6), (.ref b6)])) rfl (by rw [hml]; rfl) (argsL := [(.int (p2 ^^^ p3))]) (rest := [(.ref b6), (.ref b6)]) (lenOf pds_1 rfl) rfl (by show 2 * 0 + _ ≤ _; exact Nat.le_of_eq rfl) (hb hby at_25) (fun _ _ => ⟨rfl, e6, (by decide : 1 + 0 ≤ _), (by decide : 7 + 0 ≤ _)⟩)
    dsimp only [Pt.U, Pt.locs, Pt.cells, Pt.slots] at X21 l21 y21 z21 st21 hQ21
    subst l21 y21 z21
    obtain ⟨rfl, N21q, e21⟩ := hQ21
    have N21 := Fr.app N4 N21q
    obtain ⟨_, _, ⟨T22, L22, kk22, nn22⟩, -, X22, ⟨Lc22, hQ22, l22, y22, z22⟩, st22⟩ := X21.specialBack hx (y := ym3) rfl hown (mvT hZ (wk16 hw)) (mvT hZ (wk17 hw)) (mvT hZ (wk18 hw)) (by decide) (backOf (W := 1) (rm3_7 l Z a0 hw w hW [] b6 p2 p3 (p1 &&& (2147483647 : Int32)) (p0 &&& (2305843009213693951 : Int64)) p4 p5 h6 n0 O7 A6 i6_28 gg6 i6_30 i6_32 i6_34 i6_36 i6_38 i6_40) hZ (wk18 hw) (wk8 hw) (by decide) (by decide)) (g := (mkF m 39 Lb5 [(.long p5), (.long p4), (.long (p0 &&& (2305843009213693951 : Int64))), (.int (p1 &&& (2147483647 : Int32))), (.int p3), (.int p2), (.ref (w 0)), (.ref b6), (.ref b6)])) rfl (by rw [hml]; rfl) (Steps.refl _) (a := b6) (argsL := [(.ref (w 0)), (.int p2), (.int p3), (.int (p1 &&& (2147483647 : Int32))), (.long (p0 &&& (2305843009213693951 : Int64))), (.long p4), (.long p5)]) (rest := [(.ref b6)]) (lenOf pds_3 rfl) rfl (by show 2 * 0 + _ ≤ _; exact Nat.le_of_eq rfl) (hb hby at_39) (fun _ _ => ⟨rfl, e21, (by decide : 1 + 0 ≤ _), (by decide : 7 + 0 ≤ _)⟩)
    dsimp only [Pt.U, Pt.locs, Pt.cells, Pt.slots] at X22 l22 y22 z22 st22 hQ22
    subst l22 y22 z22
    obtain ⟨rfl, N22q, K22, r22_0, r22_1, r22_2, r22_3, r22_4, r22_5, r22_6⟩ := hQ22
    have N22 := Fr.app N21 N22q
    have O23 := own_old O7 K22 (own_ngc gg6 (own_ngc gg6 (own_ngc gg6 (own_ngc gg6 (own_ngc gg6 (own_ngc gg6 (own_ngc gg6 own_ng0)))))))
    let Lb24 : Array Slot := #[.val (.long p0), .second, .val (.int p1), .val (.int p2), .val (.int p3), .val (.long p4), .second, .val (.long p5), .second, .val (.long (p0 &&& (2305843009213693951 : Int64))), .second, .val (.int (p1 &&& (2147483647 : Int32))), .val (.ref b6), .unset, .unset, .unset, .unset, .unset, .unset]
    have pre25 : ∀ t, Steps p.tables e below (T22.setTop (mkF m 46 Lb24 [(.ref b6)])) t → Steps p.tables e below (s₁.setTop (entryFrame m #[(.long p0), (.int p1), (.int p2), (.int p3), (.long p4), (.long p5)] maxLocals)) t := fun t k => pre8 t (by
     show Steps p.tables e below (T6.setTop (mkF m 25 Lb5 [(.int (p2 ^^^ p3)), (.ref b6), (.ref b6)])) _
     refine st21 _ ?_
     refine sI X21 hx hby at_28 rfl ?_
     refine si X21 hx hby at_29 rfl ?_
     refine si X21 hx hby at_31 rfl ?_
     refine XS.lload X21.here hx rfl (hb hby at_33) rfl ?_
     refine XS.lload X21.here hx rfl (hb hby at_35) rfl ?_
     refine XS.lload X21.here hx rfl (hb hby at_37) rfl ?_
     refine st22.trans ?_
     refine XS.astore X22.here hx rfl (hb hby at_42) rfl rfl (l' := Lb24) rfl ?_
     refine sa X22 hx hby at_44 rfl rfl ?_
     exact k)
    by_cases hc26 : ((2 : Int64) * ((p1 &&& (2147483647 : Int32)).toInt64)) = (0 : Int64)
    ·
     exfalso
     have z6 := Int32.lt_iff_toInt_lt.mp hc3
     have z13 := congrArg Int64.toInt hc26
     have z1 : ((1 : Int32)).toInt = 1 := by decide
     have z2 := rng32 (p1 &&& (2147483647 : Int32))
     have z3 := rng32 p1
     have z4 : ((2147483647 : Int32)).toInt = 2147483647 := by decide
     have z5 : ((p1 &&& (2147483647 : Int32))).toInt = p1.toInt % 2147483648 := c_mask p1 (2147483647 : Int32) 31 (by decide) (by decide)
     have z7 := rng64 ((2 : Int64) * ((p1 &&& (2147483647 : Int32)).toInt64))
     have z8 : ((2 : Int64)).toInt = 2 := by decide
     have z9 := rng64 ((p1 &&& (2147483647 : Int32)).toInt64)
     have z10 := c_i2l (p1 &&& (2147483647 : Int32))
     have z11 := c_lmul (2 : Int64) ((p1 &&& (2147483647 : Int32)).toInt64)
     rw [(by decide : ((2 : Int64)).toInt = 2)] at z11
     have z12 : ((0 : Int64)).toInt = 0 := by decide
     omega
    ·
     have t28 := (own_exa A6 K22)
     obtain ⟨cq27, kq27, q27a, q27b, q27c⟩ := isOf hZ rfl t28
     obtain ⟨_, _, ⟨T27, L27, kk27, nn27⟩, -, X27, ⟨Lc27, hQ27, l27, y27, z27⟩, st27⟩ := X22.virtualBack hx (y := ym4) (z := ym4) hown (mvT hZ (wk41 hw)) (mvT hZ (wk42 hw)) (notFace_of_selects (args := #[]) (mvT hZ (wk44 hw))) (mvT hZ (wk44 hw)) (mvT hZ (wk43 hw)) (by decide) (backOf (W := 0) (rm6_5 l Z a0 hw w hW [] b6 (p0 &&& (2305843009213693951 : Int64)) (p1 &&& (2147483647 : Int32)) T22.heap n0 O23 r22_4 r22_3 hc26) hZ (wk45 hw) (wk8 hw) (by decide) (by decide)) q27a q27c (g := (mkF m 46 Lb24 [(.ref b6)])) rfl (by rw [hml]; rfl) (Steps.refl _) (argsL := []) (rest := []) (lenOf pds_4 rfl) rfl (by show 2 * 0 + _ ≤ _; exact Nat.le_of_eq rfl) (hb hby at_46) (fun _ _ => ⟨rfl, rfl, (by decide : 1 + 0 ≤ _), (by decide : 7 + 0 ≤ _)⟩)
     dsimp only [Pt.U, Pt.locs, Pt.cells, Pt.slots] at X27 l27 y27 z27 st27 hQ27
     subst l27 y27 z27
     obtain ⟨rfl, N27q, e27⟩ := hQ27
     have N27 := Fr.app N22 N27q
     let Lb29 : Array Slot := #[.val (.long p0), .second, .val (.int p1), .val (.int p2), .val (.int p3), .val (.long p4), .second, .val (.long p5), .second, .val (.long (p0 &&& (2305843009213693951 : Int64))), .second, .val (.int (p1 &&& (2147483647 : Int32))), .val (.ref b6), .val (.long ((((2 : Int64) * (p0 &&& (2305843009213693951 : Int64))) + ((p1 &&& (2147483647 : Int32)).toInt64)) / ((2 : Int64) * ((p1 &&& (2147483647 : Int32)).toInt64)))), .second, .unset, .unset, .unset, .unset]
     let Lb30 : Array Slot := #[.val (.long p0), .second, .val (.int p1), .val (.int p2), .val (.int p3), .val (.long p4), .second, .val (.long p5), .second, .val (.long (p0 &&& (2305843009213693951 : Int64))), .second, .val (.int (p1 &&& (2147483647 : Int32))), .val (.ref b6), .val (.long ((((2 : Int64) * (p0 &&& (2305843009213693951 : Int64))) + ((p1 &&& (2147483647 : Int32)).toInt64)) / ((2 : Int64) * ((p1 &&& (2147483647 : Int32)).toInt64)))), .second, .val (.long ((p1 &&& (2147483647 : Int32)).toInt64)), .second, .unset, .unset]
     let Lb31 : Array Slot := #[.val (.long p0), .second, .val (.int p1), .val (.int p2), .val (.int p3), .val (.long p4), .second, .val (.long p5), .second, .val (.long (p0 &&& (2305843009213693951 : Int64))), .second, .val (.int (p1 &&& (2147483647 : Int32))), .val (.ref b6), .val (.long ((((2 : Int64) * (p0 &&& (2305843009213693951 : Int64))) + ((p1 &&& (2147483647 : Int32)).toInt64)) / ((2 : Int64) * ((p1 &&& (2147483647 : Int32)).toInt64)))), .second, .val (.long ((p1 &&& (2147483647 : Int32)).toInt64)), .second, .val (.long ((2 : Int64) * ((p0 &&& (2305843009213693951 : Int64)) - (((((2 : Int64) * (p0 &&& (2305843009213693951 : Int64))) + ((p1 &&& (2147483647 : Int32)).toInt64)) / ((2 : Int64) * ((p1 &&& (2147483647 : Int32)).toInt64))) * ((p1 &&& (2147483647 : Int32)).toInt64))))), .second]
     obtain ⟨fs, hr, hrun, hended, hWm, hsame⟩ := X27.leave (v := some (.int (1 : Int32))) (fun h => by rw [Bd.returns] at h; cases h)
     refine ⟨_, _, pre25 _ ?_, hrun, hended, _, _, rfl, ?_, ⟨_, rfl⟩, hWm, hsame.mono (by decide) (by decide)⟩
     · show Steps p.tables e below (T22.setTop (mkF m 46 Lb24 [(.ref b6)])) _
       refine st27.trans ?_
       refine XS.lstore X27.here hx rfl (hb hby at_49) rfl (l' := Lb29) rfl ?_
       refine si X27 hx hby at_51 rfl ?_
       refine XS.i2l X27.here hx rfl (hb hby at_53) rfl ?_
       refine XS.lstore X27.here hx rfl (hb hby at_54) rfl (l' := Lb30) rfl ?_
       refine X27.ldc2Long hx hown (mvT hZ (wk47 hw)) (g := (mkF m 56 Lb30 [])) rfl (hb hby at_56) _ ?_
       refine XS.lload X27.here hx rfl (hb hby at_59) rfl ?_
       refine XS.lload X27.here hx rfl (hb hby at_61) rfl ?_
       refine XS.lload X27.here hx rfl (hb hby at_63) rfl ?_
       refine XS.lmul X27.here hx rfl (hb hby at_65) rfl ?_
       refine XS.lsub X27.here hx rfl (hb hby at_66) rfl ?_
       refine XS.lmul X27.here hx rfl (hb hby at_67) rfl ?_
       refine XS.lstore X27.here hx rfl (hb hby at_68) rfl (l' := Lb31) rfl ?_
       refine XS.lload X27.here hx rfl (hb hby at_70) rfl ?_
       refine XS.lneg X27.here hx rfl (hb hby at_72) rfl ?_
       refine XS.lload X27.here hx rfl (hb hby at_73) rfl ?_
       refine XS.lcmp X27.here hx rfl (hb hby at_75) rfl ?_
       refine sN X27 hx hby at_76 ((if0 _ _).trans (flt ((fun q => (own_core (p0 &&& (2305843009213693951 : Int64)) ((p1 &&& (2147483647 : Int32)).toInt64) ((2 : Int64) * ((p1 &&& (2147483647 : Int32)).toInt64)) (-((p1 &&& (2147483647 : Int32)).toInt64)) (own_cb p0) (own_sb p1 hc3) (own_s2 p1 hc3) (own_sm p1 hc3)).1 ((lw_gt _ _).mp q)) : ¬ ((0 : Int32) < (lcmpW (-((p1 &&& (2147483647 : Int32)).toInt64)) ((2 : Int64) * ((p0 &&& (2305843009213693951 : Int64)) - (((((2 : Int64) * (p0 &&& (2305843009213693951 : Int64))) + ((p1 &&& (2147483647 : Int32)).toInt64)) / ((2 : Int64) * ((p1 &&& (2147483647 : Int32)).toInt64))) * ((p1 &&& (2147483647 : Int32)).toInt64)))))))).2.2.1) ?_
       refine XS.lload X27.here hx rfl (hb hby at_79) rfl ?_
       refine XS.lload X27.here hx rfl (hb hby at_81) rfl ?_
       refine XS.lcmp X27.here hx rfl (hb hby at_83) rfl ?_
       refine sN X27 hx hby at_84 ((if0 _ _).trans (tlt (((lw_lt _ _).mpr (own_core (p0 &&& (2305843009213693951 : Int64)) ((p1 &&& (2147483647 : Int32)).toInt64) ((2 : Int64) * ((p1 &&& (2147483647 : Int32)).toInt64)) (-((p1 &&& (2147483647 : Int32)).toInt64)) (own_cb p0) (own_sb p1 hc3) (own_s2 p1 hc3) (own_sm p1 hc3)).2) : (lcmpW ((2 : Int64) * ((p0 &&& (2305843009213693951 : Int64)) - (((((2 : Int64) * (p0 &&& (2305843009213693951 : Int64))) + ((p1 &&& (2147483647 : Int32)).toInt64)) / ((2 : Int64) * ((p1 &&& (2147483647 : Int32)).toInt64))) * ((p1 &&& (2147483647 : Int32)).toInt64)))) ((p1 &&& (2147483647 : Int32)).toInt64)) < (0 : Int32))).2.1) ?_
       refine sc X27 hx hby at_87 ?_
       refine sg (pc := 88) (pc' := 92) X27 hx hby at_88 (by decide) (by decide) ?_
       exact retN X27 hx (t := .boolean) Bd.returns (by simp) (hb hby at_92) hr
     · show Q0 n0 _ T27.heap _
       rw [e27]
       exact ⟨rfl, N27⟩
   ·
    obtain ⟨_, _, ⟨T32, L32, kk32, nn32⟩, -, X32, ⟨Lc32, hQ32, l32, y32, z32⟩, st32⟩ := Jvm.LawKit.callS X6 hx (y := ym1) hown (mvT hZ (wk9 hw)) (mvT hZ (wk10 hw)) (mvT hZ (wk11 hw)) (mvT hZ (wk12 hw)) (by decide) (backOf (W := 2) (rm2_8 l Z a0 hw w hW [] (p2 ^^^ p3) h6 n0 O7 (by rw [hs9] <;> decide) (by rw [hs9] <;> decide) (by rw [hs9] <;> decide)) hZ (wk12 hw) (wk11 hw) (by decide) (by decide)) (g := (mkF m 25 Lb5 [(.int (p2 ^^^ p3)), (.ref b6), (.ref b6)])) rfl (by rw [hml]; rfl) (argsL := [(.int (p2 ^^^ p3))]) (rest := [(.ref b6), (.ref b6)]) (lenOf pds_1 rfl) rfl (by show 2 * 0 + _ ≤ _; exact Nat.le_of_eq rfl) (hb hby at_25) (fun _ _ => ⟨rfl, e6, (by decide : 1 + 0 ≤ _), (by decide : 7 + 0 ≤ _)⟩)
    dsimp only [Pt.U, Pt.locs, Pt.cells, Pt.slots] at X32 l32 y32 z32 st32 hQ32
    subst l32 y32 z32
    obtain ⟨rfl, N32q, e32⟩ := hQ32
    have N32 := Fr.app N4 N32q
    obtain ⟨_, _, ⟨T33, L33, kk33, nn33⟩, -, X33, ⟨Lc33, hQ33, l33, y33, z33⟩, st33⟩ := X32.specialBack hx (y := ym3) rfl hown (mvT hZ (wk16 hw)) (mvT hZ (wk17 hw)) (mvT hZ (wk18 hw)) (by decide) (backOf (W := 1) (rm3_9 l Z a0 hw w hW [] b6 p2 p3 (p1 &&& (2147483647 : Int32)) (p0 &&& (2305843009213693951 : Int64)) p4 p5 h6 n0 O7 A6 i6_28 gg6 i6_30 i6_32 i6_34 i6_36 i6_38 i6_40) hZ (wk18 hw) (wk8 hw) (by decide) (by decide)) (g := (mkF m 39 Lb5 [(.long p5), (.long p4), (.long (p0 &&& (2305843009213693951 : Int64))), (.int (p1 &&& (2147483647 : Int32))), (.int p3), (.int p2), (.ref (w 1)), (.ref b6), (.ref b6)])) rfl (by rw [hml]; rfl) (Steps.refl _) (a := b6) (argsL := [(.ref (w 1)), (.int p2), (.int p3), (.int (p1 &&& (2147483647 : Int32))), (.long (p0 &&& (2305843009213693951 : Int64))), (.long p4), (.long p5)]) (rest := [(.ref b6)]) (lenOf pds_3 rfl) rfl (by show 2 * 0 + _ ≤ _; exact Nat.le_of_eq rfl) (hb hby at_39) (fun _ _ => ⟨rfl, e32, (by decide : 1 + 0 ≤ _), (by decide : 7 + 0 ≤ _)⟩)
    dsimp only [Pt.U, Pt.locs, Pt.cells, Pt.slots] at X33 l33 y33 z33 st33 hQ33
    subst l33 y33 z33
    obtain ⟨rfl, N33q, K33, r33_0, r33_1, r33_2, r33_3, r33_4, r33_5, r33_6⟩ := hQ33
    have N33 := Fr.app N32 N33q
    have O34 := own_old O7 K33 (own_ngc gg6 (own_ngc gg6 (own_ngc gg6 (own_ngc gg6 (own_ngc gg6 (own_ngc gg6 (own_ngc gg6 own_ng0)))))))
    let Lb35 : Array Slot := #[.val (.long p0), .second, .val (.int p1), .val (.int p2), .val (.int p3), .val (.long p4), .second, .val (.long p5), .second, .val (.long (p0 &&& (2305843009213693951 : Int64))), .second, .val (.int (p1 &&& (2147483647 : Int32))), .val (.ref b6), .unset, .unset, .unset, .unset, .unset, .unset]
    have pre36 : ∀ t, Steps p.tables e below (T33.setTop (mkF m 46 Lb35 [(.ref b6)])) t → Steps p.tables e below (s₁.setTop (entryFrame m #[(.long p0), (.int p1), (.int p2), (.int p3), (.long p4), (.long p5)] maxLocals)) t := fun t k => pre8 t (by
     show Steps p.tables e below (T6.setTop (mkF m 25 Lb5 [(.int (p2 ^^^ p3)), (.ref b6), (.ref b6)])) _
     refine st32 _ ?_
     refine sI X32 hx hby at_28 rfl ?_
     refine si X32 hx hby at_29 rfl ?_
     refine si X32 hx hby at_31 rfl ?_
     refine XS.lload X32.here hx rfl (hb hby at_33) rfl ?_
     refine XS.lload X32.here hx rfl (hb hby at_35) rfl ?_
     refine XS.lload X32.here hx rfl (hb hby at_37) rfl ?_
     refine st33.trans ?_
     refine XS.astore X33.here hx rfl (hb hby at_42) rfl rfl (l' := Lb35) rfl ?_
     refine sa X33 hx hby at_44 rfl rfl ?_
     exact k)
    by_cases hc37 : ((2 : Int64) * ((p1 &&& (2147483647 : Int32)).toInt64)) = (0 : Int64)
    ·
     exfalso
     have z6 := Int32.lt_iff_toInt_lt.mp hc3
     have z13 := congrArg Int64.toInt hc37
     have z1 : ((1 : Int32)).toInt = 1 := by decide
     have z2 := rng32 (p1 &&& (2147483647 : Int32))
     have z3 := rng32 p1
     have z4 : ((2147483647 : Int32)).toInt = 2147483647 := by decide
     have z5 : ((p1 &&& (2147483647 : Int32))).toInt = p1.toInt % 2147483648 := c_mask p1 (2147483647 : Int32) 31 (by decide) (by decide)
     have z7 := rng64 ((2 : Int64) * ((p1 &&& (2147483647 : Int32)).toInt64))
     have z8 : ((2 : Int64)).toInt = 2 := by decide
     have z9 := rng64 ((p1 &&& (2147483647 : Int32)).toInt64)
     have z10 := c_i2l (p1 &&& (2147483647 : Int32))
     have z11 := c_lmul (2 : Int64) ((p1 &&& (2147483647 : Int32)).toInt64)
     rw [(by decide : ((2 : Int64)).toInt = 2)] at z11
     have z12 : ((0 : Int64)).toInt = 0 := by decide
     omega
    ·
     have t39 := (own_exa A6 K33)
     obtain ⟨cq38, kq38, q38a, q38b, q38c⟩ := isOf hZ rfl t39
     obtain ⟨_, _, ⟨T38, L38, kk38, nn38⟩, -, X38, ⟨Lc38, hQ38, l38, y38, z38⟩, st38⟩ := X33.virtualBack hx (y := ym4) (z := ym4) hown (mvT hZ (wk41 hw)) (mvT hZ (wk42 hw)) (notFace_of_selects (args := #[]) (mvT hZ (wk44 hw))) (mvT hZ (wk44 hw)) (mvT hZ (wk43 hw)) (by decide) (backOf (W := 0) (rm6_5 l Z a0 hw w hW [] b6 (p0 &&& (2305843009213693951 : Int64)) (p1 &&& (2147483647 : Int32)) T33.heap n0 O34 r33_4 r33_3 hc37) hZ (wk45 hw) (wk8 hw) (by decide) (by decide)) q38a q38c (g := (mkF m 46 Lb35 [(.ref b6)])) rfl (by rw [hml]; rfl) (Steps.refl _) (argsL := []) (rest := []) (lenOf pds_4 rfl) rfl (by show 2 * 0 + _ ≤ _; exact Nat.le_of_eq rfl) (hb hby at_46) (fun _ _ => ⟨rfl, rfl, (by decide : 1 + 0 ≤ _), (by decide : 7 + 0 ≤ _)⟩)
     dsimp only [Pt.U, Pt.locs, Pt.cells, Pt.slots] at X38 l38 y38 z38 st38 hQ38
     subst l38 y38 z38
     obtain ⟨rfl, N38q, e38⟩ := hQ38
     have N38 := Fr.app N33 N38q
     let Lb40 : Array Slot := #[.val (.long p0), .second, .val (.int p1), .val (.int p2), .val (.int p3), .val (.long p4), .second, .val (.long p5), .second, .val (.long (p0 &&& (2305843009213693951 : Int64))), .second, .val (.int (p1 &&& (2147483647 : Int32))), .val (.ref b6), .val (.long ((((2 : Int64) * (p0 &&& (2305843009213693951 : Int64))) + ((p1 &&& (2147483647 : Int32)).toInt64)) / ((2 : Int64) * ((p1 &&& (2147483647 : Int32)).toInt64)))), .second, .unset, .unset, .unset, .unset]
     let Lb41 : Array Slot := #[.val (.long p0), .second, .val (.int p1), .val (.int p2), .val (.int p3), .val (.long p4), .second, .val (.long p5), .second, .val (.long (p0 &&& (2305843009213693951 : Int64))), .second, .val (.int (p1 &&& (2147483647 : Int32))), .val (.ref b6), .val (.long ((((2 : Int64) * (p0 &&& (2305843009213693951 : Int64))) + ((p1 &&& (2147483647 : Int32)).toInt64)) / ((2 : Int64) * ((p1 &&& (2147483647 : Int32)).toInt64)))), .second, .val (.long ((p1 &&& (2147483647 : Int32)).toInt64)), .second, .unset, .unset]
     let Lb42 : Array Slot := #[.val (.long p0), .second, .val (.int p1), .val (.int p2), .val (.int p3), .val (.long p4), .second, .val (.long p5), .second, .val (.long (p0 &&& (2305843009213693951 : Int64))), .second, .val (.int (p1 &&& (2147483647 : Int32))), .val (.ref b6), .val (.long ((((2 : Int64) * (p0 &&& (2305843009213693951 : Int64))) + ((p1 &&& (2147483647 : Int32)).toInt64)) / ((2 : Int64) * ((p1 &&& (2147483647 : Int32)).toInt64)))), .second, .val (.long ((p1 &&& (2147483647 : Int32)).toInt64)), .second, .val (.long ((2 : Int64) * ((p0 &&& (2305843009213693951 : Int64)) - (((((2 : Int64) * (p0 &&& (2305843009213693951 : Int64))) + ((p1 &&& (2147483647 : Int32)).toInt64)) / ((2 : Int64) * ((p1 &&& (2147483647 : Int32)).toInt64))) * ((p1 &&& (2147483647 : Int32)).toInt64))))), .second]
     obtain ⟨fs, hr, hrun, hended, hWm, hsame⟩ := X38.leave (v := some (.int (1 : Int32))) (fun h => by rw [Bd.returns] at h; cases h)
     refine ⟨_, _, pre36 _ ?_, hrun, hended, _, _, rfl, ?_, ⟨_, rfl⟩, hWm, hsame.mono (by decide) (by decide)⟩
     · show Steps p.tables e below (T33.setTop (mkF m 46 Lb35 [(.ref b6)])) _
       refine st38.trans ?_
       refine XS.lstore X38.here hx rfl (hb hby at_49) rfl (l' := Lb40) rfl ?_
       refine si X38 hx hby at_51 rfl ?_
       refine XS.i2l X38.here hx rfl (hb hby at_53) rfl ?_
       refine XS.lstore X38.here hx rfl (hb hby at_54) rfl (l' := Lb41) rfl ?_
       refine X38.ldc2Long hx hown (mvT hZ (wk47 hw)) (g := (mkF m 56 Lb41 [])) rfl (hb hby at_56) _ ?_
       refine XS.lload X38.here hx rfl (hb hby at_59) rfl ?_
       refine XS.lload X38.here hx rfl (hb hby at_61) rfl ?_
       refine XS.lload X38.here hx rfl (hb hby at_63) rfl ?_
       refine XS.lmul X38.here hx rfl (hb hby at_65) rfl ?_
       refine XS.lsub X38.here hx rfl (hb hby at_66) rfl ?_
       refine XS.lmul X38.here hx rfl (hb hby at_67) rfl ?_
       refine XS.lstore X38.here hx rfl (hb hby at_68) rfl (l' := Lb42) rfl ?_
       refine XS.lload X38.here hx rfl (hb hby at_70) rfl ?_
       refine XS.lneg X38.here hx rfl (hb hby at_72) rfl ?_
       refine XS.lload X38.here hx rfl (hb hby at_73) rfl ?_
       refine XS.lcmp X38.here hx rfl (hb hby at_75) rfl ?_
       refine sN X38 hx hby at_76 ((if0 _ _).trans (flt ((fun q => (own_core (p0 &&& (2305843009213693951 : Int64)) ((p1 &&& (2147483647 : Int32)).toInt64) ((2 : Int64) * ((p1 &&& (2147483647 : Int32)).toInt64)) (-((p1 &&& (2147483647 : Int32)).toInt64)) (own_cb p0) (own_sb p1 hc3) (own_s2 p1 hc3) (own_sm p1 hc3)).1 ((lw_gt _ _).mp q)) : ¬ ((0 : Int32) < (lcmpW (-((p1 &&& (2147483647 : Int32)).toInt64)) ((2 : Int64) * ((p0 &&& (2305843009213693951 : Int64)) - (((((2 : Int64) * (p0 &&& (2305843009213693951 : Int64))) + ((p1 &&& (2147483647 : Int32)).toInt64)) / ((2 : Int64) * ((p1 &&& (2147483647 : Int32)).toInt64))) * ((p1 &&& (2147483647 : Int32)).toInt64)))))))).2.2.1) ?_
       refine XS.lload X38.here hx rfl (hb hby at_79) rfl ?_
       refine XS.lload X38.here hx rfl (hb hby at_81) rfl ?_
       refine XS.lcmp X38.here hx rfl (hb hby at_83) rfl ?_
       refine sN X38 hx hby at_84 ((if0 _ _).trans (tlt (((lw_lt _ _).mpr (own_core (p0 &&& (2305843009213693951 : Int64)) ((p1 &&& (2147483647 : Int32)).toInt64) ((2 : Int64) * ((p1 &&& (2147483647 : Int32)).toInt64)) (-((p1 &&& (2147483647 : Int32)).toInt64)) (own_cb p0) (own_sb p1 hc3) (own_s2 p1 hc3) (own_sm p1 hc3)).2) : (lcmpW ((2 : Int64) * ((p0 &&& (2305843009213693951 : Int64)) - (((((2 : Int64) * (p0 &&& (2305843009213693951 : Int64))) + ((p1 &&& (2147483647 : Int32)).toInt64)) / ((2 : Int64) * ((p1 &&& (2147483647 : Int32)).toInt64))) * ((p1 &&& (2147483647 : Int32)).toInt64)))) ((p1 &&& (2147483647 : Int32)).toInt64)) < (0 : Int32))).2.1) ?_
       refine sc X38 hx hby at_87 ?_
       refine sg (pc := 88) (pc' := 92) X38 hx hby at_88 (by decide) (by decide) ?_
       exact retN X38 hx (t := .boolean) Bd.returns (by simp) (hb hby at_92) hr
     · show Q0 n0 _ T38.heap _
       rw [e38]
       exact ⟨rfl, N38⟩
   ·
    obtain ⟨_, _, ⟨T43, L43, kk43, nn43⟩, -, X43, ⟨Lc43, hQ43, l43, y43, z43⟩, st43⟩ := Jvm.LawKit.callS X6 hx (y := ym1) hown (mvT hZ (wk9 hw)) (mvT hZ (wk10 hw)) (mvT hZ (wk11 hw)) (mvT hZ (wk12 hw)) (by decide) (backOf (W := 2) (rm2_10 l Z a0 hw w hW [] (p2 ^^^ p3) h6 n0 O7 (by rw [hs9] <;> decide) (by rw [hs9] <;> decide) (by rw [hs9] <;> decide)) hZ (wk12 hw) (wk11 hw) (by decide) (by decide)) (g := (mkF m 25 Lb5 [(.int (p2 ^^^ p3)), (.ref b6), (.ref b6)])) rfl (by rw [hml]; rfl) (argsL := [(.int (p2 ^^^ p3))]) (rest := [(.ref b6), (.ref b6)]) (lenOf pds_1 rfl) rfl (by show 2 * 0 + _ ≤ _; exact Nat.le_of_eq rfl) (hb hby at_25) (fun _ _ => ⟨rfl, e6, (by decide : 1 + 0 ≤ _), (by decide : 7 + 0 ≤ _)⟩)
    dsimp only [Pt.U, Pt.locs, Pt.cells, Pt.slots] at X43 l43 y43 z43 st43 hQ43
    subst l43 y43 z43
    obtain ⟨rfl, N43q, e43⟩ := hQ43
    have N43 := Fr.app N4 N43q
    obtain ⟨_, _, ⟨T44, L44, kk44, nn44⟩, -, X44, ⟨Lc44, hQ44, l44, y44, z44⟩, st44⟩ := X43.specialBack hx (y := ym3) rfl hown (mvT hZ (wk16 hw)) (mvT hZ (wk17 hw)) (mvT hZ (wk18 hw)) (by decide) (backOf (W := 1) (rm3_11 l Z a0 hw w hW [] b6 p2 p3 (p1 &&& (2147483647 : Int32)) (p0 &&& (2305843009213693951 : Int64)) p4 p5 h6 n0 O7 A6 i6_28 gg6 i6_30 i6_32 i6_34 i6_36 i6_38 i6_40) hZ (wk18 hw) (wk8 hw) (by decide) (by decide)) (g := (mkF m 39 Lb5 [(.long p5), (.long p4), (.long (p0 &&& (2305843009213693951 : Int64))), (.int (p1 &&& (2147483647 : Int32))), (.int p3), (.int p2), (.ref (w 2)), (.ref b6), (.ref b6)])) rfl (by rw [hml]; rfl) (Steps.refl _) (a := b6) (argsL := [(.ref (w 2)), (.int p2), (.int p3), (.int (p1 &&& (2147483647 : Int32))), (.long (p0 &&& (2305843009213693951 : Int64))), (.long p4), (.long p5)]) (rest := [(.ref b6)]) (lenOf pds_3 rfl) rfl (by show 2 * 0 + _ ≤ _; exact Nat.le_of_eq rfl) (hb hby at_39) (fun _ _ => ⟨rfl, e43, (by decide : 1 + 0 ≤ _), (by decide : 7 + 0 ≤ _)⟩)
    dsimp only [Pt.U, Pt.locs, Pt.cells, Pt.slots] at X44 l44 y44 z44 st44 hQ44
    subst l44 y44 z44
    obtain ⟨rfl, N44q, K44, r44_0, r44_1, r44_2, r44_3, r44_4, r44_5, r44_6⟩ := hQ44
    have N44 := Fr.app N43 N44q
    have O45 := own_old O7 K44 (own_ngc gg6 (own_ngc gg6 (own_ngc gg6 (own_ngc gg6 (own_ngc gg6 (own_ngc gg6 (own_ngc gg6 own_ng0)))))))
    let Lb46 : Array Slot := #[.val (.long p0), .second, .val (.int p1), .val (.int p2), .val (.int p3), .val (.long p4), .second, .val (.long p5), .second, .val (.long (p0 &&& (2305843009213693951 : Int64))), .second, .val (.int (p1 &&& (2147483647 : Int32))), .val (.ref b6), .unset, .unset, .unset, .unset, .unset, .unset]
    have pre47 : ∀ t, Steps p.tables e below (T44.setTop (mkF m 46 Lb46 [(.ref b6)])) t → Steps p.tables e below (s₁.setTop (entryFrame m #[(.long p0), (.int p1), (.int p2), (.int p3), (.long p4), (.long p5)] maxLocals)) t := fun t k => pre8 t (by
     show Steps p.tables e below (T6.setTop (mkF m 25 Lb5 [(.int (p2 ^^^ p3)), (.ref b6), (.ref b6)])) _
     refine st43 _ ?_
     refine sI X43 hx hby at_28 rfl ?_
     refine si X43 hx hby at_29 rfl ?_
     refine si X43 hx hby at_31 rfl ?_
     refine XS.lload X43.here hx rfl (hb hby at_33) rfl ?_
     refine XS.lload X43.here hx rfl (hb hby at_35) rfl ?_
     refine XS.lload X43.here hx rfl (hb hby at_37) rfl ?_
     refine st44.trans ?_
     refine XS.astore X44.here hx rfl (hb hby at_42) rfl rfl (l' := Lb46) rfl ?_
     refine sa X44 hx hby at_44 rfl rfl ?_
     exact k)
    by_cases hc48 : ((2 : Int64) * ((p1 &&& (2147483647 : Int32)).toInt64)) = (0 : Int64)
    ·
     exfalso
     have z6 := Int32.lt_iff_toInt_lt.mp hc3
     have z13 := congrArg Int64.toInt hc48
     have z1 : ((1 : Int32)).toInt = 1 := by decide
     have z2 := rng32 (p1 &&& (2147483647 : Int32))
     have z3 := rng32 p1
     have z4 : ((2147483647 : Int32)).toInt = 2147483647 := by decide
     have z5 : ((p1 &&& (2147483647 : Int32))).toInt = p1.toInt % 2147483648 := c_mask p1 (2147483647 : Int32) 31 (by decide) (by decide)
     have z7 := rng64 ((2 : Int64) * ((p1 &&& (2147483647 : Int32)).toInt64))
     have z8 : ((2 : Int64)).toInt = 2 := by decide
     have z9 := rng64 ((p1 &&& (2147483647 : Int32)).toInt64)
     have z10 := c_i2l (p1 &&& (2147483647 : Int32))
     have z11 := c_lmul (2 : Int64) ((p1 &&& (2147483647 : Int32)).toInt64)
     rw [(by decide : ((2 : Int64)).toInt = 2)] at z11
     have z12 : ((0 : Int64)).toInt = 0 := by decide
     omega
    ·
     have t50 := (own_exa A6 K44)
     obtain ⟨cq49, kq49, q49a, q49b, q49c⟩ := isOf hZ rfl t50
     obtain ⟨_, _, ⟨T49, L49, kk49, nn49⟩, -, X49, ⟨Lc49, hQ49, l49, y49, z49⟩, st49⟩ := X44.virtualBack hx (y := ym4) (z := ym4) hown (mvT hZ (wk41 hw)) (mvT hZ (wk42 hw)) (notFace_of_selects (args := #[]) (mvT hZ (wk44 hw))) (mvT hZ (wk44 hw)) (mvT hZ (wk43 hw)) (by decide) (backOf (W := 0) (rm6_5 l Z a0 hw w hW [] b6 (p0 &&& (2305843009213693951 : Int64)) (p1 &&& (2147483647 : Int32)) T44.heap n0 O45 r44_4 r44_3 hc48) hZ (wk45 hw) (wk8 hw) (by decide) (by decide)) q49a q49c (g := (mkF m 46 Lb46 [(.ref b6)])) rfl (by rw [hml]; rfl) (Steps.refl _) (argsL := []) (rest := []) (lenOf pds_4 rfl) rfl (by show 2 * 0 + _ ≤ _; exact Nat.le_of_eq rfl) (hb hby at_46) (fun _ _ => ⟨rfl, rfl, (by decide : 1 + 0 ≤ _), (by decide : 7 + 0 ≤ _)⟩)
     dsimp only [Pt.U, Pt.locs, Pt.cells, Pt.slots] at X49 l49 y49 z49 st49 hQ49
     subst l49 y49 z49
     obtain ⟨rfl, N49q, e49⟩ := hQ49
     have N49 := Fr.app N44 N49q
     let Lb51 : Array Slot := #[.val (.long p0), .second, .val (.int p1), .val (.int p2), .val (.int p3), .val (.long p4), .second, .val (.long p5), .second, .val (.long (p0 &&& (2305843009213693951 : Int64))), .second, .val (.int (p1 &&& (2147483647 : Int32))), .val (.ref b6), .val (.long ((((2 : Int64) * (p0 &&& (2305843009213693951 : Int64))) + ((p1 &&& (2147483647 : Int32)).toInt64)) / ((2 : Int64) * ((p1 &&& (2147483647 : Int32)).toInt64)))), .second, .unset, .unset, .unset, .unset]
     let Lb52 : Array Slot := #[.val (.long p0), .second, .val (.int p1), .val (.int p2), .val (.int p3), .val (.long p4), .second, .val (.long p5), .second, .val (.long (p0 &&& (2305843009213693951 : Int64))), .second, .val (.int (p1 &&& (2147483647 : Int32))), .val (.ref b6), .val (.long ((((2 : Int64) * (p0 &&& (2305843009213693951 : Int64))) + ((p1 &&& (2147483647 : Int32)).toInt64)) / ((2 : Int64) * ((p1 &&& (2147483647 : Int32)).toInt64)))), .second, .val (.long ((p1 &&& (2147483647 : Int32)).toInt64)), .second, .unset, .unset]
     let Lb53 : Array Slot := #[.val (.long p0), .second, .val (.int p1), .val (.int p2), .val (.int p3), .val (.long p4), .second, .val (.long p5), .second, .val (.long (p0 &&& (2305843009213693951 : Int64))), .second, .val (.int (p1 &&& (2147483647 : Int32))), .val (.ref b6), .val (.long ((((2 : Int64) * (p0 &&& (2305843009213693951 : Int64))) + ((p1 &&& (2147483647 : Int32)).toInt64)) / ((2 : Int64) * ((p1 &&& (2147483647 : Int32)).toInt64)))), .second, .val (.long ((p1 &&& (2147483647 : Int32)).toInt64)), .second, .val (.long ((2 : Int64) * ((p0 &&& (2305843009213693951 : Int64)) - (((((2 : Int64) * (p0 &&& (2305843009213693951 : Int64))) + ((p1 &&& (2147483647 : Int32)).toInt64)) / ((2 : Int64) * ((p1 &&& (2147483647 : Int32)).toInt64))) * ((p1 &&& (2147483647 : Int32)).toInt64))))), .second]
     obtain ⟨fs, hr, hrun, hended, hWm, hsame⟩ := X49.leave (v := some (.int (1 : Int32))) (fun h => by rw [Bd.returns] at h; cases h)
     refine ⟨_, _, pre47 _ ?_, hrun, hended, _, _, rfl, ?_, ⟨_, rfl⟩, hWm, hsame.mono (by decide) (by decide)⟩
     · show Steps p.tables e below (T44.setTop (mkF m 46 Lb46 [(.ref b6)])) _
       refine st49.trans ?_
       refine XS.lstore X49.here hx rfl (hb hby at_49) rfl (l' := Lb51) rfl ?_
       refine si X49 hx hby at_51 rfl ?_
       refine XS.i2l X49.here hx rfl (hb hby at_53) rfl ?_
       refine XS.lstore X49.here hx rfl (hb hby at_54) rfl (l' := Lb52) rfl ?_
       refine X49.ldc2Long hx hown (mvT hZ (wk47 hw)) (g := (mkF m 56 Lb52 [])) rfl (hb hby at_56) _ ?_
       refine XS.lload X49.here hx rfl (hb hby at_59) rfl ?_
       refine XS.lload X49.here hx rfl (hb hby at_61) rfl ?_
       refine XS.lload X49.here hx rfl (hb hby at_63) rfl ?_
       refine XS.lmul X49.here hx rfl (hb hby at_65) rfl ?_
       refine XS.lsub X49.here hx rfl (hb hby at_66) rfl ?_
       refine XS.lmul X49.here hx rfl (hb hby at_67) rfl ?_
       refine XS.lstore X49.here hx rfl (hb hby at_68) rfl (l' := Lb53) rfl ?_
       refine XS.lload X49.here hx rfl (hb hby at_70) rfl ?_
       refine XS.lneg X49.here hx rfl (hb hby at_72) rfl ?_
       refine XS.lload X49.here hx rfl (hb hby at_73) rfl ?_
       refine XS.lcmp X49.here hx rfl (hb hby at_75) rfl ?_
       refine sN X49 hx hby at_76 ((if0 _ _).trans (flt ((fun q => (own_core (p0 &&& (2305843009213693951 : Int64)) ((p1 &&& (2147483647 : Int32)).toInt64) ((2 : Int64) * ((p1 &&& (2147483647 : Int32)).toInt64)) (-((p1 &&& (2147483647 : Int32)).toInt64)) (own_cb p0) (own_sb p1 hc3) (own_s2 p1 hc3) (own_sm p1 hc3)).1 ((lw_gt _ _).mp q)) : ¬ ((0 : Int32) < (lcmpW (-((p1 &&& (2147483647 : Int32)).toInt64)) ((2 : Int64) * ((p0 &&& (2305843009213693951 : Int64)) - (((((2 : Int64) * (p0 &&& (2305843009213693951 : Int64))) + ((p1 &&& (2147483647 : Int32)).toInt64)) / ((2 : Int64) * ((p1 &&& (2147483647 : Int32)).toInt64))) * ((p1 &&& (2147483647 : Int32)).toInt64)))))))).2.2.1) ?_
       refine XS.lload X49.here hx rfl (hb hby at_79) rfl ?_
       refine XS.lload X49.here hx rfl (hb hby at_81) rfl ?_
       refine XS.lcmp X49.here hx rfl (hb hby at_83) rfl ?_
       refine sN X49 hx hby at_84 ((if0 _ _).trans (tlt (((lw_lt _ _).mpr (own_core (p0 &&& (2305843009213693951 : Int64)) ((p1 &&& (2147483647 : Int32)).toInt64) ((2 : Int64) * ((p1 &&& (2147483647 : Int32)).toInt64)) (-((p1 &&& (2147483647 : Int32)).toInt64)) (own_cb p0) (own_sb p1 hc3) (own_s2 p1 hc3) (own_sm p1 hc3)).2) : (lcmpW ((2 : Int64) * ((p0 &&& (2305843009213693951 : Int64)) - (((((2 : Int64) * (p0 &&& (2305843009213693951 : Int64))) + ((p1 &&& (2147483647 : Int32)).toInt64)) / ((2 : Int64) * ((p1 &&& (2147483647 : Int32)).toInt64))) * ((p1 &&& (2147483647 : Int32)).toInt64)))) ((p1 &&& (2147483647 : Int32)).toInt64)) < (0 : Int32))).2.1) ?_
       refine sc X49 hx hby at_87 ?_
       refine sg (pc := 88) (pc' := 92) X49 hx hby at_88 (by decide) (by decide) ?_
       exact retN X49 hx (t := .boolean) Bd.returns (by simp) (hb hby at_92) hr
     · show Q0 n0 _ T49.heap _
       rw [e49]
       exact ⟨rfl, N49⟩
  ·
   obtain ⟨_, _, ⟨T54, L54, kk54, nn54⟩, -, X54, ⟨Lc54, hQ54, l54, y54, z54⟩, st54⟩ := Jvm.LawKit.callS X0 hx (y := ym0) hown (mvT hZ (wk2 hw)) (mvT hZ (wk3 hw)) (mvT hZ (wk4 hw)) (mvT hZ (wk5 hw)) (by decide) (backOf (W := 0) (rm1_12 l Z a0 hw w hW [] (p1 &&& (2147483647 : Int32)) h0 n0 O0 hc3) hZ (wk5 hw) (wk4 hw) (by decide) (by decide)) (g := (mkF m 12 Lb1 [(.int (p1 &&& (2147483647 : Int32))), (.int (1 : Int32))])) rfl (by rw [hml]; rfl) (argsL := [(.int (1 : Int32)), (.int (p1 &&& (2147483647 : Int32)))]) (rest := []) (lenOf pds_0 rfl) rfl (by show 2 * 0 + _ ≤ _; exact Nat.le_of_eq rfl) (hb hby at_12) (fun _ _ => ⟨rfl, e0, (by decide : 0 + 0 ≤ _), (by decide : 0 + 0 ≤ _)⟩)
   dsimp only [Pt.U, Pt.locs, Pt.cells, Pt.slots] at X54 l54 y54 z54 st54 hQ54
   subst l54 y54 z54
   obtain ⟨rfl, N54q, e54⟩ := hQ54
   have N54 := Fr.app N0 N54q
   let Lb55 : Array Slot := #[.val (.long p0), .second, .val (.int p1), .val (.int p2), .val (.int p3), .val (.long p4), .second, .val (.long p5), .second, .val (.long (p0 &&& (2305843009213693951 : Int64))), .second, .val (.int (1 : Int32)), .unset, .unset, .unset, .unset, .unset, .unset, .unset]
   obtain ⟨T56, h56, X56, e56, E56, A56, D56, -, st56⟩ := newO X54 hx hZ hown (wk6 hw) (wk7 hw) (wk8 hw) e54 (g := (mkF m 17 Lb55 [])) rfl (hb hby at_17) (by decide) (by decide)
   obtain ⟨b56, g56⟩ : ∃ z, z = h0.size := ⟨_, rfl⟩
   rw [← g56] at A56 D56 st56
   have gg56 : n0 ≤ b56 := by rw [← O0.1, g56]; exact O0.2.1
   have O57 := O0.ext E56
   have i56_28 : Fld Z h56 b56 "com/example/lusto/lusto/TransferBench$Result" "level" "Lcom/example/lusto/lusto/IsolationLevel;" .null := D56 (Or.inr (wk28 hw)) (ty := (.object "com/example/lusto/lusto/IsolationLevel")) (by decide)
   have i56_30 : Fld Z h56 b56 "com/example/lusto/lusto/TransferBench$Result" "threads" "I" (.int (0 : Int32)) := D56 (Or.inr (wk30 hw)) (ty := .int) (by decide)
   have i56_32 : Fld Z h56 b56 "com/example/lusto/lusto/TransferBench$Result" "accounts" "I" (.int (0 : Int32)) := D56 (Or.inr (wk32 hw)) (ty := .int) (by decide)
   have i56_34 : Fld Z h56 b56 "com/example/lusto/lusto/TransferBench$Result" "seconds" "I" (.int (0 : Int32)) := D56 (Or.inr (wk34 hw)) (ty := .int) (by decide)
   have i56_36 : Fld Z h56 b56 "com/example/lusto/lusto/TransferBench$Result" "commits" "J" (.long (0 : Int64)) := D56 (Or.inr (wk36 hw)) (ty := .long) (by decide)
   have i56_38 : Fld Z h56 b56 "com/example/lusto/lusto/TransferBench$Result" "aborts" "J" (.long (0 : Int64)) := D56 (Or.inr (wk38 hw)) (ty := .long) (by decide)
   have i56_40 : Fld Z h56 b56 "com/example/lusto/lusto/TransferBench$Result" "total" "J" (.long (0 : Int64)) := D56 (Or.inr (wk40 hw)) (ty := .long) (by decide)
   have pre58 : ∀ t, Steps p.tables e below (T56.setTop (mkF m 25 #[.val (.long p0), .second, .val (.int p1), .val (.int p2), .val (.int p3), .val (.long p4), .second, .val (.long p5), .second, .val (.long (p0 &&& (2305843009213693951 : Int64))), .second, .val (.int (1 : Int32)), .unset, .unset, .unset, .unset, .unset, .unset, .unset] [(.int (p2 ^^^ p3)), (.ref b56), (.ref b56)])) t → Steps p.tables e below (s₁.setTop (entryFrame m #[(.long p0), (.int p1), (.int p2), (.int p3), (.long p4), (.long p5)] maxLocals)) t := fun t k => pre2 t (by
    show Steps p.tables e below (s₁.setTop (mkF m 12 Lb1 [(.int (p1 &&& (2147483647 : Int32))), (.int (1 : Int32))])) _
    refine st54 _ ?_
    refine XS.istore X54.here hx rfl (hb hby at_15) rfl (l' := Lb55) rfl ?_
    refine st56 _ ?_
    refine XS.dup X56.here hx rfl (hb hby at_20) rfl rfl ?_
    refine sI X56 hx hby at_21 rfl ?_
    refine si X56 hx hby at_22 rfl ?_
    refine XS.ixor X56.here hx rfl (hb hby at_24) rfl ?_
    exact k)
   rcases (own_and3 (p2 ^^^ p3)) with hs59 | hs59 | hs59 | hs59
   ·
    obtain ⟨_, _, ⟨T60, L60, kk60, nn60⟩, -, X60, ⟨Lc60, hQ60, l60, y60, z60⟩, st60⟩ := Jvm.LawKit.callS X56 hx (y := ym1) hown (mvT hZ (wk9 hw)) (mvT hZ (wk10 hw)) (mvT hZ (wk11 hw)) (mvT hZ (wk12 hw)) (by decide) (backOf (W := 2) (rm2_2 l Z a0 hw w hW [] (p2 ^^^ p3) h56 n0 O57 (by rw [hs59] <;> decide)) hZ (wk12 hw) (wk11 hw) (by decide) (by decide)) (g := (mkF m 25 Lb55 [(.int (p2 ^^^ p3)), (.ref b56), (.ref b56)])) rfl (by rw [hml]; rfl) (argsL := [(.int (p2 ^^^ p3))]) (rest := [(.ref b56), (.ref b56)]) (lenOf pds_1 rfl) rfl (by show 2 * 0 + _ ≤ _; exact Nat.le_of_eq rfl) (hb hby at_25) (fun _ _ => ⟨rfl, e56, (by decide : 1 + 0 ≤ _), (by decide : 7 + 0 ≤ _)⟩)
    dsimp only [Pt.U, Pt.locs, Pt.cells, Pt.slots] at X60 l60 y60 z60 st60 hQ60
    subst l60 y60 z60
    obtain ⟨rfl, N60q, e60⟩ := hQ60
    have N60 := Fr.app N54 N60q
    obtain ⟨_, _, ⟨T61, L61, kk61, nn61⟩, -, X61, ⟨Lc61, hQ61, l61, y61, z61⟩, st61⟩ := X60.specialBack hx (y := ym3) rfl hown (mvT hZ (wk16 hw)) (mvT hZ (wk17 hw)) (mvT hZ (wk18 hw)) (by decide) (backOf (W := 1) (rm3_4 l Z a0 hw w hW [] b56 p2 p3 (1 : Int32) (p0 &&& (2305843009213693951 : Int64)) p4 p5 h56 n0 O57 A56 i56_28 gg56 i56_30 i56_32 i56_34 i56_36 i56_38 i56_40) hZ (wk18 hw) (wk8 hw) (by decide) (by decide)) (g := (mkF m 39 Lb55 [(.long p5), (.long p4), (.long (p0 &&& (2305843009213693951 : Int64))), (.int (1 : Int32)), (.int p3), (.int p2), (.ref (w 3)), (.ref b56), (.ref b56)])) rfl (by rw [hml]; rfl) (Steps.refl _) (a := b56) (argsL := [(.ref (w 3)), (.int p2), (.int p3), (.int (1 : Int32)), (.long (p0 &&& (2305843009213693951 : Int64))), (.long p4), (.long p5)]) (rest := [(.ref b56)]) (lenOf pds_3 rfl) rfl (by show 2 * 0 + _ ≤ _; exact Nat.le_of_eq rfl) (hb hby at_39) (fun _ _ => ⟨rfl, e60, (by decide : 1 + 0 ≤ _), (by decide : 7 + 0 ≤ _)⟩)
    dsimp only [Pt.U, Pt.locs, Pt.cells, Pt.slots] at X61 l61 y61 z61 st61 hQ61
    subst l61 y61 z61
    obtain ⟨rfl, N61q, K61, r61_0, r61_1, r61_2, r61_3, r61_4, r61_5, r61_6⟩ := hQ61
    have N61 := Fr.app N60 N61q
    have O62 := own_old O57 K61 (own_ngc gg56 (own_ngc gg56 (own_ngc gg56 (own_ngc gg56 (own_ngc gg56 (own_ngc gg56 (own_ngc gg56 own_ng0)))))))
    let Lb63 : Array Slot := #[.val (.long p0), .second, .val (.int p1), .val (.int p2), .val (.int p3), .val (.long p4), .second, .val (.long p5), .second, .val (.long (p0 &&& (2305843009213693951 : Int64))), .second, .val (.int (1 : Int32)), .val (.ref b56), .unset, .unset, .unset, .unset, .unset, .unset]
    have t65 := (own_exa A56 K61)
    obtain ⟨cq64, kq64, q64a, q64b, q64c⟩ := isOf hZ rfl t65
    obtain ⟨_, _, ⟨T64, L64, kk64, nn64⟩, -, X64, ⟨Lc64, hQ64, l64, y64, z64⟩, st64⟩ := X61.virtualBack hx (y := ym4) (z := ym4) hown (mvT hZ (wk41 hw)) (mvT hZ (wk42 hw)) (notFace_of_selects (args := #[]) (mvT hZ (wk44 hw))) (mvT hZ (wk44 hw)) (mvT hZ (wk43 hw)) (by decide) (backOf (W := 0) (rm6_5 l Z a0 hw w hW [] b56 (p0 &&& (2305843009213693951 : Int64)) (1 : Int32) T61.heap n0 O62 r61_4 r61_3 (by decide)) hZ (wk45 hw) (wk8 hw) (by decide) (by decide)) q64a q64c (g := (mkF m 46 Lb63 [(.ref b56)])) rfl (by rw [hml]; rfl) (Steps.refl _) (argsL := []) (rest := []) (lenOf pds_4 rfl) rfl (by show 2 * 0 + _ ≤ _; exact Nat.le_of_eq rfl) (hb hby at_46) (fun _ _ => ⟨rfl, rfl, (by decide : 1 + 0 ≤ _), (by decide : 7 + 0 ≤ _)⟩)
    dsimp only [Pt.U, Pt.locs, Pt.cells, Pt.slots] at X64 l64 y64 z64 st64 hQ64
    subst l64 y64 z64
    obtain ⟨rfl, N64q, e64⟩ := hQ64
    have N64 := Fr.app N61 N64q
    let Lb66 : Array Slot := #[.val (.long p0), .second, .val (.int p1), .val (.int p2), .val (.int p3), .val (.long p4), .second, .val (.long p5), .second, .val (.long (p0 &&& (2305843009213693951 : Int64))), .second, .val (.int (1 : Int32)), .val (.ref b56), .val (.long ((((2 : Int64) * (p0 &&& (2305843009213693951 : Int64))) + (1 : Int64)) / (2 : Int64))), .second, .unset, .unset, .unset, .unset]
    let Lb67 : Array Slot := #[.val (.long p0), .second, .val (.int p1), .val (.int p2), .val (.int p3), .val (.long p4), .second, .val (.long p5), .second, .val (.long (p0 &&& (2305843009213693951 : Int64))), .second, .val (.int (1 : Int32)), .val (.ref b56), .val (.long ((((2 : Int64) * (p0 &&& (2305843009213693951 : Int64))) + (1 : Int64)) / (2 : Int64))), .second, .val (.long (1 : Int64)), .second, .unset, .unset]
    let Lb68 : Array Slot := #[.val (.long p0), .second, .val (.int p1), .val (.int p2), .val (.int p3), .val (.long p4), .second, .val (.long p5), .second, .val (.long (p0 &&& (2305843009213693951 : Int64))), .second, .val (.int (1 : Int32)), .val (.ref b56), .val (.long ((((2 : Int64) * (p0 &&& (2305843009213693951 : Int64))) + (1 : Int64)) / (2 : Int64))), .second, .val (.long (1 : Int64)), .second, .val (.long ((2 : Int64) * ((p0 &&& (2305843009213693951 : Int64)) - (((((2 : Int64) * (p0 &&& (2305843009213693951 : Int64))) + (1 : Int64)) / (2 : Int64)) * (1 : Int64))))), .second]
    obtain ⟨fs, hr, hrun, hended, hWm, hsame⟩ := X64.leave (v := some (.int (1 : Int32))) (fun h => by rw [Bd.returns] at h; cases h)
    refine ⟨_, _, pre58 _ ?_, hrun, hended, _, _, rfl, ?_, ⟨_, rfl⟩, hWm, hsame.mono (by decide) (by decide)⟩
    · show Steps p.tables e below (T56.setTop (mkF m 25 Lb55 [(.int (p2 ^^^ p3)), (.ref b56), (.ref b56)])) _
      refine st60 _ ?_
      refine sI X60 hx hby at_28 rfl ?_
      refine si X60 hx hby at_29 rfl ?_
      refine si X60 hx hby at_31 rfl ?_
      refine XS.lload X60.here hx rfl (hb hby at_33) rfl ?_
      refine XS.lload X60.here hx rfl (hb hby at_35) rfl ?_
      refine XS.lload X60.here hx rfl (hb hby at_37) rfl ?_
      refine st61.trans ?_
      refine XS.astore X61.here hx rfl (hb hby at_42) rfl rfl (l' := Lb63) rfl ?_
      refine sa X61 hx hby at_44 rfl rfl ?_
      refine st64.trans ?_
      refine XS.lstore X64.here hx rfl (hb hby at_49) rfl (l' := Lb66) rfl ?_
      refine si X64 hx hby at_51 rfl ?_
      refine XS.i2l X64.here hx rfl (hb hby at_53) rfl ?_
      refine XS.lstore X64.here hx rfl (hb hby at_54) rfl (l' := Lb67) rfl ?_
      refine X64.ldc2Long hx hown (mvT hZ (wk47 hw)) (g := (mkF m 56 Lb67 [])) rfl (hb hby at_56) _ ?_
      refine XS.lload X64.here hx rfl (hb hby at_59) rfl ?_
      refine XS.lload X64.here hx rfl (hb hby at_61) rfl ?_
      refine XS.lload X64.here hx rfl (hb hby at_63) rfl ?_
      refine XS.lmul X64.here hx rfl (hb hby at_65) rfl ?_
      refine XS.lsub X64.here hx rfl (hb hby at_66) rfl ?_
      refine XS.lmul X64.here hx rfl (hb hby at_67) rfl ?_
      refine XS.lstore X64.here hx rfl (hb hby at_68) rfl (l' := Lb68) rfl ?_
      refine XS.lload X64.here hx rfl (hb hby at_70) rfl ?_
      refine XS.lneg X64.here hx rfl (hb hby at_72) rfl ?_
      refine XS.lload X64.here hx rfl (hb hby at_73) rfl ?_
      refine XS.lcmp X64.here hx rfl (hb hby at_75) rfl ?_
      refine sN X64 hx hby at_76 ((if0 _ _).trans (flt ((fun q => (own_core (p0 &&& (2305843009213693951 : Int64)) (1 : Int64) (2 : Int64) (-1 : Int64) (own_cb p0) (by decide) (by decide) (by decide)).1 ((lw_gt _ _).mp q)) : ¬ ((0 : Int32) < (lcmpW (-1 : Int64) ((2 : Int64) * ((p0 &&& (2305843009213693951 : Int64)) - (((((2 : Int64) * (p0 &&& (2305843009213693951 : Int64))) + (1 : Int64)) / (2 : Int64)) * (1 : Int64)))))))).2.2.1) ?_
      refine XS.lload X64.here hx rfl (hb hby at_79) rfl ?_
      refine XS.lload X64.here hx rfl (hb hby at_81) rfl ?_
      refine XS.lcmp X64.here hx rfl (hb hby at_83) rfl ?_
      refine sN X64 hx hby at_84 ((if0 _ _).trans (tlt (((lw_lt _ _).mpr (own_core (p0 &&& (2305843009213693951 : Int64)) (1 : Int64) (2 : Int64) (-1 : Int64) (own_cb p0) (by decide) (by decide) (by decide)).2) : (lcmpW ((2 : Int64) * ((p0 &&& (2305843009213693951 : Int64)) - (((((2 : Int64) * (p0 &&& (2305843009213693951 : Int64))) + (1 : Int64)) / (2 : Int64)) * (1 : Int64)))) (1 : Int64)) < (0 : Int32))).2.1) ?_
      refine sc X64 hx hby at_87 ?_
      refine sg (pc := 88) (pc' := 92) X64 hx hby at_88 (by decide) (by decide) ?_
      exact retN X64 hx (t := .boolean) Bd.returns (by simp) (hb hby at_92) hr
    · show Q0 n0 _ T64.heap _
      rw [e64]
      exact ⟨rfl, N64⟩
   ·
    obtain ⟨_, _, ⟨T69, L69, kk69, nn69⟩, -, X69, ⟨Lc69, hQ69, l69, y69, z69⟩, st69⟩ := Jvm.LawKit.callS X56 hx (y := ym1) hown (mvT hZ (wk9 hw)) (mvT hZ (wk10 hw)) (mvT hZ (wk11 hw)) (mvT hZ (wk12 hw)) (by decide) (backOf (W := 2) (rm2_6 l Z a0 hw w hW [] (p2 ^^^ p3) h56 n0 O57 (by rw [hs59] <;> decide) (by rw [hs59] <;> decide)) hZ (wk12 hw) (wk11 hw) (by decide) (by decide)) (g := (mkF m 25 Lb55 [(.int (p2 ^^^ p3)), (.ref b56), (.ref b56)])) rfl (by rw [hml]; rfl) (argsL := [(.int (p2 ^^^ p3))]) (rest := [(.ref b56), (.ref b56)]) (lenOf pds_1 rfl) rfl (by show 2 * 0 + _ ≤ _; exact Nat.le_of_eq rfl) (hb hby at_25) (fun _ _ => ⟨rfl, e56, (by decide : 1 + 0 ≤ _), (by decide : 7 + 0 ≤ _)⟩)
    dsimp only [Pt.U, Pt.locs, Pt.cells, Pt.slots] at X69 l69 y69 z69 st69 hQ69
    subst l69 y69 z69
    obtain ⟨rfl, N69q, e69⟩ := hQ69
    have N69 := Fr.app N54 N69q
    obtain ⟨_, _, ⟨T70, L70, kk70, nn70⟩, -, X70, ⟨Lc70, hQ70, l70, y70, z70⟩, st70⟩ := X69.specialBack hx (y := ym3) rfl hown (mvT hZ (wk16 hw)) (mvT hZ (wk17 hw)) (mvT hZ (wk18 hw)) (by decide) (backOf (W := 1) (rm3_7 l Z a0 hw w hW [] b56 p2 p3 (1 : Int32) (p0 &&& (2305843009213693951 : Int64)) p4 p5 h56 n0 O57 A56 i56_28 gg56 i56_30 i56_32 i56_34 i56_36 i56_38 i56_40) hZ (wk18 hw) (wk8 hw) (by decide) (by decide)) (g := (mkF m 39 Lb55 [(.long p5), (.long p4), (.long (p0 &&& (2305843009213693951 : Int64))), (.int (1 : Int32)), (.int p3), (.int p2), (.ref (w 0)), (.ref b56), (.ref b56)])) rfl (by rw [hml]; rfl) (Steps.refl _) (a := b56) (argsL := [(.ref (w 0)), (.int p2), (.int p3), (.int (1 : Int32)), (.long (p0 &&& (2305843009213693951 : Int64))), (.long p4), (.long p5)]) (rest := [(.ref b56)]) (lenOf pds_3 rfl) rfl (by show 2 * 0 + _ ≤ _; exact Nat.le_of_eq rfl) (hb hby at_39) (fun _ _ => ⟨rfl, e69, (by decide : 1 + 0 ≤ _), (by decide : 7 + 0 ≤ _)⟩)
    dsimp only [Pt.U, Pt.locs, Pt.cells, Pt.slots] at X70 l70 y70 z70 st70 hQ70
    subst l70 y70 z70
    obtain ⟨rfl, N70q, K70, r70_0, r70_1, r70_2, r70_3, r70_4, r70_5, r70_6⟩ := hQ70
    have N70 := Fr.app N69 N70q
    have O71 := own_old O57 K70 (own_ngc gg56 (own_ngc gg56 (own_ngc gg56 (own_ngc gg56 (own_ngc gg56 (own_ngc gg56 (own_ngc gg56 own_ng0)))))))
    let Lb72 : Array Slot := #[.val (.long p0), .second, .val (.int p1), .val (.int p2), .val (.int p3), .val (.long p4), .second, .val (.long p5), .second, .val (.long (p0 &&& (2305843009213693951 : Int64))), .second, .val (.int (1 : Int32)), .val (.ref b56), .unset, .unset, .unset, .unset, .unset, .unset]
    have t74 := (own_exa A56 K70)
    obtain ⟨cq73, kq73, q73a, q73b, q73c⟩ := isOf hZ rfl t74
    obtain ⟨_, _, ⟨T73, L73, kk73, nn73⟩, -, X73, ⟨Lc73, hQ73, l73, y73, z73⟩, st73⟩ := X70.virtualBack hx (y := ym4) (z := ym4) hown (mvT hZ (wk41 hw)) (mvT hZ (wk42 hw)) (notFace_of_selects (args := #[]) (mvT hZ (wk44 hw))) (mvT hZ (wk44 hw)) (mvT hZ (wk43 hw)) (by decide) (backOf (W := 0) (rm6_5 l Z a0 hw w hW [] b56 (p0 &&& (2305843009213693951 : Int64)) (1 : Int32) T70.heap n0 O71 r70_4 r70_3 (by decide)) hZ (wk45 hw) (wk8 hw) (by decide) (by decide)) q73a q73c (g := (mkF m 46 Lb72 [(.ref b56)])) rfl (by rw [hml]; rfl) (Steps.refl _) (argsL := []) (rest := []) (lenOf pds_4 rfl) rfl (by show 2 * 0 + _ ≤ _; exact Nat.le_of_eq rfl) (hb hby at_46) (fun _ _ => ⟨rfl, rfl, (by decide : 1 + 0 ≤ _), (by decide : 7 + 0 ≤ _)⟩)
    dsimp only [Pt.U, Pt.locs, Pt.cells, Pt.slots] at X73 l73 y73 z73 st73 hQ73
    subst l73 y73 z73
    obtain ⟨rfl, N73q, e73⟩ := hQ73
    have N73 := Fr.app N70 N73q
    let Lb75 : Array Slot := #[.val (.long p0), .second, .val (.int p1), .val (.int p2), .val (.int p3), .val (.long p4), .second, .val (.long p5), .second, .val (.long (p0 &&& (2305843009213693951 : Int64))), .second, .val (.int (1 : Int32)), .val (.ref b56), .val (.long ((((2 : Int64) * (p0 &&& (2305843009213693951 : Int64))) + (1 : Int64)) / (2 : Int64))), .second, .unset, .unset, .unset, .unset]
    let Lb76 : Array Slot := #[.val (.long p0), .second, .val (.int p1), .val (.int p2), .val (.int p3), .val (.long p4), .second, .val (.long p5), .second, .val (.long (p0 &&& (2305843009213693951 : Int64))), .second, .val (.int (1 : Int32)), .val (.ref b56), .val (.long ((((2 : Int64) * (p0 &&& (2305843009213693951 : Int64))) + (1 : Int64)) / (2 : Int64))), .second, .val (.long (1 : Int64)), .second, .unset, .unset]
    let Lb77 : Array Slot := #[.val (.long p0), .second, .val (.int p1), .val (.int p2), .val (.int p3), .val (.long p4), .second, .val (.long p5), .second, .val (.long (p0 &&& (2305843009213693951 : Int64))), .second, .val (.int (1 : Int32)), .val (.ref b56), .val (.long ((((2 : Int64) * (p0 &&& (2305843009213693951 : Int64))) + (1 : Int64)) / (2 : Int64))), .second, .val (.long (1 : Int64)), .second, .val (.long ((2 : Int64) * ((p0 &&& (2305843009213693951 : Int64)) - (((((2 : Int64) * (p0 &&& (2305843009213693951 : Int64))) + (1 : Int64)) / (2 : Int64)) * (1 : Int64))))), .second]
    obtain ⟨fs, hr, hrun, hended, hWm, hsame⟩ := X73.leave (v := some (.int (1 : Int32))) (fun h => by rw [Bd.returns] at h; cases h)
    refine ⟨_, _, pre58 _ ?_, hrun, hended, _, _, rfl, ?_, ⟨_, rfl⟩, hWm, hsame.mono (by decide) (by decide)⟩
    · show Steps p.tables e below (T56.setTop (mkF m 25 Lb55 [(.int (p2 ^^^ p3)), (.ref b56), (.ref b56)])) _
      refine st69 _ ?_
      refine sI X69 hx hby at_28 rfl ?_
      refine si X69 hx hby at_29 rfl ?_
      refine si X69 hx hby at_31 rfl ?_
      refine XS.lload X69.here hx rfl (hb hby at_33) rfl ?_
      refine XS.lload X69.here hx rfl (hb hby at_35) rfl ?_
      refine XS.lload X69.here hx rfl (hb hby at_37) rfl ?_
      refine st70.trans ?_
      refine XS.astore X70.here hx rfl (hb hby at_42) rfl rfl (l' := Lb72) rfl ?_
      refine sa X70 hx hby at_44 rfl rfl ?_
      refine st73.trans ?_
      refine XS.lstore X73.here hx rfl (hb hby at_49) rfl (l' := Lb75) rfl ?_
      refine si X73 hx hby at_51 rfl ?_
      refine XS.i2l X73.here hx rfl (hb hby at_53) rfl ?_
      refine XS.lstore X73.here hx rfl (hb hby at_54) rfl (l' := Lb76) rfl ?_
      refine X73.ldc2Long hx hown (mvT hZ (wk47 hw)) (g := (mkF m 56 Lb76 [])) rfl (hb hby at_56) _ ?_
      refine XS.lload X73.here hx rfl (hb hby at_59) rfl ?_
      refine XS.lload X73.here hx rfl (hb hby at_61) rfl ?_
      refine XS.lload X73.here hx rfl (hb hby at_63) rfl ?_
      refine XS.lmul X73.here hx rfl (hb hby at_65) rfl ?_
      refine XS.lsub X73.here hx rfl (hb hby at_66) rfl ?_
      refine XS.lmul X73.here hx rfl (hb hby at_67) rfl ?_
      refine XS.lstore X73.here hx rfl (hb hby at_68) rfl (l' := Lb77) rfl ?_
      refine XS.lload X73.here hx rfl (hb hby at_70) rfl ?_
      refine XS.lneg X73.here hx rfl (hb hby at_72) rfl ?_
      refine XS.lload X73.here hx rfl (hb hby at_73) rfl ?_
      refine XS.lcmp X73.here hx rfl (hb hby at_75) rfl ?_
      refine sN X73 hx hby at_76 ((if0 _ _).trans (flt ((fun q => (own_core (p0 &&& (2305843009213693951 : Int64)) (1 : Int64) (2 : Int64) (-1 : Int64) (own_cb p0) (by decide) (by decide) (by decide)).1 ((lw_gt _ _).mp q)) : ¬ ((0 : Int32) < (lcmpW (-1 : Int64) ((2 : Int64) * ((p0 &&& (2305843009213693951 : Int64)) - (((((2 : Int64) * (p0 &&& (2305843009213693951 : Int64))) + (1 : Int64)) / (2 : Int64)) * (1 : Int64)))))))).2.2.1) ?_
      refine XS.lload X73.here hx rfl (hb hby at_79) rfl ?_
      refine XS.lload X73.here hx rfl (hb hby at_81) rfl ?_
      refine XS.lcmp X73.here hx rfl (hb hby at_83) rfl ?_
      refine sN X73 hx hby at_84 ((if0 _ _).trans (tlt (((lw_lt _ _).mpr (own_core (p0 &&& (2305843009213693951 : Int64)) (1 : Int64) (2 : Int64) (-1 : Int64) (own_cb p0) (by decide) (by decide) (by decide)).2) : (lcmpW ((2 : Int64) * ((p0 &&& (2305843009213693951 : Int64)) - (((((2 : Int64) * (p0 &&& (2305843009213693951 : Int64))) + (1 : Int64)) / (2 : Int64)) * (1 : Int64)))) (1 : Int64)) < (0 : Int32))).2.1) ?_
      refine sc X73 hx hby at_87 ?_
      refine sg (pc := 88) (pc' := 92) X73 hx hby at_88 (by decide) (by decide) ?_
      exact retN X73 hx (t := .boolean) Bd.returns (by simp) (hb hby at_92) hr
    · show Q0 n0 _ T73.heap _
      rw [e73]
      exact ⟨rfl, N73⟩
   ·
    obtain ⟨_, _, ⟨T78, L78, kk78, nn78⟩, -, X78, ⟨Lc78, hQ78, l78, y78, z78⟩, st78⟩ := Jvm.LawKit.callS X56 hx (y := ym1) hown (mvT hZ (wk9 hw)) (mvT hZ (wk10 hw)) (mvT hZ (wk11 hw)) (mvT hZ (wk12 hw)) (by decide) (backOf (W := 2) (rm2_8 l Z a0 hw w hW [] (p2 ^^^ p3) h56 n0 O57 (by rw [hs59] <;> decide) (by rw [hs59] <;> decide) (by rw [hs59] <;> decide)) hZ (wk12 hw) (wk11 hw) (by decide) (by decide)) (g := (mkF m 25 Lb55 [(.int (p2 ^^^ p3)), (.ref b56), (.ref b56)])) rfl (by rw [hml]; rfl) (argsL := [(.int (p2 ^^^ p3))]) (rest := [(.ref b56), (.ref b56)]) (lenOf pds_1 rfl) rfl (by show 2 * 0 + _ ≤ _; exact Nat.le_of_eq rfl) (hb hby at_25) (fun _ _ => ⟨rfl, e56, (by decide : 1 + 0 ≤ _), (by decide : 7 + 0 ≤ _)⟩)
    dsimp only [Pt.U, Pt.locs, Pt.cells, Pt.slots] at X78 l78 y78 z78 st78 hQ78
    subst l78 y78 z78
    obtain ⟨rfl, N78q, e78⟩ := hQ78
    have N78 := Fr.app N54 N78q
    obtain ⟨_, _, ⟨T79, L79, kk79, nn79⟩, -, X79, ⟨Lc79, hQ79, l79, y79, z79⟩, st79⟩ := X78.specialBack hx (y := ym3) rfl hown (mvT hZ (wk16 hw)) (mvT hZ (wk17 hw)) (mvT hZ (wk18 hw)) (by decide) (backOf (W := 1) (rm3_9 l Z a0 hw w hW [] b56 p2 p3 (1 : Int32) (p0 &&& (2305843009213693951 : Int64)) p4 p5 h56 n0 O57 A56 i56_28 gg56 i56_30 i56_32 i56_34 i56_36 i56_38 i56_40) hZ (wk18 hw) (wk8 hw) (by decide) (by decide)) (g := (mkF m 39 Lb55 [(.long p5), (.long p4), (.long (p0 &&& (2305843009213693951 : Int64))), (.int (1 : Int32)), (.int p3), (.int p2), (.ref (w 1)), (.ref b56), (.ref b56)])) rfl (by rw [hml]; rfl) (Steps.refl _) (a := b56) (argsL := [(.ref (w 1)), (.int p2), (.int p3), (.int (1 : Int32)), (.long (p0 &&& (2305843009213693951 : Int64))), (.long p4), (.long p5)]) (rest := [(.ref b56)]) (lenOf pds_3 rfl) rfl (by show 2 * 0 + _ ≤ _; exact Nat.le_of_eq rfl) (hb hby at_39) (fun _ _ => ⟨rfl, e78, (by decide : 1 + 0 ≤ _), (by decide : 7 + 0 ≤ _)⟩)
    dsimp only [Pt.U, Pt.locs, Pt.cells, Pt.slots] at X79 l79 y79 z79 st79 hQ79
    subst l79 y79 z79
    obtain ⟨rfl, N79q, K79, r79_0, r79_1, r79_2, r79_3, r79_4, r79_5, r79_6⟩ := hQ79
    have N79 := Fr.app N78 N79q
    have O80 := own_old O57 K79 (own_ngc gg56 (own_ngc gg56 (own_ngc gg56 (own_ngc gg56 (own_ngc gg56 (own_ngc gg56 (own_ngc gg56 own_ng0)))))))
    let Lb81 : Array Slot := #[.val (.long p0), .second, .val (.int p1), .val (.int p2), .val (.int p3), .val (.long p4), .second, .val (.long p5), .second, .val (.long (p0 &&& (2305843009213693951 : Int64))), .second, .val (.int (1 : Int32)), .val (.ref b56), .unset, .unset, .unset, .unset, .unset, .unset]
    have t83 := (own_exa A56 K79)
    obtain ⟨cq82, kq82, q82a, q82b, q82c⟩ := isOf hZ rfl t83
    obtain ⟨_, _, ⟨T82, L82, kk82, nn82⟩, -, X82, ⟨Lc82, hQ82, l82, y82, z82⟩, st82⟩ := X79.virtualBack hx (y := ym4) (z := ym4) hown (mvT hZ (wk41 hw)) (mvT hZ (wk42 hw)) (notFace_of_selects (args := #[]) (mvT hZ (wk44 hw))) (mvT hZ (wk44 hw)) (mvT hZ (wk43 hw)) (by decide) (backOf (W := 0) (rm6_5 l Z a0 hw w hW [] b56 (p0 &&& (2305843009213693951 : Int64)) (1 : Int32) T79.heap n0 O80 r79_4 r79_3 (by decide)) hZ (wk45 hw) (wk8 hw) (by decide) (by decide)) q82a q82c (g := (mkF m 46 Lb81 [(.ref b56)])) rfl (by rw [hml]; rfl) (Steps.refl _) (argsL := []) (rest := []) (lenOf pds_4 rfl) rfl (by show 2 * 0 + _ ≤ _; exact Nat.le_of_eq rfl) (hb hby at_46) (fun _ _ => ⟨rfl, rfl, (by decide : 1 + 0 ≤ _), (by decide : 7 + 0 ≤ _)⟩)
    dsimp only [Pt.U, Pt.locs, Pt.cells, Pt.slots] at X82 l82 y82 z82 st82 hQ82
    subst l82 y82 z82
    obtain ⟨rfl, N82q, e82⟩ := hQ82
    have N82 := Fr.app N79 N82q
    let Lb84 : Array Slot := #[.val (.long p0), .second, .val (.int p1), .val (.int p2), .val (.int p3), .val (.long p4), .second, .val (.long p5), .second, .val (.long (p0 &&& (2305843009213693951 : Int64))), .second, .val (.int (1 : Int32)), .val (.ref b56), .val (.long ((((2 : Int64) * (p0 &&& (2305843009213693951 : Int64))) + (1 : Int64)) / (2 : Int64))), .second, .unset, .unset, .unset, .unset]
    let Lb85 : Array Slot := #[.val (.long p0), .second, .val (.int p1), .val (.int p2), .val (.int p3), .val (.long p4), .second, .val (.long p5), .second, .val (.long (p0 &&& (2305843009213693951 : Int64))), .second, .val (.int (1 : Int32)), .val (.ref b56), .val (.long ((((2 : Int64) * (p0 &&& (2305843009213693951 : Int64))) + (1 : Int64)) / (2 : Int64))), .second, .val (.long (1 : Int64)), .second, .unset, .unset]
    let Lb86 : Array Slot := #[.val (.long p0), .second, .val (.int p1), .val (.int p2), .val (.int p3), .val (.long p4), .second, .val (.long p5), .second, .val (.long (p0 &&& (2305843009213693951 : Int64))), .second, .val (.int (1 : Int32)), .val (.ref b56), .val (.long ((((2 : Int64) * (p0 &&& (2305843009213693951 : Int64))) + (1 : Int64)) / (2 : Int64))), .second, .val (.long (1 : Int64)), .second, .val (.long ((2 : Int64) * ((p0 &&& (2305843009213693951 : Int64)) - (((((2 : Int64) * (p0 &&& (2305843009213693951 : Int64))) + (1 : Int64)) / (2 : Int64)) * (1 : Int64))))), .second]
    obtain ⟨fs, hr, hrun, hended, hWm, hsame⟩ := X82.leave (v := some (.int (1 : Int32))) (fun h => by rw [Bd.returns] at h; cases h)
    refine ⟨_, _, pre58 _ ?_, hrun, hended, _, _, rfl, ?_, ⟨_, rfl⟩, hWm, hsame.mono (by decide) (by decide)⟩
    · show Steps p.tables e below (T56.setTop (mkF m 25 Lb55 [(.int (p2 ^^^ p3)), (.ref b56), (.ref b56)])) _
      refine st78 _ ?_
      refine sI X78 hx hby at_28 rfl ?_
      refine si X78 hx hby at_29 rfl ?_
      refine si X78 hx hby at_31 rfl ?_
      refine XS.lload X78.here hx rfl (hb hby at_33) rfl ?_
      refine XS.lload X78.here hx rfl (hb hby at_35) rfl ?_
      refine XS.lload X78.here hx rfl (hb hby at_37) rfl ?_
      refine st79.trans ?_
      refine XS.astore X79.here hx rfl (hb hby at_42) rfl rfl (l' := Lb81) rfl ?_
      refine sa X79 hx hby at_44 rfl rfl ?_
      refine st82.trans ?_
      refine XS.lstore X82.here hx rfl (hb hby at_49) rfl (l' := Lb84) rfl ?_
      refine si X82 hx hby at_51 rfl ?_
      refine XS.i2l X82.here hx rfl (hb hby at_53) rfl ?_
      refine XS.lstore X82.here hx rfl (hb hby at_54) rfl (l' := Lb85) rfl ?_
      refine X82.ldc2Long hx hown (mvT hZ (wk47 hw)) (g := (mkF m 56 Lb85 [])) rfl (hb hby at_56) _ ?_
      refine XS.lload X82.here hx rfl (hb hby at_59) rfl ?_
      refine XS.lload X82.here hx rfl (hb hby at_61) rfl ?_
      refine XS.lload X82.here hx rfl (hb hby at_63) rfl ?_
      refine XS.lmul X82.here hx rfl (hb hby at_65) rfl ?_
      refine XS.lsub X82.here hx rfl (hb hby at_66) rfl ?_
      refine XS.lmul X82.here hx rfl (hb hby at_67) rfl ?_
      refine XS.lstore X82.here hx rfl (hb hby at_68) rfl (l' := Lb86) rfl ?_
      refine XS.lload X82.here hx rfl (hb hby at_70) rfl ?_
      refine XS.lneg X82.here hx rfl (hb hby at_72) rfl ?_
      refine XS.lload X82.here hx rfl (hb hby at_73) rfl ?_
      refine XS.lcmp X82.here hx rfl (hb hby at_75) rfl ?_
      refine sN X82 hx hby at_76 ((if0 _ _).trans (flt ((fun q => (own_core (p0 &&& (2305843009213693951 : Int64)) (1 : Int64) (2 : Int64) (-1 : Int64) (own_cb p0) (by decide) (by decide) (by decide)).1 ((lw_gt _ _).mp q)) : ¬ ((0 : Int32) < (lcmpW (-1 : Int64) ((2 : Int64) * ((p0 &&& (2305843009213693951 : Int64)) - (((((2 : Int64) * (p0 &&& (2305843009213693951 : Int64))) + (1 : Int64)) / (2 : Int64)) * (1 : Int64)))))))).2.2.1) ?_
      refine XS.lload X82.here hx rfl (hb hby at_79) rfl ?_
      refine XS.lload X82.here hx rfl (hb hby at_81) rfl ?_
      refine XS.lcmp X82.here hx rfl (hb hby at_83) rfl ?_
      refine sN X82 hx hby at_84 ((if0 _ _).trans (tlt (((lw_lt _ _).mpr (own_core (p0 &&& (2305843009213693951 : Int64)) (1 : Int64) (2 : Int64) (-1 : Int64) (own_cb p0) (by decide) (by decide) (by decide)).2) : (lcmpW ((2 : Int64) * ((p0 &&& (2305843009213693951 : Int64)) - (((((2 : Int64) * (p0 &&& (2305843009213693951 : Int64))) + (1 : Int64)) / (2 : Int64)) * (1 : Int64)))) (1 : Int64)) < (0 : Int32))).2.1) ?_
      refine sc X82 hx hby at_87 ?_
      refine sg (pc := 88) (pc' := 92) X82 hx hby at_88 (by decide) (by decide) ?_
      exact retN X82 hx (t := .boolean) Bd.returns (by simp) (hb hby at_92) hr
    · show Q0 n0 _ T82.heap _
      rw [e82]
      exact ⟨rfl, N82⟩
   ·
    obtain ⟨_, _, ⟨T87, L87, kk87, nn87⟩, -, X87, ⟨Lc87, hQ87, l87, y87, z87⟩, st87⟩ := Jvm.LawKit.callS X56 hx (y := ym1) hown (mvT hZ (wk9 hw)) (mvT hZ (wk10 hw)) (mvT hZ (wk11 hw)) (mvT hZ (wk12 hw)) (by decide) (backOf (W := 2) (rm2_10 l Z a0 hw w hW [] (p2 ^^^ p3) h56 n0 O57 (by rw [hs59] <;> decide) (by rw [hs59] <;> decide) (by rw [hs59] <;> decide)) hZ (wk12 hw) (wk11 hw) (by decide) (by decide)) (g := (mkF m 25 Lb55 [(.int (p2 ^^^ p3)), (.ref b56), (.ref b56)])) rfl (by rw [hml]; rfl) (argsL := [(.int (p2 ^^^ p3))]) (rest := [(.ref b56), (.ref b56)]) (lenOf pds_1 rfl) rfl (by show 2 * 0 + _ ≤ _; exact Nat.le_of_eq rfl) (hb hby at_25) (fun _ _ => ⟨rfl, e56, (by decide : 1 + 0 ≤ _), (by decide : 7 + 0 ≤ _)⟩)
    dsimp only [Pt.U, Pt.locs, Pt.cells, Pt.slots] at X87 l87 y87 z87 st87 hQ87
    subst l87 y87 z87
    obtain ⟨rfl, N87q, e87⟩ := hQ87
    have N87 := Fr.app N54 N87q
    obtain ⟨_, _, ⟨T88, L88, kk88, nn88⟩, -, X88, ⟨Lc88, hQ88, l88, y88, z88⟩, st88⟩ := X87.specialBack hx (y := ym3) rfl hown (mvT hZ (wk16 hw)) (mvT hZ (wk17 hw)) (mvT hZ (wk18 hw)) (by decide) (backOf (W := 1) (rm3_11 l Z a0 hw w hW [] b56 p2 p3 (1 : Int32) (p0 &&& (2305843009213693951 : Int64)) p4 p5 h56 n0 O57 A56 i56_28 gg56 i56_30 i56_32 i56_34 i56_36 i56_38 i56_40) hZ (wk18 hw) (wk8 hw) (by decide) (by decide)) (g := (mkF m 39 Lb55 [(.long p5), (.long p4), (.long (p0 &&& (2305843009213693951 : Int64))), (.int (1 : Int32)), (.int p3), (.int p2), (.ref (w 2)), (.ref b56), (.ref b56)])) rfl (by rw [hml]; rfl) (Steps.refl _) (a := b56) (argsL := [(.ref (w 2)), (.int p2), (.int p3), (.int (1 : Int32)), (.long (p0 &&& (2305843009213693951 : Int64))), (.long p4), (.long p5)]) (rest := [(.ref b56)]) (lenOf pds_3 rfl) rfl (by show 2 * 0 + _ ≤ _; exact Nat.le_of_eq rfl) (hb hby at_39) (fun _ _ => ⟨rfl, e87, (by decide : 1 + 0 ≤ _), (by decide : 7 + 0 ≤ _)⟩)
    dsimp only [Pt.U, Pt.locs, Pt.cells, Pt.slots] at X88 l88 y88 z88 st88 hQ88
    subst l88 y88 z88
    obtain ⟨rfl, N88q, K88, r88_0, r88_1, r88_2, r88_3, r88_4, r88_5, r88_6⟩ := hQ88
    have N88 := Fr.app N87 N88q
    have O89 := own_old O57 K88 (own_ngc gg56 (own_ngc gg56 (own_ngc gg56 (own_ngc gg56 (own_ngc gg56 (own_ngc gg56 (own_ngc gg56 own_ng0)))))))
    let Lb90 : Array Slot := #[.val (.long p0), .second, .val (.int p1), .val (.int p2), .val (.int p3), .val (.long p4), .second, .val (.long p5), .second, .val (.long (p0 &&& (2305843009213693951 : Int64))), .second, .val (.int (1 : Int32)), .val (.ref b56), .unset, .unset, .unset, .unset, .unset, .unset]
    have t92 := (own_exa A56 K88)
    obtain ⟨cq91, kq91, q91a, q91b, q91c⟩ := isOf hZ rfl t92
    obtain ⟨_, _, ⟨T91, L91, kk91, nn91⟩, -, X91, ⟨Lc91, hQ91, l91, y91, z91⟩, st91⟩ := X88.virtualBack hx (y := ym4) (z := ym4) hown (mvT hZ (wk41 hw)) (mvT hZ (wk42 hw)) (notFace_of_selects (args := #[]) (mvT hZ (wk44 hw))) (mvT hZ (wk44 hw)) (mvT hZ (wk43 hw)) (by decide) (backOf (W := 0) (rm6_5 l Z a0 hw w hW [] b56 (p0 &&& (2305843009213693951 : Int64)) (1 : Int32) T88.heap n0 O89 r88_4 r88_3 (by decide)) hZ (wk45 hw) (wk8 hw) (by decide) (by decide)) q91a q91c (g := (mkF m 46 Lb90 [(.ref b56)])) rfl (by rw [hml]; rfl) (Steps.refl _) (argsL := []) (rest := []) (lenOf pds_4 rfl) rfl (by show 2 * 0 + _ ≤ _; exact Nat.le_of_eq rfl) (hb hby at_46) (fun _ _ => ⟨rfl, rfl, (by decide : 1 + 0 ≤ _), (by decide : 7 + 0 ≤ _)⟩)
    dsimp only [Pt.U, Pt.locs, Pt.cells, Pt.slots] at X91 l91 y91 z91 st91 hQ91
    subst l91 y91 z91
    obtain ⟨rfl, N91q, e91⟩ := hQ91
    have N91 := Fr.app N88 N91q
    let Lb93 : Array Slot := #[.val (.long p0), .second, .val (.int p1), .val (.int p2), .val (.int p3), .val (.long p4), .second, .val (.long p5), .second, .val (.long (p0 &&& (2305843009213693951 : Int64))), .second, .val (.int (1 : Int32)), .val (.ref b56), .val (.long ((((2 : Int64) * (p0 &&& (2305843009213693951 : Int64))) + (1 : Int64)) / (2 : Int64))), .second, .unset, .unset, .unset, .unset]
    let Lb94 : Array Slot := #[.val (.long p0), .second, .val (.int p1), .val (.int p2), .val (.int p3), .val (.long p4), .second, .val (.long p5), .second, .val (.long (p0 &&& (2305843009213693951 : Int64))), .second, .val (.int (1 : Int32)), .val (.ref b56), .val (.long ((((2 : Int64) * (p0 &&& (2305843009213693951 : Int64))) + (1 : Int64)) / (2 : Int64))), .second, .val (.long (1 : Int64)), .second, .unset, .unset]
    let Lb95 : Array Slot := #[.val (.long p0), .second, .val (.int p1), .val (.int p2), .val (.int p3), .val (.long p4), .second, .val (.long p5), .second, .val (.long (p0 &&& (2305843009213693951 : Int64))), .second, .val (.int (1 : Int32)), .val (.ref b56), .val (.long ((((2 : Int64) * (p0 &&& (2305843009213693951 : Int64))) + (1 : Int64)) / (2 : Int64))), .second, .val (.long (1 : Int64)), .second, .val (.long ((2 : Int64) * ((p0 &&& (2305843009213693951 : Int64)) - (((((2 : Int64) * (p0 &&& (2305843009213693951 : Int64))) + (1 : Int64)) / (2 : Int64)) * (1 : Int64))))), .second]
    obtain ⟨fs, hr, hrun, hended, hWm, hsame⟩ := X91.leave (v := some (.int (1 : Int32))) (fun h => by rw [Bd.returns] at h; cases h)
    refine ⟨_, _, pre58 _ ?_, hrun, hended, _, _, rfl, ?_, ⟨_, rfl⟩, hWm, hsame.mono (by decide) (by decide)⟩
    · show Steps p.tables e below (T56.setTop (mkF m 25 Lb55 [(.int (p2 ^^^ p3)), (.ref b56), (.ref b56)])) _
      refine st87 _ ?_
      refine sI X87 hx hby at_28 rfl ?_
      refine si X87 hx hby at_29 rfl ?_
      refine si X87 hx hby at_31 rfl ?_
      refine XS.lload X87.here hx rfl (hb hby at_33) rfl ?_
      refine XS.lload X87.here hx rfl (hb hby at_35) rfl ?_
      refine XS.lload X87.here hx rfl (hb hby at_37) rfl ?_
      refine st88.trans ?_
      refine XS.astore X88.here hx rfl (hb hby at_42) rfl rfl (l' := Lb90) rfl ?_
      refine sa X88 hx hby at_44 rfl rfl ?_
      refine st91.trans ?_
      refine XS.lstore X91.here hx rfl (hb hby at_49) rfl (l' := Lb93) rfl ?_
      refine si X91 hx hby at_51 rfl ?_
      refine XS.i2l X91.here hx rfl (hb hby at_53) rfl ?_
      refine XS.lstore X91.here hx rfl (hb hby at_54) rfl (l' := Lb94) rfl ?_
      refine X91.ldc2Long hx hown (mvT hZ (wk47 hw)) (g := (mkF m 56 Lb94 [])) rfl (hb hby at_56) _ ?_
      refine XS.lload X91.here hx rfl (hb hby at_59) rfl ?_
      refine XS.lload X91.here hx rfl (hb hby at_61) rfl ?_
      refine XS.lload X91.here hx rfl (hb hby at_63) rfl ?_
      refine XS.lmul X91.here hx rfl (hb hby at_65) rfl ?_
      refine XS.lsub X91.here hx rfl (hb hby at_66) rfl ?_
      refine XS.lmul X91.here hx rfl (hb hby at_67) rfl ?_
      refine XS.lstore X91.here hx rfl (hb hby at_68) rfl (l' := Lb95) rfl ?_
      refine XS.lload X91.here hx rfl (hb hby at_70) rfl ?_
      refine XS.lneg X91.here hx rfl (hb hby at_72) rfl ?_
      refine XS.lload X91.here hx rfl (hb hby at_73) rfl ?_
      refine XS.lcmp X91.here hx rfl (hb hby at_75) rfl ?_
      refine sN X91 hx hby at_76 ((if0 _ _).trans (flt ((fun q => (own_core (p0 &&& (2305843009213693951 : Int64)) (1 : Int64) (2 : Int64) (-1 : Int64) (own_cb p0) (by decide) (by decide) (by decide)).1 ((lw_gt _ _).mp q)) : ¬ ((0 : Int32) < (lcmpW (-1 : Int64) ((2 : Int64) * ((p0 &&& (2305843009213693951 : Int64)) - (((((2 : Int64) * (p0 &&& (2305843009213693951 : Int64))) + (1 : Int64)) / (2 : Int64)) * (1 : Int64)))))))).2.2.1) ?_
      refine XS.lload X91.here hx rfl (hb hby at_79) rfl ?_
      refine XS.lload X91.here hx rfl (hb hby at_81) rfl ?_
      refine XS.lcmp X91.here hx rfl (hb hby at_83) rfl ?_
      refine sN X91 hx hby at_84 ((if0 _ _).trans (tlt (((lw_lt _ _).mpr (own_core (p0 &&& (2305843009213693951 : Int64)) (1 : Int64) (2 : Int64) (-1 : Int64) (own_cb p0) (by decide) (by decide) (by decide)).2) : (lcmpW ((2 : Int64) * ((p0 &&& (2305843009213693951 : Int64)) - (((((2 : Int64) * (p0 &&& (2305843009213693951 : Int64))) + (1 : Int64)) / (2 : Int64)) * (1 : Int64)))) (1 : Int64)) < (0 : Int32))).2.1) ?_
      refine sc X91 hx hby at_87 ?_
      refine sg (pc := 88) (pc' := 92) X91 hx hby at_88 (by decide) (by decide) ?_
      exact retN X91 hx (t := .boolean) Bd.returns (by simp) (hb hby at_92) hr
    · show Q0 n0 _ T91.heap _
      rw [e91]
      exact ⟨rfl, N91⟩
set_option maxRecDepth 65536 in
set_option maxHeartbeats 400000000 in
theorem comes_1 {Post : Tables → Env → Array Value → State → Outcome → State → Prop} (hpost : ∀ tb e args s v u, (limb_1_1.after args s (.returned v) u = true ∧ limb_1_2.after args s (.returned v) u = true ∧ True) → FrameEnd s (.returned v) u (Jvm.fieldLocs frame_1_writes args s ++ Jvm.arrayLocs frame_1_arrays args s ++ Jvm.staticLocs frame_1_statics s) 16 128 → Post tb e args s (.returned v) u) :
    ArmFor flags0 classFile x code maxLocals ret World_1 tables_1 room_1 Calls_1 rest_1 Pre_1 Post := by
  intro l hfl _ _ p e ha hc hk s m args below hf hA hF happ hP
  obtain ⟨hcalls, hrest, hpre⟩ := hP
  obtain ⟨-, -, -, hnamed, -, -, -, hat⟩ := (Spec.applies_iff hf).mp happ
  obtain ⟨hg, hn⟩ := and_e (Cond.before_iff.mp (show (Jvm.Cond.and given_1 narrow_1).before args s = true from hpre))
  obtain ⟨ga4, gb4⟩ := and_e hg
  obtain ⟨ga5, gb5⟩ := and_e gb4
  obtain ⟨ga6, gb6⟩ := and_e gb5
  obtain ⟨ga7, gb7⟩ := and_e gb6
  obtain ⟨ga8, gb8⟩ := and_e gb7
  obtain ⟨ga9, gb9⟩ := and_e gb8
  obtain ⟨v0, v1, v2, v3, v4, v5, rfl⟩ : ∃ v0 v1 v2 v3 v4 v5 : Value, args = #[v0, v1, v2, v3, v4, v5] := by
    have hs : args.size = 6 := by simpa [Cond.value, given_1] using ga4
    obtain ⟨L⟩ := args
    match L, hs with
    | [v0, v1, v2, v3, v4, v5], _ => exact ⟨v0, v1, v2, v3, v4, v5, rfl⟩
  have hw := fun d (hd : d ∈ tables_1) => atoms_spec (ws := Jvm.Cond.code x code maxLocals ret :: tables_1) hat d (List.mem_cons_of_mem _ hd)
  have hfit : Fit s := fun {y c} hc i hi => by
    obtain ⟨ha, rfl⟩ := Array.getElem?_eq_some_iff.mp hc
    have q := List.all_eq_true.mp ((Array.all_eq_true_iff_forall_mem.mp hF) _ (Array.getElem_mem ha)) i (List.mem_range.mpr hi)
    simpa [Array.getElem?_eq_getElem hi] using q
  obtain ⟨i0, ei0⟩ := isL_v ga5
  obtain rfl : v0 = (.long i0) := Option.some.inj ei0
  obtain ⟨i1, ei1⟩ := is_v ga6
  obtain rfl : v1 = (.int i1) := Option.some.inj ei1
  obtain ⟨i2, ei2⟩ := is_v ga7
  obtain rfl : v2 = (.int i2) := Option.some.inj ei2
  obtain ⟨i3, ei3⟩ := is_v ga8
  obtain rfl : v3 = (.int i3) := Option.some.inj ei3
  obtain ⟨i4, ei4⟩ := isL_v ga9
  obtain rfl : v4 = (.long i4) := Option.some.inj ei4
  obtain ⟨i5, ei5⟩ := isL_v gb9
  obtain rfl : v5 = (.long i5) := Option.some.inj ei5
  obtain ⟨na0, nb0⟩ := and_e hn
  obtain ⟨na1, nb1⟩ := and_e nb0
  obtain ⟨na2, nb2⟩ := and_e nb1
  obtain ⟨x0, ev0⟩ := exa_v na0
  obtain ⟨x1, ev1⟩ := exa_v na1
  obtain ⟨x2, ev2⟩ := exa_v na2
  obtain ⟨x3, ev3⟩ := exa_v nb2
  have hW : Wd s (fun i => ([x0, x1, x2, x3] : List Addr).getD i 0) := ⟨(Sta.start ev0 (Or.inr ⟨(wk14 hw), (wk15 hw)⟩)), (Exa.start ev0 na0), (Sta.start ev1 (Or.inr ⟨(wk14 hw), (wk49 hw)⟩)), (Exa.start ev1 na1), (Sta.start ev2 (Or.inr ⟨(wk14 hw), (wk51 hw)⟩)), (Exa.start ev2 na2), (Sta.start ev3 (Or.inr ⟨(wk14 hw), (wk53 hw)⟩)), (Exa.start ev3 nb2), trivial⟩
  obtain ⟨n, o, h1, h2, h3, _, L, rfl, ⟨rfl, N⟩, hq⟩ := rm0 l s _ hw _ hW tables_1 i0 i1 i2 i3 i4 i5 s.heap s.heap.size (Old.start s) p e ha hc hk s m _ below hf ((Spec.applies_iff_loose hf).mp happ).1 ⟨rfl, State.Warmed39.refl s, rfl⟩ trivial
  refine ⟨n, _, h1, h2, h3, hpost _ _ _ _ _ _ ⟨Cond.after_iff.mpr rfl, Cond.after_iff.mpr (eq_i res_at (Term.int_eval (1)) rfl), trivial⟩ ⟨hq.1, hq.2.1, (hq.2.2.sift fun y hy => Or.inr (N y hy)).mono (by decide) (by decide)⟩⟩
theorem main_1_1 : Claimed_1_1 := comes_1 fun _ _ _ _ _ _ h hF => ⟨h.1, hF⟩
theorem main_1_2 : Claimed_1_2 := comes_1 fun _ _ _ _ _ _ h hF => ⟨h.2.1, hF⟩
end Jvm.Pilot.@@N@@
namespace Jvm.Pilot.@@N@@
open Jvm Jvm.ClassFile Sem Op Lib Jvm.Free Jvm.Stand Jvm.Pilot.@@N@@.Jvm.D
/-! MADE BY PROGRAM (witnessworld.py) out of the Statement's table words and the real class files: 15 classes; the members and pool entries that the words name. The judged class is class 1, her method 2. -/
namespace start1
open Jvm.ClassFile
def u (s : String) : CpInfo := .utf8 (stringToUtf16 s)
/-- a pool by its gaps: so many unusable entries, then the entry; so many at the end -/
def gap : Nat → List CpInfo → List CpInfo
  | 0, r => r
  | n + 1, r => .unusable :: gap n r
def poolList (es : List (Nat × CpInfo)) (last : Nat) : List CpInfo := es.foldr (fun e r => gap e.1 (e.2 :: r)) (gap last [])
def pool (es : List (Nat × CpInfo)) (last : Nat) : Array CpInfo := ⟨poolList es last⟩
def fileOf (pool : Array CpInfo) (this : Nat) (attrs : Array Attribute := #[]) (ms : Array MethodInfo := #[]) (fl : Nat := 33) (sup : Nat := 0) (ifs : Array Nat := #[]) (fds : Array FieldInfo := #[]) : ClassFile where
  minorVersion := 0
  majorVersion := 65
  constantPool := pool
  accessFlags := fl
  thisClass := this
  superClass := sup
  interfaces := ifs
  fields := fds
  methods := ms
  attributes := attrs
def plain (name : String) (sup : Option ClassId) : Class where
  name := name
  kind := .ordinary
  loader := none
  accessFlags := 33
  super := sup
  interfaces := #[]
  cf := none
  fields := #[]
  methods := #[]
  instanceTypes := #[]
  staticTypes := #[]
  resolved := #[]
  callSites := []
  init := .initialized
  statics := none
  mirror := none

def pool0 : Array CpInfo := pool [(5, u "<init>"), (0, u "()V"), (1, .class_ 10), (1, u "java/lang/Object")] 113

def k0c0 : Code := { maxStack := 0, maxLocals := 1, code := object_method_1_code, exceptionTable := #[], attributes := #[] }
def k0m0 : Method := { name := "<init>", desc := "()V", sig := { parameters := [], returnType := none }, accessFlags := 1, code := some k0c0 }
/-- java/lang/Object -/
def k0 : Class := { plain "java/lang/Object" none with
  accessFlags := 33
  interfaces := #[]
  cf := some (fileOf pool0 8 #[] #[{ accessFlags := 1, nameIndex := 5, descriptorIndex := 6, attributes := #[] }] 33 0 #[] #[])
  fields := #[]
  methods := #[k0m0]
  instanceTypes := #[]
  staticTypes := #[]
  resolved := Array.replicate 124 none
  statics := none }

def pool1 : Array CpInfo := pool [(2, .class_ 4), (1, u "java/lang/Object"), (0, u "<init>"), (0, u "()V"), (0, .fieldref 8 9), (0, .class_ 10), (0, .nameAndType 11 12), (0, u "com/example/lusto/lusto/IsolationLevel"), (0, u "READ_UNCOMMITTED"), (0, u "Lcom/example/lusto/lusto/IsolationLevel;"), (0, .fieldref 8 14), (0, .nameAndType 15 12), (0, u "READ_COMMITTED"), (0, .fieldref 8 17), (0, .nameAndType 18 12), (0, u "REPEATABLE_READ"), (0, .fieldref 8 20), (0, .nameAndType 21 12), (0, u "SERIALIZABLE"), (0, .long 2305843009213693951), (1, .integer 2147483647), (0, .methodref 26 27), (0, .class_ 28), (0, .nameAndType 29 30), (0, u "java/lang/Math"), (0, u "max"), (0, u "(II)I"), (0, .class_ 32), (0, u "com/example/lusto/lusto/TransferBench$Result"), (0, .methodref 34 35), (0, .class_ 36), (0, .nameAndType 37 38), (0, u "com/example/lusto/lusto/ResultCommitsPerSecondPinLaw"), (0, u "levelOf"), (0, u "(I)Lcom/example/lusto/lusto/IsolationLevel;"), (0, .methodref 31 40), (0, .nameAndType 5 41), (0, u "(Lcom/example/lusto/lusto/IsolationLevel;IIIJJJ)V"), (0, .methodref 31 43), (0, .nameAndType 44 45), (0, u "commitsPerSecond"), (0, u "()J"), (0, .long 2), (4, u "law"), (0, u "(JIIIJJ)Z")] 6

def k1m0 : Method := { name := "<init>", desc := "()V", sig := { parameters := [], returnType := none }, accessFlags := 2, code := none }
def k1c1 : Code := { maxStack := 2, maxLocals := 2, code := method_2_code, exceptionTable := #[], attributes := #[] }
def k1m1 : Method := { name := "levelOf", desc := "(I)Lcom/example/lusto/lusto/IsolationLevel;", sig := { parameters := [.int], returnType := some (.object "com/example/lusto/lusto/IsolationLevel") }, accessFlags := 10, code := some k1c1 }
def k1c2 : Code := { maxStack := 12, maxLocals := 19, code := code, exceptionTable := #[], attributes := #[] }
def k1m2 : Method := { name := "law", desc := "(JIIIJJ)Z", sig := { parameters := [.long, .int, .int, .int, .long, .long], returnType := some .boolean }, accessFlags := 9, code := some k1c2 }
/-- com/example/lusto/lusto/ResultCommitsPerSecondPinLaw -/
def k1 : Class := { plain "com/example/lusto/lusto/ResultCommitsPerSecondPinLaw" (some 0) with
  accessFlags := 49
  interfaces := #[]
  cf := some (fileOf pool1 34 #[] #[{ accessFlags := 2, nameIndex := 5, descriptorIndex := 6, attributes := #[] }, { accessFlags := 10, nameIndex := 37, descriptorIndex := 38, attributes := #[] }, { accessFlags := 9, nameIndex := 51, descriptorIndex := 52, attributes := #[] }] 49 2 #[] #[])
  fields := #[]
  methods := #[k1m0, k1m1, k1m2]
  instanceTypes := #[]
  staticTypes := #[]
  resolved := Array.replicate 59 none
  statics := none }

def pool2 : Array CpInfo := pool [(1, .class_ 2), (0, u "java/lang/Math"), (1, .class_ 6), (1, u "java/lang/Object"), (0, u "<init>"), (0, u "()V"), (89, .class_ 100), (1, u "java/lang/Math$RandomNumberGeneratorHolder"), (71, u "negativeZeroFloatBits"), (0, u "J"), (2, u "negativeZeroDoubleBits"), (21, u "max"), (46, u "$assertionsDisabled"), (0, u "Z"), (88, u "(II)I"), (2, u "twoToTheDoubleScaleDown"), (0, u "D"), (4, u "twoToTheDoubleScaleUp"), (9, u "E"), (3, u "PI"), (2, u "TAU"), (2, u "DEGREES_TO_RADIANS"), (0, u "RADIANS_TO_DEGREES")] 94

def k2m0 : Method := { name := "<init>", desc := "()V", sig := { parameters := [], returnType := none }, accessFlags := 2, code := none }
def k2c1 : Code := { maxStack := 2, maxLocals := 2, code := jdk_29_method_65_code, exceptionTable := #[], attributes := #[] }
def k2m1 : Method := { name := "max", desc := "(II)I", sig := { parameters := [.int, .int], returnType := some .int }, accessFlags := 9, code := some k2c1 }
/-- java/lang/Math -/
def k2 : Class := { plain "java/lang/Math" (some 0) with
  accessFlags := 49
  interfaces := #[]
  cf := some (fileOf pool2 1 #[.nestMembers #[98]] #[{ accessFlags := 2, nameIndex := 7, descriptorIndex := 8, attributes := #[] }, { accessFlags := 9, nameIndex := 198, descriptorIndex := 335, attributes := #[] }] 49 4 #[] #[{ accessFlags := 25, nameIndex := 354, descriptorIndex := 339, attributes := #[] }, { accessFlags := 25, nameIndex := 358, descriptorIndex := 339, attributes := #[] }, { accessFlags := 25, nameIndex := 361, descriptorIndex := 339, attributes := #[] }, { accessFlags := 26, nameIndex := 364, descriptorIndex := 339, attributes := #[] }, { accessFlags := 26, nameIndex := 365, descriptorIndex := 339, attributes := #[] }, { accessFlags := 26, nameIndex := 172, descriptorIndex := 173, attributes := #[] }, { accessFlags := 26, nameIndex := 176, descriptorIndex := 173, attributes := #[] }, { accessFlags := 8, nameIndex := 344, descriptorIndex := 339, attributes := #[] }, { accessFlags := 8, nameIndex := 338, descriptorIndex := 339, attributes := #[] }, { accessFlags := 4120, nameIndex := 245, descriptorIndex := 246, attributes := #[] }])
  fields := #[{ name := "E", type := .double, accessFlags := 25, slot := 0, constantValue := 0 }, { name := "PI", type := .double, accessFlags := 25, slot := 1, constantValue := 0 }, { name := "TAU", type := .double, accessFlags := 25, slot := 2, constantValue := 0 }, { name := "DEGREES_TO_RADIANS", type := .double, accessFlags := 26, slot := 3, constantValue := 0 }, { name := "RADIANS_TO_DEGREES", type := .double, accessFlags := 26, slot := 4, constantValue := 0 }, { name := "negativeZeroFloatBits", type := .long, accessFlags := 26, slot := 5, constantValue := 0 }, { name := "negativeZeroDoubleBits", type := .long, accessFlags := 26, slot := 6, constantValue := 0 }, { name := "twoToTheDoubleScaleUp", type := .double, accessFlags := 8, slot := 7, constantValue := 0 }, { name := "twoToTheDoubleScaleDown", type := .double, accessFlags := 8, slot := 8, constantValue := 0 }, { name := "$assertionsDisabled", type := .boolean, accessFlags := 4120, slot := 9, constantValue := 0 }]
  methods := #[k2m0, k2m1]
  instanceTypes := #[]
  staticTypes := #[.double, .double, .double, .double, .double, .long, .long, .double, .double, .boolean]
  resolved := Array.replicate 460 none
  statics := none }

def pool3 : Array CpInfo := pool [(1, .methodref 2 3), (0, .class_ 4), (0, .nameAndType 5 6), (0, u "java/lang/Object"), (0, u "<init>"), (0, u "()V"), (0, .class_ 8), (0, u "java/lang/Record")] 13

def k3c0 : Code := { maxStack := 1, maxLocals := 1, code := jdk_30_method_1_code, exceptionTable := #[], attributes := #[] }
def k3m0 : Method := { name := "<init>", desc := "()V", sig := { parameters := [], returnType := none }, accessFlags := 4, code := some k3c0 }
/-- java/lang/Record -/
def k3 : Class := { plain "java/lang/Record" (some 0) with
  accessFlags := 1057
  interfaces := #[]
  cf := some (fileOf pool3 7 #[] #[{ accessFlags := 4, nameIndex := 5, descriptorIndex := 6, attributes := #[] }] 1057 2 #[] #[])
  fields := #[]
  methods := #[k3m0]
  instanceTypes := #[]
  staticTypes := #[]
  resolved := Array.replicate 22 none
  statics := none }

def pool4 : Array CpInfo := pool [(1, .class_ 2), (0, u "com/example/lusto/lusto/TransferBench"), (0, .methodref 4 5), (0, .class_ 6), (0, .nameAndType 7 8), (0, u "java/lang/Record"), (0, u "<init>"), (0, u "()V"), (0, .fieldref 10 11), (0, .class_ 12), (0, .nameAndType 13 14), (0, u "com/example/lusto/lusto/TransferBench$Result"), (0, u "level"), (0, u "Lcom/example/lusto/lusto/IsolationLevel;"), (0, .fieldref 10 16), (0, .nameAndType 17 18), (0, u "threads"), (0, u "I"), (0, .fieldref 10 20), (0, .nameAndType 21 18), (0, u "accounts"), (0, .fieldref 10 23), (0, .nameAndType 24 18), (0, u "seconds"), (0, .fieldref 10 26), (0, .nameAndType 27 28), (0, u "commits"), (0, u "J"), (0, .fieldref 10 30), (0, .nameAndType 31 28), (0, u "aborts"), (0, .fieldref 10 33), (0, .nameAndType 34 28), (0, u "total"), (5, u "()J"), (0, .long 2), (9, u "commitsPerSecond"), (16, u "(Lcom/example/lusto/lusto/IsolationLevel;IIIJJJ)V")] 47

def k4c0 : Code := { maxStack := 3, maxLocals := 11, code := prog_52_method_1_code, exceptionTable := #[], attributes := #[] }
def k4m0 : Method := { name := "<init>", desc := "(Lcom/example/lusto/lusto/IsolationLevel;IIIJJJ)V", sig := { parameters := [(.object "com/example/lusto/lusto/IsolationLevel"), .int, .int, .int, .long, .long, .long], returnType := none }, accessFlags := 0, code := some k4c0 }
def k4c1 : Code := { maxStack := 6, maxLocals := 1, code := prog_52_method_4_code, exceptionTable := #[], attributes := #[] }
def k4m1 : Method := { name := "commitsPerSecond", desc := "()J", sig := { parameters := [], returnType := some .long }, accessFlags := 0, code := some k4c1 }
/-- com/example/lusto/lusto/TransferBench$Result -/
def k4 : Class := { plain "com/example/lusto/lusto/TransferBench$Result" (some 3) with
  accessFlags := 48
  interfaces := #[]
  cf := some (fileOf pool4 10 #[.nestHost 1] #[{ accessFlags := 0, nameIndex := 7, descriptorIndex := 68, attributes := #[] }, { accessFlags := 0, nameIndex := 51, descriptorIndex := 40, attributes := #[] }] 48 4 #[] #[{ accessFlags := 18, nameIndex := 13, descriptorIndex := 14, attributes := #[] }, { accessFlags := 18, nameIndex := 17, descriptorIndex := 18, attributes := #[] }, { accessFlags := 18, nameIndex := 21, descriptorIndex := 18, attributes := #[] }, { accessFlags := 18, nameIndex := 24, descriptorIndex := 18, attributes := #[] }, { accessFlags := 18, nameIndex := 27, descriptorIndex := 28, attributes := #[] }, { accessFlags := 18, nameIndex := 31, descriptorIndex := 28, attributes := #[] }, { accessFlags := 18, nameIndex := 34, descriptorIndex := 28, attributes := #[] }])
  fields := #[{ name := "level", type := (.object "com/example/lusto/lusto/IsolationLevel"), accessFlags := 18, slot := 0, constantValue := 0 }, { name := "threads", type := .int, accessFlags := 18, slot := 1, constantValue := 0 }, { name := "accounts", type := .int, accessFlags := 18, slot := 2, constantValue := 0 }, { name := "seconds", type := .int, accessFlags := 18, slot := 3, constantValue := 0 }, { name := "commits", type := .long, accessFlags := 18, slot := 4, constantValue := 0 }, { name := "aborts", type := .long, accessFlags := 18, slot := 5, constantValue := 0 }, { name := "total", type := .long, accessFlags := 18, slot := 6, constantValue := 0 }]
  methods := #[k4m0, k4m1]
  instanceTypes := #[(.object "com/example/lusto/lusto/IsolationLevel"), .int, .int, .int, .long, .long, .long]
  staticTypes := #[]
  resolved := Array.replicate 116 none
  statics := none }

def pool5 : Array CpInfo := pool [(1, .class_ 2), (0, u "java/lang/constant/Constable"), (0, .class_ 4), (0, u "java/lang/Object")] 6

/-- java/lang/constant/Constable -/
def k5 : Class := { plain "java/lang/constant/Constable" (some 0) with
  accessFlags := 1537
  interfaces := #[]
  cf := some (fileOf pool5 1 #[] #[] 1537 3 #[] #[])
  fields := #[]
  methods := #[]
  instanceTypes := #[]
  staticTypes := #[]
  resolved := Array.replicate 11 none
  statics := none }

def pool6 : Array CpInfo := pool [(1, .class_ 2), (0, u "java/lang/Comparable"), (0, .class_ 4), (0, u "java/lang/Object")] 7

/-- java/lang/Comparable -/
def k6 : Class := { plain "java/lang/Comparable" (some 0) with
  accessFlags := 1537
  interfaces := #[]
  cf := some (fileOf pool6 1 #[] #[] 1537 3 #[] #[])
  fields := #[]
  methods := #[]
  instanceTypes := #[]
  staticTypes := #[]
  resolved := Array.replicate 12 none
  statics := none }

def pool7 : Array CpInfo := pool [(1, .class_ 2), (0, u "java/io/Serializable"), (0, .class_ 4), (0, u "java/lang/Object")] 2

/-- java/io/Serializable -/
def k7 : Class := { plain "java/io/Serializable" (some 0) with
  accessFlags := 1537
  interfaces := #[]
  cf := some (fileOf pool7 1 #[] #[] 1537 3 #[] #[])
  fields := #[]
  methods := #[]
  instanceTypes := #[]
  staticTypes := #[]
  resolved := Array.replicate 7 none
  statics := none }

def pool8 : Array CpInfo := pool [(2, .class_ 4), (1, u "java/lang/Enum"), (0, u "name"), (0, u "Ljava/lang/String;"), (2, u "ordinal"), (0, u "I"), (1, .class_ 14), (1, u "java/lang/Object"), (4, u "hash"), (86, .class_ 108), (1, u "java/lang/Enum$EnumDesc"), (2, .class_ 112), (0, u "java/lang/constant/Constable"), (0, .class_ 114), (0, u "java/lang/Comparable"), (0, .class_ 116), (0, u "java/io/Serializable")] 87

/-- java/lang/Enum -/
def k8 : Class := { plain "java/lang/Enum" (some 0) with
  accessFlags := 1057
  interfaces := #[5, 6, 7]
  cf := some (fileOf pool8 2 #[.nestMembers #[106]] #[] 1057 12 #[111, 113, 115] #[{ accessFlags := 18, nameIndex := 5, descriptorIndex := 6, attributes := #[] }, { accessFlags := 18, nameIndex := 9, descriptorIndex := 10, attributes := #[] }, { accessFlags := 2, nameIndex := 19, descriptorIndex := 10, attributes := #[] }])
  fields := #[{ name := "name", type := (.object "java/lang/String"), accessFlags := 18, slot := 0, constantValue := 0 }, { name := "ordinal", type := .int, accessFlags := 18, slot := 1, constantValue := 0 }, { name := "hash", type := .int, accessFlags := 2, slot := 2, constantValue := 0 }]
  methods := #[]
  instanceTypes := #[(.object "java/lang/String"), .int, .int]
  staticTypes := #[]
  resolved := Array.replicate 204 none
  statics := none }

def pool9 : Array CpInfo := pool [(1, .class_ 2), (0, u "com/example/lusto/lusto/IsolationLevel"), (2, u "READ_UNCOMMITTED"), (0, u "Lcom/example/lusto/lusto/IsolationLevel;"), (2, u "READ_COMMITTED"), (2, u "REPEATABLE_READ"), (2, u "SERIALIZABLE"), (2, u "$VALUES"), (0, u "[Lcom/example/lusto/lusto/IsolationLevel;"), (6, .class_ 28), (1, u "java/lang/Enum"), (8, u "text"), (0, u "Ljava/lang/String;")] 90

/-- com/example/lusto/lusto/IsolationLevel -/
def k9 : Class := { plain "com/example/lusto/lusto/IsolationLevel" (some 8) with
  accessFlags := 16433
  interfaces := #[]
  cf := some (fileOf pool9 1 #[] #[] 16433 26 #[] #[{ accessFlags := 16409, nameIndex := 5, descriptorIndex := 6, attributes := #[] }, { accessFlags := 16409, nameIndex := 9, descriptorIndex := 6, attributes := #[] }, { accessFlags := 16409, nameIndex := 12, descriptorIndex := 6, attributes := #[] }, { accessFlags := 16409, nameIndex := 15, descriptorIndex := 6, attributes := #[] }, { accessFlags := 18, nameIndex := 37, descriptorIndex := 38, attributes := #[] }, { accessFlags := 4122, nameIndex := 18, descriptorIndex := 19, attributes := #[] }])
  fields := #[{ name := "READ_UNCOMMITTED", type := (.object "com/example/lusto/lusto/IsolationLevel"), accessFlags := 16409, slot := 0, constantValue := 0 }, { name := "READ_COMMITTED", type := (.object "com/example/lusto/lusto/IsolationLevel"), accessFlags := 16409, slot := 1, constantValue := 0 }, { name := "REPEATABLE_READ", type := (.object "com/example/lusto/lusto/IsolationLevel"), accessFlags := 16409, slot := 2, constantValue := 0 }, { name := "SERIALIZABLE", type := (.object "com/example/lusto/lusto/IsolationLevel"), accessFlags := 16409, slot := 3, constantValue := 0 }, { name := "text", type := (.object "java/lang/String"), accessFlags := 18, slot := 3, constantValue := 0 }, { name := "$VALUES", type := (.array (.object "com/example/lusto/lusto/IsolationLevel")), accessFlags := 4122, slot := 4, constantValue := 0 }]
  methods := #[]
  instanceTypes := #[(.object "java/lang/String"), .int, .int, (.object "java/lang/String")]
  staticTypes := #[(.object "com/example/lusto/lusto/IsolationLevel"), (.object "com/example/lusto/lusto/IsolationLevel"), (.object "com/example/lusto/lusto/IsolationLevel"), (.object "com/example/lusto/lusto/IsolationLevel"), (.array (.object "com/example/lusto/lusto/IsolationLevel"))]
  resolved := Array.replicate 129 none
  statics := some 0 }

def pool10 : Array CpInfo := pool [(1, u "java/lang/Cloneable"), (0, .class_ 1), (0, u "java/lang/Object"), (0, .class_ 3)] 3

/-- java/lang/Cloneable -/
def k10 : Class := { plain "java/lang/Cloneable" (some 0) with
  accessFlags := 1537
  interfaces := #[]
  cf := some (fileOf pool10 2 #[] #[] 1537 4 #[] #[])
  fields := #[]
  methods := #[]
  instanceTypes := #[]
  staticTypes := #[]
  resolved := Array.replicate 8 none
  statics := none }

/-- the primitive byte -/
def k11 : Class := { plain "byte" none with kind := .primitive 'B', accessFlags := 0x411 }
/-- [B -/
def k12 : Class := { plain "[B" (some 0) with kind := .array 11 .byte, interfaces := #[10, 7], accessFlags := 1041 }

/-- the primitive int -/
def k13 : Class := { plain "int" none with kind := .primitive 'I', accessFlags := 0x411 }
/-- [I -/
def k14 : Class := { plain "[I" (some 0) with kind := .array 13 .int, interfaces := #[10, 7], accessFlags := 1041 }

def heap : Heap := #[{ cls := 9, slots := #[.ref 4, .ref 1, .ref 2, .ref 3, .null], vm := .statics 9 },
  { cls := 9, slots := #[.null, .int 0, .int 0, .null], vm := .none },
  { cls := 9, slots := #[.null, .int 0, .int 0, .null], vm := .none },
  { cls := 9, slots := #[.null, .int 0, .int 0, .null], vm := .none },
  { cls := 9, slots := #[.null, .int 0, .int 0, .null], vm := .none }]
def classes : Array Class := #[k0, k1, k2, k3, k4, k5, k6, k7, k8, k9, k10, k11, k12, k13, k14]
def interned : List (Array UInt16 × Addr) := []
def slotsUsed : Nat := 21
def theMethod : MethodId := ⟨1, 2⟩
def args0 : Array Value := #[.long 3, .int 6, .int 7, .int 8, .long 7, .long 8]
def aboutOver (below : List Frame) : State where
  vm := { classes := classes, interned := interned.toArray }
  heap := heap
  slotsUsed := slotsUsed
  threads := #[{ frames := .invoking theMethod args0 :: below }]
def below0 : List Frame := [.native { method := ⟨0, 0⟩, args := #[] }]
def about1 : State := aboutOver below0
def p0 : Program := .bare "" "" ""
def e0 : Env := launch0.env 0 0 0
theorem w_frames : about1.frames = Frame.invoking theMethod args0 :: below0 := rfl
set_option maxRecDepth 65536 in
theorem w_args : argsFit about1.vm theMethod args0 = true := by decide +kernel
set_option maxRecDepth 65536 in
theorem w_heap : heapFits about1 = true := by decide +kernel
set_option maxRecDepth 65536 in
theorem w_runnable : about1.curStatus? = some .runnable := by decide +kernel
set_option maxRecDepth 65536 in
theorem w_alone : about1.alone = true := by decide +kernel
set_option maxRecDepth 65536 in
theorem w_named : about1.methodNamed? x = some theMethod := by decide +kernel
set_option maxRecDepth 65536 in
theorem w_hears : about1.hears theMethod below0 = true := by decide +kernel
set_option maxRecDepth 65536 in
theorem w_ripe : about1.ripe theMethod args0 below0 = true := by decide +kernel
theorem w_running : about1.status = .running := rfl
set_option maxRecDepth 65536 in
theorem w_room : about1.hasRoom e0.platform room_1 = true :=
  launch0.hasRoom_least _ room_1 (by decide +kernel) (by decide +kernel) (by decide +kernel) (by decide +kernel) (by decide +kernel) (by decide +kernel)
theorem allAtoms_all (ts : List Jvm.Cond) (a : Array Jvm.Value) (st : Jvm.State) : (allAtoms ts).before a st = ts.all (fun c => c.before a st) := by
  induction ts with
  | nil => rfl
  | cons c t ih =>
    show (Jvm.Cond.and c (allAtoms t)).before a st = _
    rw [Jvm.Cond.before_and, ih, List.all_cons]
def words1 : List Jvm.Cond := Jvm.Cond.code x code maxLocals ret :: tables_1
/-- a 'code' word, met by the world's own term for the bytes: nothing is compared byte by byte -/
theorem code_word {y : MethodName} {bytes : ByteArray} {mx : Nat} {rt : Option FieldType} {a : Array Value} {s : State} {m : MethodId} {meth : Method} {c : Code} (h1 : s.methodNamed? y = some m) (h2 : s.vm.method? m = some meth) (h3 : meth.code = some c) (h4 : c.code = bytes)
    (h5 : (c.maxLocals == mx && c.exceptionTable.isEmpty && decide (c.maxStack ≤ mostOperands) && decide (meth.sig.returnType = rt) && !meth.locks && decide (parseMethodDescriptor y.desc = some meth.sig)) = true) : (Jvm.Cond.code y bytes mx rt).before a s = true := by
  simp only [Bool.and_eq_true, beq_iff_eq, Bool.not_eq_true', decide_eq_true_eq] at h5
  obtain ⟨⟨⟨⟨⟨g1, g2⟩, g3⟩, g4⟩, g5⟩, g6⟩ := h5
  simp [Cond.before, Cond.holds, Cond.value, h1, h2, h3, h4, g1, g2, g3, g4, g5, g6]
def isCode : Jvm.Cond → Bool
  | .code _ _ _ _ => true
  | _ => false
theorem all_split {L : List Jvm.Cond} {P : Jvm.Cond → Bool} (h1 : L.all (fun c => isCode c || P c) = true) (h2 : ∀ c ∈ L.filter isCode, P c = true) : L.all P = true := by
  refine List.all_eq_true.mpr fun c hc => ?_
  have h := List.all_eq_true.mp h1 c hc
  rcases Bool.eq_false_or_eq_true (isCode c) with hi | hi
  · exact h2 c (List.mem_filter.mpr ⟨hc, hi⟩)
  · simpa [hi] using h
set_option maxRecDepth 65536 in
theorem w_c0 : (Jvm.Cond.code x code maxLocals ret).before args0 about1 = true := code_word (m := ⟨1, 2⟩) (meth := k1m2) (c := k1c2) (by decide +kernel) rfl rfl rfl (by decide +kernel)
set_option maxRecDepth 65536 in
theorem w_c1 : (Jvm.Cond.code ({ cls := "java/lang/Math", name := "max", desc := "(II)I" } : Jvm.MethodName) jdk_29_method_65_code (2 : Nat) (Option.some Jvm.ClassFile.FieldType.int)).before args0 about1 = true := code_word (m := ⟨2, 1⟩) (meth := k2m1) (c := k2c1) (by decide +kernel) rfl rfl rfl (by decide +kernel)
set_option maxRecDepth 65536 in
theorem w_c2 : (Jvm.Cond.code ({ cls := "com/example/lusto/lusto/ResultCommitsPerSecondPinLaw", name := "levelOf", desc := "(I)Lcom/example/lusto/lusto/IsolationLevel;" } : Jvm.MethodName) method_2_code (2 : Nat) (Option.some (Jvm.ClassFile.FieldType.object "com/example/lusto/lusto/IsolationLevel"))).before args0 about1 = true := code_word (m := ⟨1, 1⟩) (meth := k1m1) (c := k1c1) (by decide +kernel) rfl rfl rfl (by decide +kernel)
set_option maxRecDepth 65536 in
theorem w_c3 : (Jvm.Cond.code ({ cls := "com/example/lusto/lusto/TransferBench$Result", name := "<init>", desc := "(Lcom/example/lusto/lusto/IsolationLevel;IIIJJJ)V" } : Jvm.MethodName) prog_52_method_1_code (11 : Nat) (Option.none : Option Jvm.ClassFile.FieldType)).before args0 about1 = true := code_word (m := ⟨4, 0⟩) (meth := k4m0) (c := k4c0) (by decide +kernel) rfl rfl rfl (by decide +kernel)
set_option maxRecDepth 65536 in
theorem w_c4 : (Jvm.Cond.code ({ cls := "java/lang/Record", name := "<init>", desc := "()V" } : Jvm.MethodName) jdk_30_method_1_code (1 : Nat) (Option.none : Option Jvm.ClassFile.FieldType)).before args0 about1 = true := code_word (m := ⟨3, 0⟩) (meth := k3m0) (c := k3c0) (by decide +kernel) rfl rfl rfl (by decide +kernel)
set_option maxRecDepth 65536 in
theorem w_c5 : (Jvm.Cond.code ({ cls := "java/lang/Object", name := "<init>", desc := "()V" } : Jvm.MethodName) object_method_1_code (1 : Nat) (Option.none : Option Jvm.ClassFile.FieldType)).before args0 about1 = true := code_word (m := ⟨0, 0⟩) (meth := k0m0) (c := k0c0) (by decide +kernel) rfl rfl rfl (by decide +kernel)
set_option maxRecDepth 65536 in
theorem w_c6 : (Jvm.Cond.code ({ cls := "com/example/lusto/lusto/TransferBench$Result", name := "commitsPerSecond", desc := "()J" } : Jvm.MethodName) prog_52_method_4_code (1 : Nat) (Option.some Jvm.ClassFile.FieldType.long)).before args0 about1 = true := code_word (m := ⟨4, 1⟩) (meth := k4m1) (c := k4c1) (by decide +kernel) rfl rfl rfl (by decide +kernel)
def codes1 : List Jvm.Cond := [Jvm.Cond.code x code maxLocals ret, Jvm.Cond.code ({ cls := "java/lang/Math", name := "max", desc := "(II)I" } : Jvm.MethodName) jdk_29_method_65_code (2 : Nat) (Option.some Jvm.ClassFile.FieldType.int), Jvm.Cond.code ({ cls := "com/example/lusto/lusto/ResultCommitsPerSecondPinLaw", name := "levelOf", desc := "(I)Lcom/example/lusto/lusto/IsolationLevel;" } : Jvm.MethodName) method_2_code (2 : Nat) (Option.some (Jvm.ClassFile.FieldType.object "com/example/lusto/lusto/IsolationLevel")), Jvm.Cond.code ({ cls := "com/example/lusto/lusto/TransferBench$Result", name := "<init>", desc := "(Lcom/example/lusto/lusto/IsolationLevel;IIIJJJ)V" } : Jvm.MethodName) prog_52_method_1_code (11 : Nat) (Option.none : Option Jvm.ClassFile.FieldType), Jvm.Cond.code ({ cls := "java/lang/Record", name := "<init>", desc := "()V" } : Jvm.MethodName) jdk_30_method_1_code (1 : Nat) (Option.none : Option Jvm.ClassFile.FieldType), Jvm.Cond.code ({ cls := "java/lang/Object", name := "<init>", desc := "()V" } : Jvm.MethodName) object_method_1_code (1 : Nat) (Option.none : Option Jvm.ClassFile.FieldType), Jvm.Cond.code ({ cls := "com/example/lusto/lusto/TransferBench$Result", name := "commitsPerSecond", desc := "()J" } : Jvm.MethodName) prog_52_method_4_code (1 : Nat) (Option.some Jvm.ClassFile.FieldType.long)]
set_option maxRecDepth 65536 in
theorem codes_eq : words1.filter isCode = codes1 := rfl
theorem w_codes : ∀ c ∈ words1.filter isCode, c.before args0 about1 = true := by
  rw [codes_eq]
  intro c hc
  simp only [codes1, List.mem_cons, List.not_mem_nil, or_false] at hc
  rcases hc with rfl | rfl | rfl | rfl | rfl | rfl | rfl
  · exact w_c0
  · exact w_c1
  · exact w_c2
  · exact w_c3
  · exact w_c4
  · exact w_c5
  · exact w_c6
set_option maxRecDepth 65536 in
theorem w_t1 : (words1.take 24).all (fun c => isCode c || c.before args0 about1) = true := by decide +kernel
set_option maxRecDepth 65536 in
theorem w_t2 : ((words1.drop 24).take 24).all (fun c => isCode c || c.before args0 about1) = true := by decide +kernel
set_option maxRecDepth 65536 in
theorem w_t3 : ((words1.drop 24).drop 24).all (fun c => isCode c || c.before args0 about1) = true := by decide +kernel
theorem w_tables : (allAtoms (Jvm.Cond.code x code maxLocals ret :: tables_1)).before args0 about1 = true := by
  rw [allAtoms_all]
  show words1.all (fun c => c.before args0 about1) = true
  refine all_split ?_ w_codes
  rw [← List.take_append_drop 24 words1, List.all_append, w_t1, ← List.take_append_drop 24 (words1.drop 24), List.all_append, w_t2, w_t3]
  rfl
set_option maxRecDepth 65536 in
theorem w_case : (Jvm.Cond.and given_1 narrow_1).before args0 about1 = true := by decide +kernel
theorem w_applies : (headSpec (Jvm.Cond.code x code maxLocals ret :: tables_1) room_1).applies x e0.platform about1 = true :=
  (Spec.applies_iff w_frames).mpr ⟨w_running, w_runnable, w_alone, w_named, w_hears, w_ripe, w_room, w_tables⟩
theorem atStart : AtStart classFile x code maxLocals ret World_1 tables_1 room_1 Calls_1 rest_1 Pre_1 launch0 p0 e0 about1 theMethod args0 below0 :=
  ⟨lists_1, trivial, launch0.admits_env _ _ _, launch0.least_env, fairChoices_fair.cas, fairChoices_fair.clock, w_frames, w_args, w_heap, w_applies, trivial, trivial, w_case⟩
end start1
theorem witness_1 : WitnessClaimed_1 := ⟨start1.p0, start1.e0, start1.about1, start1.theMethod, start1.args0, start1.below0, start1.atStart⟩
end Jvm.Pilot.@@N@@
