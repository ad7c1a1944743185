import JvmDerived
import JvmDerived.Pilot.@@N@@Statement
import JvmDerived.Pilot.@@N@@Code
set_option linter.unusedVariables false
set_option linter.unusedSimpArgs false
namespace Jvm.RoadKit
open Sem ClassFile Op Lib Jvm.Stand Jvm.Free Jvm.LawKit
section New
variable {p : Program} {l : Launch} {e : Env} {R : Room} {s : State} {m : MethodId} {args : Array Value} {below : List Frame} {meth : Method} {c : Code} {T : State} {locs : List Loc} {cells slots : Nat}
theorem retI (X : Stand p l e R s m args below meth c T locs cells slots) (hx : p.tables.exec = Jvm.exec) {pc : Nat} {Ls : Array Slot} {z : Int32} {rest : List Value} (hret : meth.sig.returnType = some .int) (hd : decode c.code pc = .ok (.ireturn, 1)) {fs : List Frame}
    (hl : ∀ (f : JFrame) (acts : List Action), f.method = m → f.locked = none → f.entered = [] → (doReturn e (T.setTop f) acts (some (.int z))).1 = T.setFrames fs) : Steps p.tables e below (T.setTop (mkF m pc Ls (.int z :: rest))) (T.setFrames fs) := by
  have hm' : T.vm.method? m = some meth := X.method'
  have hn : narrow .int (.int z) = .int z := rfl
  show Steps p.tables e below (T.setTop { method := m, pc := pc, locals := Ls, stack := _ :: rest, locked := none }) _
  jvm_step X.here [X.here.top, hx, hd, hm', hret, hn]
  first | (intro acts; rw [hl _ acts rfl rfl rfl]) | rw [hl _ _ rfl rfl rfl]
  exact Steps.refl _
end New
end Jvm.RoadKit
namespace Jvm.Pilot.@@N@@
open Jvm Jvm.ClassFile Sem Op Lib Jvm.Free Jvm.Stand Jvm.LawKit Jvm.RoadKit Bundle Jvm.Pilot.@@N@@.Jvm.D
theorem own_irr32 (x : Int32) : ¬ x < x := Int32.lt_irrefl
theorem own_irr64 (x : Int64) : ¬ x < x := Int64.lt_irrefl
theorem own_fldI {args : Array Value} {s : State} {t : Term} {C n d : String} {x : Addr} {k : Int32} (ht : t.eval args s none [] s = some (.ref x)) (h : (Cond.eq (Term.field t C n d) (Term.int k)).value args s none s [] = some true) : Fld s s.heap x C n d (.int k) := Fld.start ((fld_at ht).symm.trans (eqv_i (Term.int_eval k) h))
theorem own_fldJ {args : Array Value} {s : State} {t : Term} {C n d : String} {x : Addr} {k : Int64} (ht : t.eval args s none [] s = some (.ref x)) (h : (Cond.eq (Term.field t C n d) (Term.long k)).value args s none s [] = some true) : Fld s s.heap x C n d (.long k) := Fld.start ((fld_at ht).symm.trans (eqv_l (long_at k) h))
theorem own_len {args : Array Value} {s : State} {t : Term} {x : Addr} {cl : Cell} {ty : FieldType} {k : Int32} (ht : t.eval args s none [] s = some (.ref x)) (A : Arr s s.heap x cl ty) (h : (Cond.eq (Term.length t) (Term.int k)).value args s none s [] = some true) : cl.slots.size.toInt32 = k ∧ cl.slots.size < 2 ^ 31 := by
  have e := eqv_i (Term.int_eval k) h
  have ha := A.fin (Vm.Alike.refl _)
  by_cases q : cl.slots.size < 2 ^ 31
  · have e2 := (len_f ht ha q).symm.trans e
    exact ⟨Value.int.inj (Option.some.inj e2), q⟩
  · simp [Term.eval, ht, ha, q] at e
theorem own_elem {args : Array Value} {s : State} {t u : Term} {x : Addr} {cl : Cell} {ty : FieldType} {k : Int32} {v : Value} (ht : t.eval args s none [] s = some (.ref x)) (A : Arr s s.heap x cl ty) (hu : u.eval args s none [] s = some v) (hv : v.isRef = true) (h : (Cond.eq (Term.elem t (Term.int k)) u).value args s none s [] = some true) : cl.slots[k.toNatClampNeg]? = some v := by
  obtain ⟨a, b, h1, h2, h3, h4⟩ := cmp_v (Or.inl h)
  have hb := Option.some.inj (h2.symm.trans hu)
  subst hb
  obtain ⟨c', e1, e2, e3⟩ := elem_at h1 ht (Term.int_eval k)
  have ec := Option.some.inj (e1.symm.trans A.1)
  subst ec
  have ha : a.isRef = true := by
    rcases ref_cases hv with rfl | ⟨y, rfl⟩
    · exact h4.2
    · exact h4.2
  rw [e3, gotT (eq_R h1 h2 ha hv) h]
def own_KL (h h' : Heap) (ls : List Loc) : Prop := h.size ≤ h'.size ∧ ∀ (x : Addr) (c : Cell), h[x]? = some c → ∃ c' : Cell, h'[x]? = some c' ∧ c'.cls = c.cls ∧ c'.vm = c.vm ∧ c'.slots.size = c.slots.size ∧ ((∀ y ∈ ls, y.base ≠ x) → c' = c) ∧ ∀ i, (⟨x, i⟩ : Loc) ∉ ls → c'.slots[i]? = c.slots[i]?
section OwnKL
variable {Z : State} {h0 h h' : Heap} {ls ls' : List Loc} {a b x : Addr} {i j sl n0 : Nat} {v : Value} {C n d : String}
theorem own_kl0 (h : Heap) (ls : List Loc) : own_KL h h ls := ⟨Nat.le_refl _, fun x c q => ⟨c, q, rfl, rfl, rfl, fun _ => rfl, fun _ _ => rfl⟩⟩
theorem own_klE (K : own_KL h0 h ls) (E : Ext h h') : own_KL h0 h' ls := ⟨Nat.le_trans K.1 E.1, fun x c q => by obtain ⟨c', q', r⟩ := K.2 x c q; exact ⟨c', E.2 x c' q', r⟩⟩
theorem own_klT (K : own_KL h0 h ls) (K' : own_KL h h' ls') (q : ∀ y ∈ ls', y ∈ ls ∨ h0.size ≤ y.base) : own_KL h0 h' ls := by
  refine ⟨Nat.le_trans K.1 K'.1, fun x c hc => ?_⟩
  obtain ⟨c1, a1, a2, a3, a4, a5, a6⟩ := K.2 x c hc
  obtain ⟨c2, b1, b2, b3, b4, b5, b6⟩ := K'.2 x c1 a1
  have hx : x < h0.size := (Array.getElem?_eq_some_iff.mp hc).1
  refine ⟨c2, b1, b2.trans a2, b3.trans a3, b4.trans a4, fun hn => ?_, fun i hi => ?_⟩
  · rw [← a5 hn]; exact b5 fun y hy e => (q y hy).elim (fun z => hn y z e) (fun z => absurd hx (Nat.not_lt.mpr (e ▸ z)))
  · rw [← a6 i hi]; exact b6 i fun z => (q _ z).elim hi (fun u => absurd hx (Nat.not_lt.mpr u))
theorem own_klofW (W : Wr h h' a sl v) : own_KL h h' [⟨a, sl⟩] := by
  refine ⟨Nat.le_of_eq W.size.symm, fun x c hc => ?_⟩
  obtain ⟨c', e1, e2, e3, e4, e5, e6, -⟩ := wr_at W hc
  refine ⟨c', e1, e2, e3, e4, fun hn => e5 fun q => hn _ (List.mem_singleton.mpr rfl) q.symm, fun i hi => ?_⟩
  by_cases q : x = a
  · exact e6 i fun r => hi (by rw [q, r]; exact List.mem_singleton.mpr rfl)
  · rw [e5 q]
theorem own_klW (K : own_KL h0 h ls) (W : Wr h h' a sl v) (q : (⟨a, sl⟩ : Loc) ∈ ls ∨ h0.size ≤ a) : own_KL h0 h' ls := own_klT K (own_klofW W) fun y hy => by cases List.mem_singleton.mp hy; exact q
theorem own_ka0 : ∀ y ∈ ([] : List Loc), y ∈ ls ∨ n0 ≤ y.base := fun _ q => nomatch q
theorem own_kac (q : (⟨a, sl⟩ : Loc) ∈ ls ∨ n0 ≤ a) (r : ∀ y ∈ ls', y ∈ ls ∨ n0 ≤ y.base) : ∀ y ∈ (⟨a, sl⟩ : Loc) :: ls', y ∈ ls ∨ n0 ≤ y.base := fun y z => (List.mem_cons.mp z).elim (fun u => u ▸ q) (r y)
theorem own_ng0 : ∀ y ∈ ([] : List Loc), n0 ≤ y.base := fun _ q => nomatch q
theorem own_ngc (q : n0 ≤ a) (r : ∀ y ∈ ls', n0 ≤ y.base) : ∀ y ∈ (⟨a, sl⟩ : Loc) :: ls', n0 ≤ y.base := fun y z => (List.mem_cons.mp z).elim (fun u => u ▸ q) (r y)
theorem own_nb0 : ∀ y ∈ ([] : List Loc), y.base ≠ a := fun _ q => nomatch q
theorem own_nbc (q : b ≠ a) (r : ∀ y ∈ ls', y.base ≠ a) : ∀ y ∈ (⟨b, sl⟩ : Loc) :: ls', y.base ≠ a := fun y z => (List.mem_cons.mp z).elim (fun u => u ▸ q) (r y)
theorem own_nl0 : (⟨a, i⟩ : Loc) ∉ ([] : List Loc) := fun q => nomatch q
theorem own_nlb (q : a ≠ b) (r : (⟨a, i⟩ : Loc) ∉ ls) : (⟨a, i⟩ : Loc) ∉ (⟨b, j⟩ : Loc) :: ls := fun z => (List.mem_cons.mp z).elim (fun u => q (congrArg Loc.base u)) r
theorem own_nls (q : i ≠ j) (r : (⟨a, i⟩ : Loc) ∉ ls) : (⟨a, i⟩ : Loc) ∉ (⟨b, j⟩ : Loc) :: ls := fun z => (List.mem_cons.mp z).elim (fun u => q (congrArg Loc.slot u)) r
theorem own_exa (F : Exa Z h a C) (K : own_KL h h' ls) : Exa Z h' a C := by
  obtain ⟨cell, k, h1, h2, h3, h4, h5⟩ := F
  obtain ⟨c', e1, e2, e3, e4, -⟩ := K.2 _ _ h1
  exact ⟨c', k, e1, by rw [e2]; exact h2, by rw [e2]; exact h3, by rw [e3]; exact h4, by rw [e4]; exact h5⟩
theorem own_fld (F : Fld Z h a C n d v) (K : own_KL h h' ls) (q : (⟨a, Jvm.RoadKit.slotOf Z C n d⟩ : Loc) ∉ ls) : Fld Z h' a C n d v := by
  obtain ⟨cell, cf, k, i, f, h1, h2, h3, h4, h5, h6, h7⟩ := F
  obtain ⟨c', e1, e2, e3, e4, -, e6⟩ := K.2 _ _ h1
  refine ⟨c', cf, k, i, f, e1, h2, h3, by rw [e3]; exact h4, by rw [e3]; exact h5, by rw [e2]; exact h6, ?_⟩
  rw [e6 _ (by simpa [Jvm.RoadKit.slotOf, h2] using q)]; exact h7
theorem own_arv {k : ClassId} {ty : FieldType} {z : Int32} {vs : List Value} {dv : Value} (F : Arv Z h a k ty z vs dv) (K : own_KL h h' ls) (q : ∀ y ∈ ls, y.base ≠ a) : Arv Z h' a k ty z vs dv := by
  obtain ⟨c, A, r⟩ := F
  obtain ⟨c', e1, -, -, -, e5, -⟩ := K.2 _ _ A.1
  cases e5 q
  exact ⟨c, ⟨e1, A.2⟩, r⟩
theorem own_old (O : Old Z n0 h) (K : own_KL h h' ls) (q : ∀ y ∈ ls, n0 ≤ y.base) : Old Z n0 h' := ⟨O.1, Nat.le_trans O.2.1 K.1, fun x c r => by
  obtain ⟨c', e1, -, -, -, e5, -⟩ := K.2 x c (O.2.2 x c r)
  have hx : x < n0 := O.1 ▸ (Array.getElem?_eq_some_iff.mp r).1
  rw [e1, e5 fun y hy e => absurd hx (Nat.not_lt.mpr (e ▸ q y hy))]⟩
end OwnKL
theorem own_NSroot {Z : State} {a0 : Array Value} {O K : String} {n : Nat} (w : (Cond.noSuperclass O).before a0 Z = true) (wk : (Cond.instantiable K n).before a0 Z = true) (hn : O ≠ K) : NS Z O K := by
  obtain ⟨c, k, h1, h2, h3, -, -⟩ := Cond.noSuperclass_spec w
  obtain ⟨t, -, g1, -⟩ := Cond.instantiable_spec wk
  have ne := ids_ne h1 g1 hn
  refine ⟨c, t, h1, g1, fun fuel => ?_⟩
  cases fuel with
  | zero => rfl
  | succ f => simp [Vm.isSubclassAux, ne, h2, h3]
theorem own_NSno {Z : State} {a0 : Array Value} {C S K : String} {n : Nat} (w : (Cond.superclass C S).before a0 Z = true) (wk : (Cond.instantiable K n).before a0 Z = true) (u : NS Z C K) (hn : C ≠ K) : ∃ c t, Z.vm.findClass C = some c ∧ Z.vm.findClass K = some t ∧ Z.vm.assignable c t = false := by
  obtain ⟨c, t, h0, g0, n3⟩ := u
  obtain ⟨p, k, kp, h1, h2, h3, h4, h5, -, h7⟩ := Cond.superclass_spec h0 w
  obtain ⟨t', k', g1, g2, g5, g7, -⟩ := Cond.instantiable_spec wk
  cases g0.symm.trans g1
  have ne := ids_ne h0 g0 hn
  have g8 : k'.isInterface = false := by cases hI : k'.isInterface <;> simp [hI] at g7 ⊢
  refine ⟨c, t, h0, g0, ?_⟩
  show Z.vm.assignableAux (255 + 1) c t = false
  simp [Vm.assignableAux, ne, h2, g2, h5, g5, g8, Vm.isSubclass, n3]
theorem own_boxI {Z : State} {args : Array Value} {t : Term} {a : Addr} {c : Cell} {K : String} {z : Int32} (et : ∀ idx, t.eval args Z none idx Z = some (.ref a)) (A : Arr Z Z.heap a c (.object K)) (q : c.slots.size.toInt32 = z ∧ c.slots.size < 2 ^ 31) (hz : ¬ z < 0)
    (h : (Cond.all t (.and (.exactly (.elem t (.index 0)) K) (.eq (.field (.elem t (.index 0)) K "value" "I") (.sub (.index 0) (.int 128))))).value args Z none Z [] = some true) : Bxs Z a c K "I" z (fun j => .int (j - 128)) :=
  Bxs.start et A q.2 q.1 hz h fun X j nn hh => eqv_i (by simp [Term.eval, idx_at nn, (back32 nn).1]) hh
theorem own_boxJ {Z : State} {args : Array Value} {t : Term} {a : Addr} {c : Cell} {K : String} {z : Int32} (et : ∀ idx, t.eval args Z none idx Z = some (.ref a)) (A : Arr Z Z.heap a c (.object K)) (q : c.slots.size.toInt32 = z ∧ c.slots.size < 2 ^ 31) (hz : ¬ z < 0)
    (h : (Cond.all t (.and (.exactly (.elem t (.index 0)) K) (.eq (.field (.elem t (.index 0)) K "value" "J") (.op1 .i2l (.sub (.index 0) (.int 128)))))).value args Z none Z [] = some true) : Bxs Z a c K "J" z (fun j => .long (j - 128).toInt64) :=
  Bxs.start et A q.2 q.1 hz h fun X j nn hh => eqv_l (i2l_at (by simp [Term.eval, idx_at nn, (back32 nn).1])) hh
theorem own_staI {s : State} {args : Array Value} {C n d : String} {k : Int32} (h : (Cond.eq (Term.static C n d) (Term.int k)).value args s none s [] = some true) : (Term.static C n d).eval args s none [] s = some (.int k) := eqv_i (Term.int_eval k) h
theorem own_selp {Z : State} {a0 : Array Value} {y : MethodName} {n : Nat} (wi : (Cond.instantiable y.cls n).before a0 Z = true) (wp : (Cond.privateMethod y).before a0 Z = true) (wm : (Cond.instanceMethod y).before a0 Z = true) (hy : y.cls ≠ "java/lang/invoke/MethodHandle" ∧ y.cls ≠ "java/lang/invoke/VarHandle") : (Cond.selects y.cls y y).before a0 Z = true := by
  obtain ⟨c, k, h1, h2, -, h4, -⟩ := Cond.instantiable_spec wi
  exact selects_self_of_private h1 h2 (by cases hI : k.isInterface <;> simp [hI] at h4 ⊢) (Cond.privateMethod_at wp) wm hy
def own_Gk (Z : State) (h : Heap) (a : Addr) (k : ClassId) (ty : FieldType) (n j : Int32) (v : Value) : Prop := ∃ c : Cell, Arr Z h a c ty ∧ c.cls = k ∧ c.slots.size = n.toNatClampNeg ∧ ¬ n < 0 ∧ c.slots[j.toNatClampNeg]? = some v
section OwnGk
variable {Z : State} {h h' : Heap} {ls : List Loc} {a b : Addr} {k : ClassId} {ty : FieldType} {n j : Int32} {v u : Value} {sl : Nat}
theorem own_Gk.lt (F : own_Gk Z h a k ty n j v) : a < h.size := by obtain ⟨c, A, -⟩ := F; exact A.lt
theorem own_gk_ext (F : own_Gk Z h a k ty n j v) (E : Ext h h') : own_Gk Z h' a k ty n j v := by obtain ⟨c, A, r⟩ := F; exact ⟨c, A.ext E, r⟩
theorem own_gk_oth (F : own_Gk Z h a k ty n j v) (W : Wr h h' b sl u) (q : a ≠ b) : own_Gk Z h' a k ty n j v := by obtain ⟨c, A, r⟩ := F; exact ⟨c, A.other W q, r⟩
theorem own_gk_kl (F : own_Gk Z h a k ty n j v) (K : own_KL h h' ls) (q : ∀ y ∈ ls, y.base ≠ a) : own_Gk Z h' a k ty n j v := by
  obtain ⟨c, A, r⟩ := F
  obtain ⟨c', e1, -, -, -, e5, -⟩ := K.2 _ _ A.1
  cases e5 q
  exact ⟨c, ⟨e1, A.2⟩, r⟩
theorem own_gk_set {c : Cell} (A : Arr Z h a c ty) (q1 : c.cls = k) (S : c.slots.size = n.toNatClampNeg) (N : ¬ n < 0) (W : Wr h h' a j.toNatClampNeg v) : own_Gk Z h' a k ty n j v := by
  obtain ⟨c', e1, e2, e3, e4, -, -, e7⟩ := wr_at W A.1
  have e8 := (e7 rfl).1
  exact ⟨_, A.same W, q1, by rw [sz_set]; exact S, N, by rw [← e8]; exact (e7 rfl).2.1⟩
end OwnGk
section OwnSteps
variable {p : Program} {l : Launch} {e : Env} {R : Room} {s : State} {m : MethodId} {args : Array Value} {below : List Frame} {meth : Method} {c : Code} {T target : State} {locs : List Loc} {cells slots : Nat} {code : ByteArray} {pc : Nat} {Ls : Array Slot} {K : List Value}
theorem sc (X : Stand p l e R s m args below meth c T locs cells slots) (hx : p.tables.exec = Jvm.exec) (hby : c.code = code) {i : Int} (hd : decode code pc = .ok (.iconst i, 1)) (hr : Steps p.tables e below (T.setTop (mkF m (pc + 1) Ls (.int (Int32.ofInt i) :: K))) target) : Steps p.tables e below (T.setTop (mkF m pc Ls K)) target := XS.iconst X.here hx rfl (hb hby hd) hr
theorem sa (X : Stand p l e R s m args below meth c T locs cells slots) (hx : p.tables.exec = Jvm.exec) (hby : c.code = code) {k : Nat} {v : Value} (hd : decode code pc = .ok (.aload k, 2)) (hl : Ls[k]? = some (.val v)) (hv : v.isRef = true) (hr : Steps p.tables e below (T.setTop (mkF m (pc + 2) Ls (v :: K))) target) : Steps p.tables e below (T.setTop (mkF m pc Ls K)) target := XS.aload X.here hx rfl (hb hby hd) hl hv hr
theorem sA (X : Stand p l e R s m args below meth c T locs cells slots) (hx : p.tables.exec = Jvm.exec) (hby : c.code = code) {k : Fin 4} {v : Value} (hd : decode code pc = .ok (.aload_n k, 1)) (hl : Ls[k.val]? = some (.val v)) (hv : v.isRef = true) (hr : Steps p.tables e below (T.setTop (mkF m (pc + 1) Ls (v :: K))) target) : Steps p.tables e below (T.setTop (mkF m pc Ls K)) target := XS.aloadN X.here hx rfl (hb hby hd) hl hv hr
theorem si (X : Stand p l e R s m args below meth c T locs cells slots) (hx : p.tables.exec = Jvm.exec) (hby : c.code = code) {k : Nat} {v : Int32} (hd : decode code pc = .ok (.iload k, 2)) (hl : Ls[k]? = some (.val (.int v))) (hr : Steps p.tables e below (T.setTop (mkF m (pc + 2) Ls (.int v :: K))) target) : Steps p.tables e below (T.setTop (mkF m pc Ls K)) target := XS.iload X.here hx rfl (hb hby hd) hl hr
theorem sI (X : Stand p l e R s m args below meth c T locs cells slots) (hx : p.tables.exec = Jvm.exec) (hby : c.code = code) {k : Fin 4} {v : Int32} (hd : decode code pc = .ok (.iload_n k, 1)) (hl : Ls[k.val]? = some (.val (.int v))) (hr : Steps p.tables e below (T.setTop (mkF m (pc + 1) Ls (.int v :: K))) target) : Steps p.tables e below (T.setTop (mkF m pc Ls K)) target := XS.iloadN X.here hx rfl (hb hby hd) hl hr
theorem sL (X : Stand p l e R s m args below meth c T locs cells slots) (hx : p.tables.exec = Jvm.exec) (hby : c.code = code) {k : Fin 4} {v : Int64} (hd : decode code pc = .ok (.lload_n k, 1)) (hl : Ls[k.val]? = some (.val (.long v))) (hr : Steps p.tables e below (T.setTop (mkF m (pc + 1) Ls (.long v :: K))) target) : Steps p.tables e below (T.setTop (mkF m pc Ls K)) target := XS.lloadN X.here hx rfl (hb hby hd) hl hr
theorem sg (X : Stand p l e R s m args below meth c T locs cells slots) (hx : p.tables.exec = Jvm.exec) (hby : c.code = code) {o : Int} {pc' : Nat} (hd : decode code pc = .ok (.goto o, 3)) (ho : 0 ≤ (pc : Int) + o) (hp : ((pc : Int) + o).toNat = pc') (hr : Steps p.tables e below (T.setTop (mkF m pc' Ls K)) target) : Steps p.tables e below (T.setTop (mkF m pc Ls K)) target := XS.goto X.here hx rfl rfl (hb hby hd) ho hp hr
theorem sn (X : Stand p l e R s m args below meth c T locs cells slots) (hx : p.tables.exec = Jvm.exec) (hby : c.code = code) {cd : ClassFile.Cond} {o : Int} {x y : Int32} (hd : decode code pc = .ok (.if_icmp cd o, 3)) (hc : if_icmp.holds cd x y = false) (hr : Steps p.tables e below (T.setTop (mkF m (pc + 3) Ls K)) target) : Steps p.tables e below (T.setTop (mkF m pc Ls (.int y :: .int x :: K))) target := XS.icmpNo X.here hx rfl (hb hby hd) rfl hc hr
theorem sN (X : Stand p l e R s m args below meth c T locs cells slots) (hx : p.tables.exec = Jvm.exec) (hby : c.code = code) {cd : ClassFile.Cond} {o : Int} {x : Int32} (hd : decode code pc = .ok (.ifCond cd o, 3)) (hc : ifCond.holds cd x = false) (hr : Steps p.tables e below (T.setTop (mkF m (pc + 3) Ls K)) target) : Steps p.tables e below (T.setTop (mkF m pc Ls (.int x :: K))) target := XS.ifNo X.here hx rfl (hb hby hd) rfl hc hr
end OwnSteps

theorem own_and3 (x : Int32) : x &&& 3 = 0 ∨ x &&& 3 = 1 ∨ x &&& 3 = 2 ∨ x &&& 3 = 3 := by
  have h : (x &&& 3).toInt = x.toInt % 4 := c_mask x 3 2 (by decide) (by decide)
  have hr : (x &&& 3).toInt = 0 ∨ (x &&& 3).toInt = 1 ∨ (x &&& 3).toInt = 2 ∨ (x &&& 3).toInt = 3 := by omega
  rcases hr with q | q | q | q
  · exact Or.inl (Int32.toInt_inj.mp q)
  · exact Or.inr (Or.inl (Int32.toInt_inj.mp q))
  · exact Or.inr (Or.inr (Or.inl (Int32.toInt_inj.mp q)))
  · exact Or.inr (Or.inr (Or.inr (Int32.toInt_inj.mp q)))
abbrev ym0 : MethodName := ⟨"com/example/tidy_mailbox/tidymailbox/stream/Watermark", "<init>", "(J)V"⟩
abbrev ym1 : MethodName := ⟨"com/example/tidy_mailbox/tidymailbox/stream/Watermark", "equals", "(Ljava/lang/Object;)Z"⟩
abbrev ym2 : MethodName := ⟨"java/lang/Number", "<init>", "()V"⟩
abbrev ym3 : MethodName := ⟨"java/lang/Long", "<init>", "(J)V"⟩
abbrev ym4 : MethodName := ⟨"java/lang/Long", "valueOf", "(J)Ljava/lang/Long;"⟩
abbrev ym5 : MethodName := ⟨"com/example/tidy_mailbox/tidymailbox/stream/StreamRecord", "<init>", "(Ljava/lang/Object;J)V"⟩
theorem wk0 {Z : State} {a0 : Array Value} (hw : ∀ d ∈ tables_1, d.before a0 Z = true) : (Jvm.Cond.classLink "com/example/tidy_mailbox/tidymailbox/stream/WatermarkEqualsPinLaw" (7 : Nat) "com/example/tidy_mailbox/tidymailbox/stream/Watermark").before a0 Z = true := hw _ (List.mem_of_getElem? (i := 0) rfl)
theorem wk1 {Z : State} {a0 : Array Value} (hw : ∀ d ∈ tables_1, d.before a0 Z = true) : (Jvm.Cond.instantiable "com/example/tidy_mailbox/tidymailbox/stream/Watermark" (1 : Nat)).before a0 Z = true := hw _ (List.mem_of_getElem? (i := 1) rfl)
theorem wk2 {Z : State} {a0 : Array Value} (hw : ∀ d ∈ tables_1, d.before a0 Z = true) : (Jvm.Cond.initialized "com/example/tidy_mailbox/tidymailbox/stream/Watermark").before a0 Z = true := hw _ (List.mem_of_getElem? (i := 2) rfl)
theorem wk3 {Z : State} {a0 : Array Value} (hw : ∀ d ∈ tables_1, d.before a0 Z = true) : (Jvm.Cond.methodLink "com/example/tidy_mailbox/tidymailbox/stream/WatermarkEqualsPinLaw" (9 : Nat) ({ cls := "com/example/tidy_mailbox/tidymailbox/stream/Watermark", name := "<init>", desc := "(J)V" } : Jvm.MethodName)).before a0 Z = true := hw _ (List.mem_of_getElem? (i := 3) rfl)
theorem wk4 {Z : State} {a0 : Array Value} (hw : ∀ d ∈ tables_1, d.before a0 Z = true) : (Jvm.Cond.instanceMethod ({ cls := "com/example/tidy_mailbox/tidymailbox/stream/Watermark", name := "<init>", desc := "(J)V" } : Jvm.MethodName)).before a0 Z = true := hw _ (List.mem_of_getElem? (i := 4) rfl)
theorem wk5 {Z : State} {a0 : Array Value} (hw : ∀ d ∈ tables_1, d.before a0 Z = true) : (Jvm.Cond.code ({ cls := "com/example/tidy_mailbox/tidymailbox/stream/Watermark", name := "<init>", desc := "(J)V" } : Jvm.MethodName) prog_33_method_1_code (3 : Nat) (Option.none : Option Jvm.ClassFile.FieldType)).before a0 Z = true := hw _ (List.mem_of_getElem? (i := 5) rfl)
theorem wk6 {Z : State} {a0 : Array Value} (hw : ∀ d ∈ tables_1, d.before a0 Z = true) : (Jvm.Cond.methodLink "com/example/tidy_mailbox/tidymailbox/stream/Watermark" (1 : Nat) ({ cls := "java/lang/Object", name := "<init>", desc := "()V" } : Jvm.MethodName)).before a0 Z = true := hw _ (List.mem_of_getElem? (i := 6) rfl)
theorem wk7 {Z : State} {a0 : Array Value} (hw : ∀ d ∈ tables_1, d.before a0 Z = true) : (Jvm.Cond.instanceMethod ({ cls := "java/lang/Object", name := "<init>", desc := "()V" } : Jvm.MethodName)).before a0 Z = true := hw _ (List.mem_of_getElem? (i := 7) rfl)
theorem wk8 {Z : State} {a0 : Array Value} (hw : ∀ d ∈ tables_1, d.before a0 Z = true) : (Jvm.Cond.code ({ cls := "java/lang/Object", name := "<init>", desc := "()V" } : Jvm.MethodName) object_method_1_code (1 : Nat) (Option.none : Option Jvm.ClassFile.FieldType)).before a0 Z = true := hw _ (List.mem_of_getElem? (i := 8) rfl)
theorem wk9 {Z : State} {a0 : Array Value} (hw : ∀ d ∈ tables_1, d.before a0 Z = true) : (Jvm.Cond.fieldLink "com/example/tidy_mailbox/tidymailbox/stream/Watermark" (7 : Nat) "com/example/tidy_mailbox/tidymailbox/stream/Watermark" "timestamp" "J").before a0 Z = true := hw _ (List.mem_of_getElem? (i := 9) rfl)
theorem wk10 {Z : State} {a0 : Array Value} (hw : ∀ d ∈ tables_1, d.before a0 Z = true) : (Jvm.Cond.laysFinal "com/example/tidy_mailbox/tidymailbox/stream/Watermark" "com/example/tidy_mailbox/tidymailbox/stream/Watermark" "timestamp" "J").before a0 Z = true := hw _ (List.mem_of_getElem? (i := 10) rfl)
theorem wk11 {Z : State} {a0 : Array Value} (hw : ∀ d ∈ tables_1, d.before a0 Z = true) : (Jvm.Cond.methodLink "com/example/tidy_mailbox/tidymailbox/stream/WatermarkEqualsPinLaw" (23 : Nat) ({ cls := "com/example/tidy_mailbox/tidymailbox/stream/Watermark", name := "equals", desc := "(Ljava/lang/Object;)Z" } : Jvm.MethodName)).before a0 Z = true := hw _ (List.mem_of_getElem? (i := 11) rfl)
theorem wk12 {Z : State} {a0 : Array Value} (hw : ∀ d ∈ tables_1, d.before a0 Z = true) : (Jvm.Cond.declares ({ cls := "com/example/tidy_mailbox/tidymailbox/stream/Watermark", name := "equals", desc := "(Ljava/lang/Object;)Z" } : Jvm.MethodName)).before a0 Z = true := hw _ (List.mem_of_getElem? (i := 12) rfl)
theorem wk13 {Z : State} {a0 : Array Value} (hw : ∀ d ∈ tables_1, d.before a0 Z = true) : (Jvm.Cond.instanceMethod ({ cls := "com/example/tidy_mailbox/tidymailbox/stream/Watermark", name := "equals", desc := "(Ljava/lang/Object;)Z" } : Jvm.MethodName)).before a0 Z = true := hw _ (List.mem_of_getElem? (i := 13) rfl)
theorem wk14 {Z : State} {a0 : Array Value} (hw : ∀ d ∈ tables_1, d.before a0 Z = true) : (Jvm.Cond.selects "com/example/tidy_mailbox/tidymailbox/stream/Watermark" ({ cls := "com/example/tidy_mailbox/tidymailbox/stream/Watermark", name := "equals", desc := "(Ljava/lang/Object;)Z" } : Jvm.MethodName) ({ cls := "com/example/tidy_mailbox/tidymailbox/stream/Watermark", name := "equals", desc := "(Ljava/lang/Object;)Z" } : Jvm.MethodName)).before a0 Z = true := hw _ (List.mem_of_getElem? (i := 14) rfl)
theorem wk15 {Z : State} {a0 : Array Value} (hw : ∀ d ∈ tables_1, d.before a0 Z = true) : (Jvm.Cond.code ({ cls := "com/example/tidy_mailbox/tidymailbox/stream/Watermark", name := "equals", desc := "(Ljava/lang/Object;)Z" } : Jvm.MethodName) prog_33_method_3_code (3 : Nat) (Option.some Jvm.ClassFile.FieldType.boolean)).before a0 Z = true := hw _ (List.mem_of_getElem? (i := 15) rfl)
theorem wk16 {Z : State} {a0 : Array Value} (hw : ∀ d ∈ tables_1, d.before a0 Z = true) : (Jvm.Cond.classLink "com/example/tidy_mailbox/tidymailbox/stream/Watermark" (8 : Nat) "com/example/tidy_mailbox/tidymailbox/stream/Watermark").before a0 Z = true := hw _ (List.mem_of_getElem? (i := 16) rfl)
theorem wk18 {Z : State} {a0 : Array Value} (hw : ∀ d ∈ tables_1, d.before a0 Z = true) : (Jvm.Cond.methodLink "com/example/tidy_mailbox/tidymailbox/stream/WatermarkEqualsPinLaw" (14 : Nat) ({ cls := "java/lang/Long", name := "valueOf", desc := "(J)Ljava/lang/Long;" } : Jvm.MethodName)).before a0 Z = true := hw _ (List.mem_of_getElem? (i := 18) rfl)
theorem wk19 {Z : State} {a0 : Array Value} (hw : ∀ d ∈ tables_1, d.before a0 Z = true) : (Jvm.Cond.static ({ cls := "java/lang/Long", name := "valueOf", desc := "(J)Ljava/lang/Long;" } : Jvm.MethodName)).before a0 Z = true := hw _ (List.mem_of_getElem? (i := 19) rfl)
theorem wk20 {Z : State} {a0 : Array Value} (hw : ∀ d ∈ tables_1, d.before a0 Z = true) : (Jvm.Cond.initialized "java/lang/Long").before a0 Z = true := hw _ (List.mem_of_getElem? (i := 20) rfl)
theorem wk21 {Z : State} {a0 : Array Value} (hw : ∀ d ∈ tables_1, d.before a0 Z = true) : (Jvm.Cond.code ({ cls := "java/lang/Long", name := "valueOf", desc := "(J)Ljava/lang/Long;" } : Jvm.MethodName) jdk_35_method_24_code (3 : Nat) (Option.some (Jvm.ClassFile.FieldType.object "java/lang/Long"))).before a0 Z = true := hw _ (List.mem_of_getElem? (i := 21) rfl)
theorem wk22 {Z : State} {a0 : Array Value} (hw : ∀ d ∈ tables_1, d.before a0 Z = true) : (Jvm.Cond.constantLong "java/lang/Long" (230 : Nat) (-128 : Int64)).before a0 Z = true := hw _ (List.mem_of_getElem? (i := 22) rfl)
theorem wk23 {Z : State} {a0 : Array Value} (hw : ∀ d ∈ tables_1, d.before a0 Z = true) : (Jvm.Cond.constantLong "java/lang/Long" (232 : Nat) (127 : Int64)).before a0 Z = true := hw _ (List.mem_of_getElem? (i := 23) rfl)
theorem wk24 {Z : State} {a0 : Array Value} (hw : ∀ d ∈ tables_1, d.before a0 Z = true) : (Jvm.Cond.fieldLink "java/lang/Long" (234 : Nat) "java/lang/Long$LongCache" "cache" "[Ljava/lang/Long;").before a0 Z = true := hw _ (List.mem_of_getElem? (i := 24) rfl)
theorem wk25 {Z : State} {a0 : Array Value} (hw : ∀ d ∈ tables_1, d.before a0 Z = true) : (Jvm.Cond.initialized "java/lang/Long$LongCache").before a0 Z = true := hw _ (List.mem_of_getElem? (i := 25) rfl)
theorem wk26 {Z : State} {a0 : Array Value} (hw : ∀ d ∈ tables_1, d.before a0 Z = true) : (Jvm.Cond.superclass "java/lang/Long" "java/lang/Number").before a0 Z = true := hw _ (List.mem_of_getElem? (i := 26) rfl)
theorem wk27 {Z : State} {a0 : Array Value} (hw : ∀ d ∈ tables_1, d.before a0 Z = true) : (Jvm.Cond.superclass "java/lang/Number" "java/lang/Object").before a0 Z = true := hw _ (List.mem_of_getElem? (i := 27) rfl)
theorem wk28 {Z : State} {a0 : Array Value} (hw : ∀ d ∈ tables_1, d.before a0 Z = true) : (Jvm.Cond.noSuperclass "java/lang/Object").before a0 Z = true := hw _ (List.mem_of_getElem? (i := 28) rfl)
theorem wk29 {Z : State} {a0 : Array Value} (hw : ∀ d ∈ tables_1, d.before a0 Z = true) : (Jvm.Cond.classLink "java/lang/Long" (1 : Nat) "java/lang/Long").before a0 Z = true := hw _ (List.mem_of_getElem? (i := 29) rfl)
theorem wk30 {Z : State} {a0 : Array Value} (hw : ∀ d ∈ tables_1, d.before a0 Z = true) : (Jvm.Cond.instantiable "java/lang/Long" (1 : Nat)).before a0 Z = true := hw _ (List.mem_of_getElem? (i := 30) rfl)
theorem wk31 {Z : State} {a0 : Array Value} (hw : ∀ d ∈ tables_1, d.before a0 Z = true) : (Jvm.Cond.methodLink "java/lang/Long" (240 : Nat) ({ cls := "java/lang/Long", name := "<init>", desc := "(J)V" } : Jvm.MethodName)).before a0 Z = true := hw _ (List.mem_of_getElem? (i := 31) rfl)
theorem wk32 {Z : State} {a0 : Array Value} (hw : ∀ d ∈ tables_1, d.before a0 Z = true) : (Jvm.Cond.instanceMethod ({ cls := "java/lang/Long", name := "<init>", desc := "(J)V" } : Jvm.MethodName)).before a0 Z = true := hw _ (List.mem_of_getElem? (i := 32) rfl)
theorem wk34 {Z : State} {a0 : Array Value} (hw : ∀ d ∈ tables_1, d.before a0 Z = true) : (Jvm.Cond.code ({ cls := "java/lang/Long", name := "<init>", desc := "(J)V" } : Jvm.MethodName) jdk_35_method_26_code (3 : Nat) (Option.none : Option Jvm.ClassFile.FieldType)).before a0 Z = true := hw _ (List.mem_of_getElem? (i := 34) rfl)
theorem wk35 {Z : State} {a0 : Array Value} (hw : ∀ d ∈ tables_1, d.before a0 Z = true) : (Jvm.Cond.methodLink "java/lang/Long" (270 : Nat) ({ cls := "java/lang/Number", name := "<init>", desc := "()V" } : Jvm.MethodName)).before a0 Z = true := hw _ (List.mem_of_getElem? (i := 35) rfl)
theorem wk36 {Z : State} {a0 : Array Value} (hw : ∀ d ∈ tables_1, d.before a0 Z = true) : (Jvm.Cond.instanceMethod ({ cls := "java/lang/Number", name := "<init>", desc := "()V" } : Jvm.MethodName)).before a0 Z = true := hw _ (List.mem_of_getElem? (i := 36) rfl)
theorem wk39 {Z : State} {a0 : Array Value} (hw : ∀ d ∈ tables_1, d.before a0 Z = true) : (Jvm.Cond.initialized "java/lang/Number").before a0 Z = true := hw _ (List.mem_of_getElem? (i := 39) rfl)
theorem wk40 {Z : State} {a0 : Array Value} (hw : ∀ d ∈ tables_1, d.before a0 Z = true) : (Jvm.Cond.code ({ cls := "java/lang/Number", name := "<init>", desc := "()V" } : Jvm.MethodName) jdk_18_method_1_code (1 : Nat) (Option.none : Option Jvm.ClassFile.FieldType)).before a0 Z = true := hw _ (List.mem_of_getElem? (i := 40) rfl)
theorem wk41 {Z : State} {a0 : Array Value} (hw : ∀ d ∈ tables_1, d.before a0 Z = true) : (Jvm.Cond.methodLink "java/lang/Number" (1 : Nat) ({ cls := "java/lang/Object", name := "<init>", desc := "()V" } : Jvm.MethodName)).before a0 Z = true := hw _ (List.mem_of_getElem? (i := 41) rfl)
theorem wk42 {Z : State} {a0 : Array Value} (hw : ∀ d ∈ tables_1, d.before a0 Z = true) : (Jvm.Cond.fieldLink "java/lang/Long" (273 : Nat) "java/lang/Long" "value" "J").before a0 Z = true := hw _ (List.mem_of_getElem? (i := 42) rfl)
theorem wk43 {Z : State} {a0 : Array Value} (hw : ∀ d ∈ tables_1, d.before a0 Z = true) : (Jvm.Cond.laysFinal "java/lang/Long" "java/lang/Long" "value" "J").before a0 Z = true := hw _ (List.mem_of_getElem? (i := 43) rfl)
theorem wk44 {Z : State} {a0 : Array Value} (hw : ∀ d ∈ tables_1, d.before a0 Z = true) : (Jvm.Cond.classLink "com/example/tidy_mailbox/tidymailbox/stream/WatermarkEqualsPinLaw" (12 : Nat) "com/example/tidy_mailbox/tidymailbox/stream/StreamRecord").before a0 Z = true := hw _ (List.mem_of_getElem? (i := 44) rfl)
theorem wk45 {Z : State} {a0 : Array Value} (hw : ∀ d ∈ tables_1, d.before a0 Z = true) : (Jvm.Cond.instantiable "com/example/tidy_mailbox/tidymailbox/stream/StreamRecord" (2 : Nat)).before a0 Z = true := hw _ (List.mem_of_getElem? (i := 45) rfl)
theorem wk46 {Z : State} {a0 : Array Value} (hw : ∀ d ∈ tables_1, d.before a0 Z = true) : (Jvm.Cond.initialized "com/example/tidy_mailbox/tidymailbox/stream/StreamRecord").before a0 Z = true := hw _ (List.mem_of_getElem? (i := 46) rfl)
theorem wk47 {Z : State} {a0 : Array Value} (hw : ∀ d ∈ tables_1, d.before a0 Z = true) : (Jvm.Cond.methodLink "com/example/tidy_mailbox/tidymailbox/stream/WatermarkEqualsPinLaw" (20 : Nat) ({ cls := "com/example/tidy_mailbox/tidymailbox/stream/StreamRecord", name := "<init>", desc := "(Ljava/lang/Object;J)V" } : Jvm.MethodName)).before a0 Z = true := hw _ (List.mem_of_getElem? (i := 47) rfl)
theorem wk48 {Z : State} {a0 : Array Value} (hw : ∀ d ∈ tables_1, d.before a0 Z = true) : (Jvm.Cond.instanceMethod ({ cls := "com/example/tidy_mailbox/tidymailbox/stream/StreamRecord", name := "<init>", desc := "(Ljava/lang/Object;J)V" } : Jvm.MethodName)).before a0 Z = true := hw _ (List.mem_of_getElem? (i := 48) rfl)
theorem wk49 {Z : State} {a0 : Array Value} (hw : ∀ d ∈ tables_1, d.before a0 Z = true) : (Jvm.Cond.code ({ cls := "com/example/tidy_mailbox/tidymailbox/stream/StreamRecord", name := "<init>", desc := "(Ljava/lang/Object;J)V" } : Jvm.MethodName) prog_32_method_1_code (4 : Nat) (Option.none : Option Jvm.ClassFile.FieldType)).before a0 Z = true := hw _ (List.mem_of_getElem? (i := 49) rfl)
theorem wk50 {Z : State} {a0 : Array Value} (hw : ∀ d ∈ tables_1, d.before a0 Z = true) : (Jvm.Cond.methodLink "com/example/tidy_mailbox/tidymailbox/stream/StreamRecord" (1 : Nat) ({ cls := "java/lang/Object", name := "<init>", desc := "()V" } : Jvm.MethodName)).before a0 Z = true := hw _ (List.mem_of_getElem? (i := 50) rfl)
theorem wk51 {Z : State} {a0 : Array Value} (hw : ∀ d ∈ tables_1, d.before a0 Z = true) : (Jvm.Cond.fieldLink "com/example/tidy_mailbox/tidymailbox/stream/StreamRecord" (7 : Nat) "com/example/tidy_mailbox/tidymailbox/stream/StreamRecord" "value" "Ljava/lang/Object;").before a0 Z = true := hw _ (List.mem_of_getElem? (i := 51) rfl)
theorem wk52 {Z : State} {a0 : Array Value} (hw : ∀ d ∈ tables_1, d.before a0 Z = true) : (Jvm.Cond.laysFinal "com/example/tidy_mailbox/tidymailbox/stream/StreamRecord" "com/example/tidy_mailbox/tidymailbox/stream/StreamRecord" "value" "Ljava/lang/Object;").before a0 Z = true := hw _ (List.mem_of_getElem? (i := 52) rfl)
theorem wk53 {Z : State} {a0 : Array Value} (hw : ∀ d ∈ tables_1, d.before a0 Z = true) : (Jvm.Cond.fieldLink "com/example/tidy_mailbox/tidymailbox/stream/StreamRecord" (13 : Nat) "com/example/tidy_mailbox/tidymailbox/stream/StreamRecord" "timestamp" "J").before a0 Z = true := hw _ (List.mem_of_getElem? (i := 53) rfl)
theorem wk54 {Z : State} {a0 : Array Value} (hw : ∀ d ∈ tables_1, d.before a0 Z = true) : (Jvm.Cond.laysFinal "com/example/tidy_mailbox/tidymailbox/stream/StreamRecord" "com/example/tidy_mailbox/tidymailbox/stream/StreamRecord" "timestamp" "J").before a0 Z = true := hw _ (List.mem_of_getElem? (i := 54) rfl)
theorem wk55 {Z : State} {a0 : Array Value} (hw : ∀ d ∈ tables_1, d.before a0 Z = true) : (Jvm.Cond.superclass "com/example/tidy_mailbox/tidymailbox/stream/StreamRecord" "java/lang/Object").before a0 Z = true := hw _ (List.mem_of_getElem? (i := 55) rfl)
theorem sn0 {Z : State} {a0 : Array Value} (hw : ∀ d ∈ tables_1, d.before a0 Z = true) : Jvm.RoadKit.slotOf Z "com/example/tidy_mailbox/tidymailbox/stream/StreamRecord" "timestamp" "J" ≠ Jvm.RoadKit.slotOf Z "com/example/tidy_mailbox/tidymailbox/stream/StreamRecord" "value" "Ljava/lang/Object;" := slot_ne (Or.inr (wk54 hw)) (Or.inr (wk52 hw)) (by decide) (t := .long) (t' := (.object "java/lang/Object")) (by decide) (by decide)
theorem sn1 {Z : State} {a0 : Array Value} (hw : ∀ d ∈ tables_1, d.before a0 Z = true) : Jvm.RoadKit.slotOf Z "com/example/tidy_mailbox/tidymailbox/stream/StreamRecord" "value" "Ljava/lang/Object;" ≠ Jvm.RoadKit.slotOf Z "com/example/tidy_mailbox/tidymailbox/stream/StreamRecord" "timestamp" "J" := slot_ne (Or.inr (wk52 hw)) (Or.inr (wk54 hw)) (by decide) (t := (.object "java/lang/Object")) (t' := .long) (by decide) (by decide)
def Wd (Z : State) (w : Nat → Addr) : Prop := Sta Z Z.heap "java/lang/Long$LongCache" "cache" "[Ljava/lang/Long;" (.ref (w 0)) ∧ Exa Z Z.heap (w 0) "[Ljava/lang/Long;" ∧ (∃ c, Bxs Z (w 0) c "java/lang/Long" "J" (256 : Int32) (fun j => .long (j - 128).toInt64)) ∧ True
theorem wd0 {Z : State} {w : Nat → Addr} (hW : Wd Z w) : Sta Z Z.heap "java/lang/Long$LongCache" "cache" "[Ljava/lang/Long;" (.ref (w 0)) := hW.1
theorem wd1 {Z : State} {w : Nat → Addr} (hW : Wd Z w) : Exa Z Z.heap (w 0) "[Ljava/lang/Long;" := hW.2.1
theorem wd2 {Z : State} {w : Nat → Addr} (hW : Wd Z w) : (∃ c, Bxs Z (w 0) c "java/lang/Long" "J" (256 : Int32) (fun j => .long (j - 128).toInt64)) := hW.2.2.1
theorem d1_0 : decode prog_33_method_1_code 0 = .ok (.aload_n 0, 1) := by decide +kernel
theorem d1_1 : decode prog_33_method_1_code 1 = .ok (.invokespecial 1, 3) := by decide +kernel
theorem d1_4 : decode prog_33_method_1_code 4 = .ok (.aload_n 0, 1) := by decide +kernel
theorem d1_5 : decode prog_33_method_1_code 5 = .ok (.lload_n 1, 1) := by decide +kernel
theorem d1_6 : decode prog_33_method_1_code 6 = .ok (.putfield 7, 3) := by decide +kernel
theorem d1_9 : decode prog_33_method_1_code 9 = .ok (.return_, 1) := by decide +kernel
theorem ef_1_1 (m : MethodId) (o1 : Addr) (q2 : Int64) : entryFrame m #[(.ref o1), (.long q2)] 3 = mkF m 0 #[.val (.ref o1), .val (.long q2), .second] [] := by first | (simp [entryFrame, mkF, argsToLocals, Value.category]; done) | rfl
theorem pnc_0 : plainName "com/example/tidy_mailbox/tidymailbox/stream/Watermark" = true := by first | (simp [plainName, overriddenIn]; done) | decide +kernel
def Q1_1 (Z : State) (w : Nat → Addr) (o1 : Addr) (q2 : Int64) (h0 : Heap) (n0 : Nat) (v : Option Value) (h : Heap) (L : List Loc) : Prop := v = none ∧ Fr n0 L ∧ own_KL h0 h [⟨o1, Jvm.RoadKit.slotOf Z "com/example/tidy_mailbox/tidymailbox/stream/Watermark" "timestamp" "J"⟩] ∧ Fld Z h o1 "com/example/tidy_mailbox/tidymailbox/stream/Watermark" "timestamp" "J" (.long q2)
set_option maxRecDepth 65536 in
set_option maxHeartbeats 40000000 in
theorem rm1_1 (l : Launch) (Z : State) (a0 : Array Value) (hw : ∀ d ∈ tables_1, d.before a0 Z = true) (w : Nat → Addr) (hW : Wd Z w) (ws : List Jvm.Cond) (o1 : Addr) (q2 : Int64) (h0 : Heap) (n0 : Nat) (O0 : Old Z n0 h0) (f1 : Exa Z h0 o1 "com/example/tidy_mailbox/tidymailbox/stream/Watermark") (f2 : Fld Z h0 o1 "com/example/tidy_mailbox/tidymailbox/stream/Watermark" "timestamp" "J" (.long (0 : Int64))) (g3 : n0 ≤ o1) :
    MetFree l ym0 (head1 (Jvm.Cond.code ym0 prog_33_method_1_code 3 none :: ws) ({ frames := 1, cells := 0, slots := 0, locals := 12 } : Room)) (fun a U => a = #[(.ref o1), (.long q2)] ∧ Z.Warmed39 U.vm ∧ U.heap = h0) (fun _ _ _ _ _ => True) (fun _ U o U' => ∃ v L, o = .returned v ∧ Q1_1 Z w o1 q2 h0 n0 v U'.heap L ∧ FrameEnd U o U' L ({ frames := 1, cells := 0, slots := 0, locals := 12 } : Room).cells ({ frames := 1, cells := 0, slots := 0, locals := 12 } : Room).slots) := by
  refine MetFree.of_bodySF (plainFor_of_name pnc_0) hisR ?_
  intro p e s m args below meth c s₁ Bd hml0 hP hK
  obtain ⟨rfl, hZ, hh⟩ := hP
  have hx := Bd.exec
  have hby := Bd.bytes
  have hml : c.maxLocals = 3 := hml0
  have hown : s.vm.findClass "com/example/tidy_mailbox/tidymailbox/stream/Watermark" = some m.cls := findClass_of_methodNamed Bd.named
  have hnm := (name_of_methodNamed Bd.named Bd.method).1
  have X0 : Stand p l e ({ frames := 1, cells := 0, slots := 0, locals := 12 } : Room) s m #[(.ref o1), (.long q2)] below meth c s₁ [] 0 0 := Stand.of_body Bd
  have e0 : s₁.heap = h0 := by rw [← hh, Bd.state]; rfl
  have N0 := Fr.nil n0
  skip
  have pre0 : ∀ t, Steps p.tables e below (s₁.setTop (mkF m 0 #[.val (.ref o1), .val (.long q2), .second] [])) t → Steps p.tables e below (s₁.setTop (entryFrame m #[(.ref o1), (.long q2)] 3)) t := fun t k => castTop (ef_1_1 m o1 q2) k
  obtain ⟨T1, X1, e1, st1⟩ := initO X0 hx hZ hown (wk6 hw) (wk7 hw) (wk8 hw) e0 (g := (mkF m 1 #[.val (.ref o1), .val (.long q2), .second] [(.ref o1)])) rfl (by rw [hml]; rfl) rfl (hb hby d1_1) (by decide) (W := 0) (by show 2 * 0 + _ ≤ _; exact Nat.le_of_eq rfl) (by decide)
  obtain ⟨T2, h2, X2, e2, W2, st2⟩ := putF X1 hx hZ hown (host := "") (Or.inl (wk9 hw)) Via.refl e1 f2 f1 (Or.inr ⟨(wk10 hw), rfl, hnm⟩) (wk1 hw) (ty := .long) (by decide) rfl rfl (g := (mkF m 6 #[.val (.ref o1), .val (.long q2), .second] [(.long q2), (.ref o1)])) rfl rfl (hb hby d1_6)
  have F2 : Fld Z h2 o1 "com/example/tidy_mailbox/tidymailbox/stream/Watermark" "timestamp" "J" (.long q2) := f2.same W2
  have N2 := Fr.snoc X2 N0 g3
  have O3 := O0.wr W2 g3
  obtain ⟨fs, hr, hrun, hended, hWm, hsame⟩ := X2.leave (v := none) (fun _ => rfl)
  have Kf4 : own_KL h0 h2 [⟨o1, Jvm.RoadKit.slotOf Z "com/example/tidy_mailbox/tidymailbox/stream/Watermark" "timestamp" "J"⟩] := (own_klW (own_kl0 h0 [⟨o1, Jvm.RoadKit.slotOf Z "com/example/tidy_mailbox/tidymailbox/stream/Watermark" "timestamp" "J"⟩]) W2 (Or.inl (List.mem_of_getElem? (i := 0) rfl)))
  refine ⟨_, _, pre0 _ ?_, hrun, hended, _, _, rfl, ?_, ⟨_, rfl⟩, hWm, hsame.mono (by decide) (by decide)⟩
  · show Steps p.tables e below (s₁.setTop (mkF m 0 #[.val (.ref o1), .val (.long q2), .second] [])) _
    refine sA X0 hx hby d1_0 rfl rfl ?_
    refine st1 _ ?_
    refine sA X1 hx hby d1_4 rfl rfl ?_
    refine sL X1 hx hby d1_5 rfl ?_
    refine st2 _ ?_
    exact X2.returnOut hx Bd.returns (hb hby d1_9) hr
  · show Q1_1 Z w o1 q2 h0 n0 _ T2.heap _
    rw [e2]
    exact ⟨rfl, N2, Kf4, F2⟩
theorem pds_0 : parseMethodDescriptor "(J)V" = some ⟨[.long], none⟩ := by decide +kernel
theorem d3_0 : decode prog_33_method_3_code 0 = .ok (.aload_n 1, 1) := by decide +kernel
theorem d3_1 : decode prog_33_method_3_code 1 = .ok (.instanceof 8, 3) := by decide +kernel
theorem d3_4 : decode prog_33_method_3_code 4 = .ok (.ifCond .eq 24, 3) := by decide +kernel
theorem d3_7 : decode prog_33_method_3_code 7 = .ok (.aload_n 1, 1) := by decide +kernel
theorem d3_8 : decode prog_33_method_3_code 8 = .ok (.checkcast 8, 3) := by decide +kernel
theorem d3_11 : decode prog_33_method_3_code 11 = .ok (.astore_n 2, 1) := by decide +kernel
theorem d3_12 : decode prog_33_method_3_code 12 = .ok (.aload_n 0, 1) := by decide +kernel
theorem d3_13 : decode prog_33_method_3_code 13 = .ok (.getfield 7, 3) := by decide +kernel
theorem d3_16 : decode prog_33_method_3_code 16 = .ok (.aload_n 2, 1) := by decide +kernel
theorem d3_17 : decode prog_33_method_3_code 17 = .ok (.getfield 7, 3) := by decide +kernel
theorem d3_20 : decode prog_33_method_3_code 20 = .ok (.lcmp, 1) := by decide +kernel
theorem d3_21 : decode prog_33_method_3_code 21 = .ok (.ifCond .ne 7, 3) := by decide +kernel
theorem d3_24 : decode prog_33_method_3_code 24 = .ok (.iconst 1, 1) := by decide +kernel
theorem d3_25 : decode prog_33_method_3_code 25 = .ok (.goto 4, 3) := by decide +kernel
theorem d3_29 : decode prog_33_method_3_code 29 = .ok (.ireturn, 1) := by decide +kernel
theorem ef_3_2 (m : MethodId) (o1 : Addr) : entryFrame m #[(.ref o1), (.ref o1)] 3 = mkF m 0 #[.val (.ref o1), .val (.ref o1), .unset] [] := by first | (simp [entryFrame, mkF, argsToLocals, Value.category]; done) | rfl
def Q3_2 (Z : State) (w : Nat → Addr) (o1 : Addr) (q2 : Int64) (h0 : Heap) (n0 : Nat) (v : Option Value) (h : Heap) (L : List Loc) : Prop := v = some (.int (1 : Int32)) ∧ Fr n0 L ∧ h = h0
set_option maxRecDepth 65536 in
set_option maxHeartbeats 40000000 in
theorem rm3_2 (l : Launch) (Z : State) (a0 : Array Value) (hw : ∀ d ∈ tables_1, d.before a0 Z = true) (w : Nat → Addr) (hW : Wd Z w) (ws : List Jvm.Cond) (o1 : Addr) (q2 : Int64) (h0 : Heap) (n0 : Nat) (O0 : Old Z n0 h0) (f1 : Exa Z h0 o1 "com/example/tidy_mailbox/tidymailbox/stream/Watermark") (f2 : Fld Z h0 o1 "com/example/tidy_mailbox/tidymailbox/stream/Watermark" "timestamp" "J" (.long q2)) :
    MetFree l ym1 (head1 (Jvm.Cond.code ym1 prog_33_method_3_code 3 (some .boolean) :: ws) ({ frames := 0, cells := 0, slots := 0, locals := 0 } : Room)) (fun a U => a = #[(.ref o1), (.ref o1)] ∧ Z.Warmed39 U.vm ∧ U.heap = h0) (fun _ _ _ _ _ => True) (fun _ U o U' => ∃ v L, o = .returned v ∧ Q3_2 Z w o1 q2 h0 n0 v U'.heap L ∧ FrameEnd U o U' L ({ frames := 0, cells := 0, slots := 0, locals := 0 } : Room).cells ({ frames := 0, cells := 0, slots := 0, locals := 0 } : Room).slots) := by
  refine MetFree.of_bodySF (plainFor_of_name pnc_0) hisR ?_
  intro p e s m args below meth c s₁ Bd hml0 hP hK
  obtain ⟨rfl, hZ, hh⟩ := hP
  have hx := Bd.exec
  have hby := Bd.bytes
  have hml : c.maxLocals = 3 := hml0
  have hown : s.vm.findClass "com/example/tidy_mailbox/tidymailbox/stream/Watermark" = some m.cls := findClass_of_methodNamed Bd.named
  have hnm := (name_of_methodNamed Bd.named Bd.method).1
  have X0 : Stand p l e ({ frames := 0, cells := 0, slots := 0, locals := 0 } : Room) s m #[(.ref o1), (.ref o1)] below meth c s₁ [] 0 0 := Stand.of_body Bd
  have e0 : s₁.heap = h0 := by rw [← hh, Bd.state]; rfl
  have N0 := Fr.nil n0
  skip
  have pre0 : ∀ t, Steps p.tables e below (s₁.setTop (mkF m 0 #[.val (.ref o1), .val (.ref o1), .unset] [])) t → Steps p.tables e below (s₁.setTop (entryFrame m #[(.ref o1), (.ref o1)] 3)) t := fun t k => castTop (ef_3_2 m o1) k
  obtain ⟨T1, X1, e1, st1⟩ := instY X0 hx hZ hown (wk16 hw) e0 (Ins.self f1) (g := (mkF m 1 #[.val (.ref o1), .val (.ref o1), .unset] [(.ref o1)])) rfl rfl (hb hby d3_1)
  obtain ⟨T2, X2, e2, st2⟩ := castY X1 hx hZ hown (wk16 hw) e1 (Ins.self f1) (g := (mkF m 8 #[.val (.ref o1), .val (.ref o1), .unset] [(.ref o1)])) rfl rfl (hb hby d3_8)
  obtain ⟨T3, X3, e3, st3⟩ := getF X2 hx hZ hown (host := "") (Or.inl (wk9 hw)) Via.refl e2 f2 (g := (mkF m 13 #[.val (.ref o1), .val (.ref o1), .val (.ref o1)] [(.ref o1)])) rfl rfl (hb hby d3_13)
  obtain ⟨T4, X4, e4, st4⟩ := getF X3 hx hZ hown (host := "") (Or.inl (wk9 hw)) Via.refl e3 f2 (g := (mkF m 17 #[.val (.ref o1), .val (.ref o1), .val (.ref o1)] [(.ref o1), (.long q2)])) rfl rfl (hb hby d3_17)
  obtain ⟨fs, hr, hrun, hended, hWm, hsame⟩ := X4.leave (v := some (.int (1 : Int32))) (fun h => by rw [Bd.returns] at h; cases h)
  refine ⟨_, _, pre0 _ ?_, hrun, hended, _, _, rfl, ?_, ⟨_, rfl⟩, hWm, hsame.mono (by decide) (by decide)⟩
  · show Steps p.tables e below (s₁.setTop (mkF m 0 #[.val (.ref o1), .val (.ref o1), .unset] [])) _
    refine sA X0 hx hby d3_0 rfl rfl ?_
    refine st1 _ ?_
    refine sN X1 hx hby d3_4 (by decide) ?_
    refine sA X1 hx hby d3_7 rfl rfl ?_
    refine st2 _ ?_
    refine XS.astoreN X2.here hx rfl (hb hby d3_11) rfl rfl (l' := #[.val (.ref o1), .val (.ref o1), .val (.ref o1)]) rfl ?_
    refine sA X2 hx hby d3_12 rfl rfl ?_
    refine st3 _ ?_
    refine sA X3 hx hby d3_16 rfl rfl ?_
    refine st4 _ ?_
    refine XS.lcmp X4.here hx rfl (hb hby d3_20) rfl ?_
    refine sN X4 hx hby d3_21 ((if0 _ _).trans (teq (((lw_eq _ _).mpr rfl) : (lcmpW q2 q2) = (0 : Int32))).2) ?_
    refine sc X4 hx hby d3_24 ?_
    refine sg (pc := 25) (pc' := 29) X4 hx hby d3_25 (by decide) (by decide) ?_
    exact retN X4 hx (t := .boolean) Bd.returns (by simp) (hb hby d3_29) hr
  · show Q3_2 Z w o1 q2 h0 n0 _ T4.heap _
    rw [e4]
    exact ⟨rfl, N0, rfl⟩
theorem pds_1 : parseMethodDescriptor "(Ljava/lang/Object;)Z" = some ⟨[(.object "java/lang/Object")], some .boolean⟩ := by decide +kernel
theorem ef_3_3 (m : MethodId) (o1 : Addr) (o2 : Addr) : entryFrame m #[(.ref o1), (.ref o2)] 3 = mkF m 0 #[.val (.ref o1), .val (.ref o2), .unset] [] := by first | (simp [entryFrame, mkF, argsToLocals, Value.category]; done) | rfl
def Q3_3 (Z : State) (w : Nat → Addr) (o1 : Addr) (o2 : Addr) (q3 : Int64) (q4 : Int64) (h0 : Heap) (n0 : Nat) (v : Option Value) (h : Heap) (L : List Loc) : Prop := v = some (.int (1 : Int32)) ∧ Fr n0 L ∧ h = h0
set_option maxRecDepth 65536 in
set_option maxHeartbeats 40000000 in
theorem rm3_3 (l : Launch) (Z : State) (a0 : Array Value) (hw : ∀ d ∈ tables_1, d.before a0 Z = true) (w : Nat → Addr) (hW : Wd Z w) (ws : List Jvm.Cond) (o1 : Addr) (o2 : Addr) (q3 : Int64) (q4 : Int64) (h0 : Heap) (n0 : Nat) (O0 : Old Z n0 h0) (f1 : Exa Z h0 o2 "com/example/tidy_mailbox/tidymailbox/stream/Watermark") (f2 : Fld Z h0 o1 "com/example/tidy_mailbox/tidymailbox/stream/Watermark" "timestamp" "J" (.long q3)) (f3 : Fld Z h0 o2 "com/example/tidy_mailbox/tidymailbox/stream/Watermark" "timestamp" "J" (.long q4)) (c4 : q3 = q4) :
    MetFree l ym1 (head1 (Jvm.Cond.code ym1 prog_33_method_3_code 3 (some .boolean) :: ws) ({ frames := 0, cells := 0, slots := 0, locals := 0 } : Room)) (fun a U => a = #[(.ref o1), (.ref o2)] ∧ Z.Warmed39 U.vm ∧ U.heap = h0) (fun _ _ _ _ _ => True) (fun _ U o U' => ∃ v L, o = .returned v ∧ Q3_3 Z w o1 o2 q3 q4 h0 n0 v U'.heap L ∧ FrameEnd U o U' L ({ frames := 0, cells := 0, slots := 0, locals := 0 } : Room).cells ({ frames := 0, cells := 0, slots := 0, locals := 0 } : Room).slots) := by
  refine MetFree.of_bodySF (plainFor_of_name pnc_0) hisR ?_
  intro p e s m args below meth c s₁ Bd hml0 hP hK
  obtain ⟨rfl, hZ, hh⟩ := hP
  have hx := Bd.exec
  have hby := Bd.bytes
  have hml : c.maxLocals = 3 := hml0
  have hown : s.vm.findClass "com/example/tidy_mailbox/tidymailbox/stream/Watermark" = some m.cls := findClass_of_methodNamed Bd.named
  have hnm := (name_of_methodNamed Bd.named Bd.method).1
  have X0 : Stand p l e ({ frames := 0, cells := 0, slots := 0, locals := 0 } : Room) s m #[(.ref o1), (.ref o2)] below meth c s₁ [] 0 0 := Stand.of_body Bd
  have e0 : s₁.heap = h0 := by rw [← hh, Bd.state]; rfl
  have N0 := Fr.nil n0
  skip
  have pre0 : ∀ t, Steps p.tables e below (s₁.setTop (mkF m 0 #[.val (.ref o1), .val (.ref o2), .unset] [])) t → Steps p.tables e below (s₁.setTop (entryFrame m #[(.ref o1), (.ref o2)] 3)) t := fun t k => castTop (ef_3_3 m o1 o2) k
  obtain ⟨T1, X1, e1, st1⟩ := instY X0 hx hZ hown (wk16 hw) e0 (Ins.self f1) (g := (mkF m 1 #[.val (.ref o1), .val (.ref o2), .unset] [(.ref o2)])) rfl rfl (hb hby d3_1)
  obtain ⟨T2, X2, e2, st2⟩ := castY X1 hx hZ hown (wk16 hw) e1 (Ins.self f1) (g := (mkF m 8 #[.val (.ref o1), .val (.ref o2), .unset] [(.ref o2)])) rfl rfl (hb hby d3_8)
  obtain ⟨T3, X3, e3, st3⟩ := getF X2 hx hZ hown (host := "") (Or.inl (wk9 hw)) Via.refl e2 f2 (g := (mkF m 13 #[.val (.ref o1), .val (.ref o2), .val (.ref o2)] [(.ref o1)])) rfl rfl (hb hby d3_13)
  obtain ⟨T4, X4, e4, st4⟩ := getF X3 hx hZ hown (host := "") (Or.inl (wk9 hw)) Via.refl e3 f3 (g := (mkF m 17 #[.val (.ref o1), .val (.ref o2), .val (.ref o2)] [(.ref o2), (.long q3)])) rfl rfl (hb hby d3_17)
  obtain ⟨fs, hr, hrun, hended, hWm, hsame⟩ := X4.leave (v := some (.int (1 : Int32))) (fun h => by rw [Bd.returns] at h; cases h)
  refine ⟨_, _, pre0 _ ?_, hrun, hended, _, _, rfl, ?_, ⟨_, rfl⟩, hWm, hsame.mono (by decide) (by decide)⟩
  · show Steps p.tables e below (s₁.setTop (mkF m 0 #[.val (.ref o1), .val (.ref o2), .unset] [])) _
    refine sA X0 hx hby d3_0 rfl rfl ?_
    refine st1 _ ?_
    refine sN X1 hx hby d3_4 (by decide) ?_
    refine sA X1 hx hby d3_7 rfl rfl ?_
    refine st2 _ ?_
    refine XS.astoreN X2.here hx rfl (hb hby d3_11) rfl rfl (l' := #[.val (.ref o1), .val (.ref o2), .val (.ref o2)]) rfl ?_
    refine sA X2 hx hby d3_12 rfl rfl ?_
    refine st3 _ ?_
    refine sA X3 hx hby d3_16 rfl rfl ?_
    refine st4 _ ?_
    refine XS.lcmp X4.here hx rfl (hb hby d3_20) rfl ?_
    refine sN X4 hx hby d3_21 ((if0 _ _).trans (teq (((lw_eq _ _).mpr c4) : (lcmpW q3 q4) = (0 : Int32))).2) ?_
    refine sc X4 hx hby d3_24 ?_
    refine sg (pc := 25) (pc' := 29) X4 hx hby d3_25 (by decide) (by decide) ?_
    exact retN X4 hx (t := .boolean) Bd.returns (by simp) (hb hby d3_29) hr
  · show Q3_3 Z w o1 o2 q3 q4 h0 n0 _ T4.heap _
    rw [e4]
    exact ⟨rfl, N0, rfl⟩
theorem d3_28 : decode prog_33_method_3_code 28 = .ok (.iconst 0, 1) := by decide +kernel
theorem ef_3_4 (m : MethodId) (o1 : Addr) (o2 : Addr) : entryFrame m #[(.ref o1), (.ref o2)] 3 = mkF m 0 #[.val (.ref o1), .val (.ref o2), .unset] [] := by first | (simp [entryFrame, mkF, argsToLocals, Value.category]; done) | rfl
def Q3_4 (Z : State) (w : Nat → Addr) (o1 : Addr) (o2 : Addr) (q3 : Int64) (q4 : Int64) (h0 : Heap) (n0 : Nat) (v : Option Value) (h : Heap) (L : List Loc) : Prop := v = some (.int (0 : Int32)) ∧ Fr n0 L ∧ h = h0
set_option maxRecDepth 65536 in
set_option maxHeartbeats 40000000 in
theorem rm3_4 (l : Launch) (Z : State) (a0 : Array Value) (hw : ∀ d ∈ tables_1, d.before a0 Z = true) (w : Nat → Addr) (hW : Wd Z w) (ws : List Jvm.Cond) (o1 : Addr) (o2 : Addr) (q3 : Int64) (q4 : Int64) (h0 : Heap) (n0 : Nat) (O0 : Old Z n0 h0) (f1 : Exa Z h0 o2 "com/example/tidy_mailbox/tidymailbox/stream/Watermark") (f2 : Fld Z h0 o1 "com/example/tidy_mailbox/tidymailbox/stream/Watermark" "timestamp" "J" (.long q3)) (f3 : Fld Z h0 o2 "com/example/tidy_mailbox/tidymailbox/stream/Watermark" "timestamp" "J" (.long q4)) (c4 : ¬ (q3 = q4)) :
    MetFree l ym1 (head1 (Jvm.Cond.code ym1 prog_33_method_3_code 3 (some .boolean) :: ws) ({ frames := 0, cells := 0, slots := 0, locals := 0 } : Room)) (fun a U => a = #[(.ref o1), (.ref o2)] ∧ Z.Warmed39 U.vm ∧ U.heap = h0) (fun _ _ _ _ _ => True) (fun _ U o U' => ∃ v L, o = .returned v ∧ Q3_4 Z w o1 o2 q3 q4 h0 n0 v U'.heap L ∧ FrameEnd U o U' L ({ frames := 0, cells := 0, slots := 0, locals := 0 } : Room).cells ({ frames := 0, cells := 0, slots := 0, locals := 0 } : Room).slots) := by
  refine MetFree.of_bodySF (plainFor_of_name pnc_0) hisR ?_
  intro p e s m args below meth c s₁ Bd hml0 hP hK
  obtain ⟨rfl, hZ, hh⟩ := hP
  have hx := Bd.exec
  have hby := Bd.bytes
  have hml : c.maxLocals = 3 := hml0
  have hown : s.vm.findClass "com/example/tidy_mailbox/tidymailbox/stream/Watermark" = some m.cls := findClass_of_methodNamed Bd.named
  have hnm := (name_of_methodNamed Bd.named Bd.method).1
  have X0 : Stand p l e ({ frames := 0, cells := 0, slots := 0, locals := 0 } : Room) s m #[(.ref o1), (.ref o2)] below meth c s₁ [] 0 0 := Stand.of_body Bd
  have e0 : s₁.heap = h0 := by rw [← hh, Bd.state]; rfl
  have N0 := Fr.nil n0
  skip
  have pre0 : ∀ t, Steps p.tables e below (s₁.setTop (mkF m 0 #[.val (.ref o1), .val (.ref o2), .unset] [])) t → Steps p.tables e below (s₁.setTop (entryFrame m #[(.ref o1), (.ref o2)] 3)) t := fun t k => castTop (ef_3_4 m o1 o2) k
  obtain ⟨T1, X1, e1, st1⟩ := instY X0 hx hZ hown (wk16 hw) e0 (Ins.self f1) (g := (mkF m 1 #[.val (.ref o1), .val (.ref o2), .unset] [(.ref o2)])) rfl rfl (hb hby d3_1)
  obtain ⟨T2, X2, e2, st2⟩ := castY X1 hx hZ hown (wk16 hw) e1 (Ins.self f1) (g := (mkF m 8 #[.val (.ref o1), .val (.ref o2), .unset] [(.ref o2)])) rfl rfl (hb hby d3_8)
  obtain ⟨T3, X3, e3, st3⟩ := getF X2 hx hZ hown (host := "") (Or.inl (wk9 hw)) Via.refl e2 f2 (g := (mkF m 13 #[.val (.ref o1), .val (.ref o2), .val (.ref o2)] [(.ref o1)])) rfl rfl (hb hby d3_13)
  obtain ⟨T4, X4, e4, st4⟩ := getF X3 hx hZ hown (host := "") (Or.inl (wk9 hw)) Via.refl e3 f3 (g := (mkF m 17 #[.val (.ref o1), .val (.ref o2), .val (.ref o2)] [(.ref o2), (.long q3)])) rfl rfl (hb hby d3_17)
  obtain ⟨fs, hr, hrun, hended, hWm, hsame⟩ := X4.leave (v := some (.int (0 : Int32))) (fun h => by rw [Bd.returns] at h; cases h)
  refine ⟨_, _, pre0 _ ?_, hrun, hended, _, _, rfl, ?_, ⟨_, rfl⟩, hWm, hsame.mono (by decide) (by decide)⟩
  · show Steps p.tables e below (s₁.setTop (mkF m 0 #[.val (.ref o1), .val (.ref o2), .unset] [])) _
    refine sA X0 hx hby d3_0 rfl rfl ?_
    refine st1 _ ?_
    refine sN X1 hx hby d3_4 (by decide) ?_
    refine sA X1 hx hby d3_7 rfl rfl ?_
    refine st2 _ ?_
    refine XS.astoreN X2.here hx rfl (hb hby d3_11) rfl rfl (l' := #[.val (.ref o1), .val (.ref o2), .val (.ref o2)]) rfl ?_
    refine sA X2 hx hby d3_12 rfl rfl ?_
    refine st3 _ ?_
    refine sA X3 hx hby d3_16 rfl rfl ?_
    refine st4 _ ?_
    refine XS.lcmp X4.here hx rfl (hb hby d3_20) rfl ?_
    refine XS.ifYes X4.here hx rfl (pc0 := 21) (pc' := 28) rfl (hb hby d3_21) rfl ((if0 _ _).trans (feq ((fun q => c4 ((lw_eq _ _).mp q)) : ¬ ((lcmpW q3 q4) = (0 : Int32)))).2) (by decide) (by decide) ?_
    refine sc X4 hx hby d3_28 ?_
    exact retN X4 hx (t := .boolean) Bd.returns (by simp) (hb hby d3_29) hr
  · show Q3_4 Z w o1 o2 q3 q4 h0 n0 _ T4.heap _
    rw [e4]
    exact ⟨rfl, N0, rfl⟩
theorem ef_3_5 (m : MethodId) (o1 : Addr) : entryFrame m #[(.ref o1), .null] 3 = mkF m 0 #[.val (.ref o1), .val .null, .unset] [] := by first | (simp [entryFrame, mkF, argsToLocals, Value.category]; done) | rfl
def Q3_5 (Z : State) (w : Nat → Addr) (o1 : Addr) (h0 : Heap) (n0 : Nat) (v : Option Value) (h : Heap) (L : List Loc) : Prop := v = some (.int (0 : Int32)) ∧ Fr n0 L ∧ h = h0
set_option maxRecDepth 65536 in
set_option maxHeartbeats 40000000 in
theorem rm3_5 (l : Launch) (Z : State) (a0 : Array Value) (hw : ∀ d ∈ tables_1, d.before a0 Z = true) (w : Nat → Addr) (hW : Wd Z w) (ws : List Jvm.Cond) (o1 : Addr) (h0 : Heap) (n0 : Nat) (O0 : Old Z n0 h0) :
    MetFree l ym1 (head1 (Jvm.Cond.code ym1 prog_33_method_3_code 3 (some .boolean) :: ws) ({ frames := 0, cells := 0, slots := 0, locals := 0 } : Room)) (fun a U => a = #[(.ref o1), .null] ∧ Z.Warmed39 U.vm ∧ U.heap = h0) (fun _ _ _ _ _ => True) (fun _ U o U' => ∃ v L, o = .returned v ∧ Q3_5 Z w o1 h0 n0 v U'.heap L ∧ FrameEnd U o U' L ({ frames := 0, cells := 0, slots := 0, locals := 0 } : Room).cells ({ frames := 0, cells := 0, slots := 0, locals := 0 } : Room).slots) := by
  refine MetFree.of_bodySF (plainFor_of_name pnc_0) hisR ?_
  intro p e s m args below meth c s₁ Bd hml0 hP hK
  obtain ⟨rfl, hZ, hh⟩ := hP
  have hx := Bd.exec
  have hby := Bd.bytes
  have hml : c.maxLocals = 3 := hml0
  have hown : s.vm.findClass "com/example/tidy_mailbox/tidymailbox/stream/Watermark" = some m.cls := findClass_of_methodNamed Bd.named
  have hnm := (name_of_methodNamed Bd.named Bd.method).1
  have X0 : Stand p l e ({ frames := 0, cells := 0, slots := 0, locals := 0 } : Room) s m #[(.ref o1), .null] below meth c s₁ [] 0 0 := Stand.of_body Bd
  have e0 : s₁.heap = h0 := by rw [← hh, Bd.state]; rfl
  have N0 := Fr.nil n0
  skip
  have pre0 : ∀ t, Steps p.tables e below (s₁.setTop (mkF m 0 #[.val (.ref o1), .val .null, .unset] [])) t → Steps p.tables e below (s₁.setTop (entryFrame m #[(.ref o1), .null] 3)) t := fun t k => castTop (ef_3_5 m o1) k
  obtain ⟨fs, hr, hrun, hended, hWm, hsame⟩ := X0.leave (v := some (.int (0 : Int32))) (fun h => by rw [Bd.returns] at h; cases h)
  refine ⟨_, _, pre0 _ ?_, hrun, hended, _, _, rfl, ?_, ⟨_, rfl⟩, hWm, hsame.mono (by decide) (by decide)⟩
  · show Steps p.tables e below (s₁.setTop (mkF m 0 #[.val (.ref o1), .val .null, .unset] [])) _
    refine sA X0 hx hby d3_0 rfl rfl ?_
    refine X0.instanceofNull hx (g := (mkF m 1 #[.val (.ref o1), .val .null, .unset] [.null])) rfl rfl (hb hby d3_1) _ ?_
    refine XS.ifYes X0.here hx rfl (pc0 := 4) (pc' := 28) rfl (hb hby d3_4) rfl (by decide) (by decide) (by decide) ?_
    refine sc X0 hx hby d3_28 ?_
    exact retN X0 hx (t := .boolean) Bd.returns (by simp) (hb hby d3_29) hr
  · show Q3_5 Z w o1 h0 n0 _ s₁.heap _
    rw [e0]
    exact ⟨rfl, N0, rfl⟩
theorem d4_0 : decode jdk_35_method_24_code 0 = .ok (.sipush 128, 3) := by decide +kernel
theorem d4_3 : decode jdk_35_method_24_code 3 = .ok (.istore_n 2, 1) := by decide +kernel
theorem d4_4 : decode jdk_35_method_24_code 4 = .ok (.lload_n 0, 1) := by decide +kernel
theorem d4_5 : decode jdk_35_method_24_code 5 = .ok (.ldc2_w 230, 3) := by decide +kernel
theorem d4_8 : decode jdk_35_method_24_code 8 = .ok (.lcmp, 1) := by decide +kernel
theorem d4_9 : decode jdk_35_method_24_code 9 = .ok (.ifCond .lt 22, 3) := by decide +kernel
theorem d4_31 : decode jdk_35_method_24_code 31 = .ok (.new 1, 3) := by decide +kernel
theorem d4_34 : decode jdk_35_method_24_code 34 = .ok (.dup, 1) := by decide +kernel
theorem d4_35 : decode jdk_35_method_24_code 35 = .ok (.lload_n 0, 1) := by decide +kernel
theorem d4_36 : decode jdk_35_method_24_code 36 = .ok (.invokespecial 240, 3) := by decide +kernel
theorem d5_0 : decode jdk_35_method_26_code 0 = .ok (.aload_n 0, 1) := by decide +kernel
theorem d5_1 : decode jdk_35_method_26_code 1 = .ok (.invokespecial 270, 3) := by decide +kernel
theorem d6_0 : decode jdk_18_method_1_code 0 = .ok (.aload_n 0, 1) := by decide +kernel
theorem d6_1 : decode jdk_18_method_1_code 1 = .ok (.invokespecial 1, 3) := by decide +kernel
theorem d6_4 : decode jdk_18_method_1_code 4 = .ok (.return_, 1) := by decide +kernel
theorem ef_6_6 (m : MethodId) (o1 : Addr) : entryFrame m #[(.ref o1)] 1 = mkF m 0 #[.val (.ref o1)] [] := by first | (simp [entryFrame, mkF, argsToLocals, Value.category]; done) | rfl
theorem pnc_1 : plainName "java/lang/Number" = true := by first | (simp [plainName, overriddenIn]; done) | decide +kernel
def Q6_6 (Z : State) (w : Nat → Addr) (o1 : Addr) (h0 : Heap) (n0 : Nat) (v : Option Value) (h : Heap) (L : List Loc) : Prop := v = none ∧ Fr n0 L ∧ h = h0
set_option maxRecDepth 65536 in
set_option maxHeartbeats 40000000 in
theorem rm6_6 (l : Launch) (Z : State) (a0 : Array Value) (hw : ∀ d ∈ tables_1, d.before a0 Z = true) (w : Nat → Addr) (hW : Wd Z w) (ws : List Jvm.Cond) (o1 : Addr) (h0 : Heap) (n0 : Nat) (O0 : Old Z n0 h0) :
    MetFree l ym2 (head1 (Jvm.Cond.code ym2 jdk_18_method_1_code 1 none :: ws) ({ frames := 1, cells := 0, slots := 0, locals := 12 } : Room)) (fun a U => a = #[(.ref o1)] ∧ Z.Warmed39 U.vm ∧ U.heap = h0) (fun _ _ _ _ _ => True) (fun _ U o U' => ∃ v L, o = .returned v ∧ Q6_6 Z w o1 h0 n0 v U'.heap L ∧ FrameEnd U o U' L ({ frames := 1, cells := 0, slots := 0, locals := 12 } : Room).cells ({ frames := 1, cells := 0, slots := 0, locals := 12 } : Room).slots) := by
  refine MetFree.of_bodySF (plainFor_of_name pnc_1) hisR ?_
  intro p e s m args below meth c s₁ Bd hml0 hP hK
  obtain ⟨rfl, hZ, hh⟩ := hP
  have hx := Bd.exec
  have hby := Bd.bytes
  have hml : c.maxLocals = 1 := hml0
  have hown : s.vm.findClass "java/lang/Number" = some m.cls := findClass_of_methodNamed Bd.named
  have hnm := (name_of_methodNamed Bd.named Bd.method).1
  have X0 : Stand p l e ({ frames := 1, cells := 0, slots := 0, locals := 12 } : Room) s m #[(.ref o1)] below meth c s₁ [] 0 0 := Stand.of_body Bd
  have e0 : s₁.heap = h0 := by rw [← hh, Bd.state]; rfl
  have N0 := Fr.nil n0
  skip
  have pre0 : ∀ t, Steps p.tables e below (s₁.setTop (mkF m 0 #[.val (.ref o1)] [])) t → Steps p.tables e below (s₁.setTop (entryFrame m #[(.ref o1)] 1)) t := fun t k => castTop (ef_6_6 m o1) k
  obtain ⟨T1, X1, e1, st1⟩ := initO X0 hx hZ hown (wk41 hw) (wk7 hw) (wk8 hw) e0 (g := (mkF m 1 #[.val (.ref o1)] [(.ref o1)])) rfl (by rw [hml]; rfl) rfl (hb hby d6_1) (by decide) (W := 0) (by show 2 * 0 + _ ≤ _; exact Nat.le_of_eq rfl) (by decide)
  obtain ⟨fs, hr, hrun, hended, hWm, hsame⟩ := X1.leave (v := none) (fun _ => rfl)
  refine ⟨_, _, pre0 _ ?_, hrun, hended, _, _, rfl, ?_, ⟨_, rfl⟩, hWm, hsame.mono (by decide) (by decide)⟩
  · show Steps p.tables e below (s₁.setTop (mkF m 0 #[.val (.ref o1)] [])) _
    refine sA X0 hx hby d6_0 rfl rfl ?_
    refine st1 _ ?_
    exact X1.returnOut hx Bd.returns (hb hby d6_4) hr
  · show Q6_6 Z w o1 h0 n0 _ T1.heap _
    rw [e1]
    exact ⟨rfl, N0, rfl⟩
theorem pds_2 : parseMethodDescriptor "()V" = some ⟨[], none⟩ := by decide +kernel
theorem d5_4 : decode jdk_35_method_26_code 4 = .ok (.aload_n 0, 1) := by decide +kernel
theorem d5_5 : decode jdk_35_method_26_code 5 = .ok (.lload_n 1, 1) := by decide +kernel
theorem d5_6 : decode jdk_35_method_26_code 6 = .ok (.putfield 273, 3) := by decide +kernel
theorem d5_9 : decode jdk_35_method_26_code 9 = .ok (.return_, 1) := by decide +kernel
theorem ef_5_7 (m : MethodId) (o1 : Addr) (q2 : Int64) : entryFrame m #[(.ref o1), (.long q2)] 3 = mkF m 0 #[.val (.ref o1), .val (.long q2), .second] [] := by first | (simp [entryFrame, mkF, argsToLocals, Value.category]; done) | rfl
theorem pnc_2 : plainName "java/lang/Long" = true := by first | (simp [plainName, overriddenIn]; done) | decide +kernel
def Q5_7 (Z : State) (w : Nat → Addr) (o1 : Addr) (q2 : Int64) (h0 : Heap) (n0 : Nat) (v : Option Value) (h : Heap) (L : List Loc) : Prop := v = none ∧ Fr n0 L ∧ own_KL h0 h [⟨o1, Jvm.RoadKit.slotOf Z "java/lang/Long" "value" "J"⟩] ∧ Fld Z h o1 "java/lang/Long" "value" "J" (.long q2)
set_option maxRecDepth 65536 in
set_option maxHeartbeats 40000000 in
theorem rm5_7 (l : Launch) (Z : State) (a0 : Array Value) (hw : ∀ d ∈ tables_1, d.before a0 Z = true) (w : Nat → Addr) (hW : Wd Z w) (ws : List Jvm.Cond) (o1 : Addr) (q2 : Int64) (h0 : Heap) (n0 : Nat) (O0 : Old Z n0 h0) (f1 : Exa Z h0 o1 "java/lang/Long") (f2 : Fld Z h0 o1 "java/lang/Long" "value" "J" (.long (0 : Int64))) (g3 : n0 ≤ o1) :
    MetFree l ym3 (head1 (Jvm.Cond.code ym3 jdk_35_method_26_code 3 none :: ws) ({ frames := 2, cells := 0, slots := 0, locals := 24 } : Room)) (fun a U => a = #[(.ref o1), (.long q2)] ∧ Z.Warmed39 U.vm ∧ U.heap = h0) (fun _ _ _ _ _ => True) (fun _ U o U' => ∃ v L, o = .returned v ∧ Q5_7 Z w o1 q2 h0 n0 v U'.heap L ∧ FrameEnd U o U' L ({ frames := 2, cells := 0, slots := 0, locals := 24 } : Room).cells ({ frames := 2, cells := 0, slots := 0, locals := 24 } : Room).slots) := by
  refine MetFree.of_bodySF (plainFor_of_name pnc_2) hisR ?_
  intro p e s m args below meth c s₁ Bd hml0 hP hK
  obtain ⟨rfl, hZ, hh⟩ := hP
  have hx := Bd.exec
  have hby := Bd.bytes
  have hml : c.maxLocals = 3 := hml0
  have hown : s.vm.findClass "java/lang/Long" = some m.cls := findClass_of_methodNamed Bd.named
  have hnm := (name_of_methodNamed Bd.named Bd.method).1
  have X0 : Stand p l e ({ frames := 2, cells := 0, slots := 0, locals := 24 } : Room) s m #[(.ref o1), (.long q2)] below meth c s₁ [] 0 0 := Stand.of_body Bd
  have e0 : s₁.heap = h0 := by rw [← hh, Bd.state]; rfl
  have N0 := Fr.nil n0
  skip
  have pre0 : ∀ t, Steps p.tables e below (s₁.setTop (mkF m 0 #[.val (.ref o1), .val (.long q2), .second] [])) t → Steps p.tables e below (s₁.setTop (entryFrame m #[(.ref o1), (.long q2)] 3)) t := fun t k => castTop (ef_5_7 m o1 q2) k
  obtain ⟨_, _, ⟨T1, L1, kk1, nn1⟩, -, X1, ⟨Lc1, hQ1, l1, y1, z1⟩, st1⟩ := X0.specialBack hx (y := ym2) rfl hown (mvT hZ (wk35 hw)) (mvT hZ (wk36 hw)) (mvT hZ (wk40 hw)) (by decide) (backOf (W := 0) (rm6_6 l Z a0 hw w hW [] o1 h0 n0 O0 ) hZ (wk40 hw) (wk39 hw) (by decide) (by decide)) (g := (mkF m 1 #[.val (.ref o1), .val (.long q2), .second] [(.ref o1)])) rfl (by rw [hml]; rfl) (Steps.refl _) (a := o1) (argsL := []) (rest := []) (lenOf pds_2 rfl) rfl (by show 2 * 0 + _ ≤ _; exact Nat.le_of_eq rfl) (hb hby d5_1) (fun _ _ => ⟨rfl, e0, (by decide : 0 + 0 ≤ _), (by decide : 0 + 0 ≤ _)⟩)
  dsimp only [Pt.U, Pt.locs, Pt.cells, Pt.slots] at X1 l1 y1 z1 st1 hQ1
  subst l1 y1 z1
  obtain ⟨rfl, N1q, e1⟩ := hQ1
  have N1 := Fr.app N0 N1q
  obtain ⟨T2, h2, X2, e2, W2, st2⟩ := putF X1 hx hZ hown (host := "") (Or.inl (wk42 hw)) Via.refl e1 f2 f1 (Or.inr ⟨(wk43 hw), rfl, hnm⟩) (wk30 hw) (ty := .long) (by decide) rfl rfl (g := (mkF m 6 #[.val (.ref o1), .val (.long q2), .second] [(.long q2), (.ref o1)])) rfl rfl (hb hby d5_6)
  have F2 : Fld Z h2 o1 "java/lang/Long" "value" "J" (.long q2) := f2.same W2
  have N2 := Fr.snoc X2 N1 g3
  have O3 := O0.wr W2 g3
  obtain ⟨fs, hr, hrun, hended, hWm, hsame⟩ := X2.leave (v := none) (fun _ => rfl)
  have Kf4 : own_KL h0 h2 [⟨o1, Jvm.RoadKit.slotOf Z "java/lang/Long" "value" "J"⟩] := (own_klW (own_kl0 h0 [⟨o1, Jvm.RoadKit.slotOf Z "java/lang/Long" "value" "J"⟩]) W2 (Or.inl (List.mem_of_getElem? (i := 0) rfl)))
  refine ⟨_, _, pre0 _ ?_, hrun, hended, _, _, rfl, ?_, ⟨_, rfl⟩, hWm, hsame.mono (by decide) (by decide)⟩
  · show Steps p.tables e below (s₁.setTop (mkF m 0 #[.val (.ref o1), .val (.long q2), .second] [])) _
    refine sA X0 hx hby d5_0 rfl rfl ?_
    refine st1.trans ?_
    refine sA X1 hx hby d5_4 rfl rfl ?_
    refine sL X1 hx hby d5_5 rfl ?_
    refine st2 _ ?_
    exact X2.returnOut hx Bd.returns (hb hby d5_9) hr
  · show Q5_7 Z w o1 q2 h0 n0 _ T2.heap _
    rw [e2]
    exact ⟨rfl, N2, Kf4, F2⟩
theorem d4_39 : decode jdk_35_method_24_code 39 = .ok (.areturn, 1) := by decide +kernel
theorem d4_12 : decode jdk_35_method_24_code 12 = .ok (.lload_n 0, 1) := by decide +kernel
theorem d4_13 : decode jdk_35_method_24_code 13 = .ok (.ldc2_w 232, 3) := by decide +kernel
theorem d4_16 : decode jdk_35_method_24_code 16 = .ok (.lcmp, 1) := by decide +kernel
theorem d4_17 : decode jdk_35_method_24_code 17 = .ok (.ifCond .gt 14, 3) := by decide +kernel
theorem d4_20 : decode jdk_35_method_24_code 20 = .ok (.getstatic 234, 3) := by decide +kernel
theorem d4_23 : decode jdk_35_method_24_code 23 = .ok (.lload_n 0, 1) := by decide +kernel
theorem d4_24 : decode jdk_35_method_24_code 24 = .ok (.l2i, 1) := by decide +kernel
theorem d4_25 : decode jdk_35_method_24_code 25 = .ok (.sipush 128, 3) := by decide +kernel
theorem d4_28 : decode jdk_35_method_24_code 28 = .ok (.iadd, 1) := by decide +kernel
theorem d4_29 : decode jdk_35_method_24_code 29 = .ok (.aaload, 1) := by decide +kernel
theorem d4_30 : decode jdk_35_method_24_code 30 = .ok (.areturn, 1) := by decide +kernel
theorem ef_4_8 (m : MethodId) (q1 : Int64) : entryFrame m #[(.long q1)] 3 = mkF m 0 #[.val (.long q1), .second, .unset] [] := by first | (simp [entryFrame, mkF, argsToLocals, Value.category]; done) | rfl
def Q4_8 (Z : State) (w : Nat → Addr) (q1 : Int64) (h0 : Heap) (n0 : Nat) (v : Option Value) (h : Heap) (L : List Loc) : Prop := ∃ (yw : Addr), v = some (.ref yw) ∧ Fr n0 L ∧ own_KL h0 h [] ∧ Exa Z h yw "java/lang/Long"
set_option maxRecDepth 65536 in
set_option maxHeartbeats 40000000 in
theorem rm4_8 (l : Launch) (Z : State) (a0 : Array Value) (hw : ∀ d ∈ tables_1, d.before a0 Z = true) (w : Nat → Addr) (hW : Wd Z w) (ws : List Jvm.Cond) (q1 : Int64) (h0 : Heap) (n0 : Nat) (O0 : Old Z n0 h0) :
    MetFree l ym4 (head1 (Jvm.Cond.code ym4 jdk_35_method_24_code 3 (some (.object "java/lang/Long")) :: ws) ({ frames := 3, cells := 1, slots := 1, locals := 39 } : Room)) (fun a U => a = #[(.long q1)] ∧ Z.Warmed39 U.vm ∧ U.heap = h0) (fun _ _ _ _ _ => True) (fun _ U o U' => ∃ v L, o = .returned v ∧ Q4_8 Z w q1 h0 n0 v U'.heap L ∧ FrameEnd U o U' L ({ frames := 3, cells := 1, slots := 1, locals := 39 } : Room).cells ({ frames := 3, cells := 1, slots := 1, locals := 39 } : Room).slots) := by
  refine MetFree.of_bodySF (plainFor_of_name pnc_2) hisR ?_
  intro p e s m args below meth c s₁ Bd hml0 hP hK
  obtain ⟨rfl, hZ, hh⟩ := hP
  have hx := Bd.exec
  have hby := Bd.bytes
  have hml : c.maxLocals = 3 := hml0
  have hown : s.vm.findClass "java/lang/Long" = some m.cls := findClass_of_methodNamed Bd.named
  have hnm := (name_of_methodNamed Bd.named Bd.method).1
  have X0 : Stand p l e ({ frames := 3, cells := 1, slots := 1, locals := 39 } : Room) s m #[(.long q1)] below meth c s₁ [] 0 0 := Stand.of_body Bd
  have e0 : s₁.heap = h0 := by rw [← hh, Bd.state]; rfl
  have N0 := Fr.nil n0
  skip
  have pre0 : ∀ t, Steps p.tables e below (s₁.setTop (mkF m 0 #[.val (.long q1), .second, .unset] [])) t → Steps p.tables e below (s₁.setTop (entryFrame m #[(.long q1)] 3)) t := fun t k => castTop (ef_4_8 m q1) k
  let Lb1 : Array Slot := #[.val (.long q1), .second, .val (.int (128 : Int32))]
  have pre2 : ∀ t, Steps p.tables e below (s₁.setTop (mkF m 9 Lb1 [(.int (lcmpW q1 (-128 : Int64)))])) t → Steps p.tables e below (s₁.setTop (entryFrame m #[(.long q1)] 3)) t := fun t k => pre0 t (by
   show Steps p.tables e below (s₁.setTop (mkF m 0 #[.val (.long q1), .second, .unset] [])) _
   refine XS.sipush X0.here hx rfl (hb hby d4_0) ?_
   refine XS.istoreN X0.here hx rfl (hb hby d4_3) rfl (l' := Lb1) rfl ?_
   refine sL X0 hx hby d4_4 rfl ?_
   refine X0.ldc2Long hx hown (mvT hZ (wk22 hw)) (g := (mkF m 5 Lb1 [(.long q1)])) rfl (hb hby d4_5) _ ?_
   refine XS.lcmp X0.here hx rfl (hb hby d4_8) rfl ?_
   exact k)
  by_cases hc3 : q1 < (-128 : Int64)
  ·
   obtain ⟨T4, h4, X4, e4, E4, A4, D4, -, st4⟩ := newO X0 hx hZ hown (wk29 hw) (wk30 hw) (wk20 hw) e0 (g := (mkF m 31 Lb1 [])) rfl (hb hby d4_31) (by decide) (by decide)
   obtain ⟨b4, g4⟩ : ∃ z, z = h0.size := ⟨_, rfl⟩
   rw [← g4] at A4 D4 st4
   have gg4 : n0 ≤ b4 := by rw [← O0.1, g4]; exact O0.2.1
   have O5 := O0.ext E4
   have i4_43 : Fld Z h4 b4 "java/lang/Long" "value" "J" (.long (0 : Int64)) := D4 (Or.inr (wk43 hw)) (ty := .long) (by decide)
   obtain ⟨_, _, ⟨T6, L6, kk6, nn6⟩, -, X6, ⟨Lc6, hQ6, l6, y6, z6⟩, st6⟩ := X4.specialBack hx (y := ym3) rfl hown (mvT hZ (wk31 hw)) (mvT hZ (wk32 hw)) (mvT hZ (wk34 hw)) (by decide) (backOf (W := 1) (rm5_7 l Z a0 hw w hW [] b4 q1 h4 n0 O5 A4 i4_43 gg4) hZ (wk34 hw) (wk20 hw) (by decide) (by decide)) (g := (mkF m 36 Lb1 [(.long q1), (.ref b4), (.ref b4)])) rfl (by rw [hml]; rfl) (Steps.refl _) (a := b4) (argsL := [(.long q1)]) (rest := [(.ref b4)]) (lenOf pds_0 rfl) rfl (by show 2 * 0 + _ ≤ _; exact Nat.le_of_eq rfl) (hb hby d4_36) (fun _ _ => ⟨rfl, e4, (by decide : 1 + 0 ≤ _), (by decide : 1 + 0 ≤ _)⟩)
   dsimp only [Pt.U, Pt.locs, Pt.cells, Pt.slots] at X6 l6 y6 z6 st6 hQ6
   subst l6 y6 z6
   obtain ⟨rfl, N6q, K6, r6_0⟩ := hQ6
   have N6 := Fr.app N0 N6q
   have O7 := own_old O5 K6 (own_ngc gg4 own_ng0)
   obtain ⟨fs, hr, hrun, hended, hWm, hsame⟩ := X6.leave (v := some (.ref b4)) (fun h => by rw [Bd.returns] at h; cases h)
   have Kf8 : own_KL h0 T6.heap [] := (own_klT (own_klE (own_kl0 h0 []) E4) K6 (own_kac (Or.inr (Nat.le_trans (Nat.le_refl _) (Nat.le_of_eq g4.symm))) own_ka0))
   have t9 := (own_exa A4 K6)
   refine ⟨_, _, pre2 _ ?_, hrun, hended, _, _, rfl, ?_, ⟨_, rfl⟩, hWm, hsame.mono (by decide) (by decide)⟩
   · show Steps p.tables e below (s₁.setTop (mkF m 9 Lb1 [(.int (lcmpW q1 (-128 : Int64)))])) _
     refine XS.ifYes X0.here hx rfl (pc0 := 9) (pc' := 31) rfl (hb hby d4_9) rfl ((if0 _ _).trans (tlt (((lw_lt _ _).mpr hc3) : (lcmpW q1 (-128 : Int64)) < (0 : Int32))).1) (by decide) (by decide) ?_
     refine st4 _ ?_
     refine XS.dup X4.here hx rfl (hb hby d4_34) rfl rfl ?_
     refine sL X4 hx hby d4_35 rfl ?_
     refine st6.trans ?_
     jvm_step X6.here [X6.here.top, hx, (hb hby d4_39), X6.method', Bd.returns, Value.isRef, FieldType.isReference]
     first | (intro acts; rw [hr _ acts rfl rfl rfl]) | rw [hr _ _ rfl rfl rfl]
     exact Steps.refl _
   · show Q4_8 Z w q1 h0 n0 _ T6.heap _
     exact ⟨b4, rfl, N6, Kf8, t9⟩
  ·
   have pre10 : ∀ t, Steps p.tables e below (s₁.setTop (mkF m 17 Lb1 [(.int (lcmpW q1 (127 : Int64)))])) t → Steps p.tables e below (s₁.setTop (entryFrame m #[(.long q1)] 3)) t := fun t k => pre2 t (by
    show Steps p.tables e below (s₁.setTop (mkF m 9 Lb1 [(.int (lcmpW q1 (-128 : Int64)))])) _
    refine sN X0 hx hby d4_9 ((if0 _ _).trans (flt ((fun q => hc3 ((lw_lt _ _).mp q)) : ¬ ((lcmpW q1 (-128 : Int64)) < (0 : Int32)))).1) ?_
    refine sL X0 hx hby d4_12 rfl ?_
    refine X0.ldc2Long hx hown (mvT hZ (wk23 hw)) (g := (mkF m 13 Lb1 [(.long q1)])) rfl (hb hby d4_13) _ ?_
    refine XS.lcmp X0.here hx rfl (hb hby d4_16) rfl ?_
    exact k)
   by_cases hc11 : (127 : Int64) < q1
   ·
    obtain ⟨T12, h12, X12, e12, E12, A12, D12, -, st12⟩ := newO X0 hx hZ hown (wk29 hw) (wk30 hw) (wk20 hw) e0 (g := (mkF m 31 Lb1 [])) rfl (hb hby d4_31) (by decide) (by decide)
    obtain ⟨b12, g12⟩ : ∃ z, z = h0.size := ⟨_, rfl⟩
    rw [← g12] at A12 D12 st12
    have gg12 : n0 ≤ b12 := by rw [← O0.1, g12]; exact O0.2.1
    have O13 := O0.ext E12
    have i12_43 : Fld Z h12 b12 "java/lang/Long" "value" "J" (.long (0 : Int64)) := D12 (Or.inr (wk43 hw)) (ty := .long) (by decide)
    obtain ⟨_, _, ⟨T14, L14, kk14, nn14⟩, -, X14, ⟨Lc14, hQ14, l14, y14, z14⟩, st14⟩ := X12.specialBack hx (y := ym3) rfl hown (mvT hZ (wk31 hw)) (mvT hZ (wk32 hw)) (mvT hZ (wk34 hw)) (by decide) (backOf (W := 1) (rm5_7 l Z a0 hw w hW [] b12 q1 h12 n0 O13 A12 i12_43 gg12) hZ (wk34 hw) (wk20 hw) (by decide) (by decide)) (g := (mkF m 36 Lb1 [(.long q1), (.ref b12), (.ref b12)])) rfl (by rw [hml]; rfl) (Steps.refl _) (a := b12) (argsL := [(.long q1)]) (rest := [(.ref b12)]) (lenOf pds_0 rfl) rfl (by show 2 * 0 + _ ≤ _; exact Nat.le_of_eq rfl) (hb hby d4_36) (fun _ _ => ⟨rfl, e12, (by decide : 1 + 0 ≤ _), (by decide : 1 + 0 ≤ _)⟩)
    dsimp only [Pt.U, Pt.locs, Pt.cells, Pt.slots] at X14 l14 y14 z14 st14 hQ14
    subst l14 y14 z14
    obtain ⟨rfl, N14q, K14, r14_0⟩ := hQ14
    have N14 := Fr.app N0 N14q
    have O15 := own_old O13 K14 (own_ngc gg12 own_ng0)
    obtain ⟨fs, hr, hrun, hended, hWm, hsame⟩ := X14.leave (v := some (.ref b12)) (fun h => by rw [Bd.returns] at h; cases h)
    have Kf16 : own_KL h0 T14.heap [] := (own_klT (own_klE (own_kl0 h0 []) E12) K14 (own_kac (Or.inr (Nat.le_trans (Nat.le_refl _) (Nat.le_of_eq g12.symm))) own_ka0))
    have t17 := (own_exa A12 K14)
    refine ⟨_, _, pre10 _ ?_, hrun, hended, _, _, rfl, ?_, ⟨_, rfl⟩, hWm, hsame.mono (by decide) (by decide)⟩
    · show Steps p.tables e below (s₁.setTop (mkF m 17 Lb1 [(.int (lcmpW q1 (127 : Int64)))])) _
      refine XS.ifYes X0.here hx rfl (pc0 := 17) (pc' := 31) rfl (hb hby d4_17) rfl ((if0 _ _).trans (tlt (((lw_gt _ _).mpr hc11) : (0 : Int32) < (lcmpW q1 (127 : Int64)))).2.2.1) (by decide) (by decide) ?_
      refine st12 _ ?_
      refine XS.dup X12.here hx rfl (hb hby d4_34) rfl rfl ?_
      refine sL X12 hx hby d4_35 rfl ?_
      refine st14.trans ?_
      jvm_step X14.here [X14.here.top, hx, (hb hby d4_39), X14.method', Bd.returns, Value.isRef, FieldType.isReference]
      first | (intro acts; rw [hr _ acts rfl rfl rfl]) | rw [hr _ _ rfl rfl rfl]
      exact Steps.refl _
    · show Q4_8 Z w q1 h0 n0 _ T14.heap _
      exact ⟨b12, rfl, N14, Kf16, t17⟩
   ·
    obtain ⟨T18, X18, e18, st18⟩ := getS2 X0 hx hZ hown (host := "") (Or.inl (wk24 hw)) Via.refl e0 ((wd0 hW).ext O0.2) (g := (mkF m 20 Lb1 [])) rfl (hb hby d4_20)
    obtain ⟨cl19, Bx19⟩ := (wd2 hW)
    have bd19 : ¬ ((q1.toInt32) + (128 : Int32)) < 0 ∧ ((q1.toInt32) + (128 : Int32)) < (256 : Int32) := by
      have z3 := Int64.le_iff_toInt_le.mp (Int64.not_lt.mp hc3)
      have z5 := Int64.le_iff_toInt_le.mp (Int64.not_lt.mp hc11)
      have z1 := rng64 q1
      have z2 : ((-128 : Int64)).toInt = -128 := by decide
      have z4 : ((127 : Int64)).toInt = 127 := by decide
      have z6 := rng32 ((q1.toInt32) + (128 : Int32))
      have z7 := rng32 (q1.toInt32)
      have z8 := c_l2i q1
      have z9 : ((128 : Int32)).toInt = 128 := by decide
      have z10 := c_iadd (q1.toInt32) (128 : Int32)
      have z11 : ((256 : Int32)).toInt = 256 := by decide
      have z12 : ((0 : Int32)).toInt = 0 := by decide
      refine ⟨fun q => ?_, Int32.lt_iff_toInt_lt.mpr ?_⟩
      · have q2 := Int32.lt_iff_toInt_lt.mp q
        omega
      · omega
    have hin19 : ¬ (((q1.toInt32) + (128 : Int32)) < 0 ∨ cl19.slots.size ≤ (((q1.toInt32) + (128 : Int32))).toNatClampNeg) := inb_of Bx19.2.1 bd19
    obtain ⟨y19, hy19, Ey19, Fy19⟩ := Bx19.2.2.2 _ hin19
    have Fz19 : Fld Z Z.heap y19 "java/lang/Long" "value" "J" (.long ((((q1.toInt32) + (128 : Int32)) - (128 : Int32)).toInt64)) := Fy19
    obtain ⟨fs, hr, hrun, hended, hWm, hsame⟩ := X18.leave (v := some (.ref y19)) (fun h => by rw [Bd.returns] at h; cases h)
    have Kf20 : own_KL h0 h0 [] := (own_kl0 h0 [])
    refine ⟨_, _, pre10 _ ?_, hrun, hended, _, _, rfl, ?_, ⟨_, rfl⟩, hWm, hsame.mono (by decide) (by decide)⟩
    · show Steps p.tables e below (s₁.setTop (mkF m 17 Lb1 [(.int (lcmpW q1 (127 : Int64)))])) _
      refine sN X0 hx hby d4_17 ((if0 _ _).trans (flt ((fun q => hc11 ((lw_gt _ _).mp q)) : ¬ ((0 : Int32) < (lcmpW q1 (127 : Int64))))).2.2.1) ?_
      refine st18 _ ?_
      refine sL X18 hx hby d4_23 rfl ?_
      refine XS.l2i X18.here hx rfl (hb hby d4_24) rfl ?_
      refine XS.sipush X18.here hx rfl (hb hby d4_25) ?_
      refine XS.iadd X18.here hx rfl (hb hby d4_28) rfl ?_
      refine X18.aaload hx (j := ((q1.toInt32) + (128 : Int32))) (v := (.ref y19)) (by rw [e18]; exact (Bx19.1.ext O0.2).1) (State.isArrayOf_alike hZ.alike Bx19.1.2.1) rfl Bx19.1.2.2 hin19 hy19 (g := (mkF m 29 Lb1 [(.int ((q1.toInt32) + (128 : Int32))), (.ref (w 0))])) rfl rfl (hb hby d4_29) _ ?_
      jvm_step X18.here [X18.here.top, hx, (hb hby d4_30), X18.method', Bd.returns, Value.isRef, FieldType.isReference]
      first | (intro acts; rw [hr _ acts rfl rfl rfl]) | rw [hr _ _ rfl rfl rfl]
      exact Steps.refl _
    · show Q4_8 Z w q1 h0 n0 _ T18.heap _
      rw [e18]
      exact ⟨y19, rfl, N0, Kf20, (Ey19.ext O0.2)⟩
theorem pds_3 : parseMethodDescriptor "(J)Ljava/lang/Long;" = some ⟨[.long], some (.object "java/lang/Long")⟩ := by decide +kernel
theorem d7_0 : decode prog_32_method_1_code 0 = .ok (.aload_n 0, 1) := by decide +kernel
theorem d7_1 : decode prog_32_method_1_code 1 = .ok (.invokespecial 1, 3) := by decide +kernel
theorem d7_4 : decode prog_32_method_1_code 4 = .ok (.aload_n 0, 1) := by decide +kernel
theorem d7_5 : decode prog_32_method_1_code 5 = .ok (.aload_n 1, 1) := by decide +kernel
theorem d7_6 : decode prog_32_method_1_code 6 = .ok (.putfield 7, 3) := by decide +kernel
theorem d7_9 : decode prog_32_method_1_code 9 = .ok (.aload_n 0, 1) := by decide +kernel
theorem d7_10 : decode prog_32_method_1_code 10 = .ok (.lload_n 2, 1) := by decide +kernel
theorem d7_11 : decode prog_32_method_1_code 11 = .ok (.putfield 13, 3) := by decide +kernel
theorem d7_14 : decode prog_32_method_1_code 14 = .ok (.return_, 1) := by decide +kernel
theorem ef_7_9 (m : MethodId) (o1 : Addr) (o2 : Addr) (q3 : Int64) : entryFrame m #[(.ref o1), (.ref o2), (.long q3)] 4 = mkF m 0 #[.val (.ref o1), .val (.ref o2), .val (.long q3), .second] [] := by first | (simp [entryFrame, mkF, argsToLocals, Value.category]; done) | rfl
theorem pnc_3 : plainName "com/example/tidy_mailbox/tidymailbox/stream/StreamRecord" = true := by first | (simp [plainName, overriddenIn]; done) | decide +kernel
def Q7_9 (Z : State) (w : Nat → Addr) (o1 : Addr) (o2 : Addr) (q3 : Int64) (h0 : Heap) (n0 : Nat) (v : Option Value) (h : Heap) (L : List Loc) : Prop := v = none ∧ Fr n0 L ∧ own_KL h0 h [⟨o1, Jvm.RoadKit.slotOf Z "com/example/tidy_mailbox/tidymailbox/stream/StreamRecord" "value" "Ljava/lang/Object;"⟩, ⟨o1, Jvm.RoadKit.slotOf Z "com/example/tidy_mailbox/tidymailbox/stream/StreamRecord" "timestamp" "J"⟩] ∧ Fld Z h o1 "com/example/tidy_mailbox/tidymailbox/stream/StreamRecord" "value" "Ljava/lang/Object;" (.ref o2) ∧ Fld Z h o1 "com/example/tidy_mailbox/tidymailbox/stream/StreamRecord" "timestamp" "J" (.long q3)
set_option maxRecDepth 65536 in
set_option maxHeartbeats 40000000 in
theorem rm7_9 (l : Launch) (Z : State) (a0 : Array Value) (hw : ∀ d ∈ tables_1, d.before a0 Z = true) (w : Nat → Addr) (hW : Wd Z w) (ws : List Jvm.Cond) (o1 : Addr) (o2 : Addr) (q3 : Int64) (h0 : Heap) (n0 : Nat) (O0 : Old Z n0 h0) (f1 : Exa Z h0 o1 "com/example/tidy_mailbox/tidymailbox/stream/StreamRecord") (f2 : Fld Z h0 o1 "com/example/tidy_mailbox/tidymailbox/stream/StreamRecord" "value" "Ljava/lang/Object;" .null) (g3 : n0 ≤ o1) (f4 : Fld Z h0 o1 "com/example/tidy_mailbox/tidymailbox/stream/StreamRecord" "timestamp" "J" (.long (0 : Int64))) :
    MetFree l ym5 (head1 (Jvm.Cond.code ym5 prog_32_method_1_code 4 none :: ws) ({ frames := 1, cells := 0, slots := 0, locals := 12 } : Room)) (fun a U => a = #[(.ref o1), (.ref o2), (.long q3)] ∧ Z.Warmed39 U.vm ∧ U.heap = h0) (fun _ _ _ _ _ => True) (fun _ U o U' => ∃ v L, o = .returned v ∧ Q7_9 Z w o1 o2 q3 h0 n0 v U'.heap L ∧ FrameEnd U o U' L ({ frames := 1, cells := 0, slots := 0, locals := 12 } : Room).cells ({ frames := 1, cells := 0, slots := 0, locals := 12 } : Room).slots) := by
  refine MetFree.of_bodySF (plainFor_of_name pnc_3) hisR ?_
  intro p e s m args below meth c s₁ Bd hml0 hP hK
  obtain ⟨rfl, hZ, hh⟩ := hP
  have hx := Bd.exec
  have hby := Bd.bytes
  have hml : c.maxLocals = 4 := hml0
  have hown : s.vm.findClass "com/example/tidy_mailbox/tidymailbox/stream/StreamRecord" = some m.cls := findClass_of_methodNamed Bd.named
  have hnm := (name_of_methodNamed Bd.named Bd.method).1
  have X0 : Stand p l e ({ frames := 1, cells := 0, slots := 0, locals := 12 } : Room) s m #[(.ref o1), (.ref o2), (.long q3)] below meth c s₁ [] 0 0 := Stand.of_body Bd
  have e0 : s₁.heap = h0 := by rw [← hh, Bd.state]; rfl
  have N0 := Fr.nil n0
  let La : Array Slot := #[.val (.ref o1), .val (.ref o2), .val (.long q3), .second]
  have pre0 : ∀ t, Steps p.tables e below (s₁.setTop (mkF m 0 #[.val (.ref o1), .val (.ref o2), .val (.long q3), .second] [])) t → Steps p.tables e below (s₁.setTop (entryFrame m #[(.ref o1), (.ref o2), (.long q3)] 4)) t := fun t k => castTop (ef_7_9 m o1 o2 q3) k
  obtain ⟨T1, X1, e1, st1⟩ := initO X0 hx hZ hown (wk50 hw) (wk7 hw) (wk8 hw) e0 (g := (mkF m 1 La [(.ref o1)])) rfl (by rw [hml]; rfl) rfl (hb hby d7_1) (by decide) (W := 0) (by show 2 * 0 + _ ≤ _; exact Nat.le_of_eq rfl) (by decide)
  obtain ⟨T2, h2, X2, e2, W2, st2⟩ := putF X1 hx hZ hown (host := "") (Or.inl (wk51 hw)) Via.refl e1 f2 f1 (Or.inr ⟨(wk52 hw), rfl, hnm⟩) (wk45 hw) (ty := (.object "java/lang/Object")) (by decide) rfl rfl (g := (mkF m 6 La [(.ref o2), (.ref o1)])) rfl rfl (hb hby d7_6)
  have F2 : Fld Z h2 o1 "com/example/tidy_mailbox/tidymailbox/stream/StreamRecord" "value" "Ljava/lang/Object;" (.ref o2) := f2.same W2
  have N2 := Fr.snoc X2 N0 g3
  have O3 := O0.wr W2 g3
  have t4 := (f4.other W2 (Or.inr (sn0 hw)))
  have t5 := (f1.wr W2)
  obtain ⟨T6, h6, X6, e6, W6, st6⟩ := putF X2 hx hZ hown (host := "") (Or.inl (wk53 hw)) Via.refl e2 t4 t5 (Or.inr ⟨(wk54 hw), rfl, hnm⟩) (wk45 hw) (ty := .long) (by decide) rfl rfl (g := (mkF m 11 La [(.long q3), (.ref o1)])) rfl rfl (hb hby d7_11)
  have F6 : Fld Z h6 o1 "com/example/tidy_mailbox/tidymailbox/stream/StreamRecord" "timestamp" "J" (.long q3) := t4.same W6
  have N6 := Fr.snoc X6 N2 g3
  have O7 := O3.wr W6 g3
  obtain ⟨fs, hr, hrun, hended, hWm, hsame⟩ := X6.leave (v := none) (fun _ => rfl)
  have Kf8 : own_KL h0 h6 [⟨o1, Jvm.RoadKit.slotOf Z "com/example/tidy_mailbox/tidymailbox/stream/StreamRecord" "value" "Ljava/lang/Object;"⟩, ⟨o1, Jvm.RoadKit.slotOf Z "com/example/tidy_mailbox/tidymailbox/stream/StreamRecord" "timestamp" "J"⟩] := (own_klW (own_klW (own_kl0 h0 [⟨o1, Jvm.RoadKit.slotOf Z "com/example/tidy_mailbox/tidymailbox/stream/StreamRecord" "value" "Ljava/lang/Object;"⟩, ⟨o1, Jvm.RoadKit.slotOf Z "com/example/tidy_mailbox/tidymailbox/stream/StreamRecord" "timestamp" "J"⟩]) W2 (Or.inl (List.mem_of_getElem? (i := 0) rfl))) W6 (Or.inl (List.mem_of_getElem? (i := 1) rfl)))
  have t9 := (F2.other W6 (Or.inr (sn1 hw)))
  refine ⟨_, _, pre0 _ ?_, hrun, hended, _, _, rfl, ?_, ⟨_, rfl⟩, hWm, hsame.mono (by decide) (by decide)⟩
  · show Steps p.tables e below (s₁.setTop (mkF m 0 La [])) _
    refine sA X0 hx hby d7_0 rfl rfl ?_
    refine st1 _ ?_
    refine sA X1 hx hby d7_4 rfl rfl ?_
    refine sA X1 hx hby d7_5 rfl rfl ?_
    refine st2 _ ?_
    refine sA X2 hx hby d7_9 rfl rfl ?_
    refine sL X2 hx hby d7_10 rfl ?_
    refine st6 _ ?_
    exact X6.returnOut hx Bd.returns (hb hby d7_14) hr
  · show Q7_9 Z w o1 o2 q3 h0 n0 _ T6.heap _
    rw [e6]
    exact ⟨rfl, N6, Kf8, t9, F6⟩
theorem pds_4 : parseMethodDescriptor "(Ljava/lang/Object;J)V" = some ⟨[(.object "java/lang/Object"), .long], none⟩ := by decide +kernel
theorem ef_3_10 (m : MethodId) (o1 : Addr) (o2 : Addr) : entryFrame m #[(.ref o1), (.ref o2)] 3 = mkF m 0 #[.val (.ref o1), .val (.ref o2), .unset] [] := by first | (simp [entryFrame, mkF, argsToLocals, Value.category]; done) | rfl
def Q3_10 (Z : State) (w : Nat → Addr) (o1 : Addr) (o2 : Addr) (h0 : Heap) (n0 : Nat) (v : Option Value) (h : Heap) (L : List Loc) : Prop := v = some (.int (0 : Int32)) ∧ Fr n0 L ∧ h = h0
set_option maxRecDepth 65536 in
set_option maxHeartbeats 40000000 in
theorem rm3_10 (l : Launch) (Z : State) (a0 : Array Value) (hw : ∀ d ∈ tables_1, d.before a0 Z = true) (w : Nat → Addr) (hW : Wd Z w) (ws : List Jvm.Cond) (o1 : Addr) (o2 : Addr) (h0 : Heap) (n0 : Nat) (O0 : Old Z n0 h0) (f1 : Exa Z h0 o2 "com/example/tidy_mailbox/tidymailbox/stream/StreamRecord") :
    MetFree l ym1 (head1 (Jvm.Cond.code ym1 prog_33_method_3_code 3 (some .boolean) :: ws) ({ frames := 0, cells := 0, slots := 0, locals := 0 } : Room)) (fun a U => a = #[(.ref o1), (.ref o2)] ∧ Z.Warmed39 U.vm ∧ U.heap = h0) (fun _ _ _ _ _ => True) (fun _ U o U' => ∃ v L, o = .returned v ∧ Q3_10 Z w o1 o2 h0 n0 v U'.heap L ∧ FrameEnd U o U' L ({ frames := 0, cells := 0, slots := 0, locals := 0 } : Room).cells ({ frames := 0, cells := 0, slots := 0, locals := 0 } : Room).slots) := by
  refine MetFree.of_bodySF (plainFor_of_name pnc_0) hisR ?_
  intro p e s m args below meth c s₁ Bd hml0 hP hK
  obtain ⟨rfl, hZ, hh⟩ := hP
  have hx := Bd.exec
  have hby := Bd.bytes
  have hml : c.maxLocals = 3 := hml0
  have hown : s.vm.findClass "com/example/tidy_mailbox/tidymailbox/stream/Watermark" = some m.cls := findClass_of_methodNamed Bd.named
  have hnm := (name_of_methodNamed Bd.named Bd.method).1
  have X0 : Stand p l e ({ frames := 0, cells := 0, slots := 0, locals := 0 } : Room) s m #[(.ref o1), (.ref o2)] below meth c s₁ [] 0 0 := Stand.of_body Bd
  have e0 : s₁.heap = h0 := by rw [← hh, Bd.state]; rfl
  have N0 := Fr.nil n0
  skip
  have pre0 : ∀ t, Steps p.tables e below (s₁.setTop (mkF m 0 #[.val (.ref o1), .val (.ref o2), .unset] [])) t → Steps p.tables e below (s₁.setTop (entryFrame m #[(.ref o1), (.ref o2)] 3)) t := fun t k => castTop (ef_3_10 m o1 o2) k
  obtain ⟨T1, X1, e1, st1⟩ := instNo X0 hx hZ hown (wk16 hw) e0 f1 (own_NSno (wk55 hw) (wk1 hw) (NS.step (wk55 hw) (own_NSroot (wk28 hw) (wk1 hw) (by decide)) (by decide)) (by decide)) (g := (mkF m 1 #[.val (.ref o1), .val (.ref o2), .unset] [(.ref o2)])) rfl rfl (hb hby d3_1)
  obtain ⟨fs, hr, hrun, hended, hWm, hsame⟩ := X1.leave (v := some (.int (0 : Int32))) (fun h => by rw [Bd.returns] at h; cases h)
  refine ⟨_, _, pre0 _ ?_, hrun, hended, _, _, rfl, ?_, ⟨_, rfl⟩, hWm, hsame.mono (by decide) (by decide)⟩
  · show Steps p.tables e below (s₁.setTop (mkF m 0 #[.val (.ref o1), .val (.ref o2), .unset] [])) _
    refine sA X0 hx hby d3_0 rfl rfl ?_
    refine st1 _ ?_
    refine XS.ifYes X1.here hx rfl (pc0 := 4) (pc' := 28) rfl (hb hby d3_4) rfl (by decide) (by decide) (by decide) ?_
    refine sc X1 hx hby d3_28 ?_
    exact retN X1 hx (t := .boolean) Bd.returns (by simp) (hb hby d3_29) hr
  · show Q3_10 Z w o1 o2 h0 n0 _ T1.heap _
    rw [e1]
    exact ⟨rfl, N0, rfl⟩
theorem ef_3_11 (m : MethodId) (o1 : Addr) (o2 : Addr) : entryFrame m #[(.ref o1), (.ref o2)] 3 = mkF m 0 #[.val (.ref o1), .val (.ref o2), .unset] [] := by first | (simp [entryFrame, mkF, argsToLocals, Value.category]; done) | rfl
def Q3_11 (Z : State) (w : Nat → Addr) (o1 : Addr) (o2 : Addr) (h0 : Heap) (n0 : Nat) (v : Option Value) (h : Heap) (L : List Loc) : Prop := v = some (.int (0 : Int32)) ∧ Fr n0 L ∧ h = h0
set_option maxRecDepth 65536 in
set_option maxHeartbeats 40000000 in
theorem rm3_11 (l : Launch) (Z : State) (a0 : Array Value) (hw : ∀ d ∈ tables_1, d.before a0 Z = true) (w : Nat → Addr) (hW : Wd Z w) (ws : List Jvm.Cond) (o1 : Addr) (o2 : Addr) (h0 : Heap) (n0 : Nat) (O0 : Old Z n0 h0) (f1 : Exa Z h0 o2 "java/lang/Long") :
    MetFree l ym1 (head1 (Jvm.Cond.code ym1 prog_33_method_3_code 3 (some .boolean) :: ws) ({ frames := 0, cells := 0, slots := 0, locals := 0 } : Room)) (fun a U => a = #[(.ref o1), (.ref o2)] ∧ Z.Warmed39 U.vm ∧ U.heap = h0) (fun _ _ _ _ _ => True) (fun _ U o U' => ∃ v L, o = .returned v ∧ Q3_11 Z w o1 o2 h0 n0 v U'.heap L ∧ FrameEnd U o U' L ({ frames := 0, cells := 0, slots := 0, locals := 0 } : Room).cells ({ frames := 0, cells := 0, slots := 0, locals := 0 } : Room).slots) := by
  refine MetFree.of_bodySF (plainFor_of_name pnc_0) hisR ?_
  intro p e s m args below meth c s₁ Bd hml0 hP hK
  obtain ⟨rfl, hZ, hh⟩ := hP
  have hx := Bd.exec
  have hby := Bd.bytes
  have hml : c.maxLocals = 3 := hml0
  have hown : s.vm.findClass "com/example/tidy_mailbox/tidymailbox/stream/Watermark" = some m.cls := findClass_of_methodNamed Bd.named
  have hnm := (name_of_methodNamed Bd.named Bd.method).1
  have X0 : Stand p l e ({ frames := 0, cells := 0, slots := 0, locals := 0 } : Room) s m #[(.ref o1), (.ref o2)] below meth c s₁ [] 0 0 := Stand.of_body Bd
  have e0 : s₁.heap = h0 := by rw [← hh, Bd.state]; rfl
  have N0 := Fr.nil n0
  skip
  have pre0 : ∀ t, Steps p.tables e below (s₁.setTop (mkF m 0 #[.val (.ref o1), .val (.ref o2), .unset] [])) t → Steps p.tables e below (s₁.setTop (entryFrame m #[(.ref o1), (.ref o2)] 3)) t := fun t k => castTop (ef_3_11 m o1 o2) k
  obtain ⟨T1, X1, e1, st1⟩ := instNo X0 hx hZ hown (wk16 hw) e0 f1 (own_NSno (wk26 hw) (wk1 hw) (NS.step (wk26 hw) (NS.step (wk27 hw) (own_NSroot (wk28 hw) (wk1 hw) (by decide)) (by decide)) (by decide)) (by decide)) (g := (mkF m 1 #[.val (.ref o1), .val (.ref o2), .unset] [(.ref o2)])) rfl rfl (hb hby d3_1)
  obtain ⟨fs, hr, hrun, hended, hWm, hsame⟩ := X1.leave (v := some (.int (0 : Int32))) (fun h => by rw [Bd.returns] at h; cases h)
  refine ⟨_, _, pre0 _ ?_, hrun, hended, _, _, rfl, ?_, ⟨_, rfl⟩, hWm, hsame.mono (by decide) (by decide)⟩
  · show Steps p.tables e below (s₁.setTop (mkF m 0 #[.val (.ref o1), .val (.ref o2), .unset] [])) _
    refine sA X0 hx hby d3_0 rfl rfl ?_
    refine st1 _ ?_
    refine XS.ifYes X1.here hx rfl (pc0 := 4) (pc' := 28) rfl (hb hby d3_4) rfl (by decide) (by decide) (by decide) ?_
    refine sc X1 hx hby d3_28 ?_
    exact retN X1 hx (t := .boolean) Bd.returns (by simp) (hb hby d3_29) hr
  · show Q3_11 Z w o1 o2 h0 n0 _ T1.heap _
    rw [e1]
    exact ⟨rfl, N0, rfl⟩
theorem ef_0_12 (m : MethodId) (p0 : Int64) (p1 : Int64) (p2 : Int32) : entryFrame m #[(.long p0), (.long p1), (.int p2)] maxLocals = mkF m 0 #[.val (.long p0), .second, .val (.long p1), .second, .val (.int p2), .unset, .unset, .unset, .unset, .unset, .unset, .unset, .unset] [] := by first | (simp [entryFrame, mkF, argsToLocals, Value.category, maxLocals]; done) | rfl
theorem pnc_4 : plainName "com/example/tidy_mailbox/tidymailbox/stream/WatermarkEqualsPinLaw" = true := by first | (simp [plainName, overriddenIn]; done) | decide +kernel
def Q0 (n0 : Nat) (v : Option Value) (h : Heap) (L : List Loc) : Prop := v = some (.int (1 : Int32)) ∧ Fr n0 L
set_option maxRecDepth 65536 in
set_option maxHeartbeats 400000000 in
theorem rm0 (l : Launch) (Z : State) (a0 : Array Value) (hw : ∀ d ∈ tables_1, d.before a0 Z = true) (w : Nat → Addr) (hW : Wd Z w) (ws : List Jvm.Cond) (p0 : Int64) (p1 : Int64) (p2 : Int32) (h0 : Heap) (n0 : Nat) (O0 : Old Z n0 h0) :
    MetFree l x (head1 (Jvm.Cond.code x code maxLocals ret :: ws) room_1) (fun a U => a = #[(.long p0), (.long p1), (.int p2)] ∧ Z.Warmed39 U.vm ∧ U.heap = h0) (fun _ _ _ _ _ => True) (fun _ U o U' => ∃ v L, o = .returned v ∧ Q0 n0 v U'.heap L ∧ FrameEnd U o U' L room_1.cells room_1.slots) := by
  refine MetFree.of_bodySF (plainFor_of_name pnc_4) hisR ?_
  intro p e s m args below meth c s₁ Bd hml0 hP hK
  obtain ⟨rfl, hZ, hh⟩ := hP
  have hx := Bd.exec
  have hby := Bd.bytes
  have hml : c.maxLocals = 13 := hml0
  have hown : s.vm.findClass "com/example/tidy_mailbox/tidymailbox/stream/WatermarkEqualsPinLaw" = some m.cls := findClass_of_methodNamed Bd.named
  have hnm := (name_of_methodNamed Bd.named Bd.method).1
  have X0 : Stand p l e room_1 s m #[(.long p0), (.long p1), (.int p2)] below meth c s₁ [] 0 0 := Stand.of_body Bd
  have e0 : s₁.heap = h0 := by rw [← hh, Bd.state]; rfl
  have N0 := Fr.nil n0
  let La : Array Slot := #[.val (.long p0), .second, .val (.long p1), .second, .val (.int p2), .unset, .unset, .unset, .unset, .unset, .unset, .unset, .unset]
  have pre0 : ∀ t, Steps p.tables e below (s₁.setTop (mkF m 0 #[.val (.long p0), .second, .val (.long p1), .second, .val (.int p2), .unset, .unset, .unset, .unset, .unset, .unset, .unset, .unset] [])) t → Steps p.tables e below (s₁.setTop (entryFrame m #[(.long p0), (.long p1), (.int p2)] maxLocals)) t := fun t k => castTop (ef_0_12 m p0 p1 p2) k
  have pre1 : ∀ t, Steps p.tables e below (s₁.setTop (mkF m 4 La [(.int (p2 &&& (4 : Int32)))])) t → Steps p.tables e below (s₁.setTop (entryFrame m #[(.long p0), (.long p1), (.int p2)] maxLocals)) t := fun t k => pre0 t (by
   show Steps p.tables e below (s₁.setTop (mkF m 0 La [])) _
   refine si X0 hx hby at_0 rfl ?_
   refine sc X0 hx hby at_2 ?_
   refine XS.iand X0.here hx rfl (hb hby at_3) rfl ?_
   exact k)
  by_cases hc2 : (p2 &&& (4 : Int32)) = (0 : Int32)
  ·
   let Lb3 : Array Slot := #[.val (.long p0), .second, .val (.long p1), .second, .val (.int p2), .val (.int (0 : Int32)), .unset, .unset, .unset, .unset, .unset, .unset, .unset]
   let Lb4 : Array Slot := #[.val (.long p0), .second, .val (.long p1), .second, .val (.int p2), .val (.int (0 : Int32)), .val (.long p1), .second, .unset, .unset, .unset, .unset, .unset]
   let Lb5 : Array Slot := #[.val (.long p0), .second, .val (.long p1), .second, .val (.int p2), .val (.int (0 : Int32)), .val (.long p1), .second, .val (.int (p2 &&& (3 : Int32))), .unset, .unset, .unset, .unset]
   obtain ⟨T6, h6, X6, e6, E6, A6, D6, -, st6⟩ := newO X0 hx hZ hown (wk0 hw) (wk1 hw) (wk2 hw) e0 (g := (mkF m 32 Lb5 [])) rfl (hb hby at_32) (by decide) (by decide)
   obtain ⟨b6, g6⟩ : ∃ z, z = h0.size := ⟨_, rfl⟩
   rw [← g6] at A6 D6 st6
   have gg6 : n0 ≤ b6 := by rw [← O0.1, g6]; exact O0.2.1
   have O7 := O0.ext E6
   have i6_10 : Fld Z h6 b6 "com/example/tidy_mailbox/tidymailbox/stream/Watermark" "timestamp" "J" (.long (0 : Int64)) := D6 (Or.inr (wk10 hw)) (ty := .long) (by decide)
   obtain ⟨_, _, ⟨T8, L8, kk8, nn8⟩, -, X8, ⟨Lc8, hQ8, l8, y8, z8⟩, st8⟩ := X6.specialBack hx (y := ym0) rfl hown (mvT hZ (wk3 hw)) (mvT hZ (wk4 hw)) (mvT hZ (wk5 hw)) (by decide) (backOf (W := 1) (rm1_1 l Z a0 hw w hW [] b6 p0 h6 n0 O7 A6 i6_10 gg6) hZ (wk5 hw) (wk2 hw) (by decide) (by decide)) (g := (mkF m 37 Lb5 [(.long p0), (.ref b6), (.ref b6)])) rfl (by rw [hml]; rfl) (Steps.refl _) (a := b6) (argsL := [(.long p0)]) (rest := [(.ref b6)]) (lenOf pds_0 rfl) rfl (by show 2 * 0 + _ ≤ _; exact Nat.le_of_eq rfl) (hb hby at_37) (fun _ _ => ⟨rfl, e6, (by decide : 1 + 0 ≤ _), (by decide : 1 + 0 ≤ _)⟩)
   dsimp only [Pt.U, Pt.locs, Pt.cells, Pt.slots] at X8 l8 y8 z8 st8 hQ8
   subst l8 y8 z8
   obtain ⟨rfl, N8q, K8, r8_0⟩ := hQ8
   have N8 := Fr.app N0 N8q
   have O9 := own_old O7 K8 (own_ngc gg6 own_ng0)
   let Lb10 : Array Slot := #[.val (.long p0), .second, .val (.long p1), .second, .val (.int p2), .val (.int (0 : Int32)), .val (.long p1), .second, .val (.int (p2 &&& (3 : Int32))), .val (.ref b6), .unset, .unset, .unset]
   have pre11 : ∀ t, Steps p.tables e below (T8.setTop (mkF m 44 #[.val (.long p0), .second, .val (.long p1), .second, .val (.int p2), .val (.int (0 : Int32)), .val (.long p1), .second, .val (.int (p2 &&& (3 : Int32))), .val (.ref b6), .unset, .unset, .unset] [(.int (p2 &&& (3 : Int32)))])) t → Steps p.tables e below (s₁.setTop (entryFrame m #[(.long p0), (.long p1), (.int p2)] maxLocals)) t := fun t k => pre1 t (by
    show Steps p.tables e below (s₁.setTop (mkF m 4 La [(.int (p2 &&& (4 : Int32)))])) _
    refine XS.ifYes X0.here hx rfl (pc0 := 4) (pc' := 11) rfl (hb hby at_4) rfl ((if0 _ _).trans (teq (hc2 : (p2 &&& (4 : Int32)) = (0 : Int32))).1) (by decide) (by decide) ?_
    refine sc X0 hx hby at_11 ?_
    refine XS.istore X0.here hx rfl (hb hby at_12) rfl (l' := Lb3) rfl ?_
    refine si X0 hx hby at_14 rfl ?_
    refine XS.ifYes X0.here hx rfl (pc0 := 16) (pc' := 23) rfl (hb hby at_16) rfl (by decide) (by decide) (by decide) ?_
    refine sL X0 hx hby at_23 rfl ?_
    refine XS.lstore X0.here hx rfl (hb hby at_24) rfl (l' := Lb4) rfl ?_
    refine si X0 hx hby at_26 rfl ?_
    refine sc X0 hx hby at_28 ?_
    refine XS.iand X0.here hx rfl (hb hby at_29) rfl ?_
    refine XS.istore X0.here hx rfl (hb hby at_30) rfl (l' := Lb5) rfl ?_
    refine st6 _ ?_
    refine XS.dup X6.here hx rfl (hb hby at_35) rfl rfl ?_
    refine sL X6 hx hby at_36 rfl ?_
    refine st8.trans ?_
    refine XS.astore X8.here hx rfl (hb hby at_40) rfl rfl (l' := Lb10) rfl ?_
    refine si X8 hx hby at_42 rfl ?_
    exact k)
   rcases (own_and3 p2) with hs12 | hs12 | hs12 | hs12
   ·
    rw [hs12] at pre11
    let Lb13 : Array Slot := #[.val (.long p0), .second, .val (.long p1), .second, .val (.int p2), .val (.int (0 : Int32)), .val (.long p1), .second, .val (.int (0 : Int32)), .val (.ref b6), .unset, .unset, .unset]
    obtain ⟨T14, h14, X14, e14, E14, A14, D14, -, st14⟩ := newO X8 hx hZ hown (wk0 hw) (wk1 hw) (wk2 hw) rfl (g := (mkF m 47 Lb13 [])) rfl (hb hby at_47) (by decide) (by decide)
    obtain ⟨b14, g14⟩ : ∃ z, z = T8.heap.size := ⟨_, rfl⟩
    rw [← g14] at A14 D14 st14
    have gg14 : n0 ≤ b14 := by rw [← O9.1, g14]; exact O9.2.1
    have O15 := O9.ext E14
    have i14_10 : Fld Z h14 b14 "com/example/tidy_mailbox/tidymailbox/stream/Watermark" "timestamp" "J" (.long (0 : Int64)) := D14 (Or.inr (wk10 hw)) (ty := .long) (by decide)
    obtain ⟨_, _, ⟨T16, L16, kk16, nn16⟩, -, X16, ⟨Lc16, hQ16, l16, y16, z16⟩, st16⟩ := X14.specialBack hx (y := ym0) rfl hown (mvT hZ (wk3 hw)) (mvT hZ (wk4 hw)) (mvT hZ (wk5 hw)) (by decide) (backOf (W := 1) (rm1_1 l Z a0 hw w hW [] b14 p1 h14 n0 O15 A14 i14_10 gg14) hZ (wk5 hw) (wk2 hw) (by decide) (by decide)) (g := (mkF m 53 Lb13 [(.long p1), (.ref b14), (.ref b14)])) rfl (by rw [hml]; rfl) (Steps.refl _) (a := b14) (argsL := [(.long p1)]) (rest := [(.ref b14)]) (lenOf pds_0 rfl) rfl (by show 2 * 0 + _ ≤ _; exact Nat.le_of_eq rfl) (hb hby at_53) (fun _ _ => ⟨rfl, e14, (by decide : 2 + 0 ≤ _), (by decide : 2 + 0 ≤ _)⟩)
    dsimp only [Pt.U, Pt.locs, Pt.cells, Pt.slots] at X16 l16 y16 z16 st16 hQ16
    subst l16 y16 z16
    obtain ⟨rfl, N16q, K16, r16_0⟩ := hQ16
    have N16 := Fr.app N8 N16q
    have O17 := own_old O15 K16 (own_ngc gg14 own_ng0)
    let Lb18 : Array Slot := #[.val (.long p0), .second, .val (.long p1), .second, .val (.int p2), .val (.int (0 : Int32)), .val (.long p1), .second, .val (.int (0 : Int32)), .val (.ref b6), .val (.ref b14), .unset, .unset]
    have pre19 : ∀ t, Steps p.tables e below (T16.setTop (mkF m 114 Lb18 [(.int (lcmpW p0 p1))])) t → Steps p.tables e below (s₁.setTop (entryFrame m #[(.long p0), (.long p1), (.int p2)] maxLocals)) t := fun t k => pre11 t (by
     show Steps p.tables e below (T8.setTop (mkF m 44 Lb13 [(.int (0 : Int32))])) _
     refine sN X8 hx hby at_44 (by decide) ?_
     refine st14 _ ?_
     refine XS.dup X14.here hx rfl (hb hby at_50) rfl rfl ?_
     refine XS.lload X14.here hx rfl (hb hby at_51) rfl ?_
     refine st16.trans ?_
     refine XS.astore X16.here hx rfl (hb hby at_56) rfl rfl (l' := Lb18) rfl ?_
     refine sg (pc := 58) (pc' := 105) X16 hx hby at_58 (by decide) (by decide) ?_
     refine si X16 hx hby at_105 rfl ?_
     refine sN X16 hx hby at_107 (by decide) ?_
     refine sL X16 hx hby at_110 rfl ?_
     refine XS.lload X16.here hx rfl (hb hby at_111) rfl ?_
     refine XS.lcmp X16.here hx rfl (hb hby at_113) rfl ?_
     exact k)
    by_cases hc20 : p0 = p1
    ·
     let Lb21 : Array Slot := #[.val (.long p0), .second, .val (.long p1), .second, .val (.int p2), .val (.int (0 : Int32)), .val (.long p1), .second, .val (.int (0 : Int32)), .val (.ref b6), .val (.ref b14), .val (.int (1 : Int32)), .unset]
     have t22 := (own_exa ((own_exa A6 K8).ext E14) K16)
     have ne23 : b6 ≠ b14 := (Nat.ne_of_lt (Nat.lt_of_lt_of_le (Nat.lt_of_lt_of_le A6.lt K8.1) (Nat.le_of_eq g14.symm)))
     have t24 := (own_fld (r8_0.ext E14) K16 (own_nlb ne23 own_nl0))
     obtain ⟨cq25, kq25, q25a, q25b, q25c⟩ := isOf hZ rfl t22
     obtain ⟨_, _, ⟨T25, L25, kk25, nn25⟩, -, X25, ⟨Lc25, hQ25, l25, y25, z25⟩, st25⟩ := X16.virtualBack hx (y := ym1) (z := ym1) hown (mvT hZ (wk11 hw)) (mvT hZ (wk12 hw)) (notFace_of_selects (args := #[]) (mvT hZ (wk14 hw))) (mvT hZ (wk14 hw)) (mvT hZ (wk13 hw)) (by decide) (backOf (W := 0) (rm3_2 l Z a0 hw w hW [] b6 p0 T16.heap n0 O17 t22 t24) hZ (wk15 hw) (wk2 hw) (by decide) (by decide)) q25a q25c (g := (mkF m 128 Lb21 [(.ref b6), (.ref b6)])) rfl (by rw [hml]; rfl) (Steps.refl _) (argsL := [(.ref b6)]) (rest := []) (lenOf pds_1 rfl) rfl (by show 2 * 0 + _ ≤ _; exact Nat.le_of_eq rfl) (hb hby at_128) (fun _ _ => ⟨rfl, rfl, (by decide : 2 + 0 ≤ _), (by decide : 2 + 0 ≤ _)⟩)
     dsimp only [Pt.U, Pt.locs, Pt.cells, Pt.slots] at X25 l25 y25 z25 st25 hQ25
     subst l25 y25 z25
     obtain ⟨rfl, N25q, e25⟩ := hQ25
     have N25 := Fr.app N16 N25q
     let Lb26 : Array Slot := #[.val (.long p0), .second, .val (.long p1), .second, .val (.int p2), .val (.int (0 : Int32)), .val (.long p1), .second, .val (.int (0 : Int32)), .val (.ref b6), .val (.ref b14), .val (.int (1 : Int32)), .val (.int (1 : Int32))]
     have t27 := (own_exa A14 K16)
     obtain ⟨cq28, kq28, q28a, q28b, q28c⟩ := isOf hZ e25 t22
     obtain ⟨_, _, ⟨T28, L28, kk28, nn28⟩, -, X28, ⟨Lc28, hQ28, l28, y28, z28⟩, st28⟩ := X25.virtualBack hx (y := ym1) (z := ym1) hown (mvT hZ (wk11 hw)) (mvT hZ (wk12 hw)) (notFace_of_selects (args := #[]) (mvT hZ (wk14 hw))) (mvT hZ (wk14 hw)) (mvT hZ (wk13 hw)) (by decide) (backOf (W := 0) (rm3_3 l Z a0 hw w hW [] b6 b14 p0 p1 T16.heap n0 O17 t27 t24 r16_0 hc20) hZ (wk15 hw) (wk2 hw) (by decide) (by decide)) q28a q28c (g := (mkF m 142 Lb26 [(.ref b14), (.ref b6)])) rfl (by rw [hml]; rfl) (Steps.refl _) (argsL := [(.ref b14)]) (rest := []) (lenOf pds_1 rfl) rfl (by show 2 * 0 + _ ≤ _; exact Nat.le_of_eq rfl) (hb hby at_142) (fun _ _ => ⟨rfl, e25, (by decide : 2 + 0 ≤ _), (by decide : 2 + 0 ≤ _)⟩)
     dsimp only [Pt.U, Pt.locs, Pt.cells, Pt.slots] at X28 l28 y28 z28 st28 hQ28
     subst l28 y28 z28
     obtain ⟨rfl, N28q, e28⟩ := hQ28
     have N28 := Fr.app N25 N28q
     obtain ⟨fs, hr, hrun, hended, hWm, hsame⟩ := X28.leave (v := some (.int (1 : Int32))) (fun h => by rw [Bd.returns] at h; cases h)
     refine ⟨_, _, pre19 _ ?_, hrun, hended, _, _, rfl, ?_, ⟨_, rfl⟩, hWm, hsame.mono (by decide) (by decide)⟩
     · show Steps p.tables e below (T16.setTop (mkF m 114 Lb18 [(.int (lcmpW p0 p1))])) _
       refine sN X16 hx hby at_114 ((if0 _ _).trans (teq (((lw_eq _ _).mpr hc20) : (lcmpW p0 p1) = (0 : Int32))).2) ?_
       refine sc X16 hx hby at_117 ?_
       refine sg (pc := 118) (pc' := 122) X16 hx hby at_118 (by decide) (by decide) ?_
       refine XS.istore X16.here hx rfl (hb hby at_122) rfl (l' := Lb21) rfl ?_
       refine sa X16 hx hby at_124 rfl rfl ?_
       refine sa X16 hx hby at_126 rfl rfl ?_
       refine st25.trans ?_
       refine XS.istore X25.here hx rfl (hb hby at_131) rfl (l' := Lb26) rfl ?_
       refine si X25 hx hby at_133 rfl ?_
       refine sN X25 hx hby at_135 (by decide) ?_
       refine sa X25 hx hby at_138 rfl rfl ?_
       refine sa X25 hx hby at_140 rfl rfl ?_
       refine st28.trans ?_
       refine si X28 hx hby at_145 rfl ?_
       refine sn X28 hx hby at_147 (by decide) ?_
       refine sc X28 hx hby at_150 ?_
       refine sg (pc := 151) (pc' := 155) X28 hx hby at_151 (by decide) (by decide) ?_
       exact retN X28 hx (t := .boolean) Bd.returns (by simp) (hb hby at_155) hr
     · show Q0 n0 _ T28.heap _
       rw [e28]
       exact ⟨rfl, N28⟩
    ·
     let Lb29 : Array Slot := #[.val (.long p0), .second, .val (.long p1), .second, .val (.int p2), .val (.int (0 : Int32)), .val (.long p1), .second, .val (.int (0 : Int32)), .val (.ref b6), .val (.ref b14), .val (.int (0 : Int32)), .unset]
     have t30 := (own_exa ((own_exa A6 K8).ext E14) K16)
     have ne31 : b6 ≠ b14 := (Nat.ne_of_lt (Nat.lt_of_lt_of_le (Nat.lt_of_lt_of_le A6.lt K8.1) (Nat.le_of_eq g14.symm)))
     have t32 := (own_fld (r8_0.ext E14) K16 (own_nlb ne31 own_nl0))
     obtain ⟨cq33, kq33, q33a, q33b, q33c⟩ := isOf hZ rfl t30
     obtain ⟨_, _, ⟨T33, L33, kk33, nn33⟩, -, X33, ⟨Lc33, hQ33, l33, y33, z33⟩, st33⟩ := X16.virtualBack hx (y := ym1) (z := ym1) hown (mvT hZ (wk11 hw)) (mvT hZ (wk12 hw)) (notFace_of_selects (args := #[]) (mvT hZ (wk14 hw))) (mvT hZ (wk14 hw)) (mvT hZ (wk13 hw)) (by decide) (backOf (W := 0) (rm3_2 l Z a0 hw w hW [] b6 p0 T16.heap n0 O17 t30 t32) hZ (wk15 hw) (wk2 hw) (by decide) (by decide)) q33a q33c (g := (mkF m 128 Lb29 [(.ref b6), (.ref b6)])) rfl (by rw [hml]; rfl) (Steps.refl _) (argsL := [(.ref b6)]) (rest := []) (lenOf pds_1 rfl) rfl (by show 2 * 0 + _ ≤ _; exact Nat.le_of_eq rfl) (hb hby at_128) (fun _ _ => ⟨rfl, rfl, (by decide : 2 + 0 ≤ _), (by decide : 2 + 0 ≤ _)⟩)
     dsimp only [Pt.U, Pt.locs, Pt.cells, Pt.slots] at X33 l33 y33 z33 st33 hQ33
     subst l33 y33 z33
     obtain ⟨rfl, N33q, e33⟩ := hQ33
     have N33 := Fr.app N16 N33q
     let Lb34 : Array Slot := #[.val (.long p0), .second, .val (.long p1), .second, .val (.int p2), .val (.int (0 : Int32)), .val (.long p1), .second, .val (.int (0 : Int32)), .val (.ref b6), .val (.ref b14), .val (.int (0 : Int32)), .val (.int (1 : Int32))]
     have t35 := (own_exa A14 K16)
     obtain ⟨cq36, kq36, q36a, q36b, q36c⟩ := isOf hZ e33 t30
     obtain ⟨_, _, ⟨T36, L36, kk36, nn36⟩, -, X36, ⟨Lc36, hQ36, l36, y36, z36⟩, st36⟩ := X33.virtualBack hx (y := ym1) (z := ym1) hown (mvT hZ (wk11 hw)) (mvT hZ (wk12 hw)) (notFace_of_selects (args := #[]) (mvT hZ (wk14 hw))) (mvT hZ (wk14 hw)) (mvT hZ (wk13 hw)) (by decide) (backOf (W := 0) (rm3_4 l Z a0 hw w hW [] b6 b14 p0 p1 T16.heap n0 O17 t35 t32 r16_0 hc20) hZ (wk15 hw) (wk2 hw) (by decide) (by decide)) q36a q36c (g := (mkF m 142 Lb34 [(.ref b14), (.ref b6)])) rfl (by rw [hml]; rfl) (Steps.refl _) (argsL := [(.ref b14)]) (rest := []) (lenOf pds_1 rfl) rfl (by show 2 * 0 + _ ≤ _; exact Nat.le_of_eq rfl) (hb hby at_142) (fun _ _ => ⟨rfl, e33, (by decide : 2 + 0 ≤ _), (by decide : 2 + 0 ≤ _)⟩)
     dsimp only [Pt.U, Pt.locs, Pt.cells, Pt.slots] at X36 l36 y36 z36 st36 hQ36
     subst l36 y36 z36
     obtain ⟨rfl, N36q, e36⟩ := hQ36
     have N36 := Fr.app N33 N36q
     obtain ⟨fs, hr, hrun, hended, hWm, hsame⟩ := X36.leave (v := some (.int (1 : Int32))) (fun h => by rw [Bd.returns] at h; cases h)
     refine ⟨_, _, pre19 _ ?_, hrun, hended, _, _, rfl, ?_, ⟨_, rfl⟩, hWm, hsame.mono (by decide) (by decide)⟩
     · show Steps p.tables e below (T16.setTop (mkF m 114 Lb18 [(.int (lcmpW p0 p1))])) _
       refine XS.ifYes X16.here hx rfl (pc0 := 114) (pc' := 121) rfl (hb hby at_114) rfl ((if0 _ _).trans (feq ((fun q => hc20 ((lw_eq _ _).mp q)) : ¬ ((lcmpW p0 p1) = (0 : Int32)))).2) (by decide) (by decide) ?_
       refine sc X16 hx hby at_121 ?_
       refine XS.istore X16.here hx rfl (hb hby at_122) rfl (l' := Lb29) rfl ?_
       refine sa X16 hx hby at_124 rfl rfl ?_
       refine sa X16 hx hby at_126 rfl rfl ?_
       refine st33.trans ?_
       refine XS.istore X33.here hx rfl (hb hby at_131) rfl (l' := Lb34) rfl ?_
       refine si X33 hx hby at_133 rfl ?_
       refine sN X33 hx hby at_135 (by decide) ?_
       refine sa X33 hx hby at_138 rfl rfl ?_
       refine sa X33 hx hby at_140 rfl rfl ?_
       refine st36.trans ?_
       refine si X36 hx hby at_145 rfl ?_
       refine sn X36 hx hby at_147 (by decide) ?_
       refine sc X36 hx hby at_150 ?_
       refine sg (pc := 151) (pc' := 155) X36 hx hby at_151 (by decide) (by decide) ?_
       exact retN X36 hx (t := .boolean) Bd.returns (by simp) (hb hby at_155) hr
     · show Q0 n0 _ T36.heap _
       rw [e36]
       exact ⟨rfl, N36⟩
   ·
    rw [hs12] at pre11
    let Lb37 : Array Slot := #[.val (.long p0), .second, .val (.long p1), .second, .val (.int p2), .val (.int (0 : Int32)), .val (.long p1), .second, .val (.int (1 : Int32)), .val (.ref b6), .unset, .unset, .unset]
    let Lb38 : Array Slot := #[.val (.long p0), .second, .val (.long p1), .second, .val (.int p2), .val (.int (0 : Int32)), .val (.long p1), .second, .val (.int (1 : Int32)), .val (.ref b6), .val .null, .unset, .unset]
    let Lb39 : Array Slot := #[.val (.long p0), .second, .val (.long p1), .second, .val (.int p2), .val (.int (0 : Int32)), .val (.long p1), .second, .val (.int (1 : Int32)), .val (.ref b6), .val .null, .val (.int (0 : Int32)), .unset]
    have t40 := (own_exa A6 K8)
    obtain ⟨cq41, kq41, q41a, q41b, q41c⟩ := isOf hZ rfl t40
    obtain ⟨_, _, ⟨T41, L41, kk41, nn41⟩, -, X41, ⟨Lc41, hQ41, l41, y41, z41⟩, st41⟩ := X8.virtualBack hx (y := ym1) (z := ym1) hown (mvT hZ (wk11 hw)) (mvT hZ (wk12 hw)) (notFace_of_selects (args := #[]) (mvT hZ (wk14 hw))) (mvT hZ (wk14 hw)) (mvT hZ (wk13 hw)) (by decide) (backOf (W := 0) (rm3_2 l Z a0 hw w hW [] b6 p0 T8.heap n0 O9 t40 r8_0) hZ (wk15 hw) (wk2 hw) (by decide) (by decide)) q41a q41c (g := (mkF m 128 Lb39 [(.ref b6), (.ref b6)])) rfl (by rw [hml]; rfl) (Steps.refl _) (argsL := [(.ref b6)]) (rest := []) (lenOf pds_1 rfl) rfl (by show 2 * 0 + _ ≤ _; exact Nat.le_of_eq rfl) (hb hby at_128) (fun _ _ => ⟨rfl, rfl, (by decide : 1 + 0 ≤ _), (by decide : 1 + 0 ≤ _)⟩)
    dsimp only [Pt.U, Pt.locs, Pt.cells, Pt.slots] at X41 l41 y41 z41 st41 hQ41
    subst l41 y41 z41
    obtain ⟨rfl, N41q, e41⟩ := hQ41
    have N41 := Fr.app N8 N41q
    let Lb42 : Array Slot := #[.val (.long p0), .second, .val (.long p1), .second, .val (.int p2), .val (.int (0 : Int32)), .val (.long p1), .second, .val (.int (1 : Int32)), .val (.ref b6), .val .null, .val (.int (0 : Int32)), .val (.int (1 : Int32))]
    obtain ⟨cq43, kq43, q43a, q43b, q43c⟩ := isOf hZ e41 t40
    obtain ⟨_, _, ⟨T43, L43, kk43, nn43⟩, -, X43, ⟨Lc43, hQ43, l43, y43, z43⟩, st43⟩ := X41.virtualBack hx (y := ym1) (z := ym1) hown (mvT hZ (wk11 hw)) (mvT hZ (wk12 hw)) (notFace_of_selects (args := #[]) (mvT hZ (wk14 hw))) (mvT hZ (wk14 hw)) (mvT hZ (wk13 hw)) (by decide) (backOf (W := 0) (rm3_5 l Z a0 hw w hW [] b6 T8.heap n0 O9 ) hZ (wk15 hw) (wk2 hw) (by decide) (by decide)) q43a q43c (g := (mkF m 142 Lb42 [.null, (.ref b6)])) rfl (by rw [hml]; rfl) (Steps.refl _) (argsL := [.null]) (rest := []) (lenOf pds_1 rfl) rfl (by show 2 * 0 + _ ≤ _; exact Nat.le_of_eq rfl) (hb hby at_142) (fun _ _ => ⟨rfl, e41, (by decide : 1 + 0 ≤ _), (by decide : 1 + 0 ≤ _)⟩)
    dsimp only [Pt.U, Pt.locs, Pt.cells, Pt.slots] at X43 l43 y43 z43 st43 hQ43
    subst l43 y43 z43
    obtain ⟨rfl, N43q, e43⟩ := hQ43
    have N43 := Fr.app N41 N43q
    obtain ⟨fs, hr, hrun, hended, hWm, hsame⟩ := X43.leave (v := some (.int (1 : Int32))) (fun h => by rw [Bd.returns] at h; cases h)
    refine ⟨_, _, pre11 _ ?_, hrun, hended, _, _, rfl, ?_, ⟨_, rfl⟩, hWm, hsame.mono (by decide) (by decide)⟩
    · show Steps p.tables e below (T8.setTop (mkF m 44 Lb37 [(.int (1 : Int32))])) _
      refine XS.ifYes X8.here hx rfl (pc0 := 44) (pc' := 61) rfl (hb hby at_44) rfl (by decide) (by decide) (by decide) ?_
      refine si X8 hx hby at_61 rfl ?_
      refine sc X8 hx hby at_63 ?_
      refine sn X8 hx hby at_64 (by decide) ?_
      refine XS.aconstNull X8.here hx rfl (hb hby at_67) ?_
      refine XS.astore X8.here hx rfl (hb hby at_68) rfl rfl (l' := Lb38) rfl ?_
      refine sg (pc := 70) (pc' := 105) X8 hx hby at_70 (by decide) (by decide) ?_
      refine si X8 hx hby at_105 rfl ?_
      refine XS.ifYes X8.here hx rfl (pc0 := 107) (pc' := 121) rfl (hb hby at_107) rfl (by decide) (by decide) (by decide) ?_
      refine sc X8 hx hby at_121 ?_
      refine XS.istore X8.here hx rfl (hb hby at_122) rfl (l' := Lb39) rfl ?_
      refine sa X8 hx hby at_124 rfl rfl ?_
      refine sa X8 hx hby at_126 rfl rfl ?_
      refine st41.trans ?_
      refine XS.istore X41.here hx rfl (hb hby at_131) rfl (l' := Lb42) rfl ?_
      refine si X41 hx hby at_133 rfl ?_
      refine sN X41 hx hby at_135 (by decide) ?_
      refine sa X41 hx hby at_138 rfl rfl ?_
      refine sa X41 hx hby at_140 rfl rfl ?_
      refine st43.trans ?_
      refine si X43 hx hby at_145 rfl ?_
      refine sn X43 hx hby at_147 (by decide) ?_
      refine sc X43 hx hby at_150 ?_
      refine sg (pc := 151) (pc' := 155) X43 hx hby at_151 (by decide) (by decide) ?_
      exact retN X43 hx (t := .boolean) Bd.returns (by simp) (hb hby at_155) hr
    · show Q0 n0 _ T43.heap _
      rw [e43]
      exact ⟨rfl, N43⟩
   ·
    rw [hs12] at pre11
    let Lb44 : Array Slot := #[.val (.long p0), .second, .val (.long p1), .second, .val (.int p2), .val (.int (0 : Int32)), .val (.long p1), .second, .val (.int (2 : Int32)), .val (.ref b6), .unset, .unset, .unset]
    obtain ⟨T45, h45, X45, e45, E45, A45, D45, -, st45⟩ := newO X8 hx hZ hown (wk44 hw) (wk45 hw) (wk46 hw) rfl (g := (mkF m 79 Lb44 [])) rfl (hb hby at_79) (by decide) (by decide)
    obtain ⟨b45, g45⟩ : ∃ z, z = T8.heap.size := ⟨_, rfl⟩
    rw [← g45] at A45 D45 st45
    have gg45 : n0 ≤ b45 := by rw [← O9.1, g45]; exact O9.2.1
    have O46 := O9.ext E45
    have i45_52 : Fld Z h45 b45 "com/example/tidy_mailbox/tidymailbox/stream/StreamRecord" "value" "Ljava/lang/Object;" .null := D45 (Or.inr (wk52 hw)) (ty := (.object "java/lang/Object")) (by decide)
    have i45_54 : Fld Z h45 b45 "com/example/tidy_mailbox/tidymailbox/stream/StreamRecord" "timestamp" "J" (.long (0 : Int64)) := D45 (Or.inr (wk54 hw)) (ty := .long) (by decide)
    obtain ⟨_, _, ⟨T47, L47, kk47, nn47⟩, -, X47, ⟨Lc47, hQ47, l47, y47, z47⟩, st47⟩ := Jvm.LawKit.callS X45 hx (y := ym4) hown (mvT hZ (wk18 hw)) (mvT hZ (wk19 hw)) (mvT hZ (wk20 hw)) (mvT hZ (wk21 hw)) (by decide) (backOf (W := 2) (rm4_8 l Z a0 hw w hW [] p1 h45 n0 O46 ) hZ (wk21 hw) (wk20 hw) (by decide) (by decide)) (g := (mkF m 85 Lb44 [(.long p1), (.ref b45), (.ref b45)])) rfl (by rw [hml]; rfl) (argsL := [(.long p1)]) (rest := [(.ref b45), (.ref b45)]) (lenOf pds_3 rfl) rfl (by show 2 * 0 + _ ≤ _; exact Nat.le_of_eq rfl) (hb hby at_85) (fun _ _ => ⟨rfl, e45, (by decide : 2 + 1 ≤ _), (by decide : 3 + 1 ≤ _)⟩)
    dsimp only [Pt.U, Pt.locs, Pt.cells, Pt.slots] at X47 l47 y47 z47 st47 hQ47
    subst l47 y47 z47
    obtain ⟨b47_0, rfl, N47q, K47, r47_0⟩ := hQ47
    have N47 := Fr.app N8 N47q
    have O48 := own_old O46 K47 own_ng0
    have t49 := (own_exa A45 K47)
    have t50 := (own_fld i45_52 K47 own_nl0)
    have t51 := (own_fld i45_54 K47 own_nl0)
    obtain ⟨_, _, ⟨T52, L52, kk52, nn52⟩, -, X52, ⟨Lc52, hQ52, l52, y52, z52⟩, st52⟩ := X47.specialBack hx (y := ym5) rfl hown (mvT hZ (wk47 hw)) (mvT hZ (wk48 hw)) (mvT hZ (wk49 hw)) (by decide) (backOf (W := 1) (rm7_9 l Z a0 hw w hW [] b45 b47_0 p1 T47.heap n0 O48 t49 t50 gg45 t51) hZ (wk49 hw) (wk46 hw) (by decide) (by decide)) (g := (mkF m 90 Lb44 [(.long p1), (.ref b47_0), (.ref b45), (.ref b45)])) rfl (by rw [hml]; rfl) (Steps.refl _) (a := b45) (argsL := [(.ref b47_0), (.long p1)]) (rest := [(.ref b45)]) (lenOf pds_4 rfl) rfl (by show 2 * 0 + _ ≤ _; exact Nat.le_of_eq rfl) (hb hby at_90) (fun _ _ => ⟨rfl, rfl, (by decide : 3 + 0 ≤ _), (by decide : 4 + 0 ≤ _)⟩)
    dsimp only [Pt.U, Pt.locs, Pt.cells, Pt.slots] at X52 l52 y52 z52 st52 hQ52
    subst l52 y52 z52
    obtain ⟨rfl, N52q, K52, r52_0, r52_1⟩ := hQ52
    have N52 := Fr.app N47 N52q
    have O53 := own_old O48 K52 (own_ngc gg45 (own_ngc gg45 own_ng0))
    let Lb54 : Array Slot := #[.val (.long p0), .second, .val (.long p1), .second, .val (.int p2), .val (.int (0 : Int32)), .val (.long p1), .second, .val (.int (2 : Int32)), .val (.ref b6), .val (.ref b45), .unset, .unset]
    let Lb55 : Array Slot := #[.val (.long p0), .second, .val (.long p1), .second, .val (.int p2), .val (.int (0 : Int32)), .val (.long p1), .second, .val (.int (2 : Int32)), .val (.ref b6), .val (.ref b45), .val (.int (0 : Int32)), .unset]
    have t56 := (own_exa (own_exa ((own_exa A6 K8).ext E45) K47) K52)
    have ne57 : b6 ≠ b45 := (Nat.ne_of_lt (Nat.lt_of_lt_of_le (Nat.lt_of_lt_of_le A6.lt K8.1) (Nat.le_of_eq g45.symm)))
    have t58 := (own_fld (own_fld (r8_0.ext E45) K47 own_nl0) K52 (own_nlb ne57 (own_nlb ne57 own_nl0)))
    obtain ⟨cq59, kq59, q59a, q59b, q59c⟩ := isOf hZ rfl t56
    obtain ⟨_, _, ⟨T59, L59, kk59, nn59⟩, -, X59, ⟨Lc59, hQ59, l59, y59, z59⟩, st59⟩ := X52.virtualBack hx (y := ym1) (z := ym1) hown (mvT hZ (wk11 hw)) (mvT hZ (wk12 hw)) (notFace_of_selects (args := #[]) (mvT hZ (wk14 hw))) (mvT hZ (wk14 hw)) (mvT hZ (wk13 hw)) (by decide) (backOf (W := 0) (rm3_2 l Z a0 hw w hW [] b6 p0 T52.heap n0 O53 t56 t58) hZ (wk15 hw) (wk2 hw) (by decide) (by decide)) q59a q59c (g := (mkF m 128 Lb55 [(.ref b6), (.ref b6)])) rfl (by rw [hml]; rfl) (Steps.refl _) (argsL := [(.ref b6)]) (rest := []) (lenOf pds_1 rfl) rfl (by show 2 * 0 + _ ≤ _; exact Nat.le_of_eq rfl) (hb hby at_128) (fun _ _ => ⟨rfl, rfl, (by decide : 3 + 0 ≤ _), (by decide : 4 + 0 ≤ _)⟩)
    dsimp only [Pt.U, Pt.locs, Pt.cells, Pt.slots] at X59 l59 y59 z59 st59 hQ59
    subst l59 y59 z59
    obtain ⟨rfl, N59q, e59⟩ := hQ59
    have N59 := Fr.app N52 N59q
    let Lb60 : Array Slot := #[.val (.long p0), .second, .val (.long p1), .second, .val (.int p2), .val (.int (0 : Int32)), .val (.long p1), .second, .val (.int (2 : Int32)), .val (.ref b6), .val (.ref b45), .val (.int (0 : Int32)), .val (.int (1 : Int32))]
    have t61 := (own_exa t49 K52)
    obtain ⟨cq62, kq62, q62a, q62b, q62c⟩ := isOf hZ e59 t56
    obtain ⟨_, _, ⟨T62, L62, kk62, nn62⟩, -, X62, ⟨Lc62, hQ62, l62, y62, z62⟩, st62⟩ := X59.virtualBack hx (y := ym1) (z := ym1) hown (mvT hZ (wk11 hw)) (mvT hZ (wk12 hw)) (notFace_of_selects (args := #[]) (mvT hZ (wk14 hw))) (mvT hZ (wk14 hw)) (mvT hZ (wk13 hw)) (by decide) (backOf (W := 0) (rm3_10 l Z a0 hw w hW [] b6 b45 T52.heap n0 O53 t61) hZ (wk15 hw) (wk2 hw) (by decide) (by decide)) q62a q62c (g := (mkF m 142 Lb60 [(.ref b45), (.ref b6)])) rfl (by rw [hml]; rfl) (Steps.refl _) (argsL := [(.ref b45)]) (rest := []) (lenOf pds_1 rfl) rfl (by show 2 * 0 + _ ≤ _; exact Nat.le_of_eq rfl) (hb hby at_142) (fun _ _ => ⟨rfl, e59, (by decide : 3 + 0 ≤ _), (by decide : 4 + 0 ≤ _)⟩)
    dsimp only [Pt.U, Pt.locs, Pt.cells, Pt.slots] at X62 l62 y62 z62 st62 hQ62
    subst l62 y62 z62
    obtain ⟨rfl, N62q, e62⟩ := hQ62
    have N62 := Fr.app N59 N62q
    obtain ⟨fs, hr, hrun, hended, hWm, hsame⟩ := X62.leave (v := some (.int (1 : Int32))) (fun h => by rw [Bd.returns] at h; cases h)
    refine ⟨_, _, pre11 _ ?_, hrun, hended, _, _, rfl, ?_, ⟨_, rfl⟩, hWm, hsame.mono (by decide) (by decide)⟩
    · show Steps p.tables e below (T8.setTop (mkF m 44 Lb44 [(.int (2 : Int32))])) _
      refine XS.ifYes X8.here hx rfl (pc0 := 44) (pc' := 61) rfl (hb hby at_44) rfl (by decide) (by decide) (by decide) ?_
      refine si X8 hx hby at_61 rfl ?_
      refine sc X8 hx hby at_63 ?_
      refine XS.icmpYes X8.here hx rfl (pc0 := 64) (pc' := 73) rfl (hb hby at_64) rfl (by decide) (by decide) (by decide) ?_
      refine si X8 hx hby at_73 rfl ?_
      refine sc X8 hx hby at_75 ?_
      refine sn X8 hx hby at_76 (by decide) ?_
      refine st45 _ ?_
      refine XS.dup X45.here hx rfl (hb hby at_82) rfl rfl ?_
      refine XS.lload X45.here hx rfl (hb hby at_83) rfl ?_
      refine st47 _ ?_
      refine XS.lload X47.here hx rfl (hb hby at_88) rfl ?_
      refine st52.trans ?_
      refine XS.astore X52.here hx rfl (hb hby at_93) rfl rfl (l' := Lb54) rfl ?_
      refine sg (pc := 95) (pc' := 105) X52 hx hby at_95 (by decide) (by decide) ?_
      refine si X52 hx hby at_105 rfl ?_
      refine XS.ifYes X52.here hx rfl (pc0 := 107) (pc' := 121) rfl (hb hby at_107) rfl (by decide) (by decide) (by decide) ?_
      refine sc X52 hx hby at_121 ?_
      refine XS.istore X52.here hx rfl (hb hby at_122) rfl (l' := Lb55) rfl ?_
      refine sa X52 hx hby at_124 rfl rfl ?_
      refine sa X52 hx hby at_126 rfl rfl ?_
      refine st59.trans ?_
      refine XS.istore X59.here hx rfl (hb hby at_131) rfl (l' := Lb60) rfl ?_
      refine si X59 hx hby at_133 rfl ?_
      refine sN X59 hx hby at_135 (by decide) ?_
      refine sa X59 hx hby at_138 rfl rfl ?_
      refine sa X59 hx hby at_140 rfl rfl ?_
      refine st62.trans ?_
      refine si X62 hx hby at_145 rfl ?_
      refine sn X62 hx hby at_147 (by decide) ?_
      refine sc X62 hx hby at_150 ?_
      refine sg (pc := 151) (pc' := 155) X62 hx hby at_151 (by decide) (by decide) ?_
      exact retN X62 hx (t := .boolean) Bd.returns (by simp) (hb hby at_155) hr
    · show Q0 n0 _ T62.heap _
      rw [e62]
      exact ⟨rfl, N62⟩
   ·
    rw [hs12] at pre11
    let Lb63 : Array Slot := #[.val (.long p0), .second, .val (.long p1), .second, .val (.int p2), .val (.int (0 : Int32)), .val (.long p1), .second, .val (.int (3 : Int32)), .val (.ref b6), .unset, .unset, .unset]
    obtain ⟨_, _, ⟨T64, L64, kk64, nn64⟩, -, X64, ⟨Lc64, hQ64, l64, y64, z64⟩, st64⟩ := Jvm.LawKit.callS X8 hx (y := ym4) hown (mvT hZ (wk18 hw)) (mvT hZ (wk19 hw)) (mvT hZ (wk20 hw)) (mvT hZ (wk21 hw)) (by decide) (backOf (W := 0) (rm4_8 l Z a0 hw w hW [] p1 T8.heap n0 O9 ) hZ (wk21 hw) (wk20 hw) (by decide) (by decide)) (g := (mkF m 100 Lb63 [(.long p1)])) rfl (by rw [hml]; rfl) (argsL := [(.long p1)]) (rest := []) (lenOf pds_3 rfl) rfl (by show 2 * 0 + _ ≤ _; exact Nat.le_of_eq rfl) (hb hby at_100) (fun _ _ => ⟨rfl, rfl, (by decide : 1 + 1 ≤ _), (by decide : 1 + 1 ≤ _)⟩)
    dsimp only [Pt.U, Pt.locs, Pt.cells, Pt.slots] at X64 l64 y64 z64 st64 hQ64
    subst l64 y64 z64
    obtain ⟨b64_0, rfl, N64q, K64, r64_0⟩ := hQ64
    have N64 := Fr.app N8 N64q
    have O65 := own_old O9 K64 own_ng0
    let Lb66 : Array Slot := #[.val (.long p0), .second, .val (.long p1), .second, .val (.int p2), .val (.int (0 : Int32)), .val (.long p1), .second, .val (.int (3 : Int32)), .val (.ref b6), .val (.ref b64_0), .unset, .unset]
    let Lb67 : Array Slot := #[.val (.long p0), .second, .val (.long p1), .second, .val (.int p2), .val (.int (0 : Int32)), .val (.long p1), .second, .val (.int (3 : Int32)), .val (.ref b6), .val (.ref b64_0), .val (.int (0 : Int32)), .unset]
    have t68 := (own_exa (own_exa A6 K8) K64)
    have t69 := (own_fld r8_0 K64 own_nl0)
    obtain ⟨cq70, kq70, q70a, q70b, q70c⟩ := isOf hZ rfl t68
    obtain ⟨_, _, ⟨T70, L70, kk70, nn70⟩, -, X70, ⟨Lc70, hQ70, l70, y70, z70⟩, st70⟩ := X64.virtualBack hx (y := ym1) (z := ym1) hown (mvT hZ (wk11 hw)) (mvT hZ (wk12 hw)) (notFace_of_selects (args := #[]) (mvT hZ (wk14 hw))) (mvT hZ (wk14 hw)) (mvT hZ (wk13 hw)) (by decide) (backOf (W := 0) (rm3_2 l Z a0 hw w hW [] b6 p0 T64.heap n0 O65 t68 t69) hZ (wk15 hw) (wk2 hw) (by decide) (by decide)) q70a q70c (g := (mkF m 128 Lb67 [(.ref b6), (.ref b6)])) rfl (by rw [hml]; rfl) (Steps.refl _) (argsL := [(.ref b6)]) (rest := []) (lenOf pds_1 rfl) rfl (by show 2 * 0 + _ ≤ _; exact Nat.le_of_eq rfl) (hb hby at_128) (fun _ _ => ⟨rfl, rfl, (by decide : 2 + 0 ≤ _), (by decide : 2 + 0 ≤ _)⟩)
    dsimp only [Pt.U, Pt.locs, Pt.cells, Pt.slots] at X70 l70 y70 z70 st70 hQ70
    subst l70 y70 z70
    obtain ⟨rfl, N70q, e70⟩ := hQ70
    have N70 := Fr.app N64 N70q
    let Lb71 : Array Slot := #[.val (.long p0), .second, .val (.long p1), .second, .val (.int p2), .val (.int (0 : Int32)), .val (.long p1), .second, .val (.int (3 : Int32)), .val (.ref b6), .val (.ref b64_0), .val (.int (0 : Int32)), .val (.int (1 : Int32))]
    obtain ⟨cq72, kq72, q72a, q72b, q72c⟩ := isOf hZ e70 t68
    obtain ⟨_, _, ⟨T72, L72, kk72, nn72⟩, -, X72, ⟨Lc72, hQ72, l72, y72, z72⟩, st72⟩ := X70.virtualBack hx (y := ym1) (z := ym1) hown (mvT hZ (wk11 hw)) (mvT hZ (wk12 hw)) (notFace_of_selects (args := #[]) (mvT hZ (wk14 hw))) (mvT hZ (wk14 hw)) (mvT hZ (wk13 hw)) (by decide) (backOf (W := 0) (rm3_11 l Z a0 hw w hW [] b6 b64_0 T64.heap n0 O65 r64_0) hZ (wk15 hw) (wk2 hw) (by decide) (by decide)) q72a q72c (g := (mkF m 142 Lb71 [(.ref b64_0), (.ref b6)])) rfl (by rw [hml]; rfl) (Steps.refl _) (argsL := [(.ref b64_0)]) (rest := []) (lenOf pds_1 rfl) rfl (by show 2 * 0 + _ ≤ _; exact Nat.le_of_eq rfl) (hb hby at_142) (fun _ _ => ⟨rfl, e70, (by decide : 2 + 0 ≤ _), (by decide : 2 + 0 ≤ _)⟩)
    dsimp only [Pt.U, Pt.locs, Pt.cells, Pt.slots] at X72 l72 y72 z72 st72 hQ72
    subst l72 y72 z72
    obtain ⟨rfl, N72q, e72⟩ := hQ72
    have N72 := Fr.app N70 N72q
    obtain ⟨fs, hr, hrun, hended, hWm, hsame⟩ := X72.leave (v := some (.int (1 : Int32))) (fun h => by rw [Bd.returns] at h; cases h)
    refine ⟨_, _, pre11 _ ?_, hrun, hended, _, _, rfl, ?_, ⟨_, rfl⟩, hWm, hsame.mono (by decide) (by decide)⟩
    · show Steps p.tables e below (T8.setTop (mkF m 44 Lb63 [(.int (3 : Int32))])) _
      refine XS.ifYes X8.here hx rfl (pc0 := 44) (pc' := 61) rfl (hb hby at_44) rfl (by decide) (by decide) (by decide) ?_
      refine si X8 hx hby at_61 rfl ?_
      refine sc X8 hx hby at_63 ?_
      refine XS.icmpYes X8.here hx rfl (pc0 := 64) (pc' := 73) rfl (hb hby at_64) rfl (by decide) (by decide) (by decide) ?_
      refine si X8 hx hby at_73 rfl ?_
      refine sc X8 hx hby at_75 ?_
      refine XS.icmpYes X8.here hx rfl (pc0 := 76) (pc' := 98) rfl (hb hby at_76) rfl (by decide) (by decide) (by decide) ?_
      refine XS.lload X8.here hx rfl (hb hby at_98) rfl ?_
      refine st64 _ ?_
      refine XS.astore X64.here hx rfl (hb hby at_103) rfl rfl (l' := Lb66) rfl ?_
      refine si X64 hx hby at_105 rfl ?_
      refine XS.ifYes X64.here hx rfl (pc0 := 107) (pc' := 121) rfl (hb hby at_107) rfl (by decide) (by decide) (by decide) ?_
      refine sc X64 hx hby at_121 ?_
      refine XS.istore X64.here hx rfl (hb hby at_122) rfl (l' := Lb67) rfl ?_
      refine sa X64 hx hby at_124 rfl rfl ?_
      refine sa X64 hx hby at_126 rfl rfl ?_
      refine st70.trans ?_
      refine XS.istore X70.here hx rfl (hb hby at_131) rfl (l' := Lb71) rfl ?_
      refine si X70 hx hby at_133 rfl ?_
      refine sN X70 hx hby at_135 (by decide) ?_
      refine sa X70 hx hby at_138 rfl rfl ?_
      refine sa X70 hx hby at_140 rfl rfl ?_
      refine st72.trans ?_
      refine si X72 hx hby at_145 rfl ?_
      refine sn X72 hx hby at_147 (by decide) ?_
      refine sc X72 hx hby at_150 ?_
      refine sg (pc := 151) (pc' := 155) X72 hx hby at_151 (by decide) (by decide) ?_
      exact retN X72 hx (t := .boolean) Bd.returns (by simp) (hb hby at_155) hr
    · show Q0 n0 _ T72.heap _
      rw [e72]
      exact ⟨rfl, N72⟩
  ·
   let Lb73 : Array Slot := #[.val (.long p0), .second, .val (.long p1), .second, .val (.int p2), .val (.int (1 : Int32)), .unset, .unset, .unset, .unset, .unset, .unset, .unset]
   let Lb74 : Array Slot := #[.val (.long p0), .second, .val (.long p1), .second, .val (.int p2), .val (.int (1 : Int32)), .val (.long p0), .second, .unset, .unset, .unset, .unset, .unset]
   let Lb75 : Array Slot := #[.val (.long p0), .second, .val (.long p1), .second, .val (.int p2), .val (.int (1 : Int32)), .val (.long p0), .second, .val (.int (p2 &&& (3 : Int32))), .unset, .unset, .unset, .unset]
   obtain ⟨T76, h76, X76, e76, E76, A76, D76, -, st76⟩ := newO X0 hx hZ hown (wk0 hw) (wk1 hw) (wk2 hw) e0 (g := (mkF m 32 Lb75 [])) rfl (hb hby at_32) (by decide) (by decide)
   obtain ⟨b76, g76⟩ : ∃ z, z = h0.size := ⟨_, rfl⟩
   rw [← g76] at A76 D76 st76
   have gg76 : n0 ≤ b76 := by rw [← O0.1, g76]; exact O0.2.1
   have O77 := O0.ext E76
   have i76_10 : Fld Z h76 b76 "com/example/tidy_mailbox/tidymailbox/stream/Watermark" "timestamp" "J" (.long (0 : Int64)) := D76 (Or.inr (wk10 hw)) (ty := .long) (by decide)
   obtain ⟨_, _, ⟨T78, L78, kk78, nn78⟩, -, X78, ⟨Lc78, hQ78, l78, y78, z78⟩, st78⟩ := X76.specialBack hx (y := ym0) rfl hown (mvT hZ (wk3 hw)) (mvT hZ (wk4 hw)) (mvT hZ (wk5 hw)) (by decide) (backOf (W := 1) (rm1_1 l Z a0 hw w hW [] b76 p0 h76 n0 O77 A76 i76_10 gg76) hZ (wk5 hw) (wk2 hw) (by decide) (by decide)) (g := (mkF m 37 Lb75 [(.long p0), (.ref b76), (.ref b76)])) rfl (by rw [hml]; rfl) (Steps.refl _) (a := b76) (argsL := [(.long p0)]) (rest := [(.ref b76)]) (lenOf pds_0 rfl) rfl (by show 2 * 0 + _ ≤ _; exact Nat.le_of_eq rfl) (hb hby at_37) (fun _ _ => ⟨rfl, e76, (by decide : 1 + 0 ≤ _), (by decide : 1 + 0 ≤ _)⟩)
   dsimp only [Pt.U, Pt.locs, Pt.cells, Pt.slots] at X78 l78 y78 z78 st78 hQ78
   subst l78 y78 z78
   obtain ⟨rfl, N78q, K78, r78_0⟩ := hQ78
   have N78 := Fr.app N0 N78q
   have O79 := own_old O77 K78 (own_ngc gg76 own_ng0)
   let Lb80 : Array Slot := #[.val (.long p0), .second, .val (.long p1), .second, .val (.int p2), .val (.int (1 : Int32)), .val (.long p0), .second, .val (.int (p2 &&& (3 : Int32))), .val (.ref b76), .unset, .unset, .unset]
   have pre81 : ∀ t, Steps p.tables e below (T78.setTop (mkF m 44 #[.val (.long p0), .second, .val (.long p1), .second, .val (.int p2), .val (.int (1 : Int32)), .val (.long p0), .second, .val (.int (p2 &&& (3 : Int32))), .val (.ref b76), .unset, .unset, .unset] [(.int (p2 &&& (3 : Int32)))])) t → Steps p.tables e below (s₁.setTop (entryFrame m #[(.long p0), (.long p1), (.int p2)] maxLocals)) t := fun t k => pre1 t (by
    show Steps p.tables e below (s₁.setTop (mkF m 4 La [(.int (p2 &&& (4 : Int32)))])) _
    refine sN X0 hx hby at_4 ((if0 _ _).trans (feq (hc2 : ¬ ((p2 &&& (4 : Int32)) = (0 : Int32)))).1) ?_
    refine sc X0 hx hby at_7 ?_
    refine sg (pc := 8) (pc' := 12) X0 hx hby at_8 (by decide) (by decide) ?_
    refine XS.istore X0.here hx rfl (hb hby at_12) rfl (l' := Lb73) rfl ?_
    refine si X0 hx hby at_14 rfl ?_
    refine sN X0 hx hby at_16 (by decide) ?_
    refine sL X0 hx hby at_19 rfl ?_
    refine sg (pc := 20) (pc' := 24) X0 hx hby at_20 (by decide) (by decide) ?_
    refine XS.lstore X0.here hx rfl (hb hby at_24) rfl (l' := Lb74) rfl ?_
    refine si X0 hx hby at_26 rfl ?_
    refine sc X0 hx hby at_28 ?_
    refine XS.iand X0.here hx rfl (hb hby at_29) rfl ?_
    refine XS.istore X0.here hx rfl (hb hby at_30) rfl (l' := Lb75) rfl ?_
    refine st76 _ ?_
    refine XS.dup X76.here hx rfl (hb hby at_35) rfl rfl ?_
    refine sL X76 hx hby at_36 rfl ?_
    refine st78.trans ?_
    refine XS.astore X78.here hx rfl (hb hby at_40) rfl rfl (l' := Lb80) rfl ?_
    refine si X78 hx hby at_42 rfl ?_
    exact k)
   rcases (own_and3 p2) with hs82 | hs82 | hs82 | hs82
   ·
    rw [hs82] at pre81
    let Lb83 : Array Slot := #[.val (.long p0), .second, .val (.long p1), .second, .val (.int p2), .val (.int (1 : Int32)), .val (.long p0), .second, .val (.int (0 : Int32)), .val (.ref b76), .unset, .unset, .unset]
    obtain ⟨T84, h84, X84, e84, E84, A84, D84, -, st84⟩ := newO X78 hx hZ hown (wk0 hw) (wk1 hw) (wk2 hw) rfl (g := (mkF m 47 Lb83 [])) rfl (hb hby at_47) (by decide) (by decide)
    obtain ⟨b84, g84⟩ : ∃ z, z = T78.heap.size := ⟨_, rfl⟩
    rw [← g84] at A84 D84 st84
    have gg84 : n0 ≤ b84 := by rw [← O79.1, g84]; exact O79.2.1
    have O85 := O79.ext E84
    have i84_10 : Fld Z h84 b84 "com/example/tidy_mailbox/tidymailbox/stream/Watermark" "timestamp" "J" (.long (0 : Int64)) := D84 (Or.inr (wk10 hw)) (ty := .long) (by decide)
    obtain ⟨_, _, ⟨T86, L86, kk86, nn86⟩, -, X86, ⟨Lc86, hQ86, l86, y86, z86⟩, st86⟩ := X84.specialBack hx (y := ym0) rfl hown (mvT hZ (wk3 hw)) (mvT hZ (wk4 hw)) (mvT hZ (wk5 hw)) (by decide) (backOf (W := 1) (rm1_1 l Z a0 hw w hW [] b84 p0 h84 n0 O85 A84 i84_10 gg84) hZ (wk5 hw) (wk2 hw) (by decide) (by decide)) (g := (mkF m 53 Lb83 [(.long p0), (.ref b84), (.ref b84)])) rfl (by rw [hml]; rfl) (Steps.refl _) (a := b84) (argsL := [(.long p0)]) (rest := [(.ref b84)]) (lenOf pds_0 rfl) rfl (by show 2 * 0 + _ ≤ _; exact Nat.le_of_eq rfl) (hb hby at_53) (fun _ _ => ⟨rfl, e84, (by decide : 2 + 0 ≤ _), (by decide : 2 + 0 ≤ _)⟩)
    dsimp only [Pt.U, Pt.locs, Pt.cells, Pt.slots] at X86 l86 y86 z86 st86 hQ86
    subst l86 y86 z86
    obtain ⟨rfl, N86q, K86, r86_0⟩ := hQ86
    have N86 := Fr.app N78 N86q
    have O87 := own_old O85 K86 (own_ngc gg84 own_ng0)
    let Lb88 : Array Slot := #[.val (.long p0), .second, .val (.long p1), .second, .val (.int p2), .val (.int (1 : Int32)), .val (.long p0), .second, .val (.int (0 : Int32)), .val (.ref b76), .val (.ref b84), .unset, .unset]
    let Lb89 : Array Slot := #[.val (.long p0), .second, .val (.long p1), .second, .val (.int p2), .val (.int (1 : Int32)), .val (.long p0), .second, .val (.int (0 : Int32)), .val (.ref b76), .val (.ref b84), .val (.int (1 : Int32)), .unset]
    have t90 := (own_exa ((own_exa A76 K78).ext E84) K86)
    have ne91 : b76 ≠ b84 := (Nat.ne_of_lt (Nat.lt_of_lt_of_le (Nat.lt_of_lt_of_le A76.lt K78.1) (Nat.le_of_eq g84.symm)))
    have t92 := (own_fld (r78_0.ext E84) K86 (own_nlb ne91 own_nl0))
    obtain ⟨cq93, kq93, q93a, q93b, q93c⟩ := isOf hZ rfl t90
    obtain ⟨_, _, ⟨T93, L93, kk93, nn93⟩, -, X93, ⟨Lc93, hQ93, l93, y93, z93⟩, st93⟩ := X86.virtualBack hx (y := ym1) (z := ym1) hown (mvT hZ (wk11 hw)) (mvT hZ (wk12 hw)) (notFace_of_selects (args := #[]) (mvT hZ (wk14 hw))) (mvT hZ (wk14 hw)) (mvT hZ (wk13 hw)) (by decide) (backOf (W := 0) (rm3_2 l Z a0 hw w hW [] b76 p0 T86.heap n0 O87 t90 t92) hZ (wk15 hw) (wk2 hw) (by decide) (by decide)) q93a q93c (g := (mkF m 128 Lb89 [(.ref b76), (.ref b76)])) rfl (by rw [hml]; rfl) (Steps.refl _) (argsL := [(.ref b76)]) (rest := []) (lenOf pds_1 rfl) rfl (by show 2 * 0 + _ ≤ _; exact Nat.le_of_eq rfl) (hb hby at_128) (fun _ _ => ⟨rfl, rfl, (by decide : 2 + 0 ≤ _), (by decide : 2 + 0 ≤ _)⟩)
    dsimp only [Pt.U, Pt.locs, Pt.cells, Pt.slots] at X93 l93 y93 z93 st93 hQ93
    subst l93 y93 z93
    obtain ⟨rfl, N93q, e93⟩ := hQ93
    have N93 := Fr.app N86 N93q
    let Lb94 : Array Slot := #[.val (.long p0), .second, .val (.long p1), .second, .val (.int p2), .val (.int (1 : Int32)), .val (.long p0), .second, .val (.int (0 : Int32)), .val (.ref b76), .val (.ref b84), .val (.int (1 : Int32)), .val (.int (1 : Int32))]
    have t95 := (own_exa A84 K86)
    obtain ⟨cq96, kq96, q96a, q96b, q96c⟩ := isOf hZ e93 t90
    obtain ⟨_, _, ⟨T96, L96, kk96, nn96⟩, -, X96, ⟨Lc96, hQ96, l96, y96, z96⟩, st96⟩ := X93.virtualBack hx (y := ym1) (z := ym1) hown (mvT hZ (wk11 hw)) (mvT hZ (wk12 hw)) (notFace_of_selects (args := #[]) (mvT hZ (wk14 hw))) (mvT hZ (wk14 hw)) (mvT hZ (wk13 hw)) (by decide) (backOf (W := 0) (rm3_3 l Z a0 hw w hW [] b76 b84 p0 p0 T86.heap n0 O87 t95 t92 r86_0 rfl) hZ (wk15 hw) (wk2 hw) (by decide) (by decide)) q96a q96c (g := (mkF m 142 Lb94 [(.ref b84), (.ref b76)])) rfl (by rw [hml]; rfl) (Steps.refl _) (argsL := [(.ref b84)]) (rest := []) (lenOf pds_1 rfl) rfl (by show 2 * 0 + _ ≤ _; exact Nat.le_of_eq rfl) (hb hby at_142) (fun _ _ => ⟨rfl, e93, (by decide : 2 + 0 ≤ _), (by decide : 2 + 0 ≤ _)⟩)
    dsimp only [Pt.U, Pt.locs, Pt.cells, Pt.slots] at X96 l96 y96 z96 st96 hQ96
    subst l96 y96 z96
    obtain ⟨rfl, N96q, e96⟩ := hQ96
    have N96 := Fr.app N93 N96q
    obtain ⟨fs, hr, hrun, hended, hWm, hsame⟩ := X96.leave (v := some (.int (1 : Int32))) (fun h => by rw [Bd.returns] at h; cases h)
    refine ⟨_, _, pre81 _ ?_, hrun, hended, _, _, rfl, ?_, ⟨_, rfl⟩, hWm, hsame.mono (by decide) (by decide)⟩
    · show Steps p.tables e below (T78.setTop (mkF m 44 Lb83 [(.int (0 : Int32))])) _
      refine sN X78 hx hby at_44 (by decide) ?_
      refine st84 _ ?_
      refine XS.dup X84.here hx rfl (hb hby at_50) rfl rfl ?_
      refine XS.lload X84.here hx rfl (hb hby at_51) rfl ?_
      refine st86.trans ?_
      refine XS.astore X86.here hx rfl (hb hby at_56) rfl rfl (l' := Lb88) rfl ?_
      refine sg (pc := 58) (pc' := 105) X86 hx hby at_58 (by decide) (by decide) ?_
      refine si X86 hx hby at_105 rfl ?_
      refine sN X86 hx hby at_107 (by decide) ?_
      refine sL X86 hx hby at_110 rfl ?_
      refine XS.lload X86.here hx rfl (hb hby at_111) rfl ?_
      refine XS.lcmp X86.here hx rfl (hb hby at_113) rfl ?_
      refine sN X86 hx hby at_114 ((if0 _ _).trans (teq (((lw_eq _ _).mpr rfl) : (lcmpW p0 p0) = (0 : Int32))).2) ?_
      refine sc X86 hx hby at_117 ?_
      refine sg (pc := 118) (pc' := 122) X86 hx hby at_118 (by decide) (by decide) ?_
      refine XS.istore X86.here hx rfl (hb hby at_122) rfl (l' := Lb89) rfl ?_
      refine sa X86 hx hby at_124 rfl rfl ?_
      refine sa X86 hx hby at_126 rfl rfl ?_
      refine st93.trans ?_
      refine XS.istore X93.here hx rfl (hb hby at_131) rfl (l' := Lb94) rfl ?_
      refine si X93 hx hby at_133 rfl ?_
      refine sN X93 hx hby at_135 (by decide) ?_
      refine sa X93 hx hby at_138 rfl rfl ?_
      refine sa X93 hx hby at_140 rfl rfl ?_
      refine st96.trans ?_
      refine si X96 hx hby at_145 rfl ?_
      refine sn X96 hx hby at_147 (by decide) ?_
      refine sc X96 hx hby at_150 ?_
      refine sg (pc := 151) (pc' := 155) X96 hx hby at_151 (by decide) (by decide) ?_
      exact retN X96 hx (t := .boolean) Bd.returns (by simp) (hb hby at_155) hr
    · show Q0 n0 _ T96.heap _
      rw [e96]
      exact ⟨rfl, N96⟩
   ·
    rw [hs82] at pre81
    let Lb97 : Array Slot := #[.val (.long p0), .second, .val (.long p1), .second, .val (.int p2), .val (.int (1 : Int32)), .val (.long p0), .second, .val (.int (1 : Int32)), .val (.ref b76), .unset, .unset, .unset]
    let Lb98 : Array Slot := #[.val (.long p0), .second, .val (.long p1), .second, .val (.int p2), .val (.int (1 : Int32)), .val (.long p0), .second, .val (.int (1 : Int32)), .val (.ref b76), .val .null, .unset, .unset]
    let Lb99 : Array Slot := #[.val (.long p0), .second, .val (.long p1), .second, .val (.int p2), .val (.int (1 : Int32)), .val (.long p0), .second, .val (.int (1 : Int32)), .val (.ref b76), .val .null, .val (.int (0 : Int32)), .unset]
    have t100 := (own_exa A76 K78)
    obtain ⟨cq101, kq101, q101a, q101b, q101c⟩ := isOf hZ rfl t100
    obtain ⟨_, _, ⟨T101, L101, kk101, nn101⟩, -, X101, ⟨Lc101, hQ101, l101, y101, z101⟩, st101⟩ := X78.virtualBack hx (y := ym1) (z := ym1) hown (mvT hZ (wk11 hw)) (mvT hZ (wk12 hw)) (notFace_of_selects (args := #[]) (mvT hZ (wk14 hw))) (mvT hZ (wk14 hw)) (mvT hZ (wk13 hw)) (by decide) (backOf (W := 0) (rm3_2 l Z a0 hw w hW [] b76 p0 T78.heap n0 O79 t100 r78_0) hZ (wk15 hw) (wk2 hw) (by decide) (by decide)) q101a q101c (g := (mkF m 128 Lb99 [(.ref b76), (.ref b76)])) rfl (by rw [hml]; rfl) (Steps.refl _) (argsL := [(.ref b76)]) (rest := []) (lenOf pds_1 rfl) rfl (by show 2 * 0 + _ ≤ _; exact Nat.le_of_eq rfl) (hb hby at_128) (fun _ _ => ⟨rfl, rfl, (by decide : 1 + 0 ≤ _), (by decide : 1 + 0 ≤ _)⟩)
    dsimp only [Pt.U, Pt.locs, Pt.cells, Pt.slots] at X101 l101 y101 z101 st101 hQ101
    subst l101 y101 z101
    obtain ⟨rfl, N101q, e101⟩ := hQ101
    have N101 := Fr.app N78 N101q
    let Lb102 : Array Slot := #[.val (.long p0), .second, .val (.long p1), .second, .val (.int p2), .val (.int (1 : Int32)), .val (.long p0), .second, .val (.int (1 : Int32)), .val (.ref b76), .val .null, .val (.int (0 : Int32)), .val (.int (1 : Int32))]
    obtain ⟨cq103, kq103, q103a, q103b, q103c⟩ := isOf hZ e101 t100
    obtain ⟨_, _, ⟨T103, L103, kk103, nn103⟩, -, X103, ⟨Lc103, hQ103, l103, y103, z103⟩, st103⟩ := X101.virtualBack hx (y := ym1) (z := ym1) hown (mvT hZ (wk11 hw)) (mvT hZ (wk12 hw)) (notFace_of_selects (args := #[]) (mvT hZ (wk14 hw))) (mvT hZ (wk14 hw)) (mvT hZ (wk13 hw)) (by decide) (backOf (W := 0) (rm3_5 l Z a0 hw w hW [] b76 T78.heap n0 O79 ) hZ (wk15 hw) (wk2 hw) (by decide) (by decide)) q103a q103c (g := (mkF m 142 Lb102 [.null, (.ref b76)])) rfl (by rw [hml]; rfl) (Steps.refl _) (argsL := [.null]) (rest := []) (lenOf pds_1 rfl) rfl (by show 2 * 0 + _ ≤ _; exact Nat.le_of_eq rfl) (hb hby at_142) (fun _ _ => ⟨rfl, e101, (by decide : 1 + 0 ≤ _), (by decide : 1 + 0 ≤ _)⟩)
    dsimp only [Pt.U, Pt.locs, Pt.cells, Pt.slots] at X103 l103 y103 z103 st103 hQ103
    subst l103 y103 z103
    obtain ⟨rfl, N103q, e103⟩ := hQ103
    have N103 := Fr.app N101 N103q
    obtain ⟨fs, hr, hrun, hended, hWm, hsame⟩ := X103.leave (v := some (.int (1 : Int32))) (fun h => by rw [Bd.returns] at h; cases h)
    refine ⟨_, _, pre81 _ ?_, hrun, hended, _, _, rfl, ?_, ⟨_, rfl⟩, hWm, hsame.mono (by decide) (by decide)⟩
    · show Steps p.tables e below (T78.setTop (mkF m 44 Lb97 [(.int (1 : Int32))])) _
      refine XS.ifYes X78.here hx rfl (pc0 := 44) (pc' := 61) rfl (hb hby at_44) rfl (by decide) (by decide) (by decide) ?_
      refine si X78 hx hby at_61 rfl ?_
      refine sc X78 hx hby at_63 ?_
      refine sn X78 hx hby at_64 (by decide) ?_
      refine XS.aconstNull X78.here hx rfl (hb hby at_67) ?_
      refine XS.astore X78.here hx rfl (hb hby at_68) rfl rfl (l' := Lb98) rfl ?_
      refine sg (pc := 70) (pc' := 105) X78 hx hby at_70 (by decide) (by decide) ?_
      refine si X78 hx hby at_105 rfl ?_
      refine XS.ifYes X78.here hx rfl (pc0 := 107) (pc' := 121) rfl (hb hby at_107) rfl (by decide) (by decide) (by decide) ?_
      refine sc X78 hx hby at_121 ?_
      refine XS.istore X78.here hx rfl (hb hby at_122) rfl (l' := Lb99) rfl ?_
      refine sa X78 hx hby at_124 rfl rfl ?_
      refine sa X78 hx hby at_126 rfl rfl ?_
      refine st101.trans ?_
      refine XS.istore X101.here hx rfl (hb hby at_131) rfl (l' := Lb102) rfl ?_
      refine si X101 hx hby at_133 rfl ?_
      refine sN X101 hx hby at_135 (by decide) ?_
      refine sa X101 hx hby at_138 rfl rfl ?_
      refine sa X101 hx hby at_140 rfl rfl ?_
      refine st103.trans ?_
      refine si X103 hx hby at_145 rfl ?_
      refine sn X103 hx hby at_147 (by decide) ?_
      refine sc X103 hx hby at_150 ?_
      refine sg (pc := 151) (pc' := 155) X103 hx hby at_151 (by decide) (by decide) ?_
      exact retN X103 hx (t := .boolean) Bd.returns (by simp) (hb hby at_155) hr
    · show Q0 n0 _ T103.heap _
      rw [e103]
      exact ⟨rfl, N103⟩
   ·
    rw [hs82] at pre81
    let Lb104 : Array Slot := #[.val (.long p0), .second, .val (.long p1), .second, .val (.int p2), .val (.int (1 : Int32)), .val (.long p0), .second, .val (.int (2 : Int32)), .val (.ref b76), .unset, .unset, .unset]
    obtain ⟨T105, h105, X105, e105, E105, A105, D105, -, st105⟩ := newO X78 hx hZ hown (wk44 hw) (wk45 hw) (wk46 hw) rfl (g := (mkF m 79 Lb104 [])) rfl (hb hby at_79) (by decide) (by decide)
    obtain ⟨b105, g105⟩ : ∃ z, z = T78.heap.size := ⟨_, rfl⟩
    rw [← g105] at A105 D105 st105
    have gg105 : n0 ≤ b105 := by rw [← O79.1, g105]; exact O79.2.1
    have O106 := O79.ext E105
    have i105_52 : Fld Z h105 b105 "com/example/tidy_mailbox/tidymailbox/stream/StreamRecord" "value" "Ljava/lang/Object;" .null := D105 (Or.inr (wk52 hw)) (ty := (.object "java/lang/Object")) (by decide)
    have i105_54 : Fld Z h105 b105 "com/example/tidy_mailbox/tidymailbox/stream/StreamRecord" "timestamp" "J" (.long (0 : Int64)) := D105 (Or.inr (wk54 hw)) (ty := .long) (by decide)
    obtain ⟨_, _, ⟨T107, L107, kk107, nn107⟩, -, X107, ⟨Lc107, hQ107, l107, y107, z107⟩, st107⟩ := Jvm.LawKit.callS X105 hx (y := ym4) hown (mvT hZ (wk18 hw)) (mvT hZ (wk19 hw)) (mvT hZ (wk20 hw)) (mvT hZ (wk21 hw)) (by decide) (backOf (W := 2) (rm4_8 l Z a0 hw w hW [] p0 h105 n0 O106 ) hZ (wk21 hw) (wk20 hw) (by decide) (by decide)) (g := (mkF m 85 Lb104 [(.long p0), (.ref b105), (.ref b105)])) rfl (by rw [hml]; rfl) (argsL := [(.long p0)]) (rest := [(.ref b105), (.ref b105)]) (lenOf pds_3 rfl) rfl (by show 2 * 0 + _ ≤ _; exact Nat.le_of_eq rfl) (hb hby at_85) (fun _ _ => ⟨rfl, e105, (by decide : 2 + 1 ≤ _), (by decide : 3 + 1 ≤ _)⟩)
    dsimp only [Pt.U, Pt.locs, Pt.cells, Pt.slots] at X107 l107 y107 z107 st107 hQ107
    subst l107 y107 z107
    obtain ⟨b107_0, rfl, N107q, K107, r107_0⟩ := hQ107
    have N107 := Fr.app N78 N107q
    have O108 := own_old O106 K107 own_ng0
    have t109 := (own_exa A105 K107)
    have t110 := (own_fld i105_52 K107 own_nl0)
    have t111 := (own_fld i105_54 K107 own_nl0)
    obtain ⟨_, _, ⟨T112, L112, kk112, nn112⟩, -, X112, ⟨Lc112, hQ112, l112, y112, z112⟩, st112⟩ := X107.specialBack hx (y := ym5) rfl hown (mvT hZ (wk47 hw)) (mvT hZ (wk48 hw)) (mvT hZ (wk49 hw)) (by decide) (backOf (W := 1) (rm7_9 l Z a0 hw w hW [] b105 b107_0 p0 T107.heap n0 O108 t109 t110 gg105 t111) hZ (wk49 hw) (wk46 hw) (by decide) (by decide)) (g := (mkF m 90 Lb104 [(.long p0), (.ref b107_0), (.ref b105), (.ref b105)])) rfl (by rw [hml]; rfl) (Steps.refl _) (a := b105) (argsL := [(.ref b107_0), (.long p0)]) (rest := [(.ref b105)]) (lenOf pds_4 rfl) rfl (by show 2 * 0 + _ ≤ _; exact Nat.le_of_eq rfl) (hb hby at_90) (fun _ _ => ⟨rfl, rfl, (by decide : 3 + 0 ≤ _), (by decide : 4 + 0 ≤ _)⟩)
    dsimp only [Pt.U, Pt.locs, Pt.cells, Pt.slots] at X112 l112 y112 z112 st112 hQ112
    subst l112 y112 z112
    obtain ⟨rfl, N112q, K112, r112_0, r112_1⟩ := hQ112
    have N112 := Fr.app N107 N112q
    have O113 := own_old O108 K112 (own_ngc gg105 (own_ngc gg105 own_ng0))
    let Lb114 : Array Slot := #[.val (.long p0), .second, .val (.long p1), .second, .val (.int p2), .val (.int (1 : Int32)), .val (.long p0), .second, .val (.int (2 : Int32)), .val (.ref b76), .val (.ref b105), .unset, .unset]
    let Lb115 : Array Slot := #[.val (.long p0), .second, .val (.long p1), .second, .val (.int p2), .val (.int (1 : Int32)), .val (.long p0), .second, .val (.int (2 : Int32)), .val (.ref b76), .val (.ref b105), .val (.int (0 : Int32)), .unset]
    have t116 := (own_exa (own_exa ((own_exa A76 K78).ext E105) K107) K112)
    have ne117 : b76 ≠ b105 := (Nat.ne_of_lt (Nat.lt_of_lt_of_le (Nat.lt_of_lt_of_le A76.lt K78.1) (Nat.le_of_eq g105.symm)))
    have t118 := (own_fld (own_fld (r78_0.ext E105) K107 own_nl0) K112 (own_nlb ne117 (own_nlb ne117 own_nl0)))
    obtain ⟨cq119, kq119, q119a, q119b, q119c⟩ := isOf hZ rfl t116
    obtain ⟨_, _, ⟨T119, L119, kk119, nn119⟩, -, X119, ⟨Lc119, hQ119, l119, y119, z119⟩, st119⟩ := X112.virtualBack hx (y := ym1) (z := ym1) hown (mvT hZ (wk11 hw)) (mvT hZ (wk12 hw)) (notFace_of_selects (args := #[]) (mvT hZ (wk14 hw))) (mvT hZ (wk14 hw)) (mvT hZ (wk13 hw)) (by decide) (backOf (W := 0) (rm3_2 l Z a0 hw w hW [] b76 p0 T112.heap n0 O113 t116 t118) hZ (wk15 hw) (wk2 hw) (by decide) (by decide)) q119a q119c (g := (mkF m 128 Lb115 [(.ref b76), (.ref b76)])) rfl (by rw [hml]; rfl) (Steps.refl _) (argsL := [(.ref b76)]) (rest := []) (lenOf pds_1 rfl) rfl (by show 2 * 0 + _ ≤ _; exact Nat.le_of_eq rfl) (hb hby at_128) (fun _ _ => ⟨rfl, rfl, (by decide : 3 + 0 ≤ _), (by decide : 4 + 0 ≤ _)⟩)
    dsimp only [Pt.U, Pt.locs, Pt.cells, Pt.slots] at X119 l119 y119 z119 st119 hQ119
    subst l119 y119 z119
    obtain ⟨rfl, N119q, e119⟩ := hQ119
    have N119 := Fr.app N112 N119q
    let Lb120 : Array Slot := #[.val (.long p0), .second, .val (.long p1), .second, .val (.int p2), .val (.int (1 : Int32)), .val (.long p0), .second, .val (.int (2 : Int32)), .val (.ref b76), .val (.ref b105), .val (.int (0 : Int32)), .val (.int (1 : Int32))]
    have t121 := (own_exa t109 K112)
    obtain ⟨cq122, kq122, q122a, q122b, q122c⟩ := isOf hZ e119 t116
    obtain ⟨_, _, ⟨T122, L122, kk122, nn122⟩, -, X122, ⟨Lc122, hQ122, l122, y122, z122⟩, st122⟩ := X119.virtualBack hx (y := ym1) (z := ym1) hown (mvT hZ (wk11 hw)) (mvT hZ (wk12 hw)) (notFace_of_selects (args := #[]) (mvT hZ (wk14 hw))) (mvT hZ (wk14 hw)) (mvT hZ (wk13 hw)) (by decide) (backOf (W := 0) (rm3_10 l Z a0 hw w hW [] b76 b105 T112.heap n0 O113 t121) hZ (wk15 hw) (wk2 hw) (by decide) (by decide)) q122a q122c (g := (mkF m 142 Lb120 [(.ref b105), (.ref b76)])) rfl (by rw [hml]; rfl) (Steps.refl _) (argsL := [(.ref b105)]) (rest := []) (lenOf pds_1 rfl) rfl (by show 2 * 0 + _ ≤ _; exact Nat.le_of_eq rfl) (hb hby at_142) (fun _ _ => ⟨rfl, e119, (by decide : 3 + 0 ≤ _), (by decide : 4 + 0 ≤ _)⟩)
    dsimp only [Pt.U, Pt.locs, Pt.cells, Pt.slots] at X122 l122 y122 z122 st122 hQ122
    subst l122 y122 z122
    obtain ⟨rfl, N122q, e122⟩ := hQ122
    have N122 := Fr.app N119 N122q
    obtain ⟨fs, hr, hrun, hended, hWm, hsame⟩ := X122.leave (v := some (.int (1 : Int32))) (fun h => by rw [Bd.returns] at h; cases h)
    refine ⟨_, _, pre81 _ ?_, hrun, hended, _, _, rfl, ?_, ⟨_, rfl⟩, hWm, hsame.mono (by decide) (by decide)⟩
    · show Steps p.tables e below (T78.setTop (mkF m 44 Lb104 [(.int (2 : Int32))])) _
      refine XS.ifYes X78.here hx rfl (pc0 := 44) (pc' := 61) rfl (hb hby at_44) rfl (by decide) (by decide) (by decide) ?_
      refine si X78 hx hby at_61 rfl ?_
      refine sc X78 hx hby at_63 ?_
      refine XS.icmpYes X78.here hx rfl (pc0 := 64) (pc' := 73) rfl (hb hby at_64) rfl (by decide) (by decide) (by decide) ?_
      refine si X78 hx hby at_73 rfl ?_
      refine sc X78 hx hby at_75 ?_
      refine sn X78 hx hby at_76 (by decide) ?_
      refine st105 _ ?_
      refine XS.dup X105.here hx rfl (hb hby at_82) rfl rfl ?_
      refine XS.lload X105.here hx rfl (hb hby at_83) rfl ?_
      refine st107 _ ?_
      refine XS.lload X107.here hx rfl (hb hby at_88) rfl ?_
      refine st112.trans ?_
      refine XS.astore X112.here hx rfl (hb hby at_93) rfl rfl (l' := Lb114) rfl ?_
      refine sg (pc := 95) (pc' := 105) X112 hx hby at_95 (by decide) (by decide) ?_
      refine si X112 hx hby at_105 rfl ?_
      refine XS.ifYes X112.here hx rfl (pc0 := 107) (pc' := 121) rfl (hb hby at_107) rfl (by decide) (by decide) (by decide) ?_
      refine sc X112 hx hby at_121 ?_
      refine XS.istore X112.here hx rfl (hb hby at_122) rfl (l' := Lb115) rfl ?_
      refine sa X112 hx hby at_124 rfl rfl ?_
      refine sa X112 hx hby at_126 rfl rfl ?_
      refine st119.trans ?_
      refine XS.istore X119.here hx rfl (hb hby at_131) rfl (l' := Lb120) rfl ?_
      refine si X119 hx hby at_133 rfl ?_
      refine sN X119 hx hby at_135 (by decide) ?_
      refine sa X119 hx hby at_138 rfl rfl ?_
      refine sa X119 hx hby at_140 rfl rfl ?_
      refine st122.trans ?_
      refine si X122 hx hby at_145 rfl ?_
      refine sn X122 hx hby at_147 (by decide) ?_
      refine sc X122 hx hby at_150 ?_
      refine sg (pc := 151) (pc' := 155) X122 hx hby at_151 (by decide) (by decide) ?_
      exact retN X122 hx (t := .boolean) Bd.returns (by simp) (hb hby at_155) hr
    · show Q0 n0 _ T122.heap _
      rw [e122]
      exact ⟨rfl, N122⟩
   ·
    rw [hs82] at pre81
    let Lb123 : Array Slot := #[.val (.long p0), .second, .val (.long p1), .second, .val (.int p2), .val (.int (1 : Int32)), .val (.long p0), .second, .val (.int (3 : Int32)), .val (.ref b76), .unset, .unset, .unset]
    obtain ⟨_, _, ⟨T124, L124, kk124, nn124⟩, -, X124, ⟨Lc124, hQ124, l124, y124, z124⟩, st124⟩ := Jvm.LawKit.callS X78 hx (y := ym4) hown (mvT hZ (wk18 hw)) (mvT hZ (wk19 hw)) (mvT hZ (wk20 hw)) (mvT hZ (wk21 hw)) (by decide) (backOf (W := 0) (rm4_8 l Z a0 hw w hW [] p0 T78.heap n0 O79 ) hZ (wk21 hw) (wk20 hw) (by decide) (by decide)) (g := (mkF m 100 Lb123 [(.long p0)])) rfl (by rw [hml]; rfl) (argsL := [(.long p0)]) (rest := []) (lenOf pds_3 rfl) rfl (by show 2 * 0 + _ ≤ _; exact Nat.le_of_eq rfl) (hb hby at_100) (fun _ _ => ⟨rfl, rfl, (by decide : 1 + 1 ≤ _), (by decide : 1 + 1 ≤ _)⟩)
    dsimp only [Pt.U, Pt.locs, Pt.cells, Pt.slots] at X124 l124 y124 z124 st124 hQ124
    subst l124 y124 z124
    obtain ⟨b124_0, rfl, N124q, K124, r124_0⟩ := hQ124
    have N124 := Fr.app N78 N124q
    have O125 := own_old O79 K124 own_ng0
    let Lb126 : Array Slot := #[.val (.long p0), .second, .val (.long p1), .second, .val (.int p2), .val (.int (1 : Int32)), .val (.long p0), .second, .val (.int (3 : Int32)), .val (.ref b76), .val (.ref b124_0), .unset, .unset]
    let Lb127 : Array Slot := #[.val (.long p0), .second, .val (.long p1), .second, .val (.int p2), .val (.int (1 : Int32)), .val (.long p0), .second, .val (.int (3 : Int32)), .val (.ref b76), .val (.ref b124_0), .val (.int (0 : Int32)), .unset]
    have t128 := (own_exa (own_exa A76 K78) K124)
    have t129 := (own_fld r78_0 K124 own_nl0)
    obtain ⟨cq130, kq130, q130a, q130b, q130c⟩ := isOf hZ rfl t128
    obtain ⟨_, _, ⟨T130, L130, kk130, nn130⟩, -, X130, ⟨Lc130, hQ130, l130, y130, z130⟩, st130⟩ := X124.virtualBack hx (y := ym1) (z := ym1) hown (mvT hZ (wk11 hw)) (mvT hZ (wk12 hw)) (notFace_of_selects (args := #[]) (mvT hZ (wk14 hw))) (mvT hZ (wk14 hw)) (mvT hZ (wk13 hw)) (by decide) (backOf (W := 0) (rm3_2 l Z a0 hw w hW [] b76 p0 T124.heap n0 O125 t128 t129) hZ (wk15 hw) (wk2 hw) (by decide) (by decide)) q130a q130c (g := (mkF m 128 Lb127 [(.ref b76), (.ref b76)])) rfl (by rw [hml]; rfl) (Steps.refl _) (argsL := [(.ref b76)]) (rest := []) (lenOf pds_1 rfl) rfl (by show 2 * 0 + _ ≤ _; exact Nat.le_of_eq rfl) (hb hby at_128) (fun _ _ => ⟨rfl, rfl, (by decide : 2 + 0 ≤ _), (by decide : 2 + 0 ≤ _)⟩)
    dsimp only [Pt.U, Pt.locs, Pt.cells, Pt.slots] at X130 l130 y130 z130 st130 hQ130
    subst l130 y130 z130
    obtain ⟨rfl, N130q, e130⟩ := hQ130
    have N130 := Fr.app N124 N130q
    let Lb131 : Array Slot := #[.val (.long p0), .second, .val (.long p1), .second, .val (.int p2), .val (.int (1 : Int32)), .val (.long p0), .second, .val (.int (3 : Int32)), .val (.ref b76), .val (.ref b124_0), .val (.int (0 : Int32)), .val (.int (1 : Int32))]
    obtain ⟨cq132, kq132, q132a, q132b, q132c⟩ := isOf hZ e130 t128
    obtain ⟨_, _, ⟨T132, L132, kk132, nn132⟩, -, X132, ⟨Lc132, hQ132, l132, y132, z132⟩, st132⟩ := X130.virtualBack hx (y := ym1) (z := ym1) hown (mvT hZ (wk11 hw)) (mvT hZ (wk12 hw)) (notFace_of_selects (args := #[]) (mvT hZ (wk14 hw))) (mvT hZ (wk14 hw)) (mvT hZ (wk13 hw)) (by decide) (backOf (W := 0) (rm3_11 l Z a0 hw w hW [] b76 b124_0 T124.heap n0 O125 r124_0) hZ (wk15 hw) (wk2 hw) (by decide) (by decide)) q132a q132c (g := (mkF m 142 Lb131 [(.ref b124_0), (.ref b76)])) rfl (by rw [hml]; rfl) (Steps.refl _) (argsL := [(.ref b124_0)]) (rest := []) (lenOf pds_1 rfl) rfl (by show 2 * 0 + _ ≤ _; exact Nat.le_of_eq rfl) (hb hby at_142) (fun _ _ => ⟨rfl, e130, (by decide : 2 + 0 ≤ _), (by decide : 2 + 0 ≤ _)⟩)
    dsimp only [Pt.U, Pt.locs, Pt.cells, Pt.slots] at X132 l132 y132 z132 st132 hQ132
    subst l132 y132 z132
    obtain ⟨rfl, N132q, e132⟩ := hQ132
    have N132 := Fr.app N130 N132q
    obtain ⟨fs, hr, hrun, hended, hWm, hsame⟩ := X132.leave (v := some (.int (1 : Int32))) (fun h => by rw [Bd.returns] at h; cases h)
    refine ⟨_, _, pre81 _ ?_, hrun, hended, _, _, rfl, ?_, ⟨_, rfl⟩, hWm, hsame.mono (by decide) (by decide)⟩
    · show Steps p.tables e below (T78.setTop (mkF m 44 Lb123 [(.int (3 : Int32))])) _
      refine XS.ifYes X78.here hx rfl (pc0 := 44) (pc' := 61) rfl (hb hby at_44) rfl (by decide) (by decide) (by decide) ?_
      refine si X78 hx hby at_61 rfl ?_
      refine sc X78 hx hby at_63 ?_
      refine XS.icmpYes X78.here hx rfl (pc0 := 64) (pc' := 73) rfl (hb hby at_64) rfl (by decide) (by decide) (by decide) ?_
      refine si X78 hx hby at_73 rfl ?_
      refine sc X78 hx hby at_75 ?_
      refine XS.icmpYes X78.here hx rfl (pc0 := 76) (pc' := 98) rfl (hb hby at_76) rfl (by decide) (by decide) (by decide) ?_
      refine XS.lload X78.here hx rfl (hb hby at_98) rfl ?_
      refine st124 _ ?_
      refine XS.astore X124.here hx rfl (hb hby at_103) rfl rfl (l' := Lb126) rfl ?_
      refine si X124 hx hby at_105 rfl ?_
      refine XS.ifYes X124.here hx rfl (pc0 := 107) (pc' := 121) rfl (hb hby at_107) rfl (by decide) (by decide) (by decide) ?_
      refine sc X124 hx hby at_121 ?_
      refine XS.istore X124.here hx rfl (hb hby at_122) rfl (l' := Lb127) rfl ?_
      refine sa X124 hx hby at_124 rfl rfl ?_
      refine sa X124 hx hby at_126 rfl rfl ?_
      refine st130.trans ?_
      refine XS.istore X130.here hx rfl (hb hby at_131) rfl (l' := Lb131) rfl ?_
      refine si X130 hx hby at_133 rfl ?_
      refine sN X130 hx hby at_135 (by decide) ?_
      refine sa X130 hx hby at_138 rfl rfl ?_
      refine sa X130 hx hby at_140 rfl rfl ?_
      refine st132.trans ?_
      refine si X132 hx hby at_145 rfl ?_
      refine sn X132 hx hby at_147 (by decide) ?_
      refine sc X132 hx hby at_150 ?_
      refine sg (pc := 151) (pc' := 155) X132 hx hby at_151 (by decide) (by decide) ?_
      exact retN X132 hx (t := .boolean) Bd.returns (by simp) (hb hby at_155) hr
    · show Q0 n0 _ T132.heap _
      rw [e132]
      exact ⟨rfl, N132⟩
set_option maxRecDepth 65536 in
set_option maxHeartbeats 400000000 in
theorem comes_1 {Post : Tables → Env → Array Value → State → Outcome → State → Prop} (hpost : ∀ tb e args s v u, (limb_1_1.after args s (.returned v) u = true ∧ limb_1_2.after args s (.returned v) u = true ∧ True) → FrameEnd s (.returned v) u (Jvm.fieldLocs frame_1_writes args s ++ Jvm.arrayLocs frame_1_arrays args s ++ Jvm.staticLocs frame_1_statics s) 16 128 → Post tb e args s (.returned v) u) :
    ArmFor flags0 classFile x code maxLocals ret World_1 tables_1 room_1 Calls_1 rest_1 Pre_1 Post := by
  intro l hfl _ _ p e ha hc hk s m args below hf hA hF happ hP
  obtain ⟨hcalls, hrest, hpre⟩ := hP
  obtain ⟨-, -, -, hnamed, -, -, -, hat⟩ := (Spec.applies_iff hf).mp happ
  obtain ⟨hg, hn⟩ := and_e (Cond.before_iff.mp (show (Jvm.Cond.and given_1 narrow_1).before args s = true from hpre))
  obtain ⟨ga4, gb4⟩ := and_e hg
  obtain ⟨ga5, gb5⟩ := and_e gb4
  obtain ⟨ga6, gb6⟩ := and_e gb5
  obtain ⟨v0, v1, v2, rfl⟩ : ∃ v0 v1 v2 : Value, args = #[v0, v1, v2] := by
    have hs : args.size = 3 := by simpa [Cond.value, given_1] using ga4
    obtain ⟨L⟩ := args
    match L, hs with
    | [v0, v1, v2], _ => exact ⟨v0, v1, v2, rfl⟩
  have hw := fun d (hd : d ∈ tables_1) => atoms_spec (ws := Jvm.Cond.code x code maxLocals ret :: tables_1) hat d (List.mem_cons_of_mem _ hd)
  have hfit : Fit s := fun {y c} hc i hi => by
    obtain ⟨ha, rfl⟩ := Array.getElem?_eq_some_iff.mp hc
    have q := List.all_eq_true.mp ((Array.all_eq_true_iff_forall_mem.mp hF) _ (Array.getElem_mem ha)) i (List.mem_range.mpr hi)
    simpa [Array.getElem?_eq_getElem hi] using q
  obtain ⟨hsets, hown0⟩ := atoms_of _ (rest_1_c_eq ▸ (show rest_1_c.before _ s = true from hrest))
  obtain ⟨i0, ei0⟩ := isL_v ga5
  obtain rfl : v0 = (.long i0) := Option.some.inj ei0
  obtain ⟨i1, ei1⟩ := isL_v ga6
  obtain rfl : v1 = (.long i1) := Option.some.inj ei1
  obtain ⟨i2, ei2⟩ := is_v gb6
  obtain rfl : v2 = (.int i2) := Option.some.inj ei2
  obtain ⟨x0, ev0⟩ := arr_v (Cond.before_iff.mp (hsets _ (List.mem_of_getElem? (i := 2) rfl)))
  obtain ⟨cl0, A0⟩ := Arr.start ev0 (Cond.before_iff.mp (hsets _ (List.mem_of_getElem? (i := 2) rfl)))
  have len0 := own_len ev0 A0 (Cond.before_iff.mp (hsets _ (List.mem_of_getElem? (i := 4) rfl)))
  have B0 := own_boxJ (fun _ => ev0) A0 len0 (by decide) (Cond.before_iff.mp (hsets _ (List.mem_of_getElem? (i := 5) rfl)))
  have hW : Wd s (fun i => ([x0] : List Addr).getD i 0) := ⟨(Sta.start ev0 (Or.inr ⟨(wk25 hw), (hsets _ (List.mem_of_getElem? (i := 0) rfl))⟩)), (Exa.start ev0 (Cond.before_iff.mp (hsets _ (List.mem_of_getElem? (i := 3) rfl)))), ⟨_, B0⟩, trivial⟩
  obtain ⟨n, o, h1, h2, h3, _, L, rfl, ⟨rfl, N⟩, hq⟩ := rm0 l s _ hw _ hW tables_1 i0 i1 i2 s.heap s.heap.size (Old.start s) p e ha hc hk s m _ below hf ((Spec.applies_iff_loose hf).mp happ).1 ⟨rfl, State.Warmed39.refl s, rfl⟩ trivial
  refine ⟨n, _, h1, h2, h3, hpost _ _ _ _ _ _ ⟨Cond.after_iff.mpr rfl, Cond.after_iff.mpr (eq_i res_at (Term.int_eval (1)) rfl), trivial⟩ ⟨hq.1, hq.2.1, (hq.2.2.sift fun y hy => Or.inr (N y hy)).mono (by decide) (by decide)⟩⟩
theorem main_1_1 : Claimed_1_1 := comes_1 fun _ _ _ _ _ _ h hF => ⟨h.1, hF⟩
theorem main_1_2 : Claimed_1_2 := comes_1 fun _ _ _ _ _ _ h hF => ⟨h.2.1, hF⟩
end Jvm.Pilot.@@N@@
namespace Jvm.Pilot.@@N@@
open Jvm Jvm.ClassFile Sem Op Lib Jvm.Free Jvm.Stand Jvm.Pilot.@@N@@.Jvm.D
/-! MADE BY PROGRAM (witnessworld.py) out of the Statement's table words and the real class files: 18 classes; the members and pool entries that the words name. The judged class is class 1, her method 1. -/
namespace start1
open Jvm.ClassFile
def u (s : String) : CpInfo := .utf8 (stringToUtf16 s)
/-- a pool by its gaps: so many unusable entries, then the entry; so many at the end -/
def gap : Nat → List CpInfo → List CpInfo
  | 0, r => r
  | n + 1, r => .unusable :: gap n r
def poolList (es : List (Nat × CpInfo)) (last : Nat) : List CpInfo := es.foldr (fun e r => gap e.1 (e.2 :: r)) (gap last [])
def pool (es : List (Nat × CpInfo)) (last : Nat) : Array CpInfo := ⟨poolList es last⟩
def fileOf (pool : Array CpInfo) (this : Nat) (attrs : Array Attribute := #[]) (ms : Array MethodInfo := #[]) (fl : Nat := 33) (sup : Nat := 0) (ifs : Array Nat := #[]) (fds : Array FieldInfo := #[]) : ClassFile where
  minorVersion := 0
  majorVersion := 65
  constantPool := pool
  accessFlags := fl
  thisClass := this
  superClass := sup
  interfaces := ifs
  fields := fds
  methods := ms
  attributes := attrs
def plain (name : String) (sup : Option ClassId) : Class where
  name := name
  kind := .ordinary
  loader := none
  accessFlags := 33
  super := sup
  interfaces := #[]
  cf := none
  fields := #[]
  methods := #[]
  instanceTypes := #[]
  staticTypes := #[]
  resolved := #[]
  callSites := []
  init := .initialized
  statics := none
  mirror := none

def pool0 : Array CpInfo := pool [(5, u "<init>"), (0, u "()V"), (1, .class_ 10), (1, u "java/lang/Object")] 113

def k0c0 : Code := { maxStack := 0, maxLocals := 1, code := object_method_1_code, exceptionTable := #[], attributes := #[] }
def k0m0 : Method := { name := "<init>", desc := "()V", sig := { parameters := [], returnType := none }, accessFlags := 1, code := some k0c0 }
/-- java/lang/Object -/
def k0 : Class := { plain "java/lang/Object" none with
  accessFlags := 33
  interfaces := #[]
  cf := some (fileOf pool0 8 #[] #[{ accessFlags := 1, nameIndex := 5, descriptorIndex := 6, attributes := #[] }] 33 0 #[] #[])
  fields := #[]
  methods := #[k0m0]
  instanceTypes := #[]
  staticTypes := #[]
  resolved := Array.replicate 124 none
  statics := none }

def pool1 : Array CpInfo := pool [(2, .class_ 4), (1, u "java/lang/Object"), (0, u "<init>"), (0, u "()V"), (0, .class_ 8), (0, u "com/example/tidy_mailbox/tidymailbox/stream/Watermark"), (0, .methodref 7 10), (0, .nameAndType 5 11), (0, u "(J)V"), (0, .class_ 13), (0, u "com/example/tidy_mailbox/tidymailbox/stream/StreamRecord"), (0, .methodref 15 16), (0, .class_ 17), (0, .nameAndType 18 19), (0, u "java/lang/Long"), (0, u "valueOf"), (0, u "(J)Ljava/lang/Long;"), (0, .methodref 12 21), (0, .nameAndType 5 22), (0, u "(Ljava/lang/Object;J)V"), (0, .methodref 7 24), (0, .nameAndType 25 26), (0, u "equals"), (0, u "(Ljava/lang/Object;)Z"), (0, .class_ 28), (0, u "com/example/tidy_mailbox/tidymailbox/stream/WatermarkEqualsPinLaw"), (2, u "law"), (0, u "(JJI)Z")] 3

def k1m0 : Method := { name := "<init>", desc := "()V", sig := { parameters := [], returnType := none }, accessFlags := 1, code := none }
def k1c1 : Code := { maxStack := 5, maxLocals := 13, code := code, exceptionTable := #[], attributes := #[] }
def k1m1 : Method := { name := "law", desc := "(JJI)Z", sig := { parameters := [.long, .long, .int], returnType := some .boolean }, accessFlags := 9, code := some k1c1 }
/-- com/example/tidy_mailbox/tidymailbox/stream/WatermarkEqualsPinLaw -/
def k1 : Class := { plain "com/example/tidy_mailbox/tidymailbox/stream/WatermarkEqualsPinLaw" (some 0) with
  accessFlags := 49
  interfaces := #[]
  cf := some (fileOf pool1 27 #[] #[{ accessFlags := 1, nameIndex := 5, descriptorIndex := 6, attributes := #[] }, { accessFlags := 9, nameIndex := 31, descriptorIndex := 32, attributes := #[] }] 49 2 #[] #[])
  fields := #[]
  methods := #[k1m0, k1m1]
  instanceTypes := #[]
  staticTypes := #[]
  resolved := Array.replicate 36 none
  statics := none }

def pool2 : Array CpInfo := pool [(1, .class_ 2), (0, u "com/example/tidy_mailbox/tidymailbox/stream/StreamElement"), (0, .class_ 4), (0, u "java/lang/Object")] 11

/-- com/example/tidy_mailbox/tidymailbox/stream/StreamElement -/
def k2 : Class := { plain "com/example/tidy_mailbox/tidymailbox/stream/StreamElement" (some 0) with
  accessFlags := 1537
  interfaces := #[]
  cf := some (fileOf pool2 1 #[] #[] 1537 3 #[] #[])
  fields := #[]
  methods := #[]
  instanceTypes := #[]
  staticTypes := #[]
  resolved := Array.replicate 16 none
  statics := none }

def pool3 : Array CpInfo := pool [(1, .methodref 2 3), (0, .class_ 4), (0, .nameAndType 5 6), (0, u "java/lang/Object"), (0, u "<init>"), (0, u "()V"), (0, .fieldref 8 9), (0, .class_ 10), (0, .nameAndType 11 12), (0, u "com/example/tidy_mailbox/tidymailbox/stream/Watermark"), (0, u "timestamp"), (0, u "J"), (10, .class_ 24), (0, u "com/example/tidy_mailbox/tidymailbox/stream/StreamElement"), (0, u "(J)V"), (4, u "equals"), (0, u "(Ljava/lang/Object;)Z")] 21

def k3c0 : Code := { maxStack := 3, maxLocals := 3, code := prog_33_method_1_code, exceptionTable := #[], attributes := #[] }
def k3m0 : Method := { name := "<init>", desc := "(J)V", sig := { parameters := [.long], returnType := none }, accessFlags := 1, code := some k3c0 }
def k3c1 : Code := { maxStack := 4, maxLocals := 3, code := prog_33_method_3_code, exceptionTable := #[], attributes := #[] }
def k3m1 : Method := { name := "equals", desc := "(Ljava/lang/Object;)Z", sig := { parameters := [(.object "java/lang/Object")], returnType := some .boolean }, accessFlags := 1, code := some k3c1 }
/-- com/example/tidy_mailbox/tidymailbox/stream/Watermark -/
def k3 : Class := { plain "com/example/tidy_mailbox/tidymailbox/stream/Watermark" (some 0) with
  accessFlags := 49
  interfaces := #[2]
  cf := some (fileOf pool3 8 #[] #[{ accessFlags := 1, nameIndex := 5, descriptorIndex := 25, attributes := #[] }, { accessFlags := 1, nameIndex := 30, descriptorIndex := 31, attributes := #[] }] 49 2 #[23] #[{ accessFlags := 18, nameIndex := 11, descriptorIndex := 12, attributes := #[] }])
  fields := #[{ name := "timestamp", type := .long, accessFlags := 18, slot := 0, constantValue := 0 }]
  methods := #[k3m0, k3m1]
  instanceTypes := #[.long]
  staticTypes := #[]
  resolved := Array.replicate 53 none
  statics := none }

def pool4 : Array CpInfo := pool [(1, .class_ 2), (0, u "java/io/Serializable"), (0, .class_ 4), (0, u "java/lang/Object")] 2

/-- java/io/Serializable -/
def k4 : Class := { plain "java/io/Serializable" (some 0) with
  accessFlags := 1537
  interfaces := #[]
  cf := some (fileOf pool4 1 #[] #[] 1537 3 #[] #[])
  fields := #[]
  methods := #[]
  instanceTypes := #[]
  staticTypes := #[]
  resolved := Array.replicate 7 none
  statics := none }

def pool5 : Array CpInfo := pool [(1, .methodref 2 3), (0, .class_ 4), (0, .nameAndType 5 6), (0, u "java/lang/Object"), (0, u "<init>"), (0, u "()V"), (1, .class_ 10), (1, u "java/lang/Number"), (2, .class_ 14), (0, u "java/io/Serializable"), (0, u "serialVersionUID"), (0, u "J")] 20

def k5c0 : Code := { maxStack := 1, maxLocals := 1, code := jdk_18_method_1_code, exceptionTable := #[], attributes := #[] }
def k5m0 : Method := { name := "<init>", desc := "()V", sig := { parameters := [], returnType := none }, accessFlags := 1, code := some k5c0 }
/-- java/lang/Number -/
def k5 : Class := { plain "java/lang/Number" (some 0) with
  accessFlags := 1057
  interfaces := #[4]
  cf := some (fileOf pool5 8 #[] #[{ accessFlags := 1, nameIndex := 5, descriptorIndex := 6, attributes := #[] }] 1057 2 #[13] #[{ accessFlags := 26, nameIndex := 15, descriptorIndex := 16, attributes := #[] }])
  fields := #[{ name := "serialVersionUID", type := .long, accessFlags := 26, slot := 0, constantValue := 0 }]
  methods := #[k5m0]
  instanceTypes := #[]
  staticTypes := #[.long]
  resolved := Array.replicate 37 none
  statics := none }

def pool6 : Array CpInfo := pool [(1, .class_ 2), (0, u "java/lang/Comparable"), (0, .class_ 4), (0, u "java/lang/Object")] 7

/-- java/lang/Comparable -/
def k6 : Class := { plain "java/lang/Comparable" (some 0) with
  accessFlags := 1537
  interfaces := #[]
  cf := some (fileOf pool6 1 #[] #[] 1537 3 #[] #[])
  fields := #[]
  methods := #[]
  instanceTypes := #[]
  staticTypes := #[]
  resolved := Array.replicate 12 none
  statics := none }

def pool7 : Array CpInfo := pool [(1, .class_ 2), (0, u "java/lang/constant/Constable"), (0, .class_ 4), (0, u "java/lang/Object")] 6

/-- java/lang/constant/Constable -/
def k7 : Class := { plain "java/lang/constant/Constable" (some 0) with
  accessFlags := 1537
  interfaces := #[]
  cf := some (fileOf pool7 1 #[] #[] 1537 3 #[] #[])
  fields := #[]
  methods := #[]
  instanceTypes := #[]
  staticTypes := #[]
  resolved := Array.replicate 11 none
  statics := none }

def pool8 : Array CpInfo := pool [(1, .class_ 2), (0, u "java/lang/constant/ConstantDesc"), (0, .class_ 4), (0, u "java/lang/Object")] 32

/-- java/lang/constant/ConstantDesc -/
def k8 : Class := { plain "java/lang/constant/ConstantDesc" (some 0) with
  accessFlags := 1537
  interfaces := #[]
  cf := some (fileOf pool8 1 #[] #[] 1537 3 #[] #[])
  fields := #[]
  methods := #[]
  instanceTypes := #[]
  staticTypes := #[]
  resolved := Array.replicate 37 none
  statics := none }

def pool9 : Array CpInfo := pool [(1, .class_ 2), (0, u "java/lang/Long"), (55, .nameAndType 59 60), (0, u "<init>"), (0, u "()V"), (24, u "valueOf"), (143, u "(J)Ljava/lang/Long;"), (0, .long 18446744073709551488), (1, .long 127), (1, .fieldref 235 236), (0, .class_ 237), (0, .nameAndType 238 239), (0, u "java/lang/Long$LongCache"), (0, u "cache"), (0, u "[Ljava/lang/Long;"), (0, .methodref 1 241), (0, .nameAndType 59 242), (0, u "(J)V"), (27, .methodref 271 58), (0, .class_ 272), (0, u "java/lang/Number"), (0, .fieldref 1 274), (0, .nameAndType 275 276), (0, u "value"), (0, u "J"), (84, u "TYPE"), (0, u "Ljava/lang/Class;"), (0, .class_ 364), (0, u "java/lang/Comparable"), (0, .class_ 366), (0, u "java/lang/constant/Constable"), (0, .class_ 368), (0, u "java/lang/constant/ConstantDesc"), (0, u "MIN_VALUE"), (1, u "MAX_VALUE"), (4, u "SIZE"), (0, u "I"), (1, u "BYTES"), (1, u "serialVersionUID")] 142

def k9c0 : Code := { maxStack := 4, maxLocals := 3, code := jdk_35_method_24_code, exceptionTable := #[], attributes := #[] }
def k9m0 : Method := { name := "valueOf", desc := "(J)Ljava/lang/Long;", sig := { parameters := [.long], returnType := some (.object "java/lang/Long") }, accessFlags := 9, code := some k9c0 }
def k9c1 : Code := { maxStack := 3, maxLocals := 3, code := jdk_35_method_26_code, exceptionTable := #[], attributes := #[] }
def k9m1 : Method := { name := "<init>", desc := "(J)V", sig := { parameters := [.long], returnType := none }, accessFlags := 1, code := some k9c1 }
/-- java/lang/Long -/
def k9 : Class := { plain "java/lang/Long" (some 5) with
  accessFlags := 49
  interfaces := #[6, 7, 8]
  cf := some (fileOf pool9 1 #[.nestMembers #[235]] #[{ accessFlags := 9, nameIndex := 85, descriptorIndex := 229, attributes := #[] }, { accessFlags := 1, nameIndex := 59, descriptorIndex := 242, attributes := #[] }] 49 271 #[363, 365, 367] #[{ accessFlags := 25, nameIndex := 369, descriptorIndex := 276, attributes := #[] }, { accessFlags := 25, nameIndex := 371, descriptorIndex := 276, attributes := #[] }, { accessFlags := 25, nameIndex := 361, descriptorIndex := 362, attributes := #[] }, { accessFlags := 18, nameIndex := 275, descriptorIndex := 276, attributes := #[] }, { accessFlags := 25, nameIndex := 376, descriptorIndex := 377, attributes := #[] }, { accessFlags := 25, nameIndex := 379, descriptorIndex := 377, attributes := #[] }, { accessFlags := 26, nameIndex := 381, descriptorIndex := 276, attributes := #[] }])
  fields := #[{ name := "MIN_VALUE", type := .long, accessFlags := 25, slot := 0, constantValue := 0 }, { name := "MAX_VALUE", type := .long, accessFlags := 25, slot := 1, constantValue := 0 }, { name := "TYPE", type := (.object "java/lang/Class"), accessFlags := 25, slot := 2, constantValue := 0 }, { name := "value", type := .long, accessFlags := 18, slot := 0, constantValue := 0 }, { name := "SIZE", type := .int, accessFlags := 25, slot := 3, constantValue := 0 }, { name := "BYTES", type := .int, accessFlags := 25, slot := 4, constantValue := 0 }, { name := "serialVersionUID", type := .long, accessFlags := 26, slot := 5, constantValue := 0 }]
  methods := #[k9m0, k9m1]
  instanceTypes := #[.long]
  staticTypes := #[.long, .long, (.object "java/lang/Class"), .int, .int, .long]
  resolved := Array.replicate 524 none
  statics := none }

def pool10 : Array CpInfo := pool [(2, .class_ 4), (1, u "java/lang/Object"), (0, u "<init>"), (0, u "()V"), (0, .class_ 8), (0, u "java/lang/Long"), (7, .class_ 18), (1, u "java/lang/Long$LongCache"), (0, u "$assertionsDisabled"), (0, u "Z"), (8, u "archivedCache"), (0, u "[Ljava/lang/Long;"), (7, u "cache")] 24

def k10m0 : Method := { name := "<init>", desc := "()V", sig := { parameters := [], returnType := none }, accessFlags := 2, code := none }
/-- java/lang/Long$LongCache -/
def k10 : Class := { plain "java/lang/Long$LongCache" (some 0) with
  accessFlags := 48
  interfaces := #[]
  cf := some (fileOf pool10 16 #[.nestHost 7] #[{ accessFlags := 2, nameIndex := 5, descriptorIndex := 6, attributes := #[] }] 48 2 #[] #[{ accessFlags := 24, nameIndex := 38, descriptorIndex := 30, attributes := #[] }, { accessFlags := 8, nameIndex := 29, descriptorIndex := 30, attributes := #[] }, { accessFlags := 4120, nameIndex := 19, descriptorIndex := 20, attributes := #[] }])
  fields := #[{ name := "cache", type := (.array (.object "java/lang/Long")), accessFlags := 24, slot := 0, constantValue := 0 }, { name := "archivedCache", type := (.array (.object "java/lang/Long")), accessFlags := 8, slot := 1, constantValue := 0 }, { name := "$assertionsDisabled", type := .boolean, accessFlags := 4120, slot := 2, constantValue := 0 }]
  methods := #[k10m0]
  instanceTypes := #[]
  staticTypes := #[(.array (.object "java/lang/Long")), (.array (.object "java/lang/Long")), .boolean]
  resolved := Array.replicate 63 none
  statics := some 0 }

def pool11 : Array CpInfo := pool [(1, .methodref 2 3), (0, .class_ 4), (0, .nameAndType 5 6), (0, u "java/lang/Object"), (0, u "<init>"), (0, u "()V"), (0, .fieldref 8 9), (0, .class_ 10), (0, .nameAndType 11 12), (0, u "com/example/tidy_mailbox/tidymailbox/stream/StreamRecord"), (0, u "value"), (0, u "Ljava/lang/Object;"), (0, .fieldref 8 14), (0, .nameAndType 15 16), (0, u "timestamp"), (0, u "J"), (25, .class_ 43), (0, u "com/example/tidy_mailbox/tidymailbox/stream/StreamElement"), (2, u "(Ljava/lang/Object;J)V")] 31

def k11c0 : Code := { maxStack := 3, maxLocals := 4, code := prog_32_method_1_code, exceptionTable := #[], attributes := #[] }
def k11m0 : Method := { name := "<init>", desc := "(Ljava/lang/Object;J)V", sig := { parameters := [(.object "java/lang/Object"), .long], returnType := none }, accessFlags := 1, code := some k11c0 }
/-- com/example/tidy_mailbox/tidymailbox/stream/StreamRecord -/
def k11 : Class := { plain "com/example/tidy_mailbox/tidymailbox/stream/StreamRecord" (some 0) with
  accessFlags := 49
  interfaces := #[2]
  cf := some (fileOf pool11 8 #[] #[{ accessFlags := 1, nameIndex := 5, descriptorIndex := 46, attributes := #[] }] 49 2 #[42] #[{ accessFlags := 18, nameIndex := 11, descriptorIndex := 12, attributes := #[] }, { accessFlags := 18, nameIndex := 15, descriptorIndex := 16, attributes := #[] }])
  fields := #[{ name := "value", type := (.object "java/lang/Object"), accessFlags := 18, slot := 0, constantValue := 0 }, { name := "timestamp", type := .long, accessFlags := 18, slot := 1, constantValue := 0 }]
  methods := #[k11m0]
  instanceTypes := #[(.object "java/lang/Object"), .long]
  staticTypes := #[]
  resolved := Array.replicate 78 none
  statics := none }

def pool12 : Array CpInfo := pool [(1, u "java/lang/Cloneable"), (0, .class_ 1), (0, u "java/lang/Object"), (0, .class_ 3)] 3

/-- java/lang/Cloneable -/
def k12 : Class := { plain "java/lang/Cloneable" (some 0) with
  accessFlags := 1537
  interfaces := #[]
  cf := some (fileOf pool12 2 #[] #[] 1537 4 #[] #[])
  fields := #[]
  methods := #[]
  instanceTypes := #[]
  staticTypes := #[]
  resolved := Array.replicate 8 none
  statics := none }

/-- the primitive byte -/
def k13 : Class := { plain "byte" none with kind := .primitive 'B', accessFlags := 0x411 }
/-- [B -/
def k14 : Class := { plain "[B" (some 0) with kind := .array 13 .byte, interfaces := #[12, 4], accessFlags := 1041 }

/-- the primitive int -/
def k15 : Class := { plain "int" none with kind := .primitive 'I', accessFlags := 0x411 }
/-- [I -/
def k16 : Class := { plain "[I" (some 0) with kind := .array 15 .int, interfaces := #[12, 4], accessFlags := 1041 }

/-- [Ljava/lang/Long; -/
def k17 : Class := { plain "[Ljava/lang/Long;" (some 0) with kind := .array 9 (.object "java/lang/Long"), interfaces := #[12, 4], accessFlags := 1041 }

def heap : Heap := #[{ cls := 10, slots := #[.ref 1, .null, .int 0], vm := .statics 10 },
  { cls := 17, slots := #[.ref 2, .ref 3, .ref 4, .ref 5, .ref 6, .ref 7, .ref 8, .ref 9, .ref 10, .ref 11, .ref 12, .ref 13, .ref 14, .ref 15, .ref 16, .ref 17, .ref 18, .ref 19, .ref 20, .ref 21, .ref 22, .ref 23, .ref 24, .ref 25, .ref 26, .ref 27, .ref 28, .ref 29, .ref 30, .ref 31, .ref 32, .ref 33, .ref 34, .ref 35, .ref 36, .ref 37, .ref 38, .ref 39, .ref 40, .ref 41, .ref 42, .ref 43, .ref 44, .ref 45, .ref 46, .ref 47, .ref 48, .ref 49, .ref 50, .ref 51, .ref 52, .ref 53, .ref 54, .ref 55, .ref 56, .ref 57, .ref 58, .ref 59, .ref 60, .ref 61, .ref 62, .ref 63, .ref 64, .ref 65, .ref 66, .ref 67, .ref 68, .ref 69, .ref 70, .ref 71, .ref 72, .ref 73, .ref 74, .ref 75, .ref 76, .ref 77, .ref 78, .ref 79, .ref 80, .ref 81, .ref 82, .ref 83, .ref 84, .ref 85, .ref 86, .ref 87, .ref 88, .ref 89, .ref 90, .ref 91, .ref 92, .ref 93, .ref 94, .ref 95, .ref 96, .ref 97, .ref 98, .ref 99, .ref 100, .ref 101, .ref 102, .ref 103, .ref 104, .ref 105, .ref 106, .ref 107, .ref 108, .ref 109, .ref 110, .ref 111, .ref 112, .ref 113, .ref 114, .ref 115, .ref 116, .ref 117, .ref 118, .ref 119, .ref 120, .ref 121, .ref 122, .ref 123, .ref 124, .ref 125, .ref 126, .ref 127, .ref 128, .ref 129, .ref 130, .ref 131, .ref 132, .ref 133, .ref 134, .ref 135, .ref 136, .ref 137, .ref 138, .ref 139, .ref 140, .ref 141, .ref 142, .ref 143, .ref 144, .ref 145, .ref 146, .ref 147, .ref 148, .ref 149, .ref 150, .ref 151, .ref 152, .ref 153, .ref 154, .ref 155, .ref 156, .ref 157, .ref 158, .ref 159, .ref 160, .ref 161, .ref 162, .ref 163, .ref 164, .ref 165, .ref 166, .ref 167, .ref 168, .ref 169, .ref 170, .ref 171, .ref 172, .ref 173, .ref 174, .ref 175, .ref 176, .ref 177, .ref 178, .ref 179, .ref 180, .ref 181, .ref 182, .ref 183, .ref 184, .ref 185, .ref 186, .ref 187, .ref 188, .ref 189, .ref 190, .ref 191, .ref 192, .ref 193, .ref 194, .ref 195, .ref 196, .ref 197, .ref 198, .ref 199, .ref 200, .ref 201, .ref 202, .ref 203, .ref 204, .ref 205, .ref 206, .ref 207, .ref 208, .ref 209, .ref 210, .ref 211, .ref 212, .ref 213, .ref 214, .ref 215, .ref 216, .ref 217, .ref 218, .ref 219, .ref 220, .ref 221, .ref 222, .ref 223, .ref 224, .ref 225, .ref 226, .ref 227, .ref 228, .ref 229, .ref 230, .ref 231, .ref 232, .ref 233, .ref 234, .ref 235, .ref 236, .ref 237, .ref 238, .ref 239, .ref 240, .ref 241, .ref 242, .ref 243, .ref 244, .ref 245, .ref 246, .ref 247, .ref 248, .ref 249, .ref 250, .ref 251, .ref 252, .ref 253, .ref 254, .ref 255, .ref 256, .ref 257], vm := .none },
  { cls := 9, slots := #[.long (-128)], vm := .none },
  { cls := 9, slots := #[.long (-127)], vm := .none },
  { cls := 9, slots := #[.long (-126)], vm := .none },
  { cls := 9, slots := #[.long (-125)], vm := .none },
  { cls := 9, slots := #[.long (-124)], vm := .none },
  { cls := 9, slots := #[.long (-123)], vm := .none },
  { cls := 9, slots := #[.long (-122)], vm := .none },
  { cls := 9, slots := #[.long (-121)], vm := .none },
  { cls := 9, slots := #[.long (-120)], vm := .none },
  { cls := 9, slots := #[.long (-119)], vm := .none },
  { cls := 9, slots := #[.long (-118)], vm := .none },
  { cls := 9, slots := #[.long (-117)], vm := .none },
  { cls := 9, slots := #[.long (-116)], vm := .none },
  { cls := 9, slots := #[.long (-115)], vm := .none },
  { cls := 9, slots := #[.long (-114)], vm := .none },
  { cls := 9, slots := #[.long (-113)], vm := .none },
  { cls := 9, slots := #[.long (-112)], vm := .none },
  { cls := 9, slots := #[.long (-111)], vm := .none },
  { cls := 9, slots := #[.long (-110)], vm := .none },
  { cls := 9, slots := #[.long (-109)], vm := .none },
  { cls := 9, slots := #[.long (-108)], vm := .none },
  { cls := 9, slots := #[.long (-107)], vm := .none },
  { cls := 9, slots := #[.long (-106)], vm := .none },
  { cls := 9, slots := #[.long (-105)], vm := .none },
  { cls := 9, slots := #[.long (-104)], vm := .none },
  { cls := 9, slots := #[.long (-103)], vm := .none },
  { cls := 9, slots := #[.long (-102)], vm := .none },
  { cls := 9, slots := #[.long (-101)], vm := .none },
  { cls := 9, slots := #[.long (-100)], vm := .none },
  { cls := 9, slots := #[.long (-99)], vm := .none },
  { cls := 9, slots := #[.long (-98)], vm := .none },
  { cls := 9, slots := #[.long (-97)], vm := .none },
  { cls := 9, slots := #[.long (-96)], vm := .none },
  { cls := 9, slots := #[.long (-95)], vm := .none },
  { cls := 9, slots := #[.long (-94)], vm := .none },
  { cls := 9, slots := #[.long (-93)], vm := .none },
  { cls := 9, slots := #[.long (-92)], vm := .none },
  { cls := 9, slots := #[.long (-91)], vm := .none },
  { cls := 9, slots := #[.long (-90)], vm := .none },
  { cls := 9, slots := #[.long (-89)], vm := .none },
  { cls := 9, slots := #[.long (-88)], vm := .none },
  { cls := 9, slots := #[.long (-87)], vm := .none },
  { cls := 9, slots := #[.long (-86)], vm := .none },
  { cls := 9, slots := #[.long (-85)], vm := .none },
  { cls := 9, slots := #[.long (-84)], vm := .none },
  { cls := 9, slots := #[.long (-83)], vm := .none },
  { cls := 9, slots := #[.long (-82)], vm := .none },
  { cls := 9, slots := #[.long (-81)], vm := .none },
  { cls := 9, slots := #[.long (-80)], vm := .none },
  { cls := 9, slots := #[.long (-79)], vm := .none },
  { cls := 9, slots := #[.long (-78)], vm := .none },
  { cls := 9, slots := #[.long (-77)], vm := .none },
  { cls := 9, slots := #[.long (-76)], vm := .none },
  { cls := 9, slots := #[.long (-75)], vm := .none },
  { cls := 9, slots := #[.long (-74)], vm := .none },
  { cls := 9, slots := #[.long (-73)], vm := .none },
  { cls := 9, slots := #[.long (-72)], vm := .none },
  { cls := 9, slots := #[.long (-71)], vm := .none },
  { cls := 9, slots := #[.long (-70)], vm := .none },
  { cls := 9, slots := #[.long (-69)], vm := .none },
  { cls := 9, slots := #[.long (-68)], vm := .none },
  { cls := 9, slots := #[.long (-67)], vm := .none },
  { cls := 9, slots := #[.long (-66)], vm := .none },
  { cls := 9, slots := #[.long (-65)], vm := .none },
  { cls := 9, slots := #[.long (-64)], vm := .none },
  { cls := 9, slots := #[.long (-63)], vm := .none },
  { cls := 9, slots := #[.long (-62)], vm := .none },
  { cls := 9, slots := #[.long (-61)], vm := .none },
  { cls := 9, slots := #[.long (-60)], vm := .none },
  { cls := 9, slots := #[.long (-59)], vm := .none },
  { cls := 9, slots := #[.long (-58)], vm := .none },
  { cls := 9, slots := #[.long (-57)], vm := .none },
  { cls := 9, slots := #[.long (-56)], vm := .none },
  { cls := 9, slots := #[.long (-55)], vm := .none },
  { cls := 9, slots := #[.long (-54)], vm := .none },
  { cls := 9, slots := #[.long (-53)], vm := .none },
  { cls := 9, slots := #[.long (-52)], vm := .none },
  { cls := 9, slots := #[.long (-51)], vm := .none },
  { cls := 9, slots := #[.long (-50)], vm := .none },
  { cls := 9, slots := #[.long (-49)], vm := .none },
  { cls := 9, slots := #[.long (-48)], vm := .none },
  { cls := 9, slots := #[.long (-47)], vm := .none },
  { cls := 9, slots := #[.long (-46)], vm := .none },
  { cls := 9, slots := #[.long (-45)], vm := .none },
  { cls := 9, slots := #[.long (-44)], vm := .none },
  { cls := 9, slots := #[.long (-43)], vm := .none },
  { cls := 9, slots := #[.long (-42)], vm := .none },
  { cls := 9, slots := #[.long (-41)], vm := .none },
  { cls := 9, slots := #[.long (-40)], vm := .none },
  { cls := 9, slots := #[.long (-39)], vm := .none },
  { cls := 9, slots := #[.long (-38)], vm := .none },
  { cls := 9, slots := #[.long (-37)], vm := .none },
  { cls := 9, slots := #[.long (-36)], vm := .none },
  { cls := 9, slots := #[.long (-35)], vm := .none },
  { cls := 9, slots := #[.long (-34)], vm := .none },
  { cls := 9, slots := #[.long (-33)], vm := .none },
  { cls := 9, slots := #[.long (-32)], vm := .none },
  { cls := 9, slots := #[.long (-31)], vm := .none },
  { cls := 9, slots := #[.long (-30)], vm := .none },
  { cls := 9, slots := #[.long (-29)], vm := .none },
  { cls := 9, slots := #[.long (-28)], vm := .none },
  { cls := 9, slots := #[.long (-27)], vm := .none },
  { cls := 9, slots := #[.long (-26)], vm := .none },
  { cls := 9, slots := #[.long (-25)], vm := .none },
  { cls := 9, slots := #[.long (-24)], vm := .none },
  { cls := 9, slots := #[.long (-23)], vm := .none },
  { cls := 9, slots := #[.long (-22)], vm := .none },
  { cls := 9, slots := #[.long (-21)], vm := .none },
  { cls := 9, slots := #[.long (-20)], vm := .none },
  { cls := 9, slots := #[.long (-19)], vm := .none },
  { cls := 9, slots := #[.long (-18)], vm := .none },
  { cls := 9, slots := #[.long (-17)], vm := .none },
  { cls := 9, slots := #[.long (-16)], vm := .none },
  { cls := 9, slots := #[.long (-15)], vm := .none },
  { cls := 9, slots := #[.long (-14)], vm := .none },
  { cls := 9, slots := #[.long (-13)], vm := .none },
  { cls := 9, slots := #[.long (-12)], vm := .none },
  { cls := 9, slots := #[.long (-11)], vm := .none },
  { cls := 9, slots := #[.long (-10)], vm := .none },
  { cls := 9, slots := #[.long (-9)], vm := .none },
  { cls := 9, slots := #[.long (-8)], vm := .none },
  { cls := 9, slots := #[.long (-7)], vm := .none },
  { cls := 9, slots := #[.long (-6)], vm := .none },
  { cls := 9, slots := #[.long (-5)], vm := .none },
  { cls := 9, slots := #[.long (-4)], vm := .none },
  { cls := 9, slots := #[.long (-3)], vm := .none },
  { cls := 9, slots := #[.long (-2)], vm := .none },
  { cls := 9, slots := #[.long (-1)], vm := .none },
  { cls := 9, slots := #[.long 0], vm := .none },
  { cls := 9, slots := #[.long 1], vm := .none },
  { cls := 9, slots := #[.long 2], vm := .none },
  { cls := 9, slots := #[.long 3], vm := .none },
  { cls := 9, slots := #[.long 4], vm := .none },
  { cls := 9, slots := #[.long 5], vm := .none },
  { cls := 9, slots := #[.long 6], vm := .none },
  { cls := 9, slots := #[.long 7], vm := .none },
  { cls := 9, slots := #[.long 8], vm := .none },
  { cls := 9, slots := #[.long 9], vm := .none },
  { cls := 9, slots := #[.long 10], vm := .none },
  { cls := 9, slots := #[.long 11], vm := .none },
  { cls := 9, slots := #[.long 12], vm := .none },
  { cls := 9, slots := #[.long 13], vm := .none },
  { cls := 9, slots := #[.long 14], vm := .none },
  { cls := 9, slots := #[.long 15], vm := .none },
  { cls := 9, slots := #[.long 16], vm := .none },
  { cls := 9, slots := #[.long 17], vm := .none },
  { cls := 9, slots := #[.long 18], vm := .none },
  { cls := 9, slots := #[.long 19], vm := .none },
  { cls := 9, slots := #[.long 20], vm := .none },
  { cls := 9, slots := #[.long 21], vm := .none },
  { cls := 9, slots := #[.long 22], vm := .none },
  { cls := 9, slots := #[.long 23], vm := .none },
  { cls := 9, slots := #[.long 24], vm := .none },
  { cls := 9, slots := #[.long 25], vm := .none },
  { cls := 9, slots := #[.long 26], vm := .none },
  { cls := 9, slots := #[.long 27], vm := .none },
  { cls := 9, slots := #[.long 28], vm := .none },
  { cls := 9, slots := #[.long 29], vm := .none },
  { cls := 9, slots := #[.long 30], vm := .none },
  { cls := 9, slots := #[.long 31], vm := .none },
  { cls := 9, slots := #[.long 32], vm := .none },
  { cls := 9, slots := #[.long 33], vm := .none },
  { cls := 9, slots := #[.long 34], vm := .none },
  { cls := 9, slots := #[.long 35], vm := .none },
  { cls := 9, slots := #[.long 36], vm := .none },
  { cls := 9, slots := #[.long 37], vm := .none },
  { cls := 9, slots := #[.long 38], vm := .none },
  { cls := 9, slots := #[.long 39], vm := .none },
  { cls := 9, slots := #[.long 40], vm := .none },
  { cls := 9, slots := #[.long 41], vm := .none },
  { cls := 9, slots := #[.long 42], vm := .none },
  { cls := 9, slots := #[.long 43], vm := .none },
  { cls := 9, slots := #[.long 44], vm := .none },
  { cls := 9, slots := #[.long 45], vm := .none },
  { cls := 9, slots := #[.long 46], vm := .none },
  { cls := 9, slots := #[.long 47], vm := .none },
  { cls := 9, slots := #[.long 48], vm := .none },
  { cls := 9, slots := #[.long 49], vm := .none },
  { cls := 9, slots := #[.long 50], vm := .none },
  { cls := 9, slots := #[.long 51], vm := .none },
  { cls := 9, slots := #[.long 52], vm := .none },
  { cls := 9, slots := #[.long 53], vm := .none },
  { cls := 9, slots := #[.long 54], vm := .none },
  { cls := 9, slots := #[.long 55], vm := .none },
  { cls := 9, slots := #[.long 56], vm := .none },
  { cls := 9, slots := #[.long 57], vm := .none },
  { cls := 9, slots := #[.long 58], vm := .none },
  { cls := 9, slots := #[.long 59], vm := .none },
  { cls := 9, slots := #[.long 60], vm := .none },
  { cls := 9, slots := #[.long 61], vm := .none },
  { cls := 9, slots := #[.long 62], vm := .none },
  { cls := 9, slots := #[.long 63], vm := .none },
  { cls := 9, slots := #[.long 64], vm := .none },
  { cls := 9, slots := #[.long 65], vm := .none },
  { cls := 9, slots := #[.long 66], vm := .none },
  { cls := 9, slots := #[.long 67], vm := .none },
  { cls := 9, slots := #[.long 68], vm := .none },
  { cls := 9, slots := #[.long 69], vm := .none },
  { cls := 9, slots := #[.long 70], vm := .none },
  { cls := 9, slots := #[.long 71], vm := .none },
  { cls := 9, slots := #[.long 72], vm := .none },
  { cls := 9, slots := #[.long 73], vm := .none },
  { cls := 9, slots := #[.long 74], vm := .none },
  { cls := 9, slots := #[.long 75], vm := .none },
  { cls := 9, slots := #[.long 76], vm := .none },
  { cls := 9, slots := #[.long 77], vm := .none },
  { cls := 9, slots := #[.long 78], vm := .none },
  { cls := 9, slots := #[.long 79], vm := .none },
  { cls := 9, slots := #[.long 80], vm := .none },
  { cls := 9, slots := #[.long 81], vm := .none },
  { cls := 9, slots := #[.long 82], vm := .none },
  { cls := 9, slots := #[.long 83], vm := .none },
  { cls := 9, slots := #[.long 84], vm := .none },
  { cls := 9, slots := #[.long 85], vm := .none },
  { cls := 9, slots := #[.long 86], vm := .none },
  { cls := 9, slots := #[.long 87], vm := .none },
  { cls := 9, slots := #[.long 88], vm := .none },
  { cls := 9, slots := #[.long 89], vm := .none },
  { cls := 9, slots := #[.long 90], vm := .none },
  { cls := 9, slots := #[.long 91], vm := .none },
  { cls := 9, slots := #[.long 92], vm := .none },
  { cls := 9, slots := #[.long 93], vm := .none },
  { cls := 9, slots := #[.long 94], vm := .none },
  { cls := 9, slots := #[.long 95], vm := .none },
  { cls := 9, slots := #[.long 96], vm := .none },
  { cls := 9, slots := #[.long 97], vm := .none },
  { cls := 9, slots := #[.long 98], vm := .none },
  { cls := 9, slots := #[.long 99], vm := .none },
  { cls := 9, slots := #[.long 100], vm := .none },
  { cls := 9, slots := #[.long 101], vm := .none },
  { cls := 9, slots := #[.long 102], vm := .none },
  { cls := 9, slots := #[.long 103], vm := .none },
  { cls := 9, slots := #[.long 104], vm := .none },
  { cls := 9, slots := #[.long 105], vm := .none },
  { cls := 9, slots := #[.long 106], vm := .none },
  { cls := 9, slots := #[.long 107], vm := .none },
  { cls := 9, slots := #[.long 108], vm := .none },
  { cls := 9, slots := #[.long 109], vm := .none },
  { cls := 9, slots := #[.long 110], vm := .none },
  { cls := 9, slots := #[.long 111], vm := .none },
  { cls := 9, slots := #[.long 112], vm := .none },
  { cls := 9, slots := #[.long 113], vm := .none },
  { cls := 9, slots := #[.long 114], vm := .none },
  { cls := 9, slots := #[.long 115], vm := .none },
  { cls := 9, slots := #[.long 116], vm := .none },
  { cls := 9, slots := #[.long 117], vm := .none },
  { cls := 9, slots := #[.long 118], vm := .none },
  { cls := 9, slots := #[.long 119], vm := .none },
  { cls := 9, slots := #[.long 120], vm := .none },
  { cls := 9, slots := #[.long 121], vm := .none },
  { cls := 9, slots := #[.long 122], vm := .none },
  { cls := 9, slots := #[.long 123], vm := .none },
  { cls := 9, slots := #[.long 124], vm := .none },
  { cls := 9, slots := #[.long 125], vm := .none },
  { cls := 9, slots := #[.long 126], vm := .none },
  { cls := 9, slots := #[.long 127], vm := .none }]
def classes : Array Class := #[k0, k1, k2, k3, k4, k5, k6, k7, k8, k9, k10, k11, k12, k13, k14, k15, k16, k17]
def interned : List (Array UInt16 × Addr) := []
def slotsUsed : Nat := 515
def theMethod : MethodId := ⟨1, 1⟩
def args0 : Array Value := #[.long 3, .long 4, .int 7]
def aboutOver (below : List Frame) : State where
  vm := { classes := classes, interned := interned.toArray }
  heap := heap
  slotsUsed := slotsUsed
  threads := #[{ frames := .invoking theMethod args0 :: below }]
def below0 : List Frame := [.native { method := ⟨0, 0⟩, args := #[] }]
def about1 : State := aboutOver below0
def p0 : Program := .bare "" "" ""
def e0 : Env := launch0.env 0 0 0
theorem w_frames : about1.frames = Frame.invoking theMethod args0 :: below0 := rfl
set_option maxRecDepth 65536 in
theorem w_args : argsFit about1.vm theMethod args0 = true := by decide +kernel
set_option maxRecDepth 65536 in
theorem w_heap : heapFits about1 = true := by decide +kernel
set_option maxRecDepth 65536 in
theorem w_runnable : about1.curStatus? = some .runnable := by decide +kernel
set_option maxRecDepth 65536 in
theorem w_alone : about1.alone = true := by decide +kernel
set_option maxRecDepth 65536 in
theorem w_named : about1.methodNamed? x = some theMethod := by decide +kernel
set_option maxRecDepth 65536 in
theorem w_hears : about1.hears theMethod below0 = true := by decide +kernel
set_option maxRecDepth 65536 in
theorem w_ripe : about1.ripe theMethod args0 below0 = true := by decide +kernel
theorem w_running : about1.status = .running := rfl
set_option maxRecDepth 65536 in
theorem w_room : about1.hasRoom e0.platform room_1 = true :=
  launch0.hasRoom_least _ room_1 (by decide +kernel) (by decide +kernel) (by decide +kernel) (by decide +kernel) (by decide +kernel) (by decide +kernel)
theorem allAtoms_all (ts : List Jvm.Cond) (a : Array Jvm.Value) (st : Jvm.State) : (allAtoms ts).before a st = ts.all (fun c => c.before a st) := by
  induction ts with
  | nil => rfl
  | cons c t ih =>
    show (Jvm.Cond.and c (allAtoms t)).before a st = _
    rw [Jvm.Cond.before_and, ih, List.all_cons]
def words1 : List Jvm.Cond := Jvm.Cond.code x code maxLocals ret :: tables_1
/-- a 'code' word, met by the world's own term for the bytes: nothing is compared byte by byte -/
theorem code_word {y : MethodName} {bytes : ByteArray} {mx : Nat} {rt : Option FieldType} {a : Array Value} {s : State} {m : MethodId} {meth : Method} {c : Code} (h1 : s.methodNamed? y = some m) (h2 : s.vm.method? m = some meth) (h3 : meth.code = some c) (h4 : c.code = bytes)
    (h5 : (c.maxLocals == mx && c.exceptionTable.isEmpty && decide (c.maxStack ≤ mostOperands) && decide (meth.sig.returnType = rt) && !meth.locks && decide (parseMethodDescriptor y.desc = some meth.sig)) = true) : (Jvm.Cond.code y bytes mx rt).before a s = true := by
  simp only [Bool.and_eq_true, beq_iff_eq, Bool.not_eq_true', decide_eq_true_eq] at h5
  obtain ⟨⟨⟨⟨⟨g1, g2⟩, g3⟩, g4⟩, g5⟩, g6⟩ := h5
  simp [Cond.before, Cond.holds, Cond.value, h1, h2, h3, h4, g1, g2, g3, g4, g5, g6]
def isCode : Jvm.Cond → Bool
  | .code _ _ _ _ => true
  | _ => false
theorem all_split {L : List Jvm.Cond} {P : Jvm.Cond → Bool} (h1 : L.all (fun c => isCode c || P c) = true) (h2 : ∀ c ∈ L.filter isCode, P c = true) : L.all P = true := by
  refine List.all_eq_true.mpr fun c hc => ?_
  have h := List.all_eq_true.mp h1 c hc
  rcases Bool.eq_false_or_eq_true (isCode c) with hi | hi
  · exact h2 c (List.mem_filter.mpr ⟨hc, hi⟩)
  · simpa [hi] using h
set_option maxRecDepth 65536 in
theorem w_c0 : (Jvm.Cond.code x code maxLocals ret).before args0 about1 = true := code_word (m := ⟨1, 1⟩) (meth := k1m1) (c := k1c1) (by decide +kernel) rfl rfl rfl (by decide +kernel)
set_option maxRecDepth 65536 in
theorem w_c1 : (Jvm.Cond.code ({ cls := "com/example/tidy_mailbox/tidymailbox/stream/Watermark", name := "<init>", desc := "(J)V" } : Jvm.MethodName) prog_33_method_1_code (3 : Nat) (Option.none : Option Jvm.ClassFile.FieldType)).before args0 about1 = true := code_word (m := ⟨3, 0⟩) (meth := k3m0) (c := k3c0) (by decide +kernel) rfl rfl rfl (by decide +kernel)
set_option maxRecDepth 65536 in
theorem w_c2 : (Jvm.Cond.code ({ cls := "java/lang/Object", name := "<init>", desc := "()V" } : Jvm.MethodName) object_method_1_code (1 : Nat) (Option.none : Option Jvm.ClassFile.FieldType)).before args0 about1 = true := code_word (m := ⟨0, 0⟩) (meth := k0m0) (c := k0c0) (by decide +kernel) rfl rfl rfl (by decide +kernel)
set_option maxRecDepth 65536 in
theorem w_c3 : (Jvm.Cond.code ({ cls := "com/example/tidy_mailbox/tidymailbox/stream/Watermark", name := "equals", desc := "(Ljava/lang/Object;)Z" } : Jvm.MethodName) prog_33_method_3_code (3 : Nat) (Option.some Jvm.ClassFile.FieldType.boolean)).before args0 about1 = true := code_word (m := ⟨3, 1⟩) (meth := k3m1) (c := k3c1) (by decide +kernel) rfl rfl rfl (by decide +kernel)
set_option maxRecDepth 65536 in
theorem w_c4 : (Jvm.Cond.code ({ cls := "java/lang/Long", name := "valueOf", desc := "(J)Ljava/lang/Long;" } : Jvm.MethodName) jdk_35_method_24_code (3 : Nat) (Option.some (Jvm.ClassFile.FieldType.object "java/lang/Long"))).before args0 about1 = true := code_word (m := ⟨9, 0⟩) (meth := k9m0) (c := k9c0) (by decide +kernel) rfl rfl rfl (by decide +kernel)
set_option maxRecDepth 65536 in
theorem w_c5 : (Jvm.Cond.code ({ cls := "java/lang/Long", name := "<init>", desc := "(J)V" } : Jvm.MethodName) jdk_35_method_26_code (3 : Nat) (Option.none : Option Jvm.ClassFile.FieldType)).before args0 about1 = true := code_word (m := ⟨9, 1⟩) (meth := k9m1) (c := k9c1) (by decide +kernel) rfl rfl rfl (by decide +kernel)
set_option maxRecDepth 65536 in
theorem w_c6 : (Jvm.Cond.code ({ cls := "java/lang/Number", name := "<init>", desc := "()V" } : Jvm.MethodName) jdk_18_method_1_code (1 : Nat) (Option.none : Option Jvm.ClassFile.FieldType)).before args0 about1 = true := code_word (m := ⟨5, 0⟩) (meth := k5m0) (c := k5c0) (by decide +kernel) rfl rfl rfl (by decide +kernel)
set_option maxRecDepth 65536 in
theorem w_c7 : (Jvm.Cond.code ({ cls := "com/example/tidy_mailbox/tidymailbox/stream/StreamRecord", name := "<init>", desc := "(Ljava/lang/Object;J)V" } : Jvm.MethodName) prog_32_method_1_code (4 : Nat) (Option.none : Option Jvm.ClassFile.FieldType)).before args0 about1 = true := code_word (m := ⟨11, 0⟩) (meth := k11m0) (c := k11c0) (by decide +kernel) rfl rfl rfl (by decide +kernel)
def codes1 : List Jvm.Cond := [Jvm.Cond.code x code maxLocals ret, Jvm.Cond.code ({ cls := "com/example/tidy_mailbox/tidymailbox/stream/Watermark", name := "<init>", desc := "(J)V" } : Jvm.MethodName) prog_33_method_1_code (3 : Nat) (Option.none : Option Jvm.ClassFile.FieldType), Jvm.Cond.code ({ cls := "java/lang/Object", name := "<init>", desc := "()V" } : Jvm.MethodName) object_method_1_code (1 : Nat) (Option.none : Option Jvm.ClassFile.FieldType), Jvm.Cond.code ({ cls := "com/example/tidy_mailbox/tidymailbox/stream/Watermark", name := "equals", desc := "(Ljava/lang/Object;)Z" } : Jvm.MethodName) prog_33_method_3_code (3 : Nat) (Option.some Jvm.ClassFile.FieldType.boolean), Jvm.Cond.code ({ cls := "java/lang/Long", name := "valueOf", desc := "(J)Ljava/lang/Long;" } : Jvm.MethodName) jdk_35_method_24_code (3 : Nat) (Option.some (Jvm.ClassFile.FieldType.object "java/lang/Long")), Jvm.Cond.code ({ cls := "java/lang/Long", name := "<init>", desc := "(J)V" } : Jvm.MethodName) jdk_35_method_26_code (3 : Nat) (Option.none : Option Jvm.ClassFile.FieldType), Jvm.Cond.code ({ cls := "java/lang/Number", name := "<init>", desc := "()V" } : Jvm.MethodName) jdk_18_method_1_code (1 : Nat) (Option.none : Option Jvm.ClassFile.FieldType), Jvm.Cond.code ({ cls := "com/example/tidy_mailbox/tidymailbox/stream/StreamRecord", name := "<init>", desc := "(Ljava/lang/Object;J)V" } : Jvm.MethodName) prog_32_method_1_code (4 : Nat) (Option.none : Option Jvm.ClassFile.FieldType)]
set_option maxRecDepth 65536 in
theorem codes_eq : words1.filter isCode = codes1 := rfl
theorem w_codes : ∀ c ∈ words1.filter isCode, c.before args0 about1 = true := by
  rw [codes_eq]
  intro c hc
  simp only [codes1, List.mem_cons, List.not_mem_nil, or_false] at hc
  rcases hc with rfl | rfl | rfl | rfl | rfl | rfl | rfl | rfl
  · exact w_c0
  · exact w_c1
  · exact w_c2
  · exact w_c3
  · exact w_c4
  · exact w_c5
  · exact w_c6
  · exact w_c7
set_option maxRecDepth 65536 in
theorem w_t1 : (words1.take 24).all (fun c => isCode c || c.before args0 about1) = true := by decide +kernel
set_option maxRecDepth 65536 in
theorem w_t2 : ((words1.drop 24).take 24).all (fun c => isCode c || c.before args0 about1) = true := by decide +kernel
set_option maxRecDepth 65536 in
theorem w_t3 : ((words1.drop 24).drop 24).all (fun c => isCode c || c.before args0 about1) = true := by decide +kernel
theorem w_tables : (allAtoms (Jvm.Cond.code x code maxLocals ret :: tables_1)).before args0 about1 = true := by
  rw [allAtoms_all]
  show words1.all (fun c => c.before args0 about1) = true
  refine all_split ?_ w_codes
  rw [← List.take_append_drop 24 words1, List.all_append, w_t1, ← List.take_append_drop 24 (words1.drop 24), List.all_append, w_t2, w_t3]
  rfl
set_option maxRecDepth 65536 in
theorem w_rest : rest_1_c.before args0 about1 = true := by decide +kernel
set_option maxRecDepth 65536 in
theorem w_case : (Jvm.Cond.and given_1 narrow_1).before args0 about1 = true := by decide +kernel
theorem w_applies : (headSpec (Jvm.Cond.code x code maxLocals ret :: tables_1) room_1).applies x e0.platform about1 = true :=
  (Spec.applies_iff w_frames).mpr ⟨w_running, w_runnable, w_alone, w_named, w_hears, w_ripe, w_room, w_tables⟩
theorem atStart : AtStart classFile x code maxLocals ret World_1 tables_1 room_1 Calls_1 rest_1 Pre_1 launch0 p0 e0 about1 theMethod args0 below0 :=
  ⟨lists_1, trivial, launch0.admits_env _ _ _, launch0.least_env, fairChoices_fair.cas, fairChoices_fair.clock, w_frames, w_args, w_heap, w_applies, trivial, w_rest, w_case⟩
end start1
theorem witness_1 : WitnessClaimed_1 := ⟨start1.p0, start1.e0, start1.about1, start1.theMethod, start1.args0, start1.below0, start1.atStart⟩
end Jvm.Pilot.@@N@@
