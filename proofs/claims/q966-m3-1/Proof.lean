import JvmDerived
import JvmDerived.Pilot.@@N@@Statement
import JvmDerived.Pilot.@@N@@Code
set_option linter.unusedVariables false
set_option linter.unusedSimpArgs false
namespace Jvm.RoadKit
open Sem ClassFile Op Lib Jvm.Stand Jvm.Free Jvm.LawKit
section New
variable {p : Program} {l : Launch} {e : Env} {R : Room} {s : State} {m : MethodId} {args : Array Value} {below : List Frame} {meth : Method} {c : Code} {T : State} {locs : List Loc} {cells slots : Nat}
theorem retI (X : Stand p l e R s m args below meth c T locs cells slots) (hx : p.tables.exec = Jvm.exec) {pc : Nat} {Ls : Array Slot} {z : Int32} {rest : List Value} (hret : meth.sig.returnType = some .int) (hd : decode c.code pc = .ok (.ireturn, 1)) {fs : List Frame}
    (hl : ∀ (f : JFrame) (acts : List Action), f.method = m → f.locked = none → f.entered = [] → (doReturn e (T.setTop f) acts (some (.int z))).1 = T.setFrames fs) : Steps p.tables e below (T.setTop (mkF m pc Ls (.int z :: rest))) (T.setFrames fs) := by
  have hm' : T.vm.method? m = some meth := X.method'
  have hn : narrow .int (.int z) = .int z := rfl
  show Steps p.tables e below (T.setTop { method := m, pc := pc, locals := Ls, stack := _ :: rest, locked := none }) _
  jvm_step X.here [X.here.top, hx, hd, hm', hret, hn]
  first | (intro acts; rw [hl _ acts rfl rfl rfl]) | rw [hl _ _ rfl rfl rfl]
  exact Steps.refl _
end New
end Jvm.RoadKit
namespace Jvm.Pilot.@@N@@
open Jvm Jvm.ClassFile Sem Op Lib Jvm.Free Jvm.Stand Jvm.LawKit Jvm.RoadKit Bundle Jvm.Pilot.@@N@@.Jvm.D
theorem own_irr32 (x : Int32) : ¬ x < x := Int32.lt_irrefl
theorem own_irr64 (x : Int64) : ¬ x < x := Int64.lt_irrefl
theorem own_fldI {args : Array Value} {s : State} {t : Term} {C n d : String} {x : Addr} {k : Int32} (ht : t.eval args s none [] s = some (.ref x)) (h : (Cond.eq (Term.field t C n d) (Term.int k)).value args s none s [] = some true) : Fld s s.heap x C n d (.int k) := Fld.start ((fld_at ht).symm.trans (eqv_i (Term.int_eval k) h))
theorem own_fldJ {args : Array Value} {s : State} {t : Term} {C n d : String} {x : Addr} {k : Int64} (ht : t.eval args s none [] s = some (.ref x)) (h : (Cond.eq (Term.field t C n d) (Term.long k)).value args s none s [] = some true) : Fld s s.heap x C n d (.long k) := Fld.start ((fld_at ht).symm.trans (eqv_l (long_at k) h))
theorem own_len {args : Array Value} {s : State} {t : Term} {x : Addr} {cl : Cell} {ty : FieldType} {k : Int32} (ht : t.eval args s none [] s = some (.ref x)) (A : Arr s s.heap x cl ty) (h : (Cond.eq (Term.length t) (Term.int k)).value args s none s [] = some true) : cl.slots.size.toInt32 = k ∧ cl.slots.size < 2 ^ 31 := by
  have e := eqv_i (Term.int_eval k) h
  have ha := A.fin (Vm.Alike.refl _)
  by_cases q : cl.slots.size < 2 ^ 31
  · have e2 := (len_f ht ha q).symm.trans e
    exact ⟨Value.int.inj (Option.some.inj e2), q⟩
  · simp [Term.eval, ht, ha, q] at e
theorem own_elem {args : Array Value} {s : State} {t u : Term} {x : Addr} {cl : Cell} {ty : FieldType} {k : Int32} {v : Value} (ht : t.eval args s none [] s = some (.ref x)) (A : Arr s s.heap x cl ty) (hu : u.eval args s none [] s = some v) (hv : v.isRef = true) (h : (Cond.eq (Term.elem t (Term.int k)) u).value args s none s [] = some true) : cl.slots[k.toNatClampNeg]? = some v := by
  obtain ⟨a, b, h1, h2, h3, h4⟩ := cmp_v (Or.inl h)
  have hb := Option.some.inj (h2.symm.trans hu)
  subst hb
  obtain ⟨c', e1, e2, e3⟩ := elem_at h1 ht (Term.int_eval k)
  have ec := Option.some.inj (e1.symm.trans A.1)
  subst ec
  have ha : a.isRef = true := by
    rcases ref_cases hv with rfl | ⟨y, rfl⟩
    · exact h4.2
    · exact h4.2
  rw [e3, gotT (eq_R h1 h2 ha hv) h]
def own_KL (h h' : Heap) (ls : List Loc) : Prop := h.size ≤ h'.size ∧ ∀ (x : Addr) (c : Cell), h[x]? = some c → ∃ c' : Cell, h'[x]? = some c' ∧ c'.cls = c.cls ∧ c'.vm = c.vm ∧ c'.slots.size = c.slots.size ∧ ((∀ y ∈ ls, y.base ≠ x) → c' = c) ∧ ∀ i, (⟨x, i⟩ : Loc) ∉ ls → c'.slots[i]? = c.slots[i]?
section OwnKL
variable {Z : State} {h0 h h' : Heap} {ls ls' : List Loc} {a b x : Addr} {i j sl n0 : Nat} {v : Value} {C n d : String}
theorem own_kl0 (h : Heap) (ls : List Loc) : own_KL h h ls := ⟨Nat.le_refl _, fun x c q => ⟨c, q, rfl, rfl, rfl, fun _ => rfl, fun _ _ => rfl⟩⟩
theorem own_klE (K : own_KL h0 h ls) (E : Ext h h') : own_KL h0 h' ls := ⟨Nat.le_trans K.1 E.1, fun x c q => by obtain ⟨c', q', r⟩ := K.2 x c q; exact ⟨c', E.2 x c' q', r⟩⟩
theorem own_klT (K : own_KL h0 h ls) (K' : own_KL h h' ls') (q : ∀ y ∈ ls', y ∈ ls ∨ h0.size ≤ y.base) : own_KL h0 h' ls := by
  refine ⟨Nat.le_trans K.1 K'.1, fun x c hc => ?_⟩
  obtain ⟨c1, a1, a2, a3, a4, a5, a6⟩ := K.2 x c hc
  obtain ⟨c2, b1, b2, b3, b4, b5, b6⟩ := K'.2 x c1 a1
  have hx : x < h0.size := (Array.getElem?_eq_some_iff.mp hc).1
  refine ⟨c2, b1, b2.trans a2, b3.trans a3, b4.trans a4, fun hn => ?_, fun i hi => ?_⟩
  · rw [← a5 hn]; exact b5 fun y hy e => (q y hy).elim (fun z => hn y z e) (fun z => absurd hx (Nat.not_lt.mpr (e ▸ z)))
  · rw [← a6 i hi]; exact b6 i fun z => (q _ z).elim hi (fun u => absurd hx (Nat.not_lt.mpr u))
theorem own_klofW (W : Wr h h' a sl v) : own_KL h h' [⟨a, sl⟩] := by
  refine ⟨Nat.le_of_eq W.size.symm, fun x c hc => ?_⟩
  obtain ⟨c', e1, e2, e3, e4, e5, e6, -⟩ := wr_at W hc
  refine ⟨c', e1, e2, e3, e4, fun hn => e5 fun q => hn _ (List.mem_singleton.mpr rfl) q.symm, fun i hi => ?_⟩
  by_cases q : x = a
  · exact e6 i fun r => hi (by rw [q, r]; exact List.mem_singleton.mpr rfl)
  · rw [e5 q]
theorem own_klW (K : own_KL h0 h ls) (W : Wr h h' a sl v) (q : (⟨a, sl⟩ : Loc) ∈ ls ∨ h0.size ≤ a) : own_KL h0 h' ls := own_klT K (own_klofW W) fun y hy => by cases List.mem_singleton.mp hy; exact q
theorem own_ka0 : ∀ y ∈ ([] : List Loc), y ∈ ls ∨ n0 ≤ y.base := fun _ q => nomatch q
theorem own_kac (q : (⟨a, sl⟩ : Loc) ∈ ls ∨ n0 ≤ a) (r : ∀ y ∈ ls', y ∈ ls ∨ n0 ≤ y.base) : ∀ y ∈ (⟨a, sl⟩ : Loc) :: ls', y ∈ ls ∨ n0 ≤ y.base := fun y z => (List.mem_cons.mp z).elim (fun u => u ▸ q) (r y)
theorem own_ng0 : ∀ y ∈ ([] : List Loc), n0 ≤ y.base := fun _ q => nomatch q
theorem own_ngc (q : n0 ≤ a) (r : ∀ y ∈ ls', n0 ≤ y.base) : ∀ y ∈ (⟨a, sl⟩ : Loc) :: ls', n0 ≤ y.base := fun y z => (List.mem_cons.mp z).elim (fun u => u ▸ q) (r y)
theorem own_nb0 : ∀ y ∈ ([] : List Loc), y.base ≠ a := fun _ q => nomatch q
theorem own_nbc (q : b ≠ a) (r : ∀ y ∈ ls', y.base ≠ a) : ∀ y ∈ (⟨b, sl⟩ : Loc) :: ls', y.base ≠ a := fun y z => (List.mem_cons.mp z).elim (fun u => u ▸ q) (r y)
theorem own_nl0 : (⟨a, i⟩ : Loc) ∉ ([] : List Loc) := fun q => nomatch q
theorem own_nlb (q : a ≠ b) (r : (⟨a, i⟩ : Loc) ∉ ls) : (⟨a, i⟩ : Loc) ∉ (⟨b, j⟩ : Loc) :: ls := fun z => (List.mem_cons.mp z).elim (fun u => q (congrArg Loc.base u)) r
theorem own_nls (q : i ≠ j) (r : (⟨a, i⟩ : Loc) ∉ ls) : (⟨a, i⟩ : Loc) ∉ (⟨b, j⟩ : Loc) :: ls := fun z => (List.mem_cons.mp z).elim (fun u => q (congrArg Loc.slot u)) r
theorem own_exa (F : Exa Z h a C) (K : own_KL h h' ls) : Exa Z h' a C := by
  obtain ⟨cell, k, h1, h2, h3, h4, h5⟩ := F
  obtain ⟨c', e1, e2, e3, e4, -⟩ := K.2 _ _ h1
  exact ⟨c', k, e1, by rw [e2]; exact h2, by rw [e2]; exact h3, by rw [e3]; exact h4, by rw [e4]; exact h5⟩
theorem own_fld (F : Fld Z h a C n d v) (K : own_KL h h' ls) (q : (⟨a, Jvm.RoadKit.slotOf Z C n d⟩ : Loc) ∉ ls) : Fld Z h' a C n d v := by
  obtain ⟨cell, cf, k, i, f, h1, h2, h3, h4, h5, h6, h7⟩ := F
  obtain ⟨c', e1, e2, e3, e4, -, e6⟩ := K.2 _ _ h1
  refine ⟨c', cf, k, i, f, e1, h2, h3, by rw [e3]; exact h4, by rw [e3]; exact h5, by rw [e2]; exact h6, ?_⟩
  rw [e6 _ (by simpa [Jvm.RoadKit.slotOf, h2] using q)]; exact h7
theorem own_arv {k : ClassId} {ty : FieldType} {z : Int32} {vs : List Value} {dv : Value} (F : Arv Z h a k ty z vs dv) (K : own_KL h h' ls) (q : ∀ y ∈ ls, y.base ≠ a) : Arv Z h' a k ty z vs dv := by
  obtain ⟨c, A, r⟩ := F
  obtain ⟨c', e1, -, -, -, e5, -⟩ := K.2 _ _ A.1
  cases e5 q
  exact ⟨c, ⟨e1, A.2⟩, r⟩
theorem own_old (O : Old Z n0 h) (K : own_KL h h' ls) (q : ∀ y ∈ ls, n0 ≤ y.base) : Old Z n0 h' := ⟨O.1, Nat.le_trans O.2.1 K.1, fun x c r => by
  obtain ⟨c', e1, -, -, -, e5, -⟩ := K.2 x c (O.2.2 x c r)
  have hx : x < n0 := O.1 ▸ (Array.getElem?_eq_some_iff.mp r).1
  rw [e1, e5 fun y hy e => absurd hx (Nat.not_lt.mpr (e ▸ q y hy))]⟩
end OwnKL
theorem own_NSroot {Z : State} {a0 : Array Value} {O K : String} {n : Nat} (w : (Cond.noSuperclass O).before a0 Z = true) (wk : (Cond.instantiable K n).before a0 Z = true) (hn : O ≠ K) : NS Z O K := by
  obtain ⟨c, k, h1, h2, h3, -, -⟩ := Cond.noSuperclass_spec w
  obtain ⟨t, -, g1, -⟩ := Cond.instantiable_spec wk
  have ne := ids_ne h1 g1 hn
  refine ⟨c, t, h1, g1, fun fuel => ?_⟩
  cases fuel with
  | zero => rfl
  | succ f => simp [Vm.isSubclassAux, ne, h2, h3]
theorem own_NSno {Z : State} {a0 : Array Value} {C S K : String} {n : Nat} (w : (Cond.superclass C S).before a0 Z = true) (wk : (Cond.instantiable K n).before a0 Z = true) (u : NS Z C K) (hn : C ≠ K) : ∃ c t, Z.vm.findClass C = some c ∧ Z.vm.findClass K = some t ∧ Z.vm.assignable c t = false := by
  obtain ⟨c, t, h0, g0, n3⟩ := u
  obtain ⟨p, k, kp, h1, h2, h3, h4, h5, -, h7⟩ := Cond.superclass_spec h0 w
  obtain ⟨t', k', g1, g2, g5, g7, -⟩ := Cond.instantiable_spec wk
  cases g0.symm.trans g1
  have ne := ids_ne h0 g0 hn
  have g8 : k'.isInterface = false := by cases hI : k'.isInterface <;> simp [hI] at g7 ⊢
  refine ⟨c, t, h0, g0, ?_⟩
  show Z.vm.assignableAux (255 + 1) c t = false
  simp [Vm.assignableAux, ne, h2, g2, h5, g5, g8, Vm.isSubclass, n3]
theorem own_boxI {Z : State} {args : Array Value} {t : Term} {a : Addr} {c : Cell} {K : String} {z : Int32} (et : ∀ idx, t.eval args Z none idx Z = some (.ref a)) (A : Arr Z Z.heap a c (.object K)) (q : c.slots.size.toInt32 = z ∧ c.slots.size < 2 ^ 31) (hz : ¬ z < 0)
    (h : (Cond.all t (.and (.exactly (.elem t (.index 0)) K) (.eq (.field (.elem t (.index 0)) K "value" "I") (.sub (.index 0) (.int 128))))).value args Z none Z [] = some true) : Bxs Z a c K "I" z (fun j => .int (j - 128)) :=
  Bxs.start et A q.2 q.1 hz h fun X j nn hh => eqv_i (by simp [Term.eval, idx_at nn, (back32 nn).1]) hh
theorem own_boxJ {Z : State} {args : Array Value} {t : Term} {a : Addr} {c : Cell} {K : String} {z : Int32} (et : ∀ idx, t.eval args Z none idx Z = some (.ref a)) (A : Arr Z Z.heap a c (.object K)) (q : c.slots.size.toInt32 = z ∧ c.slots.size < 2 ^ 31) (hz : ¬ z < 0)
    (h : (Cond.all t (.and (.exactly (.elem t (.index 0)) K) (.eq (.field (.elem t (.index 0)) K "value" "J") (.op1 .i2l (.sub (.index 0) (.int 128)))))).value args Z none Z [] = some true) : Bxs Z a c K "J" z (fun j => .long (j - 128).toInt64) :=
  Bxs.start et A q.2 q.1 hz h fun X j nn hh => eqv_l (i2l_at (by simp [Term.eval, idx_at nn, (back32 nn).1])) hh
theorem own_staI {s : State} {args : Array Value} {C n d : String} {k : Int32} (h : (Cond.eq (Term.static C n d) (Term.int k)).value args s none s [] = some true) : (Term.static C n d).eval args s none [] s = some (.int k) := eqv_i (Term.int_eval k) h
theorem own_selp {Z : State} {a0 : Array Value} {y : MethodName} {n : Nat} (wi : (Cond.instantiable y.cls n).before a0 Z = true) (wp : (Cond.privateMethod y).before a0 Z = true) (wm : (Cond.instanceMethod y).before a0 Z = true) (hy : y.cls ≠ "java/lang/invoke/MethodHandle" ∧ y.cls ≠ "java/lang/invoke/VarHandle") : (Cond.selects y.cls y y).before a0 Z = true := by
  obtain ⟨c, k, h1, h2, -, h4, -⟩ := Cond.instantiable_spec wi
  exact selects_self_of_private h1 h2 (by cases hI : k.isInterface <;> simp [hI] at h4 ⊢) (Cond.privateMethod_at wp) wm hy
def own_Gk (Z : State) (h : Heap) (a : Addr) (k : ClassId) (ty : FieldType) (n j : Int32) (v : Value) : Prop := ∃ c : Cell, Arr Z h a c ty ∧ c.cls = k ∧ c.slots.size = n.toNatClampNeg ∧ ¬ n < 0 ∧ c.slots[j.toNatClampNeg]? = some v
section OwnGk
variable {Z : State} {h h' : Heap} {ls : List Loc} {a b : Addr} {k : ClassId} {ty : FieldType} {n j : Int32} {v u : Value} {sl : Nat}
theorem own_Gk.lt (F : own_Gk Z h a k ty n j v) : a < h.size := by obtain ⟨c, A, -⟩ := F; exact A.lt
theorem own_gk_ext (F : own_Gk Z h a k ty n j v) (E : Ext h h') : own_Gk Z h' a k ty n j v := by obtain ⟨c, A, r⟩ := F; exact ⟨c, A.ext E, r⟩
theorem own_gk_oth (F : own_Gk Z h a k ty n j v) (W : Wr h h' b sl u) (q : a ≠ b) : own_Gk Z h' a k ty n j v := by obtain ⟨c, A, r⟩ := F; exact ⟨c, A.other W q, r⟩
theorem own_gk_kl (F : own_Gk Z h a k ty n j v) (K : own_KL h h' ls) (q : ∀ y ∈ ls, y.base ≠ a) : own_Gk Z h' a k ty n j v := by
  obtain ⟨c, A, r⟩ := F
  obtain ⟨c', e1, -, -, -, e5, -⟩ := K.2 _ _ A.1
  cases e5 q
  exact ⟨c, ⟨e1, A.2⟩, r⟩
theorem own_gk_set {c : Cell} (A : Arr Z h a c ty) (q1 : c.cls = k) (S : c.slots.size = n.toNatClampNeg) (N : ¬ n < 0) (W : Wr h h' a j.toNatClampNeg v) : own_Gk Z h' a k ty n j v := by
  obtain ⟨c', e1, e2, e3, e4, -, -, e7⟩ := wr_at W A.1
  have e8 := (e7 rfl).1
  exact ⟨_, A.same W, q1, by rw [sz_set]; exact S, N, by rw [← e8]; exact (e7 rfl).2.1⟩
end OwnGk
section OwnSteps
variable {p : Program} {l : Launch} {e : Env} {R : Room} {s : State} {m : MethodId} {args : Array Value} {below : List Frame} {meth : Method} {c : Code} {T target : State} {locs : List Loc} {cells slots : Nat} {code : ByteArray} {pc : Nat} {Ls : Array Slot} {K : List Value}
theorem sc (X : Stand p l e R s m args below meth c T locs cells slots) (hx : p.tables.exec = Jvm.exec) (hby : c.code = code) {i : Int} (hd : decode code pc = .ok (.iconst i, 1)) (hr : Steps p.tables e below (T.setTop (mkF m (pc + 1) Ls (.int (Int32.ofInt i) :: K))) target) : Steps p.tables e below (T.setTop (mkF m pc Ls K)) target := XS.iconst X.here hx rfl (hb hby hd) hr
theorem sa (X : Stand p l e R s m args below meth c T locs cells slots) (hx : p.tables.exec = Jvm.exec) (hby : c.code = code) {k : Nat} {v : Value} (hd : decode code pc = .ok (.aload k, 2)) (hl : Ls[k]? = some (.val v)) (hv : v.isRef = true) (hr : Steps p.tables e below (T.setTop (mkF m (pc + 2) Ls (v :: K))) target) : Steps p.tables e below (T.setTop (mkF m pc Ls K)) target := XS.aload X.here hx rfl (hb hby hd) hl hv hr
theorem sA (X : Stand p l e R s m args below meth c T locs cells slots) (hx : p.tables.exec = Jvm.exec) (hby : c.code = code) {k : Fin 4} {v : Value} (hd : decode code pc = .ok (.aload_n k, 1)) (hl : Ls[k.val]? = some (.val v)) (hv : v.isRef = true) (hr : Steps p.tables e below (T.setTop (mkF m (pc + 1) Ls (v :: K))) target) : Steps p.tables e below (T.setTop (mkF m pc Ls K)) target := XS.aloadN X.here hx rfl (hb hby hd) hl hv hr
theorem si (X : Stand p l e R s m args below meth c T locs cells slots) (hx : p.tables.exec = Jvm.exec) (hby : c.code = code) {k : Nat} {v : Int32} (hd : decode code pc = .ok (.iload k, 2)) (hl : Ls[k]? = some (.val (.int v))) (hr : Steps p.tables e below (T.setTop (mkF m (pc + 2) Ls (.int v :: K))) target) : Steps p.tables e below (T.setTop (mkF m pc Ls K)) target := XS.iload X.here hx rfl (hb hby hd) hl hr
theorem sI (X : Stand p l e R s m args below meth c T locs cells slots) (hx : p.tables.exec = Jvm.exec) (hby : c.code = code) {k : Fin 4} {v : Int32} (hd : decode code pc = .ok (.iload_n k, 1)) (hl : Ls[k.val]? = some (.val (.int v))) (hr : Steps p.tables e below (T.setTop (mkF m (pc + 1) Ls (.int v :: K))) target) : Steps p.tables e below (T.setTop (mkF m pc Ls K)) target := XS.iloadN X.here hx rfl (hb hby hd) hl hr
theorem sL (X : Stand p l e R s m args below meth c T locs cells slots) (hx : p.tables.exec = Jvm.exec) (hby : c.code = code) {k : Fin 4} {v : Int64} (hd : decode code pc = .ok (.lload_n k, 1)) (hl : Ls[k.val]? = some (.val (.long v))) (hr : Steps p.tables e below (T.setTop (mkF m (pc + 1) Ls (.long v :: K))) target) : Steps p.tables e below (T.setTop (mkF m pc Ls K)) target := XS.lloadN X.here hx rfl (hb hby hd) hl hr
theorem sg (X : Stand p l e R s m args below meth c T locs cells slots) (hx : p.tables.exec = Jvm.exec) (hby : c.code = code) {o : Int} {pc' : Nat} (hd : decode code pc = .ok (.goto o, 3)) (ho : 0 ≤ (pc : Int) + o) (hp : ((pc : Int) + o).toNat = pc') (hr : Steps p.tables e below (T.setTop (mkF m pc' Ls K)) target) : Steps p.tables e below (T.setTop (mkF m pc Ls K)) target := XS.goto X.here hx rfl rfl (hb hby hd) ho hp hr
theorem sn (X : Stand p l e R s m args below meth c T locs cells slots) (hx : p.tables.exec = Jvm.exec) (hby : c.code = code) {cd : ClassFile.Cond} {o : Int} {x y : Int32} (hd : decode code pc = .ok (.if_icmp cd o, 3)) (hc : if_icmp.holds cd x y = false) (hr : Steps p.tables e below (T.setTop (mkF m (pc + 3) Ls K)) target) : Steps p.tables e below (T.setTop (mkF m pc Ls (.int y :: .int x :: K))) target := XS.icmpNo X.here hx rfl (hb hby hd) rfl hc hr
theorem sN (X : Stand p l e R s m args below meth c T locs cells slots) (hx : p.tables.exec = Jvm.exec) (hby : c.code = code) {cd : ClassFile.Cond} {o : Int} {x : Int32} (hd : decode code pc = .ok (.ifCond cd o, 3)) (hc : ifCond.holds cd x = false) (hr : Steps p.tables e below (T.setTop (mkF m (pc + 3) Ls K)) target) : Steps p.tables e below (T.setTop (mkF m pc Ls (.int x :: K))) target := XS.ifNo X.here hx rfl (hb hby hd) rfl hc hr
end OwnSteps

theorem own_and3 (x : Int32) : x &&& 3 = 0 ∨ x &&& 3 = 1 ∨ x &&& 3 = 2 ∨ x &&& 3 = 3 := by
  have h : (x &&& 3).toInt = x.toInt % 4 := c_mask x 3 2 (by decide) (by decide)
  have hr : (x &&& 3).toInt = 0 ∨ (x &&& 3).toInt = 1 ∨ (x &&& 3).toInt = 2 ∨ (x &&& 3).toInt = 3 := by omega
  rcases hr with q | q | q | q
  · exact Or.inl (Int32.toInt_inj.mp q)
  · exact Or.inr (Or.inl (Int32.toInt_inj.mp q))
  · exact Or.inr (Or.inr (Or.inl (Int32.toInt_inj.mp q)))
  · exact Or.inr (Or.inr (Or.inr (Int32.toInt_inj.mp q)))
abbrev ym0 : MethodName := ⟨"java/util/AbstractCollection", "<init>", "()V"⟩
abbrev ym1 : MethodName := ⟨"java/util/AbstractList", "<init>", "()V"⟩
abbrev ym2 : MethodName := ⟨"java/util/ArrayList", "<init>", "()V"⟩
abbrev ym3 : MethodName := ⟨"java/lang/Number", "<init>", "()V"⟩
abbrev ym4 : MethodName := ⟨"java/lang/Integer", "<init>", "(I)V"⟩
abbrev ym5 : MethodName := ⟨"java/lang/Integer", "valueOf", "(I)Ljava/lang/Integer;"⟩
abbrev ym6 : MethodName := ⟨"java/lang/Math", "max", "(II)I"⟩
abbrev ym7 : MethodName := ⟨"java/util/ArrayList", "grow", "(I)[Ljava/lang/Object;"⟩
abbrev ym8 : MethodName := ⟨"java/util/ArrayList", "grow", "()[Ljava/lang/Object;"⟩
abbrev ym9 : MethodName := ⟨"java/util/ArrayList", "add", "(Ljava/lang/Object;[Ljava/lang/Object;I)V"⟩
abbrev ym10 : MethodName := ⟨"java/util/ArrayList", "add", "(Ljava/lang/Object;)Z"⟩
abbrev ym11 : MethodName := ⟨"com/example/tidy_mailbox/tidymailbox/stream/StreamRecord", "<init>", "(Ljava/lang/Object;J)V"⟩
abbrev ym12 : MethodName := ⟨"com/example/tidy_mailbox/tidymailbox/async/Entry", "<init>", "()V"⟩
abbrev ym13 : MethodName := ⟨"com/example/tidy_mailbox/tidymailbox/async/RecordEntry", "<init>", "(Lcom/example/tidy_mailbox/tidymailbox/stream/StreamRecord;)V"⟩
abbrev ym14 : MethodName := ⟨"com/example/tidy_mailbox/tidymailbox/async/RecordEntry", "isComplete", "()Z"⟩
abbrev ym15 : MethodName := ⟨"com/example/tidy_mailbox/tidymailbox/async/RecordEntryIsCompletePinLaw", "apply", "(Lcom/example/tidy_mailbox/tidymailbox/async/RecordEntry;ILjava/util/ArrayList;Ljava/util/ArrayList;)V"⟩
abbrev ym16 : MethodName := ⟨"com/example/tidy_mailbox/tidymailbox/async/RecordEntry", "input", "()Lcom/example/tidy_mailbox/tidymailbox/stream/StreamRecord;"⟩
abbrev ym17 : MethodName := ⟨"com/example/tidy_mailbox/tidymailbox/async/RecordEntry", "setResults", "(Ljava/util/List;)V"⟩
theorem wk0 {Z : State} {a0 : Array Value} (hw : ∀ d ∈ tables_1, d.before a0 Z = true) : (Jvm.Cond.classLink "com/example/tidy_mailbox/tidymailbox/async/RecordEntryIsCompletePinLaw" (7 : Nat) "java/util/ArrayList").before a0 Z = true := hw _ (List.mem_of_getElem? (i := 0) rfl)
theorem wk1 {Z : State} {a0 : Array Value} (hw : ∀ d ∈ tables_1, d.before a0 Z = true) : (Jvm.Cond.instantiable "java/util/ArrayList" (3 : Nat)).before a0 Z = true := hw _ (List.mem_of_getElem? (i := 1) rfl)
theorem wk2 {Z : State} {a0 : Array Value} (hw : ∀ d ∈ tables_1, d.before a0 Z = true) : (Jvm.Cond.initialized "java/util/ArrayList").before a0 Z = true := hw _ (List.mem_of_getElem? (i := 2) rfl)
theorem wk3 {Z : State} {a0 : Array Value} (hw : ∀ d ∈ tables_1, d.before a0 Z = true) : (Jvm.Cond.methodLink "com/example/tidy_mailbox/tidymailbox/async/RecordEntryIsCompletePinLaw" (9 : Nat) ({ cls := "java/util/ArrayList", name := "<init>", desc := "()V" } : Jvm.MethodName)).before a0 Z = true := hw _ (List.mem_of_getElem? (i := 3) rfl)
theorem wk4 {Z : State} {a0 : Array Value} (hw : ∀ d ∈ tables_1, d.before a0 Z = true) : (Jvm.Cond.instanceMethod ({ cls := "java/util/ArrayList", name := "<init>", desc := "()V" } : Jvm.MethodName)).before a0 Z = true := hw _ (List.mem_of_getElem? (i := 4) rfl)
theorem wk5 {Z : State} {a0 : Array Value} (hw : ∀ d ∈ tables_1, d.before a0 Z = true) : (Jvm.Cond.code ({ cls := "java/util/ArrayList", name := "<init>", desc := "()V" } : Jvm.MethodName) jdk_38_method_2_code (1 : Nat) (Option.none : Option Jvm.ClassFile.FieldType)).before a0 Z = true := hw _ (List.mem_of_getElem? (i := 5) rfl)
theorem wk6 {Z : State} {a0 : Array Value} (hw : ∀ d ∈ tables_1, d.before a0 Z = true) : (Jvm.Cond.methodLink "java/util/ArrayList" (1 : Nat) ({ cls := "java/util/AbstractList", name := "<init>", desc := "()V" } : Jvm.MethodName)).before a0 Z = true := hw _ (List.mem_of_getElem? (i := 6) rfl)
theorem wk7 {Z : State} {a0 : Array Value} (hw : ∀ d ∈ tables_1, d.before a0 Z = true) : (Jvm.Cond.instanceMethod ({ cls := "java/util/AbstractList", name := "<init>", desc := "()V" } : Jvm.MethodName)).before a0 Z = true := hw _ (List.mem_of_getElem? (i := 7) rfl)
theorem wk10 {Z : State} {a0 : Array Value} (hw : ∀ d ∈ tables_1, d.before a0 Z = true) : (Jvm.Cond.initialized "java/util/AbstractList").before a0 Z = true := hw _ (List.mem_of_getElem? (i := 10) rfl)
theorem wk11 {Z : State} {a0 : Array Value} (hw : ∀ d ∈ tables_1, d.before a0 Z = true) : (Jvm.Cond.code ({ cls := "java/util/AbstractList", name := "<init>", desc := "()V" } : Jvm.MethodName) jdk_39_method_1_code (1 : Nat) (Option.none : Option Jvm.ClassFile.FieldType)).before a0 Z = true := hw _ (List.mem_of_getElem? (i := 11) rfl)
theorem wk12 {Z : State} {a0 : Array Value} (hw : ∀ d ∈ tables_1, d.before a0 Z = true) : (Jvm.Cond.methodLink "java/util/AbstractList" (1 : Nat) ({ cls := "java/util/AbstractCollection", name := "<init>", desc := "()V" } : Jvm.MethodName)).before a0 Z = true := hw _ (List.mem_of_getElem? (i := 12) rfl)
theorem wk13 {Z : State} {a0 : Array Value} (hw : ∀ d ∈ tables_1, d.before a0 Z = true) : (Jvm.Cond.instanceMethod ({ cls := "java/util/AbstractCollection", name := "<init>", desc := "()V" } : Jvm.MethodName)).before a0 Z = true := hw _ (List.mem_of_getElem? (i := 13) rfl)
theorem wk16 {Z : State} {a0 : Array Value} (hw : ∀ d ∈ tables_1, d.before a0 Z = true) : (Jvm.Cond.initialized "java/util/AbstractCollection").before a0 Z = true := hw _ (List.mem_of_getElem? (i := 16) rfl)
theorem wk17 {Z : State} {a0 : Array Value} (hw : ∀ d ∈ tables_1, d.before a0 Z = true) : (Jvm.Cond.code ({ cls := "java/util/AbstractCollection", name := "<init>", desc := "()V" } : Jvm.MethodName) jdk_22_method_1_code (1 : Nat) (Option.none : Option Jvm.ClassFile.FieldType)).before a0 Z = true := hw _ (List.mem_of_getElem? (i := 17) rfl)
theorem wk18 {Z : State} {a0 : Array Value} (hw : ∀ d ∈ tables_1, d.before a0 Z = true) : (Jvm.Cond.methodLink "java/util/AbstractCollection" (1 : Nat) ({ cls := "java/lang/Object", name := "<init>", desc := "()V" } : Jvm.MethodName)).before a0 Z = true := hw _ (List.mem_of_getElem? (i := 18) rfl)
theorem wk19 {Z : State} {a0 : Array Value} (hw : ∀ d ∈ tables_1, d.before a0 Z = true) : (Jvm.Cond.instanceMethod ({ cls := "java/lang/Object", name := "<init>", desc := "()V" } : Jvm.MethodName)).before a0 Z = true := hw _ (List.mem_of_getElem? (i := 19) rfl)
theorem wk20 {Z : State} {a0 : Array Value} (hw : ∀ d ∈ tables_1, d.before a0 Z = true) : (Jvm.Cond.code ({ cls := "java/lang/Object", name := "<init>", desc := "()V" } : Jvm.MethodName) object_method_1_code (1 : Nat) (Option.none : Option Jvm.ClassFile.FieldType)).before a0 Z = true := hw _ (List.mem_of_getElem? (i := 20) rfl)
theorem wk21 {Z : State} {a0 : Array Value} (hw : ∀ d ∈ tables_1, d.before a0 Z = true) : (Jvm.Cond.fieldLink "java/util/AbstractList" (7 : Nat) "java/util/AbstractList" "modCount" "I").before a0 Z = true := hw _ (List.mem_of_getElem? (i := 21) rfl)
theorem wk22 {Z : State} {a0 : Array Value} (hw : ∀ d ∈ tables_1, d.before a0 Z = true) : (Jvm.Cond.lays "java/util/ArrayList" "java/util/AbstractList" "modCount" "I").before a0 Z = true := hw _ (List.mem_of_getElem? (i := 22) rfl)
theorem wk23 {Z : State} {a0 : Array Value} (hw : ∀ d ∈ tables_1, d.before a0 Z = true) : (Jvm.Cond.fieldLink "java/util/ArrayList" (39 : Nat) "java/util/ArrayList" "DEFAULTCAPACITY_EMPTY_ELEMENTDATA" "[Ljava/lang/Object;").before a0 Z = true := hw _ (List.mem_of_getElem? (i := 23) rfl)
theorem wk24 {Z : State} {a0 : Array Value} (hw : ∀ d ∈ tables_1, d.before a0 Z = true) : (Jvm.Cond.fieldLink "java/util/ArrayList" (9 : Nat) "java/util/ArrayList" "elementData" "[Ljava/lang/Object;").before a0 Z = true := hw _ (List.mem_of_getElem? (i := 24) rfl)
theorem wk25 {Z : State} {a0 : Array Value} (hw : ∀ d ∈ tables_1, d.before a0 Z = true) : (Jvm.Cond.lays "java/util/ArrayList" "java/util/ArrayList" "elementData" "[Ljava/lang/Object;").before a0 Z = true := hw _ (List.mem_of_getElem? (i := 25) rfl)
theorem wk26 {Z : State} {a0 : Array Value} (hw : ∀ d ∈ tables_1, d.before a0 Z = true) : (Jvm.Cond.methodLink "com/example/tidy_mailbox/tidymailbox/async/RecordEntryIsCompletePinLaw" (10 : Nat) ({ cls := "java/lang/Integer", name := "valueOf", desc := "(I)Ljava/lang/Integer;" } : Jvm.MethodName)).before a0 Z = true := hw _ (List.mem_of_getElem? (i := 26) rfl)
theorem wk27 {Z : State} {a0 : Array Value} (hw : ∀ d ∈ tables_1, d.before a0 Z = true) : (Jvm.Cond.static ({ cls := "java/lang/Integer", name := "valueOf", desc := "(I)Ljava/lang/Integer;" } : Jvm.MethodName)).before a0 Z = true := hw _ (List.mem_of_getElem? (i := 27) rfl)
theorem wk28 {Z : State} {a0 : Array Value} (hw : ∀ d ∈ tables_1, d.before a0 Z = true) : (Jvm.Cond.initialized "java/lang/Integer").before a0 Z = true := hw _ (List.mem_of_getElem? (i := 28) rfl)
theorem wk29 {Z : State} {a0 : Array Value} (hw : ∀ d ∈ tables_1, d.before a0 Z = true) : (Jvm.Cond.code ({ cls := "java/lang/Integer", name := "valueOf", desc := "(I)Ljava/lang/Integer;" } : Jvm.MethodName) jdk_33_method_22_code (1 : Nat) (Option.some (Jvm.ClassFile.FieldType.object "java/lang/Integer"))).before a0 Z = true := hw _ (List.mem_of_getElem? (i := 29) rfl)
theorem wk30 {Z : State} {a0 : Array Value} (hw : ∀ d ∈ tables_1, d.before a0 Z = true) : (Jvm.Cond.fieldLink "java/lang/Integer" (191 : Nat) "java/lang/Integer$IntegerCache" "high" "I").before a0 Z = true := hw _ (List.mem_of_getElem? (i := 30) rfl)
theorem wk31 {Z : State} {a0 : Array Value} (hw : ∀ d ∈ tables_1, d.before a0 Z = true) : (Jvm.Cond.initialized "java/lang/Integer$IntegerCache").before a0 Z = true := hw _ (List.mem_of_getElem? (i := 31) rfl)
theorem wk32 {Z : State} {a0 : Array Value} (hw : ∀ d ∈ tables_1, d.before a0 Z = true) : (Jvm.Cond.fieldLink "java/lang/Integer" (195 : Nat) "java/lang/Integer$IntegerCache" "cache" "[Ljava/lang/Integer;").before a0 Z = true := hw _ (List.mem_of_getElem? (i := 32) rfl)
theorem wk33 {Z : State} {a0 : Array Value} (hw : ∀ d ∈ tables_1, d.before a0 Z = true) : (Jvm.Cond.methodLink "com/example/tidy_mailbox/tidymailbox/async/RecordEntryIsCompletePinLaw" (16 : Nat) ({ cls := "java/util/ArrayList", name := "add", desc := "(Ljava/lang/Object;)Z" } : Jvm.MethodName)).before a0 Z = true := hw _ (List.mem_of_getElem? (i := 33) rfl)
theorem wk34 {Z : State} {a0 : Array Value} (hw : ∀ d ∈ tables_1, d.before a0 Z = true) : (Jvm.Cond.declares ({ cls := "java/util/ArrayList", name := "add", desc := "(Ljava/lang/Object;)Z" } : Jvm.MethodName)).before a0 Z = true := hw _ (List.mem_of_getElem? (i := 34) rfl)
theorem wk35 {Z : State} {a0 : Array Value} (hw : ∀ d ∈ tables_1, d.before a0 Z = true) : (Jvm.Cond.instanceMethod ({ cls := "java/util/ArrayList", name := "add", desc := "(Ljava/lang/Object;)Z" } : Jvm.MethodName)).before a0 Z = true := hw _ (List.mem_of_getElem? (i := 35) rfl)
theorem wk36 {Z : State} {a0 : Array Value} (hw : ∀ d ∈ tables_1, d.before a0 Z = true) : (Jvm.Cond.selects "java/util/ArrayList" ({ cls := "java/util/ArrayList", name := "add", desc := "(Ljava/lang/Object;)Z" } : Jvm.MethodName) ({ cls := "java/util/ArrayList", name := "add", desc := "(Ljava/lang/Object;)Z" } : Jvm.MethodName)).before a0 Z = true := hw _ (List.mem_of_getElem? (i := 36) rfl)
theorem wk37 {Z : State} {a0 : Array Value} (hw : ∀ d ∈ tables_1, d.before a0 Z = true) : (Jvm.Cond.code ({ cls := "java/util/ArrayList", name := "add", desc := "(Ljava/lang/Object;)Z" } : Jvm.MethodName) jdk_38_method_25_code (2 : Nat) (Option.some Jvm.ClassFile.FieldType.boolean)).before a0 Z = true := hw _ (List.mem_of_getElem? (i := 37) rfl)
theorem wk38 {Z : State} {a0 : Array Value} (hw : ∀ d ∈ tables_1, d.before a0 Z = true) : (Jvm.Cond.fieldLink "java/util/ArrayList" (63 : Nat) "java/util/ArrayList" "modCount" "I").before a0 Z = true := hw _ (List.mem_of_getElem? (i := 38) rfl)
theorem wk39 {Z : State} {a0 : Array Value} (hw : ∀ d ∈ tables_1, d.before a0 Z = true) : (Jvm.Cond.sameField "java/util/ArrayList" "java/util/AbstractList" "modCount" "I").before a0 Z = true := hw _ (List.mem_of_getElem? (i := 39) rfl)
theorem wk40 {Z : State} {a0 : Array Value} (hw : ∀ d ∈ tables_1, d.before a0 Z = true) : (Jvm.Cond.fieldLink "java/util/ArrayList" (48 : Nat) "java/util/ArrayList" "size" "I").before a0 Z = true := hw _ (List.mem_of_getElem? (i := 40) rfl)
theorem wk41 {Z : State} {a0 : Array Value} (hw : ∀ d ∈ tables_1, d.before a0 Z = true) : (Jvm.Cond.lays "java/util/ArrayList" "java/util/ArrayList" "size" "I").before a0 Z = true := hw _ (List.mem_of_getElem? (i := 41) rfl)
theorem wk42 {Z : State} {a0 : Array Value} (hw : ∀ d ∈ tables_1, d.before a0 Z = true) : (Jvm.Cond.methodLink "java/util/ArrayList" (131 : Nat) ({ cls := "java/util/ArrayList", name := "add", desc := "(Ljava/lang/Object;[Ljava/lang/Object;I)V" } : Jvm.MethodName)).before a0 Z = true := hw _ (List.mem_of_getElem? (i := 42) rfl)
theorem wk43 {Z : State} {a0 : Array Value} (hw : ∀ d ∈ tables_1, d.before a0 Z = true) : (Jvm.Cond.instanceMethod ({ cls := "java/util/ArrayList", name := "add", desc := "(Ljava/lang/Object;[Ljava/lang/Object;I)V" } : Jvm.MethodName)).before a0 Z = true := hw _ (List.mem_of_getElem? (i := 43) rfl)
theorem wk44 {Z : State} {a0 : Array Value} (hw : ∀ d ∈ tables_1, d.before a0 Z = true) : (Jvm.Cond.privateMethod ({ cls := "java/util/ArrayList", name := "add", desc := "(Ljava/lang/Object;[Ljava/lang/Object;I)V" } : Jvm.MethodName)).before a0 Z = true := hw _ (List.mem_of_getElem? (i := 44) rfl)
theorem wk45 {Z : State} {a0 : Array Value} (hw : ∀ d ∈ tables_1, d.before a0 Z = true) : (Jvm.Cond.selects "java/util/ArrayList" ({ cls := "java/util/ArrayList", name := "add", desc := "(Ljava/lang/Object;[Ljava/lang/Object;I)V" } : Jvm.MethodName) ({ cls := "java/util/ArrayList", name := "add", desc := "(Ljava/lang/Object;[Ljava/lang/Object;I)V" } : Jvm.MethodName)).before a0 Z = true := hw _ (List.mem_of_getElem? (i := 45) rfl)
theorem wk46 {Z : State} {a0 : Array Value} (hw : ∀ d ∈ tables_1, d.before a0 Z = true) : (Jvm.Cond.code ({ cls := "java/util/ArrayList", name := "add", desc := "(Ljava/lang/Object;[Ljava/lang/Object;I)V" } : Jvm.MethodName) jdk_38_method_24_code (4 : Nat) (Option.none : Option Jvm.ClassFile.FieldType)).before a0 Z = true := hw _ (List.mem_of_getElem? (i := 46) rfl)
theorem wk47 {Z : State} {a0 : Array Value} (hw : ∀ d ∈ tables_1, d.before a0 Z = true) : (Jvm.Cond.methodLink "java/util/ArrayList" (129 : Nat) ({ cls := "java/util/ArrayList", name := "grow", desc := "()[Ljava/lang/Object;" } : Jvm.MethodName)).before a0 Z = true := hw _ (List.mem_of_getElem? (i := 47) rfl)
theorem wk48 {Z : State} {a0 : Array Value} (hw : ∀ d ∈ tables_1, d.before a0 Z = true) : (Jvm.Cond.instanceMethod ({ cls := "java/util/ArrayList", name := "grow", desc := "()[Ljava/lang/Object;" } : Jvm.MethodName)).before a0 Z = true := hw _ (List.mem_of_getElem? (i := 48) rfl)
theorem wk49 {Z : State} {a0 : Array Value} (hw : ∀ d ∈ tables_1, d.before a0 Z = true) : (Jvm.Cond.privateMethod ({ cls := "java/util/ArrayList", name := "grow", desc := "()[Ljava/lang/Object;" } : Jvm.MethodName)).before a0 Z = true := hw _ (List.mem_of_getElem? (i := 49) rfl)
theorem wk50 {Z : State} {a0 : Array Value} (hw : ∀ d ∈ tables_1, d.before a0 Z = true) : (Jvm.Cond.selects "java/util/ArrayList" ({ cls := "java/util/ArrayList", name := "grow", desc := "()[Ljava/lang/Object;" } : Jvm.MethodName) ({ cls := "java/util/ArrayList", name := "grow", desc := "()[Ljava/lang/Object;" } : Jvm.MethodName)).before a0 Z = true := hw _ (List.mem_of_getElem? (i := 50) rfl)
theorem wk51 {Z : State} {a0 : Array Value} (hw : ∀ d ∈ tables_1, d.before a0 Z = true) : (Jvm.Cond.code ({ cls := "java/util/ArrayList", name := "grow", desc := "()[Ljava/lang/Object;" } : Jvm.MethodName) jdk_38_method_7_code (1 : Nat) (Option.some (Jvm.ClassFile.FieldType.array (Jvm.ClassFile.FieldType.object "java/lang/Object")))).before a0 Z = true := hw _ (List.mem_of_getElem? (i := 51) rfl)
theorem wk52 {Z : State} {a0 : Array Value} (hw : ∀ d ∈ tables_1, d.before a0 Z = true) : (Jvm.Cond.methodLink "java/util/ArrayList" (69 : Nat) ({ cls := "java/util/ArrayList", name := "grow", desc := "(I)[Ljava/lang/Object;" } : Jvm.MethodName)).before a0 Z = true := hw _ (List.mem_of_getElem? (i := 52) rfl)
theorem wk53 {Z : State} {a0 : Array Value} (hw : ∀ d ∈ tables_1, d.before a0 Z = true) : (Jvm.Cond.instanceMethod ({ cls := "java/util/ArrayList", name := "grow", desc := "(I)[Ljava/lang/Object;" } : Jvm.MethodName)).before a0 Z = true := hw _ (List.mem_of_getElem? (i := 53) rfl)
theorem wk54 {Z : State} {a0 : Array Value} (hw : ∀ d ∈ tables_1, d.before a0 Z = true) : (Jvm.Cond.privateMethod ({ cls := "java/util/ArrayList", name := "grow", desc := "(I)[Ljava/lang/Object;" } : Jvm.MethodName)).before a0 Z = true := hw _ (List.mem_of_getElem? (i := 54) rfl)
theorem wk55 {Z : State} {a0 : Array Value} (hw : ∀ d ∈ tables_1, d.before a0 Z = true) : (Jvm.Cond.selects "java/util/ArrayList" ({ cls := "java/util/ArrayList", name := "grow", desc := "(I)[Ljava/lang/Object;" } : Jvm.MethodName) ({ cls := "java/util/ArrayList", name := "grow", desc := "(I)[Ljava/lang/Object;" } : Jvm.MethodName)).before a0 Z = true := hw _ (List.mem_of_getElem? (i := 55) rfl)
theorem wk56 {Z : State} {a0 : Array Value} (hw : ∀ d ∈ tables_1, d.before a0 Z = true) : (Jvm.Cond.code ({ cls := "java/util/ArrayList", name := "grow", desc := "(I)[Ljava/lang/Object;" } : Jvm.MethodName) jdk_38_method_6_code (4 : Nat) (Option.some (Jvm.ClassFile.FieldType.array (Jvm.ClassFile.FieldType.object "java/lang/Object")))).before a0 Z = true := hw _ (List.mem_of_getElem? (i := 56) rfl)
theorem wk57 {Z : State} {a0 : Array Value} (hw : ∀ d ∈ tables_1, d.before a0 Z = true) : (Jvm.Cond.methodLink "java/util/ArrayList" (79 : Nat) ({ cls := "java/lang/Math", name := "max", desc := "(II)I" } : Jvm.MethodName)).before a0 Z = true := hw _ (List.mem_of_getElem? (i := 57) rfl)
theorem wk58 {Z : State} {a0 : Array Value} (hw : ∀ d ∈ tables_1, d.before a0 Z = true) : (Jvm.Cond.static ({ cls := "java/lang/Math", name := "max", desc := "(II)I" } : Jvm.MethodName)).before a0 Z = true := hw _ (List.mem_of_getElem? (i := 58) rfl)
theorem wk59 {Z : State} {a0 : Array Value} (hw : ∀ d ∈ tables_1, d.before a0 Z = true) : (Jvm.Cond.initialized "java/lang/Math").before a0 Z = true := hw _ (List.mem_of_getElem? (i := 59) rfl)
theorem wk60 {Z : State} {a0 : Array Value} (hw : ∀ d ∈ tables_1, d.before a0 Z = true) : (Jvm.Cond.code ({ cls := "java/lang/Math", name := "max", desc := "(II)I" } : Jvm.MethodName) jdk_29_method_65_code (2 : Nat) (Option.some Jvm.ClassFile.FieldType.int)).before a0 Z = true := hw _ (List.mem_of_getElem? (i := 60) rfl)
theorem wk61 {Z : State} {a0 : Array Value} (hw : ∀ d ∈ tables_1, d.before a0 Z = true) : (Jvm.Cond.classLink "java/util/ArrayList" (7 : Nat) "java/lang/Object").before a0 Z = true := hw _ (List.mem_of_getElem? (i := 61) rfl)
theorem wk62 {Z : State} {a0 : Array Value} (hw : ∀ d ∈ tables_1, d.before a0 Z = true) : (Jvm.Cond.arrayOver (Jvm.ClassFile.FieldType.object "java/lang/Object")).before a0 Z = true := hw _ (List.mem_of_getElem? (i := 62) rfl)
theorem wk63 {Z : State} {a0 : Array Value} (hw : ∀ d ∈ tables_1, d.before a0 Z = true) : (Jvm.Cond.castable "java/lang/Integer" "java/lang/Object").before a0 Z = true := hw _ (List.mem_of_getElem? (i := 63) rfl)
theorem wk64 {Z : State} {a0 : Array Value} (hw : ∀ d ∈ tables_1, d.before a0 Z = true) : (Jvm.Cond.classLink "com/example/tidy_mailbox/tidymailbox/async/RecordEntryIsCompletePinLaw" (20 : Nat) "com/example/tidy_mailbox/tidymailbox/stream/StreamRecord").before a0 Z = true := hw _ (List.mem_of_getElem? (i := 64) rfl)
theorem wk65 {Z : State} {a0 : Array Value} (hw : ∀ d ∈ tables_1, d.before a0 Z = true) : (Jvm.Cond.instantiable "com/example/tidy_mailbox/tidymailbox/stream/StreamRecord" (2 : Nat)).before a0 Z = true := hw _ (List.mem_of_getElem? (i := 65) rfl)
theorem wk66 {Z : State} {a0 : Array Value} (hw : ∀ d ∈ tables_1, d.before a0 Z = true) : (Jvm.Cond.initialized "com/example/tidy_mailbox/tidymailbox/stream/StreamRecord").before a0 Z = true := hw _ (List.mem_of_getElem? (i := 66) rfl)
theorem wk67 {Z : State} {a0 : Array Value} (hw : ∀ d ∈ tables_1, d.before a0 Z = true) : (Jvm.Cond.methodLink "com/example/tidy_mailbox/tidymailbox/async/RecordEntryIsCompletePinLaw" (22 : Nat) ({ cls := "com/example/tidy_mailbox/tidymailbox/stream/StreamRecord", name := "<init>", desc := "(Ljava/lang/Object;J)V" } : Jvm.MethodName)).before a0 Z = true := hw _ (List.mem_of_getElem? (i := 67) rfl)
theorem wk68 {Z : State} {a0 : Array Value} (hw : ∀ d ∈ tables_1, d.before a0 Z = true) : (Jvm.Cond.instanceMethod ({ cls := "com/example/tidy_mailbox/tidymailbox/stream/StreamRecord", name := "<init>", desc := "(Ljava/lang/Object;J)V" } : Jvm.MethodName)).before a0 Z = true := hw _ (List.mem_of_getElem? (i := 68) rfl)
theorem wk69 {Z : State} {a0 : Array Value} (hw : ∀ d ∈ tables_1, d.before a0 Z = true) : (Jvm.Cond.code ({ cls := "com/example/tidy_mailbox/tidymailbox/stream/StreamRecord", name := "<init>", desc := "(Ljava/lang/Object;J)V" } : Jvm.MethodName) prog_33_method_1_code (4 : Nat) (Option.none : Option Jvm.ClassFile.FieldType)).before a0 Z = true := hw _ (List.mem_of_getElem? (i := 69) rfl)
theorem wk70 {Z : State} {a0 : Array Value} (hw : ∀ d ∈ tables_1, d.before a0 Z = true) : (Jvm.Cond.methodLink "com/example/tidy_mailbox/tidymailbox/stream/StreamRecord" (1 : Nat) ({ cls := "java/lang/Object", name := "<init>", desc := "()V" } : Jvm.MethodName)).before a0 Z = true := hw _ (List.mem_of_getElem? (i := 70) rfl)
theorem wk71 {Z : State} {a0 : Array Value} (hw : ∀ d ∈ tables_1, d.before a0 Z = true) : (Jvm.Cond.fieldLink "com/example/tidy_mailbox/tidymailbox/stream/StreamRecord" (7 : Nat) "com/example/tidy_mailbox/tidymailbox/stream/StreamRecord" "value" "Ljava/lang/Object;").before a0 Z = true := hw _ (List.mem_of_getElem? (i := 71) rfl)
theorem wk72 {Z : State} {a0 : Array Value} (hw : ∀ d ∈ tables_1, d.before a0 Z = true) : (Jvm.Cond.laysFinal "com/example/tidy_mailbox/tidymailbox/stream/StreamRecord" "com/example/tidy_mailbox/tidymailbox/stream/StreamRecord" "value" "Ljava/lang/Object;").before a0 Z = true := hw _ (List.mem_of_getElem? (i := 72) rfl)
theorem wk73 {Z : State} {a0 : Array Value} (hw : ∀ d ∈ tables_1, d.before a0 Z = true) : (Jvm.Cond.fieldLink "com/example/tidy_mailbox/tidymailbox/stream/StreamRecord" (13 : Nat) "com/example/tidy_mailbox/tidymailbox/stream/StreamRecord" "timestamp" "J").before a0 Z = true := hw _ (List.mem_of_getElem? (i := 73) rfl)
theorem wk74 {Z : State} {a0 : Array Value} (hw : ∀ d ∈ tables_1, d.before a0 Z = true) : (Jvm.Cond.laysFinal "com/example/tidy_mailbox/tidymailbox/stream/StreamRecord" "com/example/tidy_mailbox/tidymailbox/stream/StreamRecord" "timestamp" "J").before a0 Z = true := hw _ (List.mem_of_getElem? (i := 74) rfl)
theorem wk75 {Z : State} {a0 : Array Value} (hw : ∀ d ∈ tables_1, d.before a0 Z = true) : (Jvm.Cond.classLink "com/example/tidy_mailbox/tidymailbox/async/RecordEntryIsCompletePinLaw" (25 : Nat) "com/example/tidy_mailbox/tidymailbox/async/RecordEntry").before a0 Z = true := hw _ (List.mem_of_getElem? (i := 75) rfl)
theorem wk76 {Z : State} {a0 : Array Value} (hw : ∀ d ∈ tables_1, d.before a0 Z = true) : (Jvm.Cond.instantiable "com/example/tidy_mailbox/tidymailbox/async/RecordEntry" (2 : Nat)).before a0 Z = true := hw _ (List.mem_of_getElem? (i := 76) rfl)
theorem wk77 {Z : State} {a0 : Array Value} (hw : ∀ d ∈ tables_1, d.before a0 Z = true) : (Jvm.Cond.initialized "com/example/tidy_mailbox/tidymailbox/async/RecordEntry").before a0 Z = true := hw _ (List.mem_of_getElem? (i := 77) rfl)
theorem wk78 {Z : State} {a0 : Array Value} (hw : ∀ d ∈ tables_1, d.before a0 Z = true) : (Jvm.Cond.methodLink "com/example/tidy_mailbox/tidymailbox/async/RecordEntryIsCompletePinLaw" (27 : Nat) ({ cls := "com/example/tidy_mailbox/tidymailbox/async/RecordEntry", name := "<init>", desc := "(Lcom/example/tidy_mailbox/tidymailbox/stream/StreamRecord;)V" } : Jvm.MethodName)).before a0 Z = true := hw _ (List.mem_of_getElem? (i := 78) rfl)
theorem wk79 {Z : State} {a0 : Array Value} (hw : ∀ d ∈ tables_1, d.before a0 Z = true) : (Jvm.Cond.instanceMethod ({ cls := "com/example/tidy_mailbox/tidymailbox/async/RecordEntry", name := "<init>", desc := "(Lcom/example/tidy_mailbox/tidymailbox/stream/StreamRecord;)V" } : Jvm.MethodName)).before a0 Z = true := hw _ (List.mem_of_getElem? (i := 79) rfl)
theorem wk80 {Z : State} {a0 : Array Value} (hw : ∀ d ∈ tables_1, d.before a0 Z = true) : (Jvm.Cond.code ({ cls := "com/example/tidy_mailbox/tidymailbox/async/RecordEntry", name := "<init>", desc := "(Lcom/example/tidy_mailbox/tidymailbox/stream/StreamRecord;)V" } : Jvm.MethodName) prog_13_method_1_code (2 : Nat) (Option.none : Option Jvm.ClassFile.FieldType)).before a0 Z = true := hw _ (List.mem_of_getElem? (i := 80) rfl)
theorem wk81 {Z : State} {a0 : Array Value} (hw : ∀ d ∈ tables_1, d.before a0 Z = true) : (Jvm.Cond.methodLink "com/example/tidy_mailbox/tidymailbox/async/RecordEntry" (1 : Nat) ({ cls := "com/example/tidy_mailbox/tidymailbox/async/Entry", name := "<init>", desc := "()V" } : Jvm.MethodName)).before a0 Z = true := hw _ (List.mem_of_getElem? (i := 81) rfl)
theorem wk82 {Z : State} {a0 : Array Value} (hw : ∀ d ∈ tables_1, d.before a0 Z = true) : (Jvm.Cond.instanceMethod ({ cls := "com/example/tidy_mailbox/tidymailbox/async/Entry", name := "<init>", desc := "()V" } : Jvm.MethodName)).before a0 Z = true := hw _ (List.mem_of_getElem? (i := 82) rfl)
theorem wk84 {Z : State} {a0 : Array Value} (hw : ∀ d ∈ tables_1, d.before a0 Z = true) : (Jvm.Cond.initialized "com/example/tidy_mailbox/tidymailbox/async/Entry").before a0 Z = true := hw _ (List.mem_of_getElem? (i := 84) rfl)
theorem wk85 {Z : State} {a0 : Array Value} (hw : ∀ d ∈ tables_1, d.before a0 Z = true) : (Jvm.Cond.code ({ cls := "com/example/tidy_mailbox/tidymailbox/async/Entry", name := "<init>", desc := "()V" } : Jvm.MethodName) prog_11_method_1_code (1 : Nat) (Option.none : Option Jvm.ClassFile.FieldType)).before a0 Z = true := hw _ (List.mem_of_getElem? (i := 85) rfl)
theorem wk86 {Z : State} {a0 : Array Value} (hw : ∀ d ∈ tables_1, d.before a0 Z = true) : (Jvm.Cond.methodLink "com/example/tidy_mailbox/tidymailbox/async/Entry" (1 : Nat) ({ cls := "java/lang/Object", name := "<init>", desc := "()V" } : Jvm.MethodName)).before a0 Z = true := hw _ (List.mem_of_getElem? (i := 86) rfl)
theorem wk87 {Z : State} {a0 : Array Value} (hw : ∀ d ∈ tables_1, d.before a0 Z = true) : (Jvm.Cond.fieldLink "com/example/tidy_mailbox/tidymailbox/async/RecordEntry" (7 : Nat) "com/example/tidy_mailbox/tidymailbox/async/RecordEntry" "input" "Lcom/example/tidy_mailbox/tidymailbox/stream/StreamRecord;").before a0 Z = true := hw _ (List.mem_of_getElem? (i := 87) rfl)
theorem wk88 {Z : State} {a0 : Array Value} (hw : ∀ d ∈ tables_1, d.before a0 Z = true) : (Jvm.Cond.laysFinal "com/example/tidy_mailbox/tidymailbox/async/RecordEntry" "com/example/tidy_mailbox/tidymailbox/async/RecordEntry" "input" "Lcom/example/tidy_mailbox/tidymailbox/stream/StreamRecord;").before a0 Z = true := hw _ (List.mem_of_getElem? (i := 88) rfl)
theorem wk89 {Z : State} {a0 : Array Value} (hw : ∀ d ∈ tables_1, d.before a0 Z = true) : (Jvm.Cond.methodLink "com/example/tidy_mailbox/tidymailbox/async/RecordEntryIsCompletePinLaw" (30 : Nat) ({ cls := "com/example/tidy_mailbox/tidymailbox/async/RecordEntry", name := "isComplete", desc := "()Z" } : Jvm.MethodName)).before a0 Z = true := hw _ (List.mem_of_getElem? (i := 89) rfl)
theorem wk90 {Z : State} {a0 : Array Value} (hw : ∀ d ∈ tables_1, d.before a0 Z = true) : (Jvm.Cond.declares ({ cls := "com/example/tidy_mailbox/tidymailbox/async/RecordEntry", name := "isComplete", desc := "()Z" } : Jvm.MethodName)).before a0 Z = true := hw _ (List.mem_of_getElem? (i := 90) rfl)
theorem wk91 {Z : State} {a0 : Array Value} (hw : ∀ d ∈ tables_1, d.before a0 Z = true) : (Jvm.Cond.instanceMethod ({ cls := "com/example/tidy_mailbox/tidymailbox/async/RecordEntry", name := "isComplete", desc := "()Z" } : Jvm.MethodName)).before a0 Z = true := hw _ (List.mem_of_getElem? (i := 91) rfl)
theorem wk92 {Z : State} {a0 : Array Value} (hw : ∀ d ∈ tables_1, d.before a0 Z = true) : (Jvm.Cond.selects "com/example/tidy_mailbox/tidymailbox/async/RecordEntry" ({ cls := "com/example/tidy_mailbox/tidymailbox/async/RecordEntry", name := "isComplete", desc := "()Z" } : Jvm.MethodName) ({ cls := "com/example/tidy_mailbox/tidymailbox/async/RecordEntry", name := "isComplete", desc := "()Z" } : Jvm.MethodName)).before a0 Z = true := hw _ (List.mem_of_getElem? (i := 92) rfl)
theorem wk93 {Z : State} {a0 : Array Value} (hw : ∀ d ∈ tables_1, d.before a0 Z = true) : (Jvm.Cond.code ({ cls := "com/example/tidy_mailbox/tidymailbox/async/RecordEntry", name := "isComplete", desc := "()Z" } : Jvm.MethodName) prog_13_method_4_code (1 : Nat) (Option.some Jvm.ClassFile.FieldType.boolean)).before a0 Z = true := hw _ (List.mem_of_getElem? (i := 93) rfl)
theorem wk94 {Z : State} {a0 : Array Value} (hw : ∀ d ∈ tables_1, d.before a0 Z = true) : (Jvm.Cond.fieldLink "com/example/tidy_mailbox/tidymailbox/async/RecordEntry" (13 : Nat) "com/example/tidy_mailbox/tidymailbox/async/RecordEntry" "results" "Ljava/util/List;").before a0 Z = true := hw _ (List.mem_of_getElem? (i := 94) rfl)
theorem wk95 {Z : State} {a0 : Array Value} (hw : ∀ d ∈ tables_1, d.before a0 Z = true) : (Jvm.Cond.lays "com/example/tidy_mailbox/tidymailbox/async/RecordEntry" "com/example/tidy_mailbox/tidymailbox/async/RecordEntry" "results" "Ljava/util/List;").before a0 Z = true := hw _ (List.mem_of_getElem? (i := 95) rfl)
theorem wk96 {Z : State} {a0 : Array Value} (hw : ∀ d ∈ tables_1, d.before a0 Z = true) : (Jvm.Cond.methodLink "com/example/tidy_mailbox/tidymailbox/async/RecordEntryIsCompletePinLaw" (34 : Nat) ({ cls := "com/example/tidy_mailbox/tidymailbox/async/RecordEntryIsCompletePinLaw", name := "apply", desc := "(Lcom/example/tidy_mailbox/tidymailbox/async/RecordEntry;ILjava/util/ArrayList;Ljava/util/ArrayList;)V" } : Jvm.MethodName)).before a0 Z = true := hw _ (List.mem_of_getElem? (i := 96) rfl)
theorem wk97 {Z : State} {a0 : Array Value} (hw : ∀ d ∈ tables_1, d.before a0 Z = true) : (Jvm.Cond.static ({ cls := "com/example/tidy_mailbox/tidymailbox/async/RecordEntryIsCompletePinLaw", name := "apply", desc := "(Lcom/example/tidy_mailbox/tidymailbox/async/RecordEntry;ILjava/util/ArrayList;Ljava/util/ArrayList;)V" } : Jvm.MethodName)).before a0 Z = true := hw _ (List.mem_of_getElem? (i := 97) rfl)
theorem wk98 {Z : State} {a0 : Array Value} (hw : ∀ d ∈ tables_1, d.before a0 Z = true) : (Jvm.Cond.initialized "com/example/tidy_mailbox/tidymailbox/async/RecordEntryIsCompletePinLaw").before a0 Z = true := hw _ (List.mem_of_getElem? (i := 98) rfl)
theorem wk99 {Z : State} {a0 : Array Value} (hw : ∀ d ∈ tables_1, d.before a0 Z = true) : (Jvm.Cond.code ({ cls := "com/example/tidy_mailbox/tidymailbox/async/RecordEntryIsCompletePinLaw", name := "apply", desc := "(Lcom/example/tidy_mailbox/tidymailbox/async/RecordEntry;ILjava/util/ArrayList;Ljava/util/ArrayList;)V" } : Jvm.MethodName) method_3_code (4 : Nat) (Option.none : Option Jvm.ClassFile.FieldType)).before a0 Z = true := hw _ (List.mem_of_getElem? (i := 99) rfl)
theorem wk100 {Z : State} {a0 : Array Value} (hw : ∀ d ∈ tables_1, d.before a0 Z = true) : (Jvm.Cond.methodLink "com/example/tidy_mailbox/tidymailbox/async/RecordEntryIsCompletePinLaw" (44 : Nat) ({ cls := "com/example/tidy_mailbox/tidymailbox/async/RecordEntry", name := "setResults", desc := "(Ljava/util/List;)V" } : Jvm.MethodName)).before a0 Z = true := hw _ (List.mem_of_getElem? (i := 100) rfl)
theorem wk101 {Z : State} {a0 : Array Value} (hw : ∀ d ∈ tables_1, d.before a0 Z = true) : (Jvm.Cond.declares ({ cls := "com/example/tidy_mailbox/tidymailbox/async/RecordEntry", name := "setResults", desc := "(Ljava/util/List;)V" } : Jvm.MethodName)).before a0 Z = true := hw _ (List.mem_of_getElem? (i := 101) rfl)
theorem wk102 {Z : State} {a0 : Array Value} (hw : ∀ d ∈ tables_1, d.before a0 Z = true) : (Jvm.Cond.instanceMethod ({ cls := "com/example/tidy_mailbox/tidymailbox/async/RecordEntry", name := "setResults", desc := "(Ljava/util/List;)V" } : Jvm.MethodName)).before a0 Z = true := hw _ (List.mem_of_getElem? (i := 102) rfl)
theorem wk103 {Z : State} {a0 : Array Value} (hw : ∀ d ∈ tables_1, d.before a0 Z = true) : (Jvm.Cond.selects "com/example/tidy_mailbox/tidymailbox/async/RecordEntry" ({ cls := "com/example/tidy_mailbox/tidymailbox/async/RecordEntry", name := "setResults", desc := "(Ljava/util/List;)V" } : Jvm.MethodName) ({ cls := "com/example/tidy_mailbox/tidymailbox/async/RecordEntry", name := "setResults", desc := "(Ljava/util/List;)V" } : Jvm.MethodName)).before a0 Z = true := hw _ (List.mem_of_getElem? (i := 103) rfl)
theorem wk104 {Z : State} {a0 : Array Value} (hw : ∀ d ∈ tables_1, d.before a0 Z = true) : (Jvm.Cond.code ({ cls := "com/example/tidy_mailbox/tidymailbox/async/RecordEntry", name := "setResults", desc := "(Ljava/util/List;)V" } : Jvm.MethodName) prog_13_method_3_code (2 : Nat) (Option.none : Option Jvm.ClassFile.FieldType)).before a0 Z = true := hw _ (List.mem_of_getElem? (i := 104) rfl)
theorem wk105 {Z : State} {a0 : Array Value} (hw : ∀ d ∈ tables_1, d.before a0 Z = true) : (Jvm.Cond.methodLink "com/example/tidy_mailbox/tidymailbox/async/RecordEntryIsCompletePinLaw" (40 : Nat) ({ cls := "com/example/tidy_mailbox/tidymailbox/async/RecordEntry", name := "input", desc := "()Lcom/example/tidy_mailbox/tidymailbox/stream/StreamRecord;" } : Jvm.MethodName)).before a0 Z = true := hw _ (List.mem_of_getElem? (i := 105) rfl)
theorem wk106 {Z : State} {a0 : Array Value} (hw : ∀ d ∈ tables_1, d.before a0 Z = true) : (Jvm.Cond.declares ({ cls := "com/example/tidy_mailbox/tidymailbox/async/RecordEntry", name := "input", desc := "()Lcom/example/tidy_mailbox/tidymailbox/stream/StreamRecord;" } : Jvm.MethodName)).before a0 Z = true := hw _ (List.mem_of_getElem? (i := 106) rfl)
theorem wk107 {Z : State} {a0 : Array Value} (hw : ∀ d ∈ tables_1, d.before a0 Z = true) : (Jvm.Cond.instanceMethod ({ cls := "com/example/tidy_mailbox/tidymailbox/async/RecordEntry", name := "input", desc := "()Lcom/example/tidy_mailbox/tidymailbox/stream/StreamRecord;" } : Jvm.MethodName)).before a0 Z = true := hw _ (List.mem_of_getElem? (i := 107) rfl)
theorem wk108 {Z : State} {a0 : Array Value} (hw : ∀ d ∈ tables_1, d.before a0 Z = true) : (Jvm.Cond.selects "com/example/tidy_mailbox/tidymailbox/async/RecordEntry" ({ cls := "com/example/tidy_mailbox/tidymailbox/async/RecordEntry", name := "input", desc := "()Lcom/example/tidy_mailbox/tidymailbox/stream/StreamRecord;" } : Jvm.MethodName) ({ cls := "com/example/tidy_mailbox/tidymailbox/async/RecordEntry", name := "input", desc := "()Lcom/example/tidy_mailbox/tidymailbox/stream/StreamRecord;" } : Jvm.MethodName)).before a0 Z = true := hw _ (List.mem_of_getElem? (i := 108) rfl)
theorem wk109 {Z : State} {a0 : Array Value} (hw : ∀ d ∈ tables_1, d.before a0 Z = true) : (Jvm.Cond.code ({ cls := "com/example/tidy_mailbox/tidymailbox/async/RecordEntry", name := "input", desc := "()Lcom/example/tidy_mailbox/tidymailbox/stream/StreamRecord;" } : Jvm.MethodName) prog_13_method_2_code (1 : Nat) (Option.some (Jvm.ClassFile.FieldType.object "com/example/tidy_mailbox/tidymailbox/stream/StreamRecord"))).before a0 Z = true := hw _ (List.mem_of_getElem? (i := 109) rfl)
theorem wk110 {Z : State} {a0 : Array Value} (hw : ∀ d ∈ tables_1, d.before a0 Z = true) : (Jvm.Cond.classLink "java/lang/Integer" (1 : Nat) "java/lang/Integer").before a0 Z = true := hw _ (List.mem_of_getElem? (i := 110) rfl)
theorem wk111 {Z : State} {a0 : Array Value} (hw : ∀ d ∈ tables_1, d.before a0 Z = true) : (Jvm.Cond.instantiable "java/lang/Integer" (1 : Nat)).before a0 Z = true := hw _ (List.mem_of_getElem? (i := 111) rfl)
theorem wk112 {Z : State} {a0 : Array Value} (hw : ∀ d ∈ tables_1, d.before a0 Z = true) : (Jvm.Cond.methodLink "java/lang/Integer" (199 : Nat) ({ cls := "java/lang/Integer", name := "<init>", desc := "(I)V" } : Jvm.MethodName)).before a0 Z = true := hw _ (List.mem_of_getElem? (i := 112) rfl)
theorem wk113 {Z : State} {a0 : Array Value} (hw : ∀ d ∈ tables_1, d.before a0 Z = true) : (Jvm.Cond.instanceMethod ({ cls := "java/lang/Integer", name := "<init>", desc := "(I)V" } : Jvm.MethodName)).before a0 Z = true := hw _ (List.mem_of_getElem? (i := 113) rfl)
theorem wk115 {Z : State} {a0 : Array Value} (hw : ∀ d ∈ tables_1, d.before a0 Z = true) : (Jvm.Cond.code ({ cls := "java/lang/Integer", name := "<init>", desc := "(I)V" } : Jvm.MethodName) jdk_33_method_23_code (2 : Nat) (Option.none : Option Jvm.ClassFile.FieldType)).before a0 Z = true := hw _ (List.mem_of_getElem? (i := 115) rfl)
theorem wk116 {Z : State} {a0 : Array Value} (hw : ∀ d ∈ tables_1, d.before a0 Z = true) : (Jvm.Cond.methodLink "java/lang/Integer" (202 : Nat) ({ cls := "java/lang/Number", name := "<init>", desc := "()V" } : Jvm.MethodName)).before a0 Z = true := hw _ (List.mem_of_getElem? (i := 116) rfl)
theorem wk117 {Z : State} {a0 : Array Value} (hw : ∀ d ∈ tables_1, d.before a0 Z = true) : (Jvm.Cond.instanceMethod ({ cls := "java/lang/Number", name := "<init>", desc := "()V" } : Jvm.MethodName)).before a0 Z = true := hw _ (List.mem_of_getElem? (i := 117) rfl)
theorem wk120 {Z : State} {a0 : Array Value} (hw : ∀ d ∈ tables_1, d.before a0 Z = true) : (Jvm.Cond.initialized "java/lang/Number").before a0 Z = true := hw _ (List.mem_of_getElem? (i := 120) rfl)
theorem wk121 {Z : State} {a0 : Array Value} (hw : ∀ d ∈ tables_1, d.before a0 Z = true) : (Jvm.Cond.code ({ cls := "java/lang/Number", name := "<init>", desc := "()V" } : Jvm.MethodName) jdk_18_method_1_code (1 : Nat) (Option.none : Option Jvm.ClassFile.FieldType)).before a0 Z = true := hw _ (List.mem_of_getElem? (i := 121) rfl)
theorem wk122 {Z : State} {a0 : Array Value} (hw : ∀ d ∈ tables_1, d.before a0 Z = true) : (Jvm.Cond.methodLink "java/lang/Number" (1 : Nat) ({ cls := "java/lang/Object", name := "<init>", desc := "()V" } : Jvm.MethodName)).before a0 Z = true := hw _ (List.mem_of_getElem? (i := 122) rfl)
theorem wk123 {Z : State} {a0 : Array Value} (hw : ∀ d ∈ tables_1, d.before a0 Z = true) : (Jvm.Cond.fieldLink "java/lang/Integer" (205 : Nat) "java/lang/Integer" "value" "I").before a0 Z = true := hw _ (List.mem_of_getElem? (i := 123) rfl)
theorem wk124 {Z : State} {a0 : Array Value} (hw : ∀ d ∈ tables_1, d.before a0 Z = true) : (Jvm.Cond.laysFinal "java/lang/Integer" "java/lang/Integer" "value" "I").before a0 Z = true := hw _ (List.mem_of_getElem? (i := 124) rfl)
theorem sn0 {Z : State} {a0 : Array Value} (hw : ∀ d ∈ tables_1, d.before a0 Z = true) : Jvm.RoadKit.slotOf Z "java/util/ArrayList" "elementData" "[Ljava/lang/Object;" ≠ Jvm.RoadKit.slotOf Z "java/util/AbstractList" "modCount" "I" := slot_ne (Or.inl (wk25 hw)) (Or.inl (wk22 hw)) (by decide) (t := (.array (.object "java/lang/Object"))) (t' := .int) (by decide) (by decide)
theorem sn1 {Z : State} {a0 : Array Value} (hw : ∀ d ∈ tables_1, d.before a0 Z = true) : Jvm.RoadKit.slotOf Z "java/util/AbstractList" "modCount" "I" ≠ Jvm.RoadKit.slotOf Z "java/util/ArrayList" "elementData" "[Ljava/lang/Object;" := slot_ne (Or.inl (wk22 hw)) (Or.inl (wk25 hw)) (by decide) (t := .int) (t' := (.array (.object "java/lang/Object"))) (by decide) (by decide)
theorem sn2 {Z : State} {a0 : Array Value} (hw : ∀ d ∈ tables_1, d.before a0 Z = true) : Jvm.RoadKit.slotOf Z "java/util/ArrayList" "size" "I" ≠ Jvm.RoadKit.slotOf Z "java/util/AbstractList" "modCount" "I" := slot_ne (Or.inl (wk41 hw)) (Or.inl (wk22 hw)) (by decide) (t := .int) (t' := .int) (by decide) (by decide)
theorem sn3 {Z : State} {a0 : Array Value} (hw : ∀ d ∈ tables_1, d.before a0 Z = true) : Jvm.RoadKit.slotOf Z "java/util/ArrayList" "size" "I" ≠ Jvm.RoadKit.slotOf Z "java/util/ArrayList" "elementData" "[Ljava/lang/Object;" := slot_ne (Or.inl (wk41 hw)) (Or.inl (wk25 hw)) (by decide) (t := .int) (t' := (.array (.object "java/lang/Object"))) (by decide) (by decide)
theorem sn4 {Z : State} {a0 : Array Value} (hw : ∀ d ∈ tables_1, d.before a0 Z = true) : Jvm.RoadKit.slotOf Z "java/util/ArrayList" "elementData" "[Ljava/lang/Object;" ≠ Jvm.RoadKit.slotOf Z "java/util/ArrayList" "size" "I" := slot_ne (Or.inl (wk25 hw)) (Or.inl (wk41 hw)) (by decide) (t := (.array (.object "java/lang/Object"))) (t' := .int) (by decide) (by decide)
theorem sn5 {Z : State} {a0 : Array Value} (hw : ∀ d ∈ tables_1, d.before a0 Z = true) : Jvm.RoadKit.slotOf Z "java/util/AbstractList" "modCount" "I" ≠ Jvm.RoadKit.slotOf Z "java/util/ArrayList" "size" "I" := slot_ne (Or.inl (wk22 hw)) (Or.inl (wk41 hw)) (by decide) (t := .int) (t' := .int) (by decide) (by decide)
theorem sn6 {Z : State} {a0 : Array Value} (hw : ∀ d ∈ tables_1, d.before a0 Z = true) : Jvm.RoadKit.slotOf Z "com/example/tidy_mailbox/tidymailbox/stream/StreamRecord" "timestamp" "J" ≠ Jvm.RoadKit.slotOf Z "com/example/tidy_mailbox/tidymailbox/stream/StreamRecord" "value" "Ljava/lang/Object;" := slot_ne (Or.inr (wk74 hw)) (Or.inr (wk72 hw)) (by decide) (t := .long) (t' := (.object "java/lang/Object")) (by decide) (by decide)
theorem sn7 {Z : State} {a0 : Array Value} (hw : ∀ d ∈ tables_1, d.before a0 Z = true) : Jvm.RoadKit.slotOf Z "com/example/tidy_mailbox/tidymailbox/stream/StreamRecord" "value" "Ljava/lang/Object;" ≠ Jvm.RoadKit.slotOf Z "com/example/tidy_mailbox/tidymailbox/stream/StreamRecord" "timestamp" "J" := slot_ne (Or.inr (wk72 hw)) (Or.inr (wk74 hw)) (by decide) (t := (.object "java/lang/Object")) (t' := .long) (by decide) (by decide)
theorem sn8 {Z : State} {a0 : Array Value} (hw : ∀ d ∈ tables_1, d.before a0 Z = true) : Jvm.RoadKit.slotOf Z "com/example/tidy_mailbox/tidymailbox/async/RecordEntry" "results" "Ljava/util/List;" ≠ Jvm.RoadKit.slotOf Z "com/example/tidy_mailbox/tidymailbox/async/RecordEntry" "input" "Lcom/example/tidy_mailbox/tidymailbox/stream/StreamRecord;" := slot_ne (Or.inl (wk95 hw)) (Or.inr (wk88 hw)) (by decide) (t := (.object "java/util/List")) (t' := (.object "com/example/tidy_mailbox/tidymailbox/stream/StreamRecord")) (by decide) (by decide)
theorem sn9 {Z : State} {a0 : Array Value} (hw : ∀ d ∈ tables_1, d.before a0 Z = true) : Jvm.RoadKit.slotOf Z "com/example/tidy_mailbox/tidymailbox/async/RecordEntry" "input" "Lcom/example/tidy_mailbox/tidymailbox/stream/StreamRecord;" ≠ Jvm.RoadKit.slotOf Z "com/example/tidy_mailbox/tidymailbox/async/RecordEntry" "results" "Ljava/util/List;" := slot_ne (Or.inr (wk88 hw)) (Or.inl (wk95 hw)) (by decide) (t := (.object "com/example/tidy_mailbox/tidymailbox/stream/StreamRecord")) (t' := (.object "java/util/List")) (by decide) (by decide)
def Wd (Z : State) (w : Nat → Addr) : Prop := Sta Z Z.heap "java/util/ArrayList" "EMPTY_ELEMENTDATA" "[Ljava/lang/Object;" (.ref (w 0)) ∧ Sta Z Z.heap "java/util/ArrayList" "DEFAULTCAPACITY_EMPTY_ELEMENTDATA" "[Ljava/lang/Object;" (.ref (w 1)) ∧ Sta Z Z.heap "java/lang/Integer$IntegerCache" "high" "I" (.int (127 : Int32)) ∧ Sta Z Z.heap "java/lang/Integer$IntegerCache" "cache" "[Ljava/lang/Integer;" (.ref (w 2)) ∧ Exa Z Z.heap (w 0) "[Ljava/lang/Object;" ∧ Arv Z Z.heap (w 0) (w 3) (.object "java/lang/Object") (0 : Int32) [] .null ∧ Exa Z Z.heap (w 1) "[Ljava/lang/Object;" ∧ Arv Z Z.heap (w 1) (w 4) (.object "java/lang/Object") (0 : Int32) [] .null ∧ Exa Z Z.heap (w 2) "[Ljava/lang/Integer;" ∧ (∃ c, Bxs Z (w 2) c "java/lang/Integer" "I" (256 : Int32) (fun j => .int (j - 128))) ∧ True
theorem wd0 {Z : State} {w : Nat → Addr} (hW : Wd Z w) : Sta Z Z.heap "java/util/ArrayList" "EMPTY_ELEMENTDATA" "[Ljava/lang/Object;" (.ref (w 0)) := hW.1
theorem wd1 {Z : State} {w : Nat → Addr} (hW : Wd Z w) : Sta Z Z.heap "java/util/ArrayList" "DEFAULTCAPACITY_EMPTY_ELEMENTDATA" "[Ljava/lang/Object;" (.ref (w 1)) := hW.2.1
theorem wd2 {Z : State} {w : Nat → Addr} (hW : Wd Z w) : Sta Z Z.heap "java/lang/Integer$IntegerCache" "high" "I" (.int (127 : Int32)) := hW.2.2.1
theorem wd3 {Z : State} {w : Nat → Addr} (hW : Wd Z w) : Sta Z Z.heap "java/lang/Integer$IntegerCache" "cache" "[Ljava/lang/Integer;" (.ref (w 2)) := hW.2.2.2.1
theorem wd4 {Z : State} {w : Nat → Addr} (hW : Wd Z w) : Exa Z Z.heap (w 0) "[Ljava/lang/Object;" := hW.2.2.2.2.1
theorem wd5 {Z : State} {w : Nat → Addr} (hW : Wd Z w) : Arv Z Z.heap (w 0) (w 3) (.object "java/lang/Object") (0 : Int32) [] .null := hW.2.2.2.2.2.1
theorem wd6 {Z : State} {w : Nat → Addr} (hW : Wd Z w) : Exa Z Z.heap (w 1) "[Ljava/lang/Object;" := hW.2.2.2.2.2.2.1
theorem wd7 {Z : State} {w : Nat → Addr} (hW : Wd Z w) : Arv Z Z.heap (w 1) (w 4) (.object "java/lang/Object") (0 : Int32) [] .null := hW.2.2.2.2.2.2.2.1
theorem wd8 {Z : State} {w : Nat → Addr} (hW : Wd Z w) : Exa Z Z.heap (w 2) "[Ljava/lang/Integer;" := hW.2.2.2.2.2.2.2.2.1
theorem wd9 {Z : State} {w : Nat → Addr} (hW : Wd Z w) : (∃ c, Bxs Z (w 2) c "java/lang/Integer" "I" (256 : Int32) (fun j => .int (j - 128))) := hW.2.2.2.2.2.2.2.2.2.1
theorem d1_0 : decode jdk_38_method_2_code 0 = .ok (.aload_n 0, 1) := by decide +kernel
theorem d1_1 : decode jdk_38_method_2_code 1 = .ok (.invokespecial 1, 3) := by decide +kernel
theorem d2_0 : decode jdk_39_method_1_code 0 = .ok (.aload_n 0, 1) := by decide +kernel
theorem d2_1 : decode jdk_39_method_1_code 1 = .ok (.invokespecial 1, 3) := by decide +kernel
theorem d3_0 : decode jdk_22_method_1_code 0 = .ok (.aload_n 0, 1) := by decide +kernel
theorem d3_1 : decode jdk_22_method_1_code 1 = .ok (.invokespecial 1, 3) := by decide +kernel
theorem d3_4 : decode jdk_22_method_1_code 4 = .ok (.return_, 1) := by decide +kernel
theorem ef_3_1 (m : MethodId) (o1 : Addr) : entryFrame m #[(.ref o1)] 1 = mkF m 0 #[.val (.ref o1)] [] := by first | (simp [entryFrame, mkF, argsToLocals, Value.category]; done) | rfl
theorem pnc_0 : plainName "java/util/AbstractCollection" = true := by first | (simp [plainName, overriddenIn]; done) | decide +kernel
def Q3_1 (Z : State) (w : Nat → Addr) (o1 : Addr) (h0 : Heap) (n0 : Nat) (v : Option Value) (h : Heap) (L : List Loc) : Prop := v = none ∧ Fr n0 L ∧ h = h0
set_option maxRecDepth 65536 in
set_option maxHeartbeats 40000000 in
theorem rm3_1 (l : Launch) (Z : State) (a0 : Array Value) (hw : ∀ d ∈ tables_1, d.before a0 Z = true) (w : Nat → Addr) (hW : Wd Z w) (ws : List Jvm.Cond) (o1 : Addr) (h0 : Heap) (n0 : Nat) (O0 : Old Z n0 h0) :
    MetFree l ym0 (head1 (Jvm.Cond.code ym0 jdk_22_method_1_code 1 none :: ws) ({ frames := 1, cells := 0, slots := 0, locals := 12 } : Room)) (fun a U => a = #[(.ref o1)] ∧ Z.Warmed39 U.vm ∧ U.heap = h0) (fun _ _ _ _ _ => True) (fun _ U o U' => ∃ v L, o = .returned v ∧ Q3_1 Z w o1 h0 n0 v U'.heap L ∧ FrameEnd U o U' L ({ frames := 1, cells := 0, slots := 0, locals := 12 } : Room).cells ({ frames := 1, cells := 0, slots := 0, locals := 12 } : Room).slots) := by
  refine MetFree.of_bodySF (plainFor_of_name pnc_0) hisR ?_
  intro p e s m args below meth c s₁ Bd hml0 hP hK
  obtain ⟨rfl, hZ, hh⟩ := hP
  have hx := Bd.exec
  have hby := Bd.bytes
  have hml : c.maxLocals = 1 := hml0
  have hown : s.vm.findClass "java/util/AbstractCollection" = some m.cls := findClass_of_methodNamed Bd.named
  have hnm := (name_of_methodNamed Bd.named Bd.method).1
  have X0 : Stand p l e ({ frames := 1, cells := 0, slots := 0, locals := 12 } : Room) s m #[(.ref o1)] below meth c s₁ [] 0 0 := Stand.of_body Bd
  have e0 : s₁.heap = h0 := by rw [← hh, Bd.state]; rfl
  have N0 := Fr.nil n0
  skip
  have pre0 : ∀ t, Steps p.tables e below (s₁.setTop (mkF m 0 #[.val (.ref o1)] [])) t → Steps p.tables e below (s₁.setTop (entryFrame m #[(.ref o1)] 1)) t := fun t k => castTop (ef_3_1 m o1) k
  obtain ⟨T1, X1, e1, st1⟩ := initO X0 hx hZ hown (wk18 hw) (wk19 hw) (wk20 hw) e0 (g := (mkF m 1 #[.val (.ref o1)] [(.ref o1)])) rfl (by rw [hml]; rfl) rfl (hb hby d3_1) (by decide) (W := 0) (by show 2 * 0 + _ ≤ _; exact Nat.le_of_eq rfl) (by decide)
  obtain ⟨fs, hr, hrun, hended, hWm, hsame⟩ := X1.leave (v := none) (fun _ => rfl)
  refine ⟨_, _, pre0 _ ?_, hrun, hended, _, _, rfl, ?_, ⟨_, rfl⟩, hWm, hsame.mono (by decide) (by decide)⟩
  · show Steps p.tables e below (s₁.setTop (mkF m 0 #[.val (.ref o1)] [])) _
    refine sA X0 hx hby d3_0 rfl rfl ?_
    refine st1 _ ?_
    exact X1.returnOut hx Bd.returns (hb hby d3_4) hr
  · show Q3_1 Z w o1 h0 n0 _ T1.heap _
    rw [e1]
    exact ⟨rfl, N0, rfl⟩
theorem pds_0 : parseMethodDescriptor "()V" = some ⟨[], none⟩ := by decide +kernel
theorem d2_4 : decode jdk_39_method_1_code 4 = .ok (.aload_n 0, 1) := by decide +kernel
theorem d2_5 : decode jdk_39_method_1_code 5 = .ok (.iconst 0, 1) := by decide +kernel
theorem d2_6 : decode jdk_39_method_1_code 6 = .ok (.putfield 7, 3) := by decide +kernel
theorem d2_9 : decode jdk_39_method_1_code 9 = .ok (.return_, 1) := by decide +kernel
theorem ef_2_2 (m : MethodId) (o1 : Addr) : entryFrame m #[(.ref o1)] 1 = mkF m 0 #[.val (.ref o1)] [] := by first | (simp [entryFrame, mkF, argsToLocals, Value.category]; done) | rfl
theorem pnc_1 : plainName "java/util/AbstractList" = true := by first | (simp [plainName, overriddenIn]; done) | decide +kernel
def Q2_2 (Z : State) (w : Nat → Addr) (o1 : Addr) (h0 : Heap) (n0 : Nat) (v : Option Value) (h : Heap) (L : List Loc) : Prop := v = none ∧ Fr n0 L ∧ own_KL h0 h [⟨o1, Jvm.RoadKit.slotOf Z "java/util/AbstractList" "modCount" "I"⟩] ∧ Fld Z h o1 "java/util/AbstractList" "modCount" "I" (.int (0 : Int32))
set_option maxRecDepth 65536 in
set_option maxHeartbeats 40000000 in
theorem rm2_2 (l : Launch) (Z : State) (a0 : Array Value) (hw : ∀ d ∈ tables_1, d.before a0 Z = true) (w : Nat → Addr) (hW : Wd Z w) (ws : List Jvm.Cond) (o1 : Addr) (h0 : Heap) (n0 : Nat) (O0 : Old Z n0 h0) (f1 : Exa Z h0 o1 "java/util/ArrayList") (f2 : Fld Z h0 o1 "java/util/AbstractList" "modCount" "I" (.int (0 : Int32))) (g3 : n0 ≤ o1) :
    MetFree l ym1 (head1 (Jvm.Cond.code ym1 jdk_39_method_1_code 1 none :: ws) ({ frames := 2, cells := 0, slots := 0, locals := 24 } : Room)) (fun a U => a = #[(.ref o1)] ∧ Z.Warmed39 U.vm ∧ U.heap = h0) (fun _ _ _ _ _ => True) (fun _ U o U' => ∃ v L, o = .returned v ∧ Q2_2 Z w o1 h0 n0 v U'.heap L ∧ FrameEnd U o U' L ({ frames := 2, cells := 0, slots := 0, locals := 24 } : Room).cells ({ frames := 2, cells := 0, slots := 0, locals := 24 } : Room).slots) := by
  refine MetFree.of_bodySF (plainFor_of_name pnc_1) hisR ?_
  intro p e s m args below meth c s₁ Bd hml0 hP hK
  obtain ⟨rfl, hZ, hh⟩ := hP
  have hx := Bd.exec
  have hby := Bd.bytes
  have hml : c.maxLocals = 1 := hml0
  have hown : s.vm.findClass "java/util/AbstractList" = some m.cls := findClass_of_methodNamed Bd.named
  have hnm := (name_of_methodNamed Bd.named Bd.method).1
  have X0 : Stand p l e ({ frames := 2, cells := 0, slots := 0, locals := 24 } : Room) s m #[(.ref o1)] below meth c s₁ [] 0 0 := Stand.of_body Bd
  have e0 : s₁.heap = h0 := by rw [← hh, Bd.state]; rfl
  have N0 := Fr.nil n0
  skip
  have pre0 : ∀ t, Steps p.tables e below (s₁.setTop (mkF m 0 #[.val (.ref o1)] [])) t → Steps p.tables e below (s₁.setTop (entryFrame m #[(.ref o1)] 1)) t := fun t k => castTop (ef_2_2 m o1) k
  obtain ⟨_, _, ⟨T1, L1, kk1, nn1⟩, -, X1, ⟨Lc1, hQ1, l1, y1, z1⟩, st1⟩ := X0.specialBack hx (y := ym0) rfl hown (mvT hZ (wk12 hw)) (mvT hZ (wk13 hw)) (mvT hZ (wk17 hw)) (by decide) (backOf (W := 0) (rm3_1 l Z a0 hw w hW [] o1 h0 n0 O0 ) hZ (wk17 hw) (wk16 hw) (by decide) (by decide)) (g := (mkF m 1 #[.val (.ref o1)] [(.ref o1)])) rfl (by rw [hml]; rfl) (Steps.refl _) (a := o1) (argsL := []) (rest := []) (lenOf pds_0 rfl) rfl (by show 2 * 0 + _ ≤ _; exact Nat.le_of_eq rfl) (hb hby d2_1) (fun _ _ => ⟨rfl, e0, (by decide : 0 + 0 ≤ _), (by decide : 0 + 0 ≤ _)⟩)
  dsimp only [Pt.U, Pt.locs, Pt.cells, Pt.slots] at X1 l1 y1 z1 st1 hQ1
  subst l1 y1 z1
  obtain ⟨rfl, N1q, e1⟩ := hQ1
  have N1 := Fr.app N0 N1q
  obtain ⟨T2, h2, X2, e2, W2, st2⟩ := putF X1 hx hZ hown (host := "") (Or.inl (wk21 hw)) Via.refl e1 f2 f1 (Or.inl (wk22 hw)) (wk1 hw) (ty := .int) (by decide) rfl rfl (g := (mkF m 6 #[.val (.ref o1)] [(.int (0 : Int32)), (.ref o1)])) rfl rfl (hb hby d2_6)
  have F2 : Fld Z h2 o1 "java/util/AbstractList" "modCount" "I" (.int (0 : Int32)) := f2.same W2
  have N2 := Fr.snoc X2 N1 g3
  have O3 := O0.wr W2 g3
  obtain ⟨fs, hr, hrun, hended, hWm, hsame⟩ := X2.leave (v := none) (fun _ => rfl)
  have Kf4 : own_KL h0 h2 [⟨o1, Jvm.RoadKit.slotOf Z "java/util/AbstractList" "modCount" "I"⟩] := (own_klW (own_kl0 h0 [⟨o1, Jvm.RoadKit.slotOf Z "java/util/AbstractList" "modCount" "I"⟩]) W2 (Or.inl (List.mem_of_getElem? (i := 0) rfl)))
  refine ⟨_, _, pre0 _ ?_, hrun, hended, _, _, rfl, ?_, ⟨_, rfl⟩, hWm, hsame.mono (by decide) (by decide)⟩
  · show Steps p.tables e below (s₁.setTop (mkF m 0 #[.val (.ref o1)] [])) _
    refine sA X0 hx hby d2_0 rfl rfl ?_
    refine st1.trans ?_
    refine sA X1 hx hby d2_4 rfl rfl ?_
    refine sc X1 hx hby d2_5 ?_
    refine st2 _ ?_
    exact X2.returnOut hx Bd.returns (hb hby d2_9) hr
  · show Q2_2 Z w o1 h0 n0 _ T2.heap _
    rw [e2]
    exact ⟨rfl, N2, Kf4, F2⟩
theorem d1_4 : decode jdk_38_method_2_code 4 = .ok (.aload_n 0, 1) := by decide +kernel
theorem d1_5 : decode jdk_38_method_2_code 5 = .ok (.getstatic 39, 3) := by decide +kernel
theorem d1_8 : decode jdk_38_method_2_code 8 = .ok (.putfield 9, 3) := by decide +kernel
theorem d1_11 : decode jdk_38_method_2_code 11 = .ok (.return_, 1) := by decide +kernel
theorem ef_1_3 (m : MethodId) (o1 : Addr) : entryFrame m #[(.ref o1)] 1 = mkF m 0 #[.val (.ref o1)] [] := by first | (simp [entryFrame, mkF, argsToLocals, Value.category]; done) | rfl
theorem pnc_2 : plainName "java/util/ArrayList" = true := by first | (simp [plainName, overriddenIn]; done) | decide +kernel
def Q1_3 (Z : State) (w : Nat → Addr) (o1 : Addr) (h0 : Heap) (n0 : Nat) (v : Option Value) (h : Heap) (L : List Loc) : Prop := v = none ∧ Fr n0 L ∧ own_KL h0 h [⟨o1, Jvm.RoadKit.slotOf Z "java/util/AbstractList" "modCount" "I"⟩, ⟨o1, Jvm.RoadKit.slotOf Z "java/util/ArrayList" "elementData" "[Ljava/lang/Object;"⟩] ∧ Fld Z h o1 "java/util/AbstractList" "modCount" "I" (.int (0 : Int32)) ∧ Fld Z h o1 "java/util/ArrayList" "elementData" "[Ljava/lang/Object;" (.ref (w 1))
set_option maxRecDepth 65536 in
set_option maxHeartbeats 40000000 in
theorem rm1_3 (l : Launch) (Z : State) (a0 : Array Value) (hw : ∀ d ∈ tables_1, d.before a0 Z = true) (w : Nat → Addr) (hW : Wd Z w) (ws : List Jvm.Cond) (o1 : Addr) (h0 : Heap) (n0 : Nat) (O0 : Old Z n0 h0) (f1 : Exa Z h0 o1 "java/util/ArrayList") (f2 : Fld Z h0 o1 "java/util/AbstractList" "modCount" "I" (.int (0 : Int32))) (g3 : n0 ≤ o1) (f4 : Fld Z h0 o1 "java/util/ArrayList" "elementData" "[Ljava/lang/Object;" .null) :
    MetFree l ym2 (head1 (Jvm.Cond.code ym2 jdk_38_method_2_code 1 none :: ws) ({ frames := 3, cells := 0, slots := 0, locals := 36 } : Room)) (fun a U => a = #[(.ref o1)] ∧ Z.Warmed39 U.vm ∧ U.heap = h0) (fun _ _ _ _ _ => True) (fun _ U o U' => ∃ v L, o = .returned v ∧ Q1_3 Z w o1 h0 n0 v U'.heap L ∧ FrameEnd U o U' L ({ frames := 3, cells := 0, slots := 0, locals := 36 } : Room).cells ({ frames := 3, cells := 0, slots := 0, locals := 36 } : Room).slots) := by
  refine MetFree.of_bodySF (plainFor_of_name pnc_2) hisR ?_
  intro p e s m args below meth c s₁ Bd hml0 hP hK
  obtain ⟨rfl, hZ, hh⟩ := hP
  have hx := Bd.exec
  have hby := Bd.bytes
  have hml : c.maxLocals = 1 := hml0
  have hown : s.vm.findClass "java/util/ArrayList" = some m.cls := findClass_of_methodNamed Bd.named
  have hnm := (name_of_methodNamed Bd.named Bd.method).1
  have X0 : Stand p l e ({ frames := 3, cells := 0, slots := 0, locals := 36 } : Room) s m #[(.ref o1)] below meth c s₁ [] 0 0 := Stand.of_body Bd
  have e0 : s₁.heap = h0 := by rw [← hh, Bd.state]; rfl
  have N0 := Fr.nil n0
  skip
  have pre0 : ∀ t, Steps p.tables e below (s₁.setTop (mkF m 0 #[.val (.ref o1)] [])) t → Steps p.tables e below (s₁.setTop (entryFrame m #[(.ref o1)] 1)) t := fun t k => castTop (ef_1_3 m o1) k
  obtain ⟨_, _, ⟨T1, L1, kk1, nn1⟩, -, X1, ⟨Lc1, hQ1, l1, y1, z1⟩, st1⟩ := X0.specialBack hx (y := ym1) rfl hown (mvT hZ (wk6 hw)) (mvT hZ (wk7 hw)) (mvT hZ (wk11 hw)) (by decide) (backOf (W := 0) (rm2_2 l Z a0 hw w hW [] o1 h0 n0 O0 f1 f2 g3) hZ (wk11 hw) (wk10 hw) (by decide) (by decide)) (g := (mkF m 1 #[.val (.ref o1)] [(.ref o1)])) rfl (by rw [hml]; rfl) (Steps.refl _) (a := o1) (argsL := []) (rest := []) (lenOf pds_0 rfl) rfl (by show 2 * 0 + _ ≤ _; exact Nat.le_of_eq rfl) (hb hby d1_1) (fun _ _ => ⟨rfl, e0, (by decide : 0 + 0 ≤ _), (by decide : 0 + 0 ≤ _)⟩)
  dsimp only [Pt.U, Pt.locs, Pt.cells, Pt.slots] at X1 l1 y1 z1 st1 hQ1
  subst l1 y1 z1
  obtain ⟨rfl, N1q, K1, r1_0⟩ := hQ1
  have N1 := Fr.app N0 N1q
  have O2 := own_old O0 K1 (own_ngc g3 own_ng0)
  obtain ⟨T3, X3, e3, st3⟩ := getS2 X1 hx hZ hown (host := "") (Or.inl (wk23 hw)) Via.refl rfl ((wd1 hW).ext O2.2) (g := (mkF m 5 #[.val (.ref o1)] [(.ref o1)])) rfl (hb hby d1_5)
  have t4 := (own_fld f4 K1 (own_nls (sn0 hw) own_nl0))
  have t5 := (own_exa f1 K1)
  obtain ⟨T6, h6, X6, e6, W6, st6⟩ := putF X3 hx hZ hown (host := "") (Or.inl (wk24 hw)) Via.refl e3 t4 t5 (Or.inl (wk25 hw)) (wk1 hw) (ty := (.array (.object "java/lang/Object"))) (by decide) rfl rfl (g := (mkF m 8 #[.val (.ref o1)] [(.ref (w 1)), (.ref o1)])) rfl rfl (hb hby d1_8)
  have F6 : Fld Z h6 o1 "java/util/ArrayList" "elementData" "[Ljava/lang/Object;" (.ref (w 1)) := t4.same W6
  have N6 := Fr.snoc X6 N1 g3
  have O7 := O2.wr W6 g3
  obtain ⟨fs, hr, hrun, hended, hWm, hsame⟩ := X6.leave (v := none) (fun _ => rfl)
  have Kf8 : own_KL h0 h6 [⟨o1, Jvm.RoadKit.slotOf Z "java/util/AbstractList" "modCount" "I"⟩, ⟨o1, Jvm.RoadKit.slotOf Z "java/util/ArrayList" "elementData" "[Ljava/lang/Object;"⟩] := (own_klW (own_klT (own_kl0 h0 [⟨o1, Jvm.RoadKit.slotOf Z "java/util/AbstractList" "modCount" "I"⟩, ⟨o1, Jvm.RoadKit.slotOf Z "java/util/ArrayList" "elementData" "[Ljava/lang/Object;"⟩]) K1 (own_kac (Or.inl (List.mem_of_getElem? (i := 0) rfl)) own_ka0)) W6 (Or.inl (List.mem_of_getElem? (i := 1) rfl)))
  have t9 := (r1_0.other W6 (Or.inr (sn1 hw)))
  refine ⟨_, _, pre0 _ ?_, hrun, hended, _, _, rfl, ?_, ⟨_, rfl⟩, hWm, hsame.mono (by decide) (by decide)⟩
  · show Steps p.tables e below (s₁.setTop (mkF m 0 #[.val (.ref o1)] [])) _
    refine sA X0 hx hby d1_0 rfl rfl ?_
    refine st1.trans ?_
    refine sA X1 hx hby d1_4 rfl rfl ?_
    refine st3 _ ?_
    refine st6 _ ?_
    exact X6.returnOut hx Bd.returns (hb hby d1_11) hr
  · show Q1_3 Z w o1 h0 n0 _ T6.heap _
    rw [e6]
    exact ⟨rfl, N6, Kf8, t9, F6⟩
theorem d5_0 : decode jdk_33_method_22_code 0 = .ok (.iload_n 0, 1) := by decide +kernel
theorem d5_1 : decode jdk_33_method_22_code 1 = .ok (.bipush (-128), 2) := by decide +kernel
theorem d5_3 : decode jdk_33_method_22_code 3 = .ok (.if_icmp .lt 20, 3) := by decide +kernel
theorem d5_23 : decode jdk_33_method_22_code 23 = .ok (.new 1, 3) := by decide +kernel
theorem d5_26 : decode jdk_33_method_22_code 26 = .ok (.dup, 1) := by decide +kernel
theorem d5_27 : decode jdk_33_method_22_code 27 = .ok (.iload_n 0, 1) := by decide +kernel
theorem d5_28 : decode jdk_33_method_22_code 28 = .ok (.invokespecial 199, 3) := by decide +kernel
theorem d18_0 : decode jdk_33_method_23_code 0 = .ok (.aload_n 0, 1) := by decide +kernel
theorem d18_1 : decode jdk_33_method_23_code 1 = .ok (.invokespecial 202, 3) := by decide +kernel
theorem d19_0 : decode jdk_18_method_1_code 0 = .ok (.aload_n 0, 1) := by decide +kernel
theorem d19_1 : decode jdk_18_method_1_code 1 = .ok (.invokespecial 1, 3) := by decide +kernel
theorem d19_4 : decode jdk_18_method_1_code 4 = .ok (.return_, 1) := by decide +kernel
theorem ef_19_4 (m : MethodId) (o1 : Addr) : entryFrame m #[(.ref o1)] 1 = mkF m 0 #[.val (.ref o1)] [] := by first | (simp [entryFrame, mkF, argsToLocals, Value.category]; done) | rfl
theorem pnc_3 : plainName "java/lang/Number" = true := by first | (simp [plainName, overriddenIn]; done) | decide +kernel
def Q19_4 (Z : State) (w : Nat → Addr) (o1 : Addr) (h0 : Heap) (n0 : Nat) (v : Option Value) (h : Heap) (L : List Loc) : Prop := v = none ∧ Fr n0 L ∧ h = h0
set_option maxRecDepth 65536 in
set_option maxHeartbeats 40000000 in
theorem rm19_4 (l : Launch) (Z : State) (a0 : Array Value) (hw : ∀ d ∈ tables_1, d.before a0 Z = true) (w : Nat → Addr) (hW : Wd Z w) (ws : List Jvm.Cond) (o1 : Addr) (h0 : Heap) (n0 : Nat) (O0 : Old Z n0 h0) :
    MetFree l ym3 (head1 (Jvm.Cond.code ym3 jdk_18_method_1_code 1 none :: ws) ({ frames := 1, cells := 0, slots := 0, locals := 12 } : Room)) (fun a U => a = #[(.ref o1)] ∧ Z.Warmed39 U.vm ∧ U.heap = h0) (fun _ _ _ _ _ => True) (fun _ U o U' => ∃ v L, o = .returned v ∧ Q19_4 Z w o1 h0 n0 v U'.heap L ∧ FrameEnd U o U' L ({ frames := 1, cells := 0, slots := 0, locals := 12 } : Room).cells ({ frames := 1, cells := 0, slots := 0, locals := 12 } : Room).slots) := by
  refine MetFree.of_bodySF (plainFor_of_name pnc_3) hisR ?_
  intro p e s m args below meth c s₁ Bd hml0 hP hK
  obtain ⟨rfl, hZ, hh⟩ := hP
  have hx := Bd.exec
  have hby := Bd.bytes
  have hml : c.maxLocals = 1 := hml0
  have hown : s.vm.findClass "java/lang/Number" = some m.cls := findClass_of_methodNamed Bd.named
  have hnm := (name_of_methodNamed Bd.named Bd.method).1
  have X0 : Stand p l e ({ frames := 1, cells := 0, slots := 0, locals := 12 } : Room) s m #[(.ref o1)] below meth c s₁ [] 0 0 := Stand.of_body Bd
  have e0 : s₁.heap = h0 := by rw [← hh, Bd.state]; rfl
  have N0 := Fr.nil n0
  skip
  have pre0 : ∀ t, Steps p.tables e below (s₁.setTop (mkF m 0 #[.val (.ref o1)] [])) t → Steps p.tables e below (s₁.setTop (entryFrame m #[(.ref o1)] 1)) t := fun t k => castTop (ef_19_4 m o1) k
  obtain ⟨T1, X1, e1, st1⟩ := initO X0 hx hZ hown (wk122 hw) (wk19 hw) (wk20 hw) e0 (g := (mkF m 1 #[.val (.ref o1)] [(.ref o1)])) rfl (by rw [hml]; rfl) rfl (hb hby d19_1) (by decide) (W := 0) (by show 2 * 0 + _ ≤ _; exact Nat.le_of_eq rfl) (by decide)
  obtain ⟨fs, hr, hrun, hended, hWm, hsame⟩ := X1.leave (v := none) (fun _ => rfl)
  refine ⟨_, _, pre0 _ ?_, hrun, hended, _, _, rfl, ?_, ⟨_, rfl⟩, hWm, hsame.mono (by decide) (by decide)⟩
  · show Steps p.tables e below (s₁.setTop (mkF m 0 #[.val (.ref o1)] [])) _
    refine sA X0 hx hby d19_0 rfl rfl ?_
    refine st1 _ ?_
    exact X1.returnOut hx Bd.returns (hb hby d19_4) hr
  · show Q19_4 Z w o1 h0 n0 _ T1.heap _
    rw [e1]
    exact ⟨rfl, N0, rfl⟩
theorem d18_4 : decode jdk_33_method_23_code 4 = .ok (.aload_n 0, 1) := by decide +kernel
theorem d18_5 : decode jdk_33_method_23_code 5 = .ok (.iload_n 1, 1) := by decide +kernel
theorem d18_6 : decode jdk_33_method_23_code 6 = .ok (.putfield 205, 3) := by decide +kernel
theorem d18_9 : decode jdk_33_method_23_code 9 = .ok (.return_, 1) := by decide +kernel
theorem ef_18_5 (m : MethodId) (o1 : Addr) (q2 : Int32) : entryFrame m #[(.ref o1), (.int q2)] 2 = mkF m 0 #[.val (.ref o1), .val (.int q2)] [] := by first | (simp [entryFrame, mkF, argsToLocals, Value.category]; done) | rfl
theorem pnc_4 : plainName "java/lang/Integer" = true := by first | (simp [plainName, overriddenIn]; done) | decide +kernel
def Q18_5 (Z : State) (w : Nat → Addr) (o1 : Addr) (q2 : Int32) (h0 : Heap) (n0 : Nat) (v : Option Value) (h : Heap) (L : List Loc) : Prop := v = none ∧ Fr n0 L ∧ own_KL h0 h [⟨o1, Jvm.RoadKit.slotOf Z "java/lang/Integer" "value" "I"⟩] ∧ Fld Z h o1 "java/lang/Integer" "value" "I" (.int q2)
set_option maxRecDepth 65536 in
set_option maxHeartbeats 40000000 in
theorem rm18_5 (l : Launch) (Z : State) (a0 : Array Value) (hw : ∀ d ∈ tables_1, d.before a0 Z = true) (w : Nat → Addr) (hW : Wd Z w) (ws : List Jvm.Cond) (o1 : Addr) (q2 : Int32) (h0 : Heap) (n0 : Nat) (O0 : Old Z n0 h0) (f1 : Exa Z h0 o1 "java/lang/Integer") (f2 : Fld Z h0 o1 "java/lang/Integer" "value" "I" (.int (0 : Int32))) (g3 : n0 ≤ o1) :
    MetFree l ym4 (head1 (Jvm.Cond.code ym4 jdk_33_method_23_code 2 none :: ws) ({ frames := 2, cells := 0, slots := 0, locals := 24 } : Room)) (fun a U => a = #[(.ref o1), (.int q2)] ∧ Z.Warmed39 U.vm ∧ U.heap = h0) (fun _ _ _ _ _ => True) (fun _ U o U' => ∃ v L, o = .returned v ∧ Q18_5 Z w o1 q2 h0 n0 v U'.heap L ∧ FrameEnd U o U' L ({ frames := 2, cells := 0, slots := 0, locals := 24 } : Room).cells ({ frames := 2, cells := 0, slots := 0, locals := 24 } : Room).slots) := by
  refine MetFree.of_bodySF (plainFor_of_name pnc_4) hisR ?_
  intro p e s m args below meth c s₁ Bd hml0 hP hK
  obtain ⟨rfl, hZ, hh⟩ := hP
  have hx := Bd.exec
  have hby := Bd.bytes
  have hml : c.maxLocals = 2 := hml0
  have hown : s.vm.findClass "java/lang/Integer" = some m.cls := findClass_of_methodNamed Bd.named
  have hnm := (name_of_methodNamed Bd.named Bd.method).1
  have X0 : Stand p l e ({ frames := 2, cells := 0, slots := 0, locals := 24 } : Room) s m #[(.ref o1), (.int q2)] below meth c s₁ [] 0 0 := Stand.of_body Bd
  have e0 : s₁.heap = h0 := by rw [← hh, Bd.state]; rfl
  have N0 := Fr.nil n0
  skip
  have pre0 : ∀ t, Steps p.tables e below (s₁.setTop (mkF m 0 #[.val (.ref o1), .val (.int q2)] [])) t → Steps p.tables e below (s₁.setTop (entryFrame m #[(.ref o1), (.int q2)] 2)) t := fun t k => castTop (ef_18_5 m o1 q2) k
  obtain ⟨_, _, ⟨T1, L1, kk1, nn1⟩, -, X1, ⟨Lc1, hQ1, l1, y1, z1⟩, st1⟩ := X0.specialBack hx (y := ym3) rfl hown (mvT hZ (wk116 hw)) (mvT hZ (wk117 hw)) (mvT hZ (wk121 hw)) (by decide) (backOf (W := 0) (rm19_4 l Z a0 hw w hW [] o1 h0 n0 O0 ) hZ (wk121 hw) (wk120 hw) (by decide) (by decide)) (g := (mkF m 1 #[.val (.ref o1), .val (.int q2)] [(.ref o1)])) rfl (by rw [hml]; rfl) (Steps.refl _) (a := o1) (argsL := []) (rest := []) (lenOf pds_0 rfl) rfl (by show 2 * 0 + _ ≤ _; exact Nat.le_of_eq rfl) (hb hby d18_1) (fun _ _ => ⟨rfl, e0, (by decide : 0 + 0 ≤ _), (by decide : 0 + 0 ≤ _)⟩)
  dsimp only [Pt.U, Pt.locs, Pt.cells, Pt.slots] at X1 l1 y1 z1 st1 hQ1
  subst l1 y1 z1
  obtain ⟨rfl, N1q, e1⟩ := hQ1
  have N1 := Fr.app N0 N1q
  obtain ⟨T2, h2, X2, e2, W2, st2⟩ := putF X1 hx hZ hown (host := "") (Or.inl (wk123 hw)) Via.refl e1 f2 f1 (Or.inr ⟨(wk124 hw), rfl, hnm⟩) (wk111 hw) (ty := .int) (by decide) rfl rfl (g := (mkF m 6 #[.val (.ref o1), .val (.int q2)] [(.int q2), (.ref o1)])) rfl rfl (hb hby d18_6)
  have F2 : Fld Z h2 o1 "java/lang/Integer" "value" "I" (.int q2) := f2.same W2
  have N2 := Fr.snoc X2 N1 g3
  have O3 := O0.wr W2 g3
  obtain ⟨fs, hr, hrun, hended, hWm, hsame⟩ := X2.leave (v := none) (fun _ => rfl)
  have Kf4 : own_KL h0 h2 [⟨o1, Jvm.RoadKit.slotOf Z "java/lang/Integer" "value" "I"⟩] := (own_klW (own_kl0 h0 [⟨o1, Jvm.RoadKit.slotOf Z "java/lang/Integer" "value" "I"⟩]) W2 (Or.inl (List.mem_of_getElem? (i := 0) rfl)))
  refine ⟨_, _, pre0 _ ?_, hrun, hended, _, _, rfl, ?_, ⟨_, rfl⟩, hWm, hsame.mono (by decide) (by decide)⟩
  · show Steps p.tables e below (s₁.setTop (mkF m 0 #[.val (.ref o1), .val (.int q2)] [])) _
    refine sA X0 hx hby d18_0 rfl rfl ?_
    refine st1.trans ?_
    refine sA X1 hx hby d18_4 rfl rfl ?_
    refine sI X1 hx hby d18_5 rfl ?_
    refine st2 _ ?_
    exact X2.returnOut hx Bd.returns (hb hby d18_9) hr
  · show Q18_5 Z w o1 q2 h0 n0 _ T2.heap _
    rw [e2]
    exact ⟨rfl, N2, Kf4, F2⟩
theorem pds_1 : parseMethodDescriptor "(I)V" = some ⟨[.int], none⟩ := by decide +kernel
theorem d5_31 : decode jdk_33_method_22_code 31 = .ok (.areturn, 1) := by decide +kernel
theorem d5_6 : decode jdk_33_method_22_code 6 = .ok (.iload_n 0, 1) := by decide +kernel
theorem d5_7 : decode jdk_33_method_22_code 7 = .ok (.getstatic 191, 3) := by decide +kernel
theorem d5_10 : decode jdk_33_method_22_code 10 = .ok (.if_icmp .gt 13, 3) := by decide +kernel
theorem d5_13 : decode jdk_33_method_22_code 13 = .ok (.getstatic 195, 3) := by decide +kernel
theorem d5_16 : decode jdk_33_method_22_code 16 = .ok (.iload_n 0, 1) := by decide +kernel
theorem d5_17 : decode jdk_33_method_22_code 17 = .ok (.sipush 128, 3) := by decide +kernel
theorem d5_20 : decode jdk_33_method_22_code 20 = .ok (.iadd, 1) := by decide +kernel
theorem d5_21 : decode jdk_33_method_22_code 21 = .ok (.aaload, 1) := by decide +kernel
theorem d5_22 : decode jdk_33_method_22_code 22 = .ok (.areturn, 1) := by decide +kernel
theorem ef_5_6 (m : MethodId) (q1 : Int32) : entryFrame m #[(.int q1)] 1 = mkF m 0 #[.val (.int q1)] [] := by first | (simp [entryFrame, mkF, argsToLocals, Value.category]; done) | rfl
def Q5_6 (Z : State) (w : Nat → Addr) (q1 : Int32) (h0 : Heap) (n0 : Nat) (v : Option Value) (h : Heap) (L : List Loc) : Prop := ∃ (yw : Addr), v = some (.ref yw) ∧ Fr n0 L ∧ own_KL h0 h [] ∧ Exa Z h yw "java/lang/Integer"
set_option maxRecDepth 65536 in
set_option maxHeartbeats 40000000 in
theorem rm5_6 (l : Launch) (Z : State) (a0 : Array Value) (hw : ∀ d ∈ tables_1, d.before a0 Z = true) (w : Nat → Addr) (hW : Wd Z w) (ws : List Jvm.Cond) (q1 : Int32) (h0 : Heap) (n0 : Nat) (O0 : Old Z n0 h0) :
    MetFree l ym5 (head1 (Jvm.Cond.code ym5 jdk_33_method_22_code 1 (some (.object "java/lang/Integer")) :: ws) ({ frames := 3, cells := 1, slots := 1, locals := 38 } : Room)) (fun a U => a = #[(.int q1)] ∧ Z.Warmed39 U.vm ∧ U.heap = h0) (fun _ _ _ _ _ => True) (fun _ U o U' => ∃ v L, o = .returned v ∧ Q5_6 Z w q1 h0 n0 v U'.heap L ∧ FrameEnd U o U' L ({ frames := 3, cells := 1, slots := 1, locals := 38 } : Room).cells ({ frames := 3, cells := 1, slots := 1, locals := 38 } : Room).slots) := by
  refine MetFree.of_bodySF (plainFor_of_name pnc_4) hisR ?_
  intro p e s m args below meth c s₁ Bd hml0 hP hK
  obtain ⟨rfl, hZ, hh⟩ := hP
  have hx := Bd.exec
  have hby := Bd.bytes
  have hml : c.maxLocals = 1 := hml0
  have hown : s.vm.findClass "java/lang/Integer" = some m.cls := findClass_of_methodNamed Bd.named
  have hnm := (name_of_methodNamed Bd.named Bd.method).1
  have X0 : Stand p l e ({ frames := 3, cells := 1, slots := 1, locals := 38 } : Room) s m #[(.int q1)] below meth c s₁ [] 0 0 := Stand.of_body Bd
  have e0 : s₁.heap = h0 := by rw [← hh, Bd.state]; rfl
  have N0 := Fr.nil n0
  skip
  have pre0 : ∀ t, Steps p.tables e below (s₁.setTop (mkF m 0 #[.val (.int q1)] [])) t → Steps p.tables e below (s₁.setTop (entryFrame m #[(.int q1)] 1)) t := fun t k => castTop (ef_5_6 m q1) k
  have pre1 : ∀ t, Steps p.tables e below (s₁.setTop (mkF m 3 #[.val (.int q1)] [(.int (-128 : Int32)), (.int q1)])) t → Steps p.tables e below (s₁.setTop (entryFrame m #[(.int q1)] 1)) t := fun t k => pre0 t (by
   show Steps p.tables e below (s₁.setTop (mkF m 0 #[.val (.int q1)] [])) _
   refine sI X0 hx hby d5_0 rfl ?_
   refine XS.bipush X0.here hx rfl (hb hby d5_1) ?_
   exact k)
  by_cases hc2 : q1 < (-128 : Int32)
  ·
   obtain ⟨T3, h3, X3, e3, E3, A3, D3, -, st3⟩ := newO X0 hx hZ hown (wk110 hw) (wk111 hw) (wk28 hw) e0 (g := (mkF m 23 #[.val (.int q1)] [])) rfl (hb hby d5_23) (by decide) (by decide)
   obtain ⟨b3, g3⟩ : ∃ z, z = h0.size := ⟨_, rfl⟩
   rw [← g3] at A3 D3 st3
   have gg3 : n0 ≤ b3 := by rw [← O0.1, g3]; exact O0.2.1
   have O4 := O0.ext E3
   have i3_124 : Fld Z h3 b3 "java/lang/Integer" "value" "I" (.int (0 : Int32)) := D3 (Or.inr (wk124 hw)) (ty := .int) (by decide)
   obtain ⟨_, _, ⟨T5, L5, kk5, nn5⟩, -, X5, ⟨Lc5, hQ5, l5, y5, z5⟩, st5⟩ := X3.specialBack hx (y := ym4) rfl hown (mvT hZ (wk112 hw)) (mvT hZ (wk113 hw)) (mvT hZ (wk115 hw)) (by decide) (backOf (W := 1) (rm18_5 l Z a0 hw w hW [] b3 q1 h3 n0 O4 A3 i3_124 gg3) hZ (wk115 hw) (wk28 hw) (by decide) (by decide)) (g := (mkF m 28 #[.val (.int q1)] [(.int q1), (.ref b3), (.ref b3)])) rfl (by rw [hml]; rfl) (Steps.refl _) (a := b3) (argsL := [(.int q1)]) (rest := [(.ref b3)]) (lenOf pds_1 rfl) rfl (by show 2 * 0 + _ ≤ _; exact Nat.le_of_eq rfl) (hb hby d5_28) (fun _ _ => ⟨rfl, e3, (by decide : 1 + 0 ≤ _), (by decide : 1 + 0 ≤ _)⟩)
   dsimp only [Pt.U, Pt.locs, Pt.cells, Pt.slots] at X5 l5 y5 z5 st5 hQ5
   subst l5 y5 z5
   obtain ⟨rfl, N5q, K5, r5_0⟩ := hQ5
   have N5 := Fr.app N0 N5q
   have O6 := own_old O4 K5 (own_ngc gg3 own_ng0)
   obtain ⟨fs, hr, hrun, hended, hWm, hsame⟩ := X5.leave (v := some (.ref b3)) (fun h => by rw [Bd.returns] at h; cases h)
   have Kf7 : own_KL h0 T5.heap [] := (own_klT (own_klE (own_kl0 h0 []) E3) K5 (own_kac (Or.inr (Nat.le_trans (Nat.le_refl _) (Nat.le_of_eq g3.symm))) own_ka0))
   have t8 := (own_exa A3 K5)
   refine ⟨_, _, pre1 _ ?_, hrun, hended, _, _, rfl, ?_, ⟨_, rfl⟩, hWm, hsame.mono (by decide) (by decide)⟩
   · show Steps p.tables e below (s₁.setTop (mkF m 3 #[.val (.int q1)] [(.int (-128 : Int32)), (.int q1)])) _
     refine XS.icmpYes X0.here hx rfl (pc0 := 3) (pc' := 23) rfl (hb hby d5_3) rfl (tlt (hc2 : q1 < (-128 : Int32))).1 (by decide) (by decide) ?_
     refine st3 _ ?_
     refine XS.dup X3.here hx rfl (hb hby d5_26) rfl rfl ?_
     refine sI X3 hx hby d5_27 rfl ?_
     refine st5.trans ?_
     jvm_step X5.here [X5.here.top, hx, (hb hby d5_31), X5.method', Bd.returns, Value.isRef, FieldType.isReference]
     first | (intro acts; rw [hr _ acts rfl rfl rfl]) | rw [hr _ _ rfl rfl rfl]
     exact Steps.refl _
   · show Q5_6 Z w q1 h0 n0 _ T5.heap _
     exact ⟨b3, rfl, N5, Kf7, t8⟩
  ·
   obtain ⟨T9, X9, e9, st9⟩ := getS2 X0 hx hZ hown (host := "") (Or.inl (wk30 hw)) Via.refl e0 ((wd2 hW).ext O0.2) (g := (mkF m 7 #[.val (.int q1)] [(.int q1)])) rfl (hb hby d5_7)
   have pre10 : ∀ t, Steps p.tables e below (T9.setTop (mkF m 10 #[.val (.int q1)] [(.int (127 : Int32)), (.int q1)])) t → Steps p.tables e below (s₁.setTop (entryFrame m #[(.int q1)] 1)) t := fun t k => pre1 t (by
    show Steps p.tables e below (s₁.setTop (mkF m 3 #[.val (.int q1)] [(.int (-128 : Int32)), (.int q1)])) _
    refine sn X0 hx hby d5_3 (flt (hc2 : ¬ (q1 < (-128 : Int32)))).1 ?_
    refine sI X0 hx hby d5_6 rfl ?_
    refine st9 _ ?_
    exact k)
   by_cases hc11 : (127 : Int32) < q1
   ·
    obtain ⟨T12, h12, X12, e12, E12, A12, D12, -, st12⟩ := newO X9 hx hZ hown (wk110 hw) (wk111 hw) (wk28 hw) e9 (g := (mkF m 23 #[.val (.int q1)] [])) rfl (hb hby d5_23) (by decide) (by decide)
    obtain ⟨b12, g12⟩ : ∃ z, z = h0.size := ⟨_, rfl⟩
    rw [← g12] at A12 D12 st12
    have gg12 : n0 ≤ b12 := by rw [← O0.1, g12]; exact O0.2.1
    have O13 := O0.ext E12
    have i12_124 : Fld Z h12 b12 "java/lang/Integer" "value" "I" (.int (0 : Int32)) := D12 (Or.inr (wk124 hw)) (ty := .int) (by decide)
    obtain ⟨_, _, ⟨T14, L14, kk14, nn14⟩, -, X14, ⟨Lc14, hQ14, l14, y14, z14⟩, st14⟩ := X12.specialBack hx (y := ym4) rfl hown (mvT hZ (wk112 hw)) (mvT hZ (wk113 hw)) (mvT hZ (wk115 hw)) (by decide) (backOf (W := 1) (rm18_5 l Z a0 hw w hW [] b12 q1 h12 n0 O13 A12 i12_124 gg12) hZ (wk115 hw) (wk28 hw) (by decide) (by decide)) (g := (mkF m 28 #[.val (.int q1)] [(.int q1), (.ref b12), (.ref b12)])) rfl (by rw [hml]; rfl) (Steps.refl _) (a := b12) (argsL := [(.int q1)]) (rest := [(.ref b12)]) (lenOf pds_1 rfl) rfl (by show 2 * 0 + _ ≤ _; exact Nat.le_of_eq rfl) (hb hby d5_28) (fun _ _ => ⟨rfl, e12, (by decide : 1 + 0 ≤ _), (by decide : 1 + 0 ≤ _)⟩)
    dsimp only [Pt.U, Pt.locs, Pt.cells, Pt.slots] at X14 l14 y14 z14 st14 hQ14
    subst l14 y14 z14
    obtain ⟨rfl, N14q, K14, r14_0⟩ := hQ14
    have N14 := Fr.app N0 N14q
    have O15 := own_old O13 K14 (own_ngc gg12 own_ng0)
    obtain ⟨fs, hr, hrun, hended, hWm, hsame⟩ := X14.leave (v := some (.ref b12)) (fun h => by rw [Bd.returns] at h; cases h)
    have Kf16 : own_KL h0 T14.heap [] := (own_klT (own_klE (own_kl0 h0 []) E12) K14 (own_kac (Or.inr (Nat.le_trans (Nat.le_refl _) (Nat.le_of_eq g12.symm))) own_ka0))
    have t17 := (own_exa A12 K14)
    refine ⟨_, _, pre10 _ ?_, hrun, hended, _, _, rfl, ?_, ⟨_, rfl⟩, hWm, hsame.mono (by decide) (by decide)⟩
    · show Steps p.tables e below (T9.setTop (mkF m 10 #[.val (.int q1)] [(.int (127 : Int32)), (.int q1)])) _
      refine XS.icmpYes X9.here hx rfl (pc0 := 10) (pc' := 23) rfl (hb hby d5_10) rfl (tlt (hc11 : (127 : Int32) < q1)).2.2.1 (by decide) (by decide) ?_
      refine st12 _ ?_
      refine XS.dup X12.here hx rfl (hb hby d5_26) rfl rfl ?_
      refine sI X12 hx hby d5_27 rfl ?_
      refine st14.trans ?_
      jvm_step X14.here [X14.here.top, hx, (hb hby d5_31), X14.method', Bd.returns, Value.isRef, FieldType.isReference]
      first | (intro acts; rw [hr _ acts rfl rfl rfl]) | rw [hr _ _ rfl rfl rfl]
      exact Steps.refl _
    · show Q5_6 Z w q1 h0 n0 _ T14.heap _
      exact ⟨b12, rfl, N14, Kf16, t17⟩
   ·
    obtain ⟨T18, X18, e18, st18⟩ := getS2 X9 hx hZ hown (host := "") (Or.inl (wk32 hw)) Via.refl e9 ((wd3 hW).ext O0.2) (g := (mkF m 13 #[.val (.int q1)] [])) rfl (hb hby d5_13)
    obtain ⟨cl19, Bx19⟩ := (wd9 hW)
    have bd19 : ¬ (q1 + (128 : Int32)) < 0 ∧ (q1 + (128 : Int32)) < (256 : Int32) := by
      have z3 := Int32.le_iff_toInt_le.mp (Int32.not_lt.mp hc2)
      have z5 := Int32.le_iff_toInt_le.mp (Int32.not_lt.mp hc11)
      have z1 := rng32 q1
      have z2 : ((-128 : Int32)).toInt = -128 := by decide
      have z4 : ((127 : Int32)).toInt = 127 := by decide
      have z6 := rng32 (q1 + (128 : Int32))
      have z7 : ((128 : Int32)).toInt = 128 := by decide
      have z8 := c_iadd q1 (128 : Int32)
      have z9 : ((256 : Int32)).toInt = 256 := by decide
      have z10 : ((0 : Int32)).toInt = 0 := by decide
      refine ⟨fun q => ?_, Int32.lt_iff_toInt_lt.mpr ?_⟩
      · have q2 := Int32.lt_iff_toInt_lt.mp q
        omega
      · omega
    have hin19 : ¬ ((q1 + (128 : Int32)) < 0 ∨ cl19.slots.size ≤ ((q1 + (128 : Int32))).toNatClampNeg) := inb_of Bx19.2.1 bd19
    obtain ⟨y19, hy19, Ey19, Fy19⟩ := Bx19.2.2.2 _ hin19
    have Fz19 : Fld Z Z.heap y19 "java/lang/Integer" "value" "I" (.int ((q1 + (128 : Int32)) - (128 : Int32))) := Fy19
    obtain ⟨fs, hr, hrun, hended, hWm, hsame⟩ := X18.leave (v := some (.ref y19)) (fun h => by rw [Bd.returns] at h; cases h)
    have Kf20 : own_KL h0 h0 [] := (own_kl0 h0 [])
    refine ⟨_, _, pre10 _ ?_, hrun, hended, _, _, rfl, ?_, ⟨_, rfl⟩, hWm, hsame.mono (by decide) (by decide)⟩
    · show Steps p.tables e below (T9.setTop (mkF m 10 #[.val (.int q1)] [(.int (127 : Int32)), (.int q1)])) _
      refine sn X9 hx hby d5_10 (flt (hc11 : ¬ ((127 : Int32) < q1))).2.2.1 ?_
      refine st18 _ ?_
      refine sI X18 hx hby d5_16 rfl ?_
      refine XS.sipush X18.here hx rfl (hb hby d5_17) ?_
      refine XS.iadd X18.here hx rfl (hb hby d5_20) rfl ?_
      refine X18.aaload hx (j := (q1 + (128 : Int32))) (v := (.ref y19)) (by rw [e18]; exact (Bx19.1.ext O0.2).1) (State.isArrayOf_alike hZ.alike Bx19.1.2.1) rfl Bx19.1.2.2 hin19 hy19 (g := (mkF m 21 #[.val (.int q1)] [(.int (q1 + (128 : Int32))), (.ref (w 2))])) rfl rfl (hb hby d5_21) _ ?_
      jvm_step X18.here [X18.here.top, hx, (hb hby d5_22), X18.method', Bd.returns, Value.isRef, FieldType.isReference]
      first | (intro acts; rw [hr _ acts rfl rfl rfl]) | rw [hr _ _ rfl rfl rfl]
      exact Steps.refl _
    · show Q5_6 Z w q1 h0 n0 _ T18.heap _
      rw [e18]
      exact ⟨y19, rfl, N0, Kf20, (Ey19.ext O0.2)⟩
theorem pds_2 : parseMethodDescriptor "(I)Ljava/lang/Integer;" = some ⟨[.int], some (.object "java/lang/Integer")⟩ := by decide +kernel
theorem d6_0 : decode jdk_38_method_25_code 0 = .ok (.aload_n 0, 1) := by decide +kernel
theorem d6_1 : decode jdk_38_method_25_code 1 = .ok (.dup, 1) := by decide +kernel
theorem d6_2 : decode jdk_38_method_25_code 2 = .ok (.getfield 63, 3) := by decide +kernel
theorem d6_5 : decode jdk_38_method_25_code 5 = .ok (.iconst 1, 1) := by decide +kernel
theorem d6_6 : decode jdk_38_method_25_code 6 = .ok (.iadd, 1) := by decide +kernel
theorem d6_7 : decode jdk_38_method_25_code 7 = .ok (.putfield 63, 3) := by decide +kernel
theorem d6_10 : decode jdk_38_method_25_code 10 = .ok (.aload_n 0, 1) := by decide +kernel
theorem d6_11 : decode jdk_38_method_25_code 11 = .ok (.aload_n 1, 1) := by decide +kernel
theorem d6_12 : decode jdk_38_method_25_code 12 = .ok (.aload_n 0, 1) := by decide +kernel
theorem d6_13 : decode jdk_38_method_25_code 13 = .ok (.getfield 9, 3) := by decide +kernel
theorem d6_16 : decode jdk_38_method_25_code 16 = .ok (.aload_n 0, 1) := by decide +kernel
theorem d6_17 : decode jdk_38_method_25_code 17 = .ok (.getfield 48, 3) := by decide +kernel
theorem d6_20 : decode jdk_38_method_25_code 20 = .ok (.invokevirtual 131, 3) := by decide +kernel
theorem d7_0 : decode jdk_38_method_24_code 0 = .ok (.iload_n 3, 1) := by decide +kernel
theorem d7_1 : decode jdk_38_method_24_code 1 = .ok (.aload_n 2, 1) := by decide +kernel
theorem d7_2 : decode jdk_38_method_24_code 2 = .ok (.arraylength, 1) := by decide +kernel
theorem d7_3 : decode jdk_38_method_24_code 3 = .ok (.if_icmp .ne 8, 3) := by decide +kernel
theorem d7_6 : decode jdk_38_method_24_code 6 = .ok (.aload_n 0, 1) := by decide +kernel
theorem d7_7 : decode jdk_38_method_24_code 7 = .ok (.invokevirtual 129, 3) := by decide +kernel
theorem d8_0 : decode jdk_38_method_7_code 0 = .ok (.aload_n 0, 1) := by decide +kernel
theorem d8_1 : decode jdk_38_method_7_code 1 = .ok (.aload_n 0, 1) := by decide +kernel
theorem d8_2 : decode jdk_38_method_7_code 2 = .ok (.getfield 48, 3) := by decide +kernel
theorem d8_5 : decode jdk_38_method_7_code 5 = .ok (.iconst 1, 1) := by decide +kernel
theorem d8_6 : decode jdk_38_method_7_code 6 = .ok (.iadd, 1) := by decide +kernel
theorem d8_7 : decode jdk_38_method_7_code 7 = .ok (.invokevirtual 69, 3) := by decide +kernel
theorem d9_0 : decode jdk_38_method_6_code 0 = .ok (.aload_n 0, 1) := by decide +kernel
theorem d9_1 : decode jdk_38_method_6_code 1 = .ok (.getfield 9, 3) := by decide +kernel
theorem d9_4 : decode jdk_38_method_6_code 4 = .ok (.arraylength, 1) := by decide +kernel
theorem d9_5 : decode jdk_38_method_6_code 5 = .ok (.istore_n 2, 1) := by decide +kernel
theorem d9_6 : decode jdk_38_method_6_code 6 = .ok (.iload_n 2, 1) := by decide +kernel
theorem d9_7 : decode jdk_38_method_6_code 7 = .ok (.ifCond .gt 13, 3) := by decide +kernel
theorem d9_10 : decode jdk_38_method_6_code 10 = .ok (.aload_n 0, 1) := by decide +kernel
theorem d9_11 : decode jdk_38_method_6_code 11 = .ok (.getfield 9, 3) := by decide +kernel
theorem d9_14 : decode jdk_38_method_6_code 14 = .ok (.getstatic 39, 3) := by decide +kernel
theorem d9_17 : decode jdk_38_method_6_code 17 = .ok (.if_acmp .eq 28, 3) := by decide +kernel
theorem d9_45 : decode jdk_38_method_6_code 45 = .ok (.aload_n 0, 1) := by decide +kernel
theorem d9_46 : decode jdk_38_method_6_code 46 = .ok (.bipush 10, 2) := by decide +kernel
theorem d9_48 : decode jdk_38_method_6_code 48 = .ok (.iload_n 1, 1) := by decide +kernel
theorem d9_49 : decode jdk_38_method_6_code 49 = .ok (.invokestatic 79, 3) := by decide +kernel
theorem d10_0 : decode jdk_29_method_65_code 0 = .ok (.iload_n 0, 1) := by decide +kernel
theorem d10_1 : decode jdk_29_method_65_code 1 = .ok (.iload_n 1, 1) := by decide +kernel
theorem d10_2 : decode jdk_29_method_65_code 2 = .ok (.if_icmp .lt 7, 3) := by decide +kernel
theorem d10_5 : decode jdk_29_method_65_code 5 = .ok (.iload_n 0, 1) := by decide +kernel
theorem d10_6 : decode jdk_29_method_65_code 6 = .ok (.goto 4, 3) := by decide +kernel
theorem d10_10 : decode jdk_29_method_65_code 10 = .ok (.ireturn, 1) := by decide +kernel
theorem ef_10_7 (m : MethodId) : entryFrame m #[(.int (10 : Int32)), (.int (1 : Int32))] 2 = mkF m 0 #[.val (.int (10 : Int32)), .val (.int (1 : Int32))] [] := by first | (simp [entryFrame, mkF, argsToLocals, Value.category]; done) | rfl
def Q10_7 (Z : State) (w : Nat → Addr) (h0 : Heap) (n0 : Nat) (v : Option Value) (h : Heap) (L : List Loc) : Prop := v = some (.int (10 : Int32)) ∧ Fr n0 L ∧ h = h0
set_option maxRecDepth 65536 in
set_option maxHeartbeats 40000000 in
theorem rm10_7 (l : Launch) (Z : State) (a0 : Array Value) (hw : ∀ d ∈ tables_1, d.before a0 Z = true) (w : Nat → Addr) (hW : Wd Z w) (ws : List Jvm.Cond) (h0 : Heap) (n0 : Nat) (O0 : Old Z n0 h0) :
    MetFree l ym6 (head1 (Jvm.Cond.code ym6 jdk_29_method_65_code 2 (some .int) :: ws) ({ frames := 0, cells := 0, slots := 0, locals := 0 } : Room)) (fun a U => a = #[(.int (10 : Int32)), (.int (1 : Int32))] ∧ Z.Warmed39 U.vm ∧ U.heap = h0) (fun _ _ _ _ _ => True) (fun _ U o U' => ∃ v L, o = .returned v ∧ Q10_7 Z w h0 n0 v U'.heap L ∧ FrameEnd U o U' L ({ frames := 0, cells := 0, slots := 0, locals := 0 } : Room).cells ({ frames := 0, cells := 0, slots := 0, locals := 0 } : Room).slots) := by
  refine MetFree.of_bodySF (Jvm.Free.JP.mathPlain rfl (by decide +kernel)) hisR ?_
  intro p e s m args below meth c s₁ Bd hml0 hP hK
  obtain ⟨rfl, hZ, hh⟩ := hP
  have hx := Bd.exec
  have hby := Bd.bytes
  have hml : c.maxLocals = 2 := hml0
  have hown : s.vm.findClass "java/lang/Math" = some m.cls := findClass_of_methodNamed Bd.named
  have hnm := (name_of_methodNamed Bd.named Bd.method).1
  have X0 : Stand p l e ({ frames := 0, cells := 0, slots := 0, locals := 0 } : Room) s m #[(.int (10 : Int32)), (.int (1 : Int32))] below meth c s₁ [] 0 0 := Stand.of_body Bd
  have e0 : s₁.heap = h0 := by rw [← hh, Bd.state]; rfl
  have N0 := Fr.nil n0
  let La : Array Slot := #[.val (.int (10 : Int32)), .val (.int (1 : Int32))]
  have pre0 : ∀ t, Steps p.tables e below (s₁.setTop (mkF m 0 #[.val (.int (10 : Int32)), .val (.int (1 : Int32))] [])) t → Steps p.tables e below (s₁.setTop (entryFrame m #[(.int (10 : Int32)), (.int (1 : Int32))] 2)) t := fun t k => castTop (ef_10_7 m) k
  obtain ⟨fs, hr, hrun, hended, hWm, hsame⟩ := X0.leave (v := some (.int (10 : Int32))) (fun h => by rw [Bd.returns] at h; cases h)
  refine ⟨_, _, pre0 _ ?_, hrun, hended, _, _, rfl, ?_, ⟨_, rfl⟩, hWm, hsame.mono (by decide) (by decide)⟩
  · show Steps p.tables e below (s₁.setTop (mkF m 0 La [])) _
    refine sI X0 hx hby d10_0 rfl ?_
    refine sI X0 hx hby d10_1 rfl ?_
    refine sn X0 hx hby d10_2 (by decide) ?_
    refine sI X0 hx hby d10_5 rfl ?_
    refine sg (pc := 6) (pc' := 10) X0 hx hby d10_6 (by decide) (by decide) ?_
    show Steps p.tables e below (s₁.setTop (mkF m 10 La [(.int (10 : Int32))])) _
    exact retI X0 hx Bd.returns (hb hby d10_10) hr
  · show Q10_7 Z w h0 n0 _ s₁.heap _
    rw [e0]
    exact ⟨rfl, N0, rfl⟩
theorem pds_3 : parseMethodDescriptor "(II)I" = some ⟨[.int, .int], some .int⟩ := by decide +kernel
theorem d9_52 : decode jdk_38_method_6_code 52 = .ok (.anewarray 7, 3) := by decide +kernel
theorem d9_55 : decode jdk_38_method_6_code 55 = .ok (.dup_x1, 1) := by decide +kernel
theorem d9_56 : decode jdk_38_method_6_code 56 = .ok (.putfield 9, 3) := by decide +kernel
theorem d9_59 : decode jdk_38_method_6_code 59 = .ok (.areturn, 1) := by decide +kernel
theorem ef_9_8 (m : MethodId) (o1 : Addr) : entryFrame m #[(.ref o1), (.int (1 : Int32))] 4 = mkF m 0 #[.val (.ref o1), .val (.int (1 : Int32)), .unset, .unset] [] := by first | (simp [entryFrame, mkF, argsToLocals, Value.category]; done) | rfl
def Q9_8 (Z : State) (w : Nat → Addr) (o1 : Addr) (h0 : Heap) (n0 : Nat) (v : Option Value) (h : Heap) (L : List Loc) : Prop := ∃ (b7 : Addr) (k7 : ClassId), v = some (.ref b7) ∧ Fr n0 L ∧ own_KL h0 h [⟨o1, Jvm.RoadKit.slotOf Z "java/util/ArrayList" "elementData" "[Ljava/lang/Object;"⟩] ∧ Fld Z h o1 "java/util/ArrayList" "elementData" "[Ljava/lang/Object;" (.ref b7) ∧ Arv Z h b7 k7 (.object "java/lang/Object") (10 : Int32) [.null, .null, .null, .null, .null, .null, .null, .null, .null, .null] .null ∧ h0.size ≤ b7 ∧ Ovr Z k7 "java/lang/Object"
set_option maxRecDepth 65536 in
set_option maxHeartbeats 40000000 in
theorem rm9_8 (l : Launch) (Z : State) (a0 : Array Value) (hw : ∀ d ∈ tables_1, d.before a0 Z = true) (w : Nat → Addr) (hW : Wd Z w) (ws : List Jvm.Cond) (o1 : Addr) (h0 : Heap) (n0 : Nat) (O0 : Old Z n0 h0) (f1 : Fld Z h0 o1 "java/util/ArrayList" "elementData" "[Ljava/lang/Object;" (.ref (w 1))) (f2 : Exa Z h0 o1 "java/util/ArrayList") (g3 : n0 ≤ o1) :
    MetFree l ym7 (head1 (Jvm.Cond.code ym7 jdk_38_method_6_code 4 (some (.array (.object "java/lang/Object"))) :: ws) ({ frames := 1, cells := 1, slots := 10, locals := 14 } : Room)) (fun a U => a = #[(.ref o1), (.int (1 : Int32))] ∧ Z.Warmed39 U.vm ∧ U.heap = h0) (fun _ _ _ _ _ => True) (fun _ U o U' => ∃ v L, o = .returned v ∧ Q9_8 Z w o1 h0 n0 v U'.heap L ∧ FrameEnd U o U' L ({ frames := 1, cells := 1, slots := 10, locals := 14 } : Room).cells ({ frames := 1, cells := 1, slots := 10, locals := 14 } : Room).slots) := by
  refine MetFree.of_bodySF (plainFor_of_name pnc_2) hisR ?_
  intro p e s m args below meth c s₁ Bd hml0 hP hK
  obtain ⟨rfl, hZ, hh⟩ := hP
  have hx := Bd.exec
  have hby := Bd.bytes
  have hml : c.maxLocals = 4 := hml0
  have hown : s.vm.findClass "java/util/ArrayList" = some m.cls := findClass_of_methodNamed Bd.named
  have hnm := (name_of_methodNamed Bd.named Bd.method).1
  have X0 : Stand p l e ({ frames := 1, cells := 1, slots := 10, locals := 14 } : Room) s m #[(.ref o1), (.int (1 : Int32))] below meth c s₁ [] 0 0 := Stand.of_body Bd
  have e0 : s₁.heap = h0 := by rw [← hh, Bd.state]; rfl
  have N0 := Fr.nil n0
  let La : Array Slot := #[.val (.ref o1), .val (.int (1 : Int32)), .unset, .unset]
  have pre0 : ∀ t, Steps p.tables e below (s₁.setTop (mkF m 0 #[.val (.ref o1), .val (.int (1 : Int32)), .unset, .unset] [])) t → Steps p.tables e below (s₁.setTop (entryFrame m #[(.ref o1), (.int (1 : Int32))] 4)) t := fun t k => castTop (ef_9_8 m o1) k
  obtain ⟨T1, X1, e1, st1⟩ := getF X0 hx hZ hown (host := "") (Or.inl (wk24 hw)) Via.refl e0 f1 (g := (mkF m 1 La [(.ref o1)])) rfl rfl (hb hby d9_1)
  obtain ⟨cl2, Ar2, q2, S2, Nn2, Hs2, G2⟩ := ((wd7 hW).ext O0.2)
  let Lb3 : Array Slot := #[.val (.ref o1), .val (.int (1 : Int32)), .val (.int (0 : Int32)), .unset]
  obtain ⟨T4, X4, e4, st4⟩ := getF X1 hx hZ hown (host := "") (Or.inl (wk24 hw)) Via.refl e1 f1 (g := (mkF m 11 Lb3 [(.ref o1)])) rfl rfl (hb hby d9_11)
  obtain ⟨T5, X5, e5, st5⟩ := getS2 X4 hx hZ hown (host := "") (Or.inl (wk23 hw)) Via.refl e4 ((wd1 hW).ext O0.2) (g := (mkF m 14 Lb3 [(.ref (w 1))])) rfl (hb hby d9_14)
  obtain ⟨_, _, ⟨T6, L6, kk6, nn6⟩, -, X6, ⟨Lc6, hQ6, l6, y6, z6⟩, st6⟩ := Jvm.LawKit.callS X5 hx (y := ym6) hown (mvT hZ (wk57 hw)) (mvT hZ (wk58 hw)) (mvT hZ (wk59 hw)) (mvT hZ (wk60 hw)) (by decide) (backOf (W := 1) (rm10_7 l Z a0 hw w hW []  h0 n0 O0 ) hZ (wk60 hw) (wk59 hw) (by decide) (by decide)) (g := (mkF m 49 Lb3 [(.int (1 : Int32)), (.int (10 : Int32)), (.ref o1)])) rfl (by rw [hml]; rfl) (argsL := [(.int (10 : Int32)), (.int (1 : Int32))]) (rest := [(.ref o1)]) (lenOf pds_3 rfl) rfl (by show 2 * 0 + _ ≤ _; exact Nat.le_of_eq rfl) (hb hby d9_49) (fun _ _ => ⟨rfl, e5, (by decide : 0 + 0 ≤ _), (by decide : 0 + 0 ≤ _)⟩)
  dsimp only [Pt.U, Pt.locs, Pt.cells, Pt.slots] at X6 l6 y6 z6 st6 hQ6
  subst l6 y6 z6
  obtain ⟨rfl, N6q, e6⟩ := hQ6
  have N6 := Fr.app N0 N6q
  obtain ⟨T7, h7, k7, X7, e7, E7, A7, Ov7, st7⟩ := newR X6 hx hZ hown (wk61 hw) (wk62 hw) e6 (g := (mkF m 52 Lb3 [(.int (10 : Int32)), (.ref o1)])) rfl (hb hby d9_52) rfl (by decide) (cap := 10) (by decide) (by decide) (by decide) (by decide)
  obtain ⟨b7, g7⟩ : ∃ z, z = h0.size := ⟨_, rfl⟩
  rw [← g7] at A7 st7
  have gg7 : n0 ≤ b7 := by rw [← O0.1, g7]; exact O0.2.1
  have O8 := O0.ext E7
  have V7 : Arv Z h7 b7 k7 (.object "java/lang/Object") (10 : Int32) [.null, .null, .null, .null, .null, .null, .null, .null, .null, .null] .null := (Arv.new A7 (by decide)).pad (pad_rep [] .null 10)
  have t9 := (f1.ext E7)
  have t10 := (f2.ext E7)
  obtain ⟨T11, h11, X11, e11, W11, st11⟩ := putF X7 hx hZ hown (host := "") (Or.inl (wk24 hw)) Via.refl e7 t9 t10 (Or.inl (wk25 hw)) (wk1 hw) (ty := (.array (.object "java/lang/Object"))) (by decide) rfl rfl (g := (mkF m 56 Lb3 [(.ref b7), (.ref o1), (.ref b7)])) rfl rfl (hb hby d9_56)
  have F11 : Fld Z h11 o1 "java/util/ArrayList" "elementData" "[Ljava/lang/Object;" (.ref b7) := t9.same W11
  have N11 := Fr.snoc X11 N6 g3
  have O12 := O8.wr W11 g3
  obtain ⟨fs, hr, hrun, hended, hWm, hsame⟩ := X11.leave (v := some (.ref b7)) (fun h => by rw [Bd.returns] at h; cases h)
  have Kf13 : own_KL h0 h11 [⟨o1, Jvm.RoadKit.slotOf Z "java/util/ArrayList" "elementData" "[Ljava/lang/Object;"⟩] := (own_klW (own_klE (own_kl0 h0 [⟨o1, Jvm.RoadKit.slotOf Z "java/util/ArrayList" "elementData" "[Ljava/lang/Object;"⟩]) E7) W11 (Or.inl (List.mem_of_getElem? (i := 0) rfl)))
  have ne14 : o1 ≠ b7 := (Nat.ne_of_lt (Nat.lt_of_lt_of_le f2.lt (Nat.le_of_eq g7.symm)))
  have t15 := (V7.other W11 (Ne.symm ne14))
  refine ⟨_, _, pre0 _ ?_, hrun, hended, _, _, rfl, ?_, ⟨_, rfl⟩, hWm, hsame.mono (by decide) (by decide)⟩
  · show Steps p.tables e below (s₁.setTop (mkF m 0 La [])) _
    refine sA X0 hx hby d9_0 rfl rfl ?_
    refine st1 _ ?_
    refine X1.arraylength hx (by rw [e1]; exact Ar2.1) (State.isArrayOf_alike hZ.alike Ar2.2.1) (g := (mkF m 4 La [(.ref (w 1))])) rfl rfl (hb hby d9_4) _ ?_
    rw [len_of S2 Nn2]
    show Steps p.tables e below (T1.setTop (mkF m 5 La [(.int (0 : Int32))])) _
    refine XS.istoreN X1.here hx rfl (hb hby d9_5) rfl (l' := Lb3) rfl ?_
    refine sI X1 hx hby d9_6 rfl ?_
    refine sN X1 hx hby d9_7 (by decide) ?_
    refine sA X1 hx hby d9_10 rfl rfl ?_
    refine st4 _ ?_
    refine st5 _ ?_
    refine Jvm.RoadKit.acmp (g := (mkF m 17 Lb3 [(.ref (w 1)), (.ref (w 1))])) X5 hx rfl rfl rfl (pc0 := 17) (pc' := 45) (same := true) rfl (hb hby d9_17) rfl (decide_eq_true rfl) (by decide) (by decide) ?_
    refine sA X5 hx hby d9_45 rfl rfl ?_
    refine XS.bipush X5.here hx rfl (hb hby d9_46) ?_
    refine sI X5 hx hby d9_48 rfl ?_
    refine st6 _ ?_
    refine st7 _ ?_
    refine XS.dupX1 X7.here hx rfl (hb hby d9_55) rfl rfl rfl ?_
    refine st11 _ ?_
    jvm_step X11.here [X11.here.top, hx, (hb hby d9_59), X11.method', Bd.returns, Value.isRef, FieldType.isReference]
    first | (intro acts; rw [hr _ acts rfl rfl rfl]) | rw [hr _ _ rfl rfl rfl]
    exact Steps.refl _
  · show Q9_8 Z w o1 h0 n0 _ T11.heap _
    rw [e11]
    exact ⟨b7, k7, rfl, N11, Kf13, F11, t15, (Nat.le_trans (Nat.le_refl _) (Nat.le_of_eq g7.symm)), Ov7⟩
theorem pds_4 : parseMethodDescriptor "(I)[Ljava/lang/Object;" = some ⟨[.int], some (.array (.object "java/lang/Object"))⟩ := by decide +kernel
theorem d8_10 : decode jdk_38_method_7_code 10 = .ok (.areturn, 1) := by decide +kernel
theorem ef_8_9 (m : MethodId) (o1 : Addr) : entryFrame m #[(.ref o1)] 1 = mkF m 0 #[.val (.ref o1)] [] := by first | (simp [entryFrame, mkF, argsToLocals, Value.category]; done) | rfl
def Q8_9 (Z : State) (w : Nat → Addr) (o1 : Addr) (h0 : Heap) (n0 : Nat) (v : Option Value) (h : Heap) (L : List Loc) : Prop := ∃ (b2_0 : Addr) (k2_0 : ClassId), v = some (.ref b2_0) ∧ Fr n0 L ∧ own_KL h0 h [⟨o1, Jvm.RoadKit.slotOf Z "java/util/ArrayList" "elementData" "[Ljava/lang/Object;"⟩] ∧ Fld Z h o1 "java/util/ArrayList" "elementData" "[Ljava/lang/Object;" (.ref b2_0) ∧ Arv Z h b2_0 k2_0 (.object "java/lang/Object") (10 : Int32) [.null, .null, .null, .null, .null, .null, .null, .null, .null, .null] .null ∧ h0.size ≤ b2_0 ∧ Ovr Z k2_0 "java/lang/Object"
set_option maxRecDepth 65536 in
set_option maxHeartbeats 40000000 in
theorem rm8_9 (l : Launch) (Z : State) (a0 : Array Value) (hw : ∀ d ∈ tables_1, d.before a0 Z = true) (w : Nat → Addr) (hW : Wd Z w) (ws : List Jvm.Cond) (o1 : Addr) (h0 : Heap) (n0 : Nat) (O0 : Old Z n0 h0) (f1 : Fld Z h0 o1 "java/util/ArrayList" "size" "I" (.int (0 : Int32))) (f2 : Fld Z h0 o1 "java/util/ArrayList" "elementData" "[Ljava/lang/Object;" (.ref (w 1))) (f3 : Exa Z h0 o1 "java/util/ArrayList") (g4 : n0 ≤ o1) :
    MetFree l ym8 (head1 (Jvm.Cond.code ym8 jdk_38_method_7_code 1 (some (.array (.object "java/lang/Object"))) :: ws) ({ frames := 2, cells := 1, slots := 10, locals := 29 } : Room)) (fun a U => a = #[(.ref o1)] ∧ Z.Warmed39 U.vm ∧ U.heap = h0) (fun _ _ _ _ _ => True) (fun _ U o U' => ∃ v L, o = .returned v ∧ Q8_9 Z w o1 h0 n0 v U'.heap L ∧ FrameEnd U o U' L ({ frames := 2, cells := 1, slots := 10, locals := 29 } : Room).cells ({ frames := 2, cells := 1, slots := 10, locals := 29 } : Room).slots) := by
  refine MetFree.of_bodySF (plainFor_of_name pnc_2) hisR ?_
  intro p e s m args below meth c s₁ Bd hml0 hP hK
  obtain ⟨rfl, hZ, hh⟩ := hP
  have hx := Bd.exec
  have hby := Bd.bytes
  have hml : c.maxLocals = 1 := hml0
  have hown : s.vm.findClass "java/util/ArrayList" = some m.cls := findClass_of_methodNamed Bd.named
  have hnm := (name_of_methodNamed Bd.named Bd.method).1
  have X0 : Stand p l e ({ frames := 2, cells := 1, slots := 10, locals := 29 } : Room) s m #[(.ref o1)] below meth c s₁ [] 0 0 := Stand.of_body Bd
  have e0 : s₁.heap = h0 := by rw [← hh, Bd.state]; rfl
  have N0 := Fr.nil n0
  skip
  have pre0 : ∀ t, Steps p.tables e below (s₁.setTop (mkF m 0 #[.val (.ref o1)] [])) t → Steps p.tables e below (s₁.setTop (entryFrame m #[(.ref o1)] 1)) t := fun t k => castTop (ef_8_9 m o1) k
  obtain ⟨T1, X1, e1, st1⟩ := getF X0 hx hZ hown (host := "") (Or.inl (wk40 hw)) Via.refl e0 f1 (g := (mkF m 2 #[.val (.ref o1)] [(.ref o1), (.ref o1)])) rfl rfl (hb hby d8_2)
  obtain ⟨cq2, q2, q2'⟩ := f3.cell
  obtain ⟨_, _, ⟨T2, L2, kk2, nn2⟩, -, X2, ⟨Lc2, hQ2, l2, y2, z2⟩, st2⟩ := X1.privateBack hx (y := ym7) hown (mvT hZ (wk52 hw)) (mvT hZ (wk53 hw)) (mvT hZ (wk55 hw)) (Cond.privateMethod_at (mvP hZ (wk54 hw) (args := #[]))) (mvT hZ (wk56 hw)) (by decide) (backOf (W := 0) (rm9_8 l Z a0 hw w hW [] o1 h0 n0 O0 f2 f3 g4) hZ (wk56 hw) (wk2 hw) (by decide) (by decide)) (g := (mkF m 7 #[.val (.ref o1)] [(.int (1 : Int32)), (.ref o1)])) rfl (by rw [hml]; rfl) (Steps.refl _) (a := o1) (by rw [e1]; exact q2) q2' (argsL := [(.int (1 : Int32))]) (rest := []) (lenOf pds_4 rfl) rfl (by show 2 * 0 + _ ≤ _; exact Nat.le_of_eq rfl) (hb hby d8_7) (fun _ _ => ⟨rfl, e1, (by decide : 0 + 1 ≤ _), (by decide : 0 + 10 ≤ _)⟩)
  dsimp only [Pt.U, Pt.locs, Pt.cells, Pt.slots] at X2 l2 y2 z2 st2 hQ2
  subst l2 y2 z2
  obtain ⟨b2_0, k2_0, rfl, N2q, K2, r2_0, r2_1, r2_2, r2_3⟩ := hQ2
  have N2 := Fr.app N0 N2q
  have O3 := own_old O0 K2 (own_ngc g4 own_ng0)
  have ggb2_0 : n0 ≤ b2_0 := by rw [← O0.1]; exact Nat.le_trans O0.2.1 r2_2
  obtain ⟨fs, hr, hrun, hended, hWm, hsame⟩ := X2.leave (v := some (.ref b2_0)) (fun h => by rw [Bd.returns] at h; cases h)
  have Kf4 : own_KL h0 T2.heap [⟨o1, Jvm.RoadKit.slotOf Z "java/util/ArrayList" "elementData" "[Ljava/lang/Object;"⟩] := (own_klT (own_kl0 h0 [⟨o1, Jvm.RoadKit.slotOf Z "java/util/ArrayList" "elementData" "[Ljava/lang/Object;"⟩]) K2 (own_kac (Or.inl (List.mem_of_getElem? (i := 0) rfl)) own_ka0))
  refine ⟨_, _, pre0 _ ?_, hrun, hended, _, _, rfl, ?_, ⟨_, rfl⟩, hWm, hsame.mono (by decide) (by decide)⟩
  · show Steps p.tables e below (s₁.setTop (mkF m 0 #[.val (.ref o1)] [])) _
    refine sA X0 hx hby d8_0 rfl rfl ?_
    refine sA X0 hx hby d8_1 rfl rfl ?_
    refine st1 _ ?_
    refine sc X1 hx hby d8_5 ?_
    refine XS.iadd X1.here hx rfl (hb hby d8_6) rfl ?_
    refine st2.trans ?_
    jvm_step X2.here [X2.here.top, hx, (hb hby d8_10), X2.method', Bd.returns, Value.isRef, FieldType.isReference]
    first | (intro acts; rw [hr _ acts rfl rfl rfl]) | rw [hr _ _ rfl rfl rfl]
    exact Steps.refl _
  · show Q8_9 Z w o1 h0 n0 _ T2.heap _
    exact ⟨b2_0, k2_0, rfl, N2, Kf4, r2_0, r2_1, (Nat.le_trans (Nat.le_refl _) r2_2), r2_3⟩
theorem pds_5 : parseMethodDescriptor "()[Ljava/lang/Object;" = some ⟨[], some (.array (.object "java/lang/Object"))⟩ := by decide +kernel
theorem d7_10 : decode jdk_38_method_24_code 10 = .ok (.astore_n 2, 1) := by decide +kernel
theorem d7_11 : decode jdk_38_method_24_code 11 = .ok (.aload_n 2, 1) := by decide +kernel
theorem d7_12 : decode jdk_38_method_24_code 12 = .ok (.iload_n 3, 1) := by decide +kernel
theorem d7_13 : decode jdk_38_method_24_code 13 = .ok (.aload_n 1, 1) := by decide +kernel
theorem d7_14 : decode jdk_38_method_24_code 14 = .ok (.aastore, 1) := by decide +kernel
theorem d7_15 : decode jdk_38_method_24_code 15 = .ok (.aload_n 0, 1) := by decide +kernel
theorem d7_16 : decode jdk_38_method_24_code 16 = .ok (.iload_n 3, 1) := by decide +kernel
theorem d7_17 : decode jdk_38_method_24_code 17 = .ok (.iconst 1, 1) := by decide +kernel
theorem d7_18 : decode jdk_38_method_24_code 18 = .ok (.iadd, 1) := by decide +kernel
theorem d7_19 : decode jdk_38_method_24_code 19 = .ok (.putfield 48, 3) := by decide +kernel
theorem d7_22 : decode jdk_38_method_24_code 22 = .ok (.return_, 1) := by decide +kernel
theorem ef_7_10 (m : MethodId) (w : Nat → Addr) (o1 : Addr) (o2 : Addr) : entryFrame m #[(.ref o1), (.ref o2), (.ref (w 1)), (.int (0 : Int32))] 4 = mkF m 0 #[.val (.ref o1), .val (.ref o2), .val (.ref (w 1)), .val (.int (0 : Int32))] [] := by first | (simp [entryFrame, mkF, argsToLocals, Value.category]; done) | rfl
def Q7_10 (Z : State) (w : Nat → Addr) (o1 : Addr) (o2 : Addr) (h0 : Heap) (n0 : Nat) (v : Option Value) (h : Heap) (L : List Loc) : Prop := ∃ (b2_0 : Addr) (k2_0 : ClassId), v = none ∧ Fr n0 L ∧ own_KL h0 h [⟨o1, Jvm.RoadKit.slotOf Z "java/util/ArrayList" "elementData" "[Ljava/lang/Object;"⟩, ⟨o1, Jvm.RoadKit.slotOf Z "java/util/ArrayList" "size" "I"⟩] ∧ Fld Z h o1 "java/util/ArrayList" "size" "I" (.int (1 : Int32)) ∧ Fld Z h o1 "java/util/ArrayList" "elementData" "[Ljava/lang/Object;" (.ref b2_0) ∧ Arv Z h b2_0 k2_0 (.object "java/lang/Object") (10 : Int32) [(.ref o2), .null, .null, .null, .null, .null, .null, .null, .null, .null] .null ∧ h0.size ≤ b2_0 ∧ Ovr Z k2_0 "java/lang/Object"
set_option maxRecDepth 65536 in
set_option maxHeartbeats 40000000 in
theorem rm7_10 (l : Launch) (Z : State) (a0 : Array Value) (hw : ∀ d ∈ tables_1, d.before a0 Z = true) (w : Nat → Addr) (hW : Wd Z w) (ws : List Jvm.Cond) (o1 : Addr) (o2 : Addr) (h0 : Heap) (n0 : Nat) (O0 : Old Z n0 h0) (f1 : Fld Z h0 o1 "java/util/ArrayList" "size" "I" (.int (0 : Int32))) (f2 : Fld Z h0 o1 "java/util/ArrayList" "elementData" "[Ljava/lang/Object;" (.ref (w 1))) (f3 : Exa Z h0 o1 "java/util/ArrayList") (g4 : n0 ≤ o1) (f5 : Exa Z h0 o2 "java/lang/Integer") :
    MetFree l ym9 (head1 (Jvm.Cond.code ym9 jdk_38_method_24_code 4 none :: ws) ({ frames := 3, cells := 1, slots := 10, locals := 41 } : Room)) (fun a U => a = #[(.ref o1), (.ref o2), (.ref (w 1)), (.int (0 : Int32))] ∧ Z.Warmed39 U.vm ∧ U.heap = h0) (fun _ _ _ _ _ => True) (fun _ U o U' => ∃ v L, o = .returned v ∧ Q7_10 Z w o1 o2 h0 n0 v U'.heap L ∧ FrameEnd U o U' L ({ frames := 3, cells := 1, slots := 10, locals := 41 } : Room).cells ({ frames := 3, cells := 1, slots := 10, locals := 41 } : Room).slots) := by
  refine MetFree.of_bodySF (plainFor_of_name pnc_2) hisR ?_
  intro p e s m args below meth c s₁ Bd hml0 hP hK
  obtain ⟨rfl, hZ, hh⟩ := hP
  have hx := Bd.exec
  have hby := Bd.bytes
  have hml : c.maxLocals = 4 := hml0
  have hown : s.vm.findClass "java/util/ArrayList" = some m.cls := findClass_of_methodNamed Bd.named
  have hnm := (name_of_methodNamed Bd.named Bd.method).1
  have X0 : Stand p l e ({ frames := 3, cells := 1, slots := 10, locals := 41 } : Room) s m #[(.ref o1), (.ref o2), (.ref (w 1)), (.int (0 : Int32))] below meth c s₁ [] 0 0 := Stand.of_body Bd
  have e0 : s₁.heap = h0 := by rw [← hh, Bd.state]; rfl
  have N0 := Fr.nil n0
  let La : Array Slot := #[.val (.ref o1), .val (.ref o2), .val (.ref (w 1)), .val (.int (0 : Int32))]
  have pre0 : ∀ t, Steps p.tables e below (s₁.setTop (mkF m 0 #[.val (.ref o1), .val (.ref o2), .val (.ref (w 1)), .val (.int (0 : Int32))] [])) t → Steps p.tables e below (s₁.setTop (entryFrame m #[(.ref o1), (.ref o2), (.ref (w 1)), (.int (0 : Int32))] 4)) t := fun t k => castTop (ef_7_10 m w o1 o2) k
  obtain ⟨cl1, Ar1, q1, S1, Nn1, Hs1, G1⟩ := ((wd7 hW).ext O0.2)
  obtain ⟨cq2, q2, q2'⟩ := f3.cell
  obtain ⟨_, _, ⟨T2, L2, kk2, nn2⟩, -, X2, ⟨Lc2, hQ2, l2, y2, z2⟩, st2⟩ := X0.privateBack hx (y := ym8) hown (mvT hZ (wk47 hw)) (mvT hZ (wk48 hw)) (mvT hZ (wk50 hw)) (Cond.privateMethod_at (mvP hZ (wk49 hw) (args := #[]))) (mvT hZ (wk51 hw)) (by decide) (backOf (W := 0) (rm8_9 l Z a0 hw w hW [] o1 h0 n0 O0 f1 f2 f3 g4) hZ (wk51 hw) (wk2 hw) (by decide) (by decide)) (g := (mkF m 7 La [(.ref o1)])) rfl (by rw [hml]; rfl) (Steps.refl _) (a := o1) (by rw [e0]; exact q2) q2' (argsL := []) (rest := []) (lenOf pds_5 rfl) rfl (by show 2 * 0 + _ ≤ _; exact Nat.le_of_eq rfl) (hb hby d7_7) (fun _ _ => ⟨rfl, e0, (by decide : 0 + 1 ≤ _), (by decide : 0 + 10 ≤ _)⟩)
  dsimp only [Pt.U, Pt.locs, Pt.cells, Pt.slots] at X2 l2 y2 z2 st2 hQ2
  subst l2 y2 z2
  obtain ⟨b2_0, k2_0, rfl, N2q, K2, r2_0, r2_1, r2_2, r2_3⟩ := hQ2
  have N2 := Fr.app N0 N2q
  have O3 := own_old O0 K2 (own_ngc g4 own_ng0)
  have ggb2_0 : n0 ≤ b2_0 := by rw [← O0.1]; exact Nat.le_trans O0.2.1 r2_2
  let Lb4 : Array Slot := #[.val (.ref o1), .val (.ref o2), .val (.ref b2_0), .val (.int (0 : Int32))]
  obtain ⟨cl5, Ar5, q5, S5, Nn5, Hs5, G5⟩ := r2_1
  have hin5 : ¬ ((0 : Int32) < 0 ∨ cl5.slots.size ≤ ((0 : Int32)).toNatClampNeg) := inb_of S5 ⟨by decide, by decide⟩
  have t6 := (own_exa f5 K2)
  obtain ⟨T5, h5, X5, e5, W5, st5⟩ := stR X2 hx hZ rfl Ar5 (j := (0 : Int32)) hin5 rfl (Sto.ofV Ar5 q5 r2_3 (Ins.of_exa t6 (wk63 hw))) (g := (mkF m 14 Lb4 [(.ref o2), (.int (0 : Int32)), (.ref b2_0)])) rfl rfl (hb hby d7_14)
  have V5 : Arv Z h5 b2_0 k2_0 (.object "java/lang/Object") (10 : Int32) [(.ref o2), .null, .null, .null, .null, .null, .null, .null, .null, .null] .null := Arv.set Ar5 q5 S5 Nn5 Hs5 G5 rfl W5 0 rfl (Nat.le_of_ble_eq_true rfl)
  have N5 := Fr.snoc X5 N2 ggb2_0
  have O7 := O3.wr W5 ggb2_0
  have ne8 : o1 ≠ b2_0 := (Nat.ne_of_lt (Nat.lt_of_lt_of_le f3.lt r2_2))
  have t9 := ((own_fld f1 K2 (own_nls (sn3 hw) own_nl0)).other W5 (Or.inl ne8))
  have t10 := ((own_exa f3 K2).wr W5)
  obtain ⟨T11, h11, X11, e11, W11, st11⟩ := putF X5 hx hZ hown (host := "") (Or.inl (wk40 hw)) Via.refl e5 t9 t10 (Or.inl (wk41 hw)) (wk1 hw) (ty := .int) (by decide) rfl rfl (g := (mkF m 19 Lb4 [(.int (1 : Int32)), (.ref o1)])) rfl rfl (hb hby d7_19)
  have F11 : Fld Z h11 o1 "java/util/ArrayList" "size" "I" (.int (1 : Int32)) := t9.same W11
  have N11 := Fr.snoc X11 N5 g4
  have O12 := O7.wr W11 g4
  obtain ⟨fs, hr, hrun, hended, hWm, hsame⟩ := X11.leave (v := none) (fun _ => rfl)
  have Kf13 : own_KL h0 h11 [⟨o1, Jvm.RoadKit.slotOf Z "java/util/ArrayList" "elementData" "[Ljava/lang/Object;"⟩, ⟨o1, Jvm.RoadKit.slotOf Z "java/util/ArrayList" "size" "I"⟩] := (own_klW (own_klW (own_klT (own_kl0 h0 [⟨o1, Jvm.RoadKit.slotOf Z "java/util/ArrayList" "elementData" "[Ljava/lang/Object;"⟩, ⟨o1, Jvm.RoadKit.slotOf Z "java/util/ArrayList" "size" "I"⟩]) K2 (own_kac (Or.inl (List.mem_of_getElem? (i := 0) rfl)) own_ka0)) W5 (Or.inr (Nat.le_trans (Nat.le_refl _) r2_2))) W11 (Or.inl (List.mem_of_getElem? (i := 1) rfl)))
  have t14 := ((r2_0.other W5 (Or.inl ne8)).other W11 (Or.inr (sn4 hw)))
  have t15 := (V5.other W11 (Ne.symm ne8))
  refine ⟨_, _, pre0 _ ?_, hrun, hended, _, _, rfl, ?_, ⟨_, rfl⟩, hWm, hsame.mono (by decide) (by decide)⟩
  · show Steps p.tables e below (s₁.setTop (mkF m 0 La [])) _
    refine sI X0 hx hby d7_0 rfl ?_
    refine sA X0 hx hby d7_1 rfl rfl ?_
    refine X0.arraylength hx (by rw [e0]; exact Ar1.1) (State.isArrayOf_alike hZ.alike Ar1.2.1) (g := (mkF m 2 La [(.ref (w 1)), (.int (0 : Int32))])) rfl rfl (hb hby d7_2) _ ?_
    rw [len_of S1 Nn1]
    show Steps p.tables e below (s₁.setTop (mkF m 3 La [(.int (0 : Int32)), (.int (0 : Int32))])) _
    refine sn X0 hx hby d7_3 (by decide) ?_
    refine sA X0 hx hby d7_6 rfl rfl ?_
    refine st2.trans ?_
    refine XS.astoreN X2.here hx rfl (hb hby d7_10) rfl rfl (l' := Lb4) rfl ?_
    refine sA X2 hx hby d7_11 rfl rfl ?_
    refine sI X2 hx hby d7_12 rfl ?_
    refine sA X2 hx hby d7_13 rfl rfl ?_
    refine st5 _ ?_
    refine sA X5 hx hby d7_15 rfl rfl ?_
    refine sI X5 hx hby d7_16 rfl ?_
    refine sc X5 hx hby d7_17 ?_
    refine XS.iadd X5.here hx rfl (hb hby d7_18) rfl ?_
    refine st11 _ ?_
    exact X11.returnOut hx Bd.returns (hb hby d7_22) hr
  · show Q7_10 Z w o1 o2 h0 n0 _ T11.heap _
    rw [e11]
    exact ⟨b2_0, k2_0, rfl, N11, Kf13, F11, t14, t15, (Nat.le_trans (Nat.le_refl _) r2_2), r2_3⟩
theorem pds_6 : parseMethodDescriptor "(Ljava/lang/Object;[Ljava/lang/Object;I)V" = some ⟨[(.object "java/lang/Object"), (.array (.object "java/lang/Object")), .int], none⟩ := by decide +kernel
theorem d6_23 : decode jdk_38_method_25_code 23 = .ok (.iconst 1, 1) := by decide +kernel
theorem d6_24 : decode jdk_38_method_25_code 24 = .ok (.ireturn, 1) := by decide +kernel
theorem ef_6_11 (m : MethodId) (o1 : Addr) (o2 : Addr) : entryFrame m #[(.ref o1), (.ref o2)] 2 = mkF m 0 #[.val (.ref o1), .val (.ref o2)] [] := by first | (simp [entryFrame, mkF, argsToLocals, Value.category]; done) | rfl
def Q6_11 (Z : State) (w : Nat → Addr) (o1 : Addr) (o2 : Addr) (h0 : Heap) (n0 : Nat) (v : Option Value) (h : Heap) (L : List Loc) : Prop := ∃ (b10_0 : Addr) (k10_0 : ClassId), v = some (.int (1 : Int32)) ∧ Fr n0 L ∧ own_KL h0 h [⟨o1, Jvm.RoadKit.slotOf Z "java/util/AbstractList" "modCount" "I"⟩, ⟨o1, Jvm.RoadKit.slotOf Z "java/util/ArrayList" "elementData" "[Ljava/lang/Object;"⟩, ⟨o1, Jvm.RoadKit.slotOf Z "java/util/ArrayList" "size" "I"⟩] ∧ Fld Z h o1 "java/util/AbstractList" "modCount" "I" (.int (1 : Int32)) ∧ Fld Z h o1 "java/util/ArrayList" "elementData" "[Ljava/lang/Object;" (.ref b10_0) ∧ Fld Z h o1 "java/util/ArrayList" "size" "I" (.int (1 : Int32)) ∧ Arv Z h b10_0 k10_0 (.object "java/lang/Object") (10 : Int32) [(.ref o2), .null, .null, .null, .null, .null, .null, .null, .null, .null] .null ∧ h0.size ≤ b10_0 ∧ Ovr Z k10_0 "java/lang/Object"
set_option maxRecDepth 65536 in
set_option maxHeartbeats 40000000 in
theorem rm6_11 (l : Launch) (Z : State) (a0 : Array Value) (hw : ∀ d ∈ tables_1, d.before a0 Z = true) (w : Nat → Addr) (hW : Wd Z w) (ws : List Jvm.Cond) (o1 : Addr) (o2 : Addr) (h0 : Heap) (n0 : Nat) (O0 : Old Z n0 h0) (f1 : Fld Z h0 o1 "java/util/AbstractList" "modCount" "I" (.int (0 : Int32))) (f2 : Exa Z h0 o1 "java/util/ArrayList") (g3 : n0 ≤ o1) (f4 : Fld Z h0 o1 "java/util/ArrayList" "elementData" "[Ljava/lang/Object;" (.ref (w 1))) (f5 : Fld Z h0 o1 "java/util/ArrayList" "size" "I" (.int (0 : Int32))) (f6 : Exa Z h0 o2 "java/lang/Integer") :
    MetFree l ym10 (head1 (Jvm.Cond.code ym10 jdk_38_method_25_code 2 (some .boolean) :: ws) ({ frames := 4, cells := 1, slots := 10, locals := 56 } : Room)) (fun a U => a = #[(.ref o1), (.ref o2)] ∧ Z.Warmed39 U.vm ∧ U.heap = h0) (fun _ _ _ _ _ => True) (fun _ U o U' => ∃ v L, o = .returned v ∧ Q6_11 Z w o1 o2 h0 n0 v U'.heap L ∧ FrameEnd U o U' L ({ frames := 4, cells := 1, slots := 10, locals := 56 } : Room).cells ({ frames := 4, cells := 1, slots := 10, locals := 56 } : Room).slots) := by
  refine MetFree.of_bodySF (plainFor_of_name pnc_2) hisR ?_
  intro p e s m args below meth c s₁ Bd hml0 hP hK
  obtain ⟨rfl, hZ, hh⟩ := hP
  have hx := Bd.exec
  have hby := Bd.bytes
  have hml : c.maxLocals = 2 := hml0
  have hown : s.vm.findClass "java/util/ArrayList" = some m.cls := findClass_of_methodNamed Bd.named
  have hnm := (name_of_methodNamed Bd.named Bd.method).1
  have X0 : Stand p l e ({ frames := 4, cells := 1, slots := 10, locals := 56 } : Room) s m #[(.ref o1), (.ref o2)] below meth c s₁ [] 0 0 := Stand.of_body Bd
  have e0 : s₁.heap = h0 := by rw [← hh, Bd.state]; rfl
  have N0 := Fr.nil n0
  skip
  have pre0 : ∀ t, Steps p.tables e below (s₁.setTop (mkF m 0 #[.val (.ref o1), .val (.ref o2)] [])) t → Steps p.tables e below (s₁.setTop (entryFrame m #[(.ref o1), (.ref o2)] 2)) t := fun t k => castTop (ef_6_11 m o1 o2) k
  obtain ⟨T1, X1, e1, st1⟩ := getF X0 hx hZ hown (host := "") (Or.inl (wk38 hw)) (Via.of (wk39 hw)) e0 f1 (g := (mkF m 2 #[.val (.ref o1), .val (.ref o2)] [(.ref o1), (.ref o1)])) rfl rfl (hb hby d6_2)
  obtain ⟨T2, h2, X2, e2, W2, st2⟩ := putF X1 hx hZ hown (host := "") (Or.inl (wk38 hw)) (Via.of (wk39 hw)) e1 f1 f2 (Or.inl (wk22 hw)) (wk1 hw) (ty := .int) (by decide) rfl rfl (g := (mkF m 7 #[.val (.ref o1), .val (.ref o2)] [(.int (1 : Int32)), (.ref o1)])) rfl rfl (hb hby d6_7)
  have F2 : Fld Z h2 o1 "java/util/AbstractList" "modCount" "I" (.int (1 : Int32)) := f1.same W2
  have N2 := Fr.snoc X2 N0 g3
  have O3 := O0.wr W2 g3
  have t4 := (f4.other W2 (Or.inr (sn0 hw)))
  obtain ⟨T5, X5, e5, st5⟩ := getF X2 hx hZ hown (host := "") (Or.inl (wk24 hw)) Via.refl e2 t4 (g := (mkF m 13 #[.val (.ref o1), .val (.ref o2)] [(.ref o1), (.ref o2), (.ref o1)])) rfl rfl (hb hby d6_13)
  have t6 := (f5.other W2 (Or.inr (sn2 hw)))
  obtain ⟨T7, X7, e7, st7⟩ := getF X5 hx hZ hown (host := "") (Or.inl (wk40 hw)) Via.refl e5 t6 (g := (mkF m 17 #[.val (.ref o1), .val (.ref o2)] [(.ref o1), (.ref (w 1)), (.ref o2), (.ref o1)])) rfl rfl (hb hby d6_17)
  have t8 := (f2.wr W2)
  have t9 := (f6.wr W2)
  obtain ⟨cq10, q10, q10'⟩ := t8.cell
  obtain ⟨_, _, ⟨T10, L10, kk10, nn10⟩, -, X10, ⟨Lc10, hQ10, l10, y10, z10⟩, st10⟩ := X7.privateBack hx (y := ym9) hown (mvT hZ (wk42 hw)) (mvT hZ (wk43 hw)) (mvT hZ (wk45 hw)) (Cond.privateMethod_at (mvP hZ (wk44 hw) (args := #[]))) (mvT hZ (wk46 hw)) (by decide) (backOf (W := 0) (rm7_10 l Z a0 hw w hW [] o1 o2 h2 n0 O3 t6 t4 t8 g3 t9) hZ (wk46 hw) (wk2 hw) (by decide) (by decide)) (g := (mkF m 20 #[.val (.ref o1), .val (.ref o2)] [(.int (0 : Int32)), (.ref (w 1)), (.ref o2), (.ref o1)])) rfl (by rw [hml]; rfl) (Steps.refl _) (a := o1) (by rw [e7]; exact q10) q10' (argsL := [(.ref o2), (.ref (w 1)), (.int (0 : Int32))]) (rest := []) (lenOf pds_6 rfl) rfl (by show 2 * 0 + _ ≤ _; exact Nat.le_of_eq rfl) (hb hby d6_20) (fun _ _ => ⟨rfl, e7, (by decide : 0 + 1 ≤ _), (by decide : 0 + 10 ≤ _)⟩)
  dsimp only [Pt.U, Pt.locs, Pt.cells, Pt.slots] at X10 l10 y10 z10 st10 hQ10
  subst l10 y10 z10
  obtain ⟨b10_0, k10_0, rfl, N10q, K10, r10_0, r10_1, r10_2, r10_3, r10_4⟩ := hQ10
  have N10 := Fr.app N2 N10q
  have O11 := own_old O3 K10 (own_ngc g3 (own_ngc g3 own_ng0))
  have ggb10_0 : n0 ≤ b10_0 := by rw [← O3.1]; exact Nat.le_trans O3.2.1 r10_3
  obtain ⟨fs, hr, hrun, hended, hWm, hsame⟩ := X10.leave (v := some (.int (1 : Int32))) (fun h => by rw [Bd.returns] at h; cases h)
  have Kf12 : own_KL h0 T10.heap [⟨o1, Jvm.RoadKit.slotOf Z "java/util/AbstractList" "modCount" "I"⟩, ⟨o1, Jvm.RoadKit.slotOf Z "java/util/ArrayList" "elementData" "[Ljava/lang/Object;"⟩, ⟨o1, Jvm.RoadKit.slotOf Z "java/util/ArrayList" "size" "I"⟩] := (own_klT (own_klW (own_kl0 h0 [⟨o1, Jvm.RoadKit.slotOf Z "java/util/AbstractList" "modCount" "I"⟩, ⟨o1, Jvm.RoadKit.slotOf Z "java/util/ArrayList" "elementData" "[Ljava/lang/Object;"⟩, ⟨o1, Jvm.RoadKit.slotOf Z "java/util/ArrayList" "size" "I"⟩]) W2 (Or.inl (List.mem_of_getElem? (i := 0) rfl))) K10 (own_kac (Or.inl (List.mem_of_getElem? (i := 1) rfl)) (own_kac (Or.inl (List.mem_of_getElem? (i := 2) rfl)) own_ka0)))
  have t13 := (own_fld F2 K10 (own_nls (sn1 hw) (own_nls (sn5 hw) own_nl0)))
  refine ⟨_, _, pre0 _ ?_, hrun, hended, _, _, rfl, ?_, ⟨_, rfl⟩, hWm, hsame.mono (by decide) (by decide)⟩
  · show Steps p.tables e below (s₁.setTop (mkF m 0 #[.val (.ref o1), .val (.ref o2)] [])) _
    refine sA X0 hx hby d6_0 rfl rfl ?_
    refine XS.dup X0.here hx rfl (hb hby d6_1) rfl rfl ?_
    refine st1 _ ?_
    refine sc X1 hx hby d6_5 ?_
    refine XS.iadd X1.here hx rfl (hb hby d6_6) rfl ?_
    refine st2 _ ?_
    refine sA X2 hx hby d6_10 rfl rfl ?_
    refine sA X2 hx hby d6_11 rfl rfl ?_
    refine sA X2 hx hby d6_12 rfl rfl ?_
    refine st5 _ ?_
    refine sA X5 hx hby d6_16 rfl rfl ?_
    refine st7 _ ?_
    refine st10.trans ?_
    refine sc X10 hx hby d6_23 ?_
    exact retN X10 hx (t := .boolean) Bd.returns (by simp) (hb hby d6_24) hr
  · show Q6_11 Z w o1 o2 h0 n0 _ T10.heap _
    exact ⟨b10_0, k10_0, rfl, N10, Kf12, t13, r10_1, r10_0, r10_2, (Nat.le_trans (Nat.le_trans (Nat.le_refl _) (Nat.le_of_eq W2.size.symm)) r10_3), r10_4⟩
theorem pds_7 : parseMethodDescriptor "(Ljava/lang/Object;)Z" = some ⟨[(.object "java/lang/Object")], some .boolean⟩ := by decide +kernel
theorem d11_0 : decode prog_33_method_1_code 0 = .ok (.aload_n 0, 1) := by decide +kernel
theorem d11_1 : decode prog_33_method_1_code 1 = .ok (.invokespecial 1, 3) := by decide +kernel
theorem d11_4 : decode prog_33_method_1_code 4 = .ok (.aload_n 0, 1) := by decide +kernel
theorem d11_5 : decode prog_33_method_1_code 5 = .ok (.aload_n 1, 1) := by decide +kernel
theorem d11_6 : decode prog_33_method_1_code 6 = .ok (.putfield 7, 3) := by decide +kernel
theorem d11_9 : decode prog_33_method_1_code 9 = .ok (.aload_n 0, 1) := by decide +kernel
theorem d11_10 : decode prog_33_method_1_code 10 = .ok (.lload_n 2, 1) := by decide +kernel
theorem d11_11 : decode prog_33_method_1_code 11 = .ok (.putfield 13, 3) := by decide +kernel
theorem d11_14 : decode prog_33_method_1_code 14 = .ok (.return_, 1) := by decide +kernel
theorem ef_11_12 (m : MethodId) (o1 : Addr) (o2 : Addr) (q3 : Int64) : entryFrame m #[(.ref o1), (.ref o2), (.long q3)] 4 = mkF m 0 #[.val (.ref o1), .val (.ref o2), .val (.long q3), .second] [] := by first | (simp [entryFrame, mkF, argsToLocals, Value.category]; done) | rfl
theorem pnc_5 : plainName "com/example/tidy_mailbox/tidymailbox/stream/StreamRecord" = true := by first | (simp [plainName, overriddenIn]; done) | decide +kernel
def Q11_12 (Z : State) (w : Nat → Addr) (o1 : Addr) (o2 : Addr) (q3 : Int64) (h0 : Heap) (n0 : Nat) (v : Option Value) (h : Heap) (L : List Loc) : Prop := v = none ∧ Fr n0 L ∧ own_KL h0 h [⟨o1, Jvm.RoadKit.slotOf Z "com/example/tidy_mailbox/tidymailbox/stream/StreamRecord" "value" "Ljava/lang/Object;"⟩, ⟨o1, Jvm.RoadKit.slotOf Z "com/example/tidy_mailbox/tidymailbox/stream/StreamRecord" "timestamp" "J"⟩] ∧ Fld Z h o1 "com/example/tidy_mailbox/tidymailbox/stream/StreamRecord" "value" "Ljava/lang/Object;" (.ref o2) ∧ Fld Z h o1 "com/example/tidy_mailbox/tidymailbox/stream/StreamRecord" "timestamp" "J" (.long q3)
set_option maxRecDepth 65536 in
set_option maxHeartbeats 40000000 in
theorem rm11_12 (l : Launch) (Z : State) (a0 : Array Value) (hw : ∀ d ∈ tables_1, d.before a0 Z = true) (w : Nat → Addr) (hW : Wd Z w) (ws : List Jvm.Cond) (o1 : Addr) (o2 : Addr) (q3 : Int64) (h0 : Heap) (n0 : Nat) (O0 : Old Z n0 h0) (f1 : Exa Z h0 o1 "com/example/tidy_mailbox/tidymailbox/stream/StreamRecord") (f2 : Fld Z h0 o1 "com/example/tidy_mailbox/tidymailbox/stream/StreamRecord" "value" "Ljava/lang/Object;" .null) (g3 : n0 ≤ o1) (f4 : Fld Z h0 o1 "com/example/tidy_mailbox/tidymailbox/stream/StreamRecord" "timestamp" "J" (.long (0 : Int64))) :
    MetFree l ym11 (head1 (Jvm.Cond.code ym11 prog_33_method_1_code 4 none :: ws) ({ frames := 1, cells := 0, slots := 0, locals := 12 } : Room)) (fun a U => a = #[(.ref o1), (.ref o2), (.long q3)] ∧ Z.Warmed39 U.vm ∧ U.heap = h0) (fun _ _ _ _ _ => True) (fun _ U o U' => ∃ v L, o = .returned v ∧ Q11_12 Z w o1 o2 q3 h0 n0 v U'.heap L ∧ FrameEnd U o U' L ({ frames := 1, cells := 0, slots := 0, locals := 12 } : Room).cells ({ frames := 1, cells := 0, slots := 0, locals := 12 } : Room).slots) := by
  refine MetFree.of_bodySF (plainFor_of_name pnc_5) hisR ?_
  intro p e s m args below meth c s₁ Bd hml0 hP hK
  obtain ⟨rfl, hZ, hh⟩ := hP
  have hx := Bd.exec
  have hby := Bd.bytes
  have hml : c.maxLocals = 4 := hml0
  have hown : s.vm.findClass "com/example/tidy_mailbox/tidymailbox/stream/StreamRecord" = some m.cls := findClass_of_methodNamed Bd.named
  have hnm := (name_of_methodNamed Bd.named Bd.method).1
  have X0 : Stand p l e ({ frames := 1, cells := 0, slots := 0, locals := 12 } : Room) s m #[(.ref o1), (.ref o2), (.long q3)] below meth c s₁ [] 0 0 := Stand.of_body Bd
  have e0 : s₁.heap = h0 := by rw [← hh, Bd.state]; rfl
  have N0 := Fr.nil n0
  let La : Array Slot := #[.val (.ref o1), .val (.ref o2), .val (.long q3), .second]
  have pre0 : ∀ t, Steps p.tables e below (s₁.setTop (mkF m 0 #[.val (.ref o1), .val (.ref o2), .val (.long q3), .second] [])) t → Steps p.tables e below (s₁.setTop (entryFrame m #[(.ref o1), (.ref o2), (.long q3)] 4)) t := fun t k => castTop (ef_11_12 m o1 o2 q3) k
  obtain ⟨T1, X1, e1, st1⟩ := initO X0 hx hZ hown (wk70 hw) (wk19 hw) (wk20 hw) e0 (g := (mkF m 1 La [(.ref o1)])) rfl (by rw [hml]; rfl) rfl (hb hby d11_1) (by decide) (W := 0) (by show 2 * 0 + _ ≤ _; exact Nat.le_of_eq rfl) (by decide)
  obtain ⟨T2, h2, X2, e2, W2, st2⟩ := putF X1 hx hZ hown (host := "") (Or.inl (wk71 hw)) Via.refl e1 f2 f1 (Or.inr ⟨(wk72 hw), rfl, hnm⟩) (wk65 hw) (ty := (.object "java/lang/Object")) (by decide) rfl rfl (g := (mkF m 6 La [(.ref o2), (.ref o1)])) rfl rfl (hb hby d11_6)
  have F2 : Fld Z h2 o1 "com/example/tidy_mailbox/tidymailbox/stream/StreamRecord" "value" "Ljava/lang/Object;" (.ref o2) := f2.same W2
  have N2 := Fr.snoc X2 N0 g3
  have O3 := O0.wr W2 g3
  have t4 := (f4.other W2 (Or.inr (sn6 hw)))
  have t5 := (f1.wr W2)
  obtain ⟨T6, h6, X6, e6, W6, st6⟩ := putF X2 hx hZ hown (host := "") (Or.inl (wk73 hw)) Via.refl e2 t4 t5 (Or.inr ⟨(wk74 hw), rfl, hnm⟩) (wk65 hw) (ty := .long) (by decide) rfl rfl (g := (mkF m 11 La [(.long q3), (.ref o1)])) rfl rfl (hb hby d11_11)
  have F6 : Fld Z h6 o1 "com/example/tidy_mailbox/tidymailbox/stream/StreamRecord" "timestamp" "J" (.long q3) := t4.same W6
  have N6 := Fr.snoc X6 N2 g3
  have O7 := O3.wr W6 g3
  obtain ⟨fs, hr, hrun, hended, hWm, hsame⟩ := X6.leave (v := none) (fun _ => rfl)
  have Kf8 : own_KL h0 h6 [⟨o1, Jvm.RoadKit.slotOf Z "com/example/tidy_mailbox/tidymailbox/stream/StreamRecord" "value" "Ljava/lang/Object;"⟩, ⟨o1, Jvm.RoadKit.slotOf Z "com/example/tidy_mailbox/tidymailbox/stream/StreamRecord" "timestamp" "J"⟩] := (own_klW (own_klW (own_kl0 h0 [⟨o1, Jvm.RoadKit.slotOf Z "com/example/tidy_mailbox/tidymailbox/stream/StreamRecord" "value" "Ljava/lang/Object;"⟩, ⟨o1, Jvm.RoadKit.slotOf Z "com/example/tidy_mailbox/tidymailbox/stream/StreamRecord" "timestamp" "J"⟩]) W2 (Or.inl (List.mem_of_getElem? (i := 0) rfl))) W6 (Or.inl (List.mem_of_getElem? (i := 1) rfl)))
  have t9 := (F2.other W6 (Or.inr (sn7 hw)))
  refine ⟨_, _, pre0 _ ?_, hrun, hended, _, _, rfl, ?_, ⟨_, rfl⟩, hWm, hsame.mono (by decide) (by decide)⟩
  · show Steps p.tables e below (s₁.setTop (mkF m 0 La [])) _
    refine sA X0 hx hby d11_0 rfl rfl ?_
    refine st1 _ ?_
    refine sA X1 hx hby d11_4 rfl rfl ?_
    refine sA X1 hx hby d11_5 rfl rfl ?_
    refine st2 _ ?_
    refine sA X2 hx hby d11_9 rfl rfl ?_
    refine sL X2 hx hby d11_10 rfl ?_
    refine st6 _ ?_
    exact X6.returnOut hx Bd.returns (hb hby d11_14) hr
  · show Q11_12 Z w o1 o2 q3 h0 n0 _ T6.heap _
    rw [e6]
    exact ⟨rfl, N6, Kf8, t9, F6⟩
theorem pds_8 : parseMethodDescriptor "(Ljava/lang/Object;J)V" = some ⟨[(.object "java/lang/Object"), .long], none⟩ := by decide +kernel
theorem d12_0 : decode prog_13_method_1_code 0 = .ok (.aload_n 0, 1) := by decide +kernel
theorem d12_1 : decode prog_13_method_1_code 1 = .ok (.invokespecial 1, 3) := by decide +kernel
theorem d13_0 : decode prog_11_method_1_code 0 = .ok (.aload_n 0, 1) := by decide +kernel
theorem d13_1 : decode prog_11_method_1_code 1 = .ok (.invokespecial 1, 3) := by decide +kernel
theorem d13_4 : decode prog_11_method_1_code 4 = .ok (.return_, 1) := by decide +kernel
theorem ef_13_13 (m : MethodId) (o1 : Addr) : entryFrame m #[(.ref o1)] 1 = mkF m 0 #[.val (.ref o1)] [] := by first | (simp [entryFrame, mkF, argsToLocals, Value.category]; done) | rfl
theorem pnc_6 : plainName "com/example/tidy_mailbox/tidymailbox/async/Entry" = true := by first | (simp [plainName, overriddenIn]; done) | decide +kernel
def Q13_13 (Z : State) (w : Nat → Addr) (o1 : Addr) (h0 : Heap) (n0 : Nat) (v : Option Value) (h : Heap) (L : List Loc) : Prop := v = none ∧ Fr n0 L ∧ h = h0
set_option maxRecDepth 65536 in
set_option maxHeartbeats 40000000 in
theorem rm13_13 (l : Launch) (Z : State) (a0 : Array Value) (hw : ∀ d ∈ tables_1, d.before a0 Z = true) (w : Nat → Addr) (hW : Wd Z w) (ws : List Jvm.Cond) (o1 : Addr) (h0 : Heap) (n0 : Nat) (O0 : Old Z n0 h0) :
    MetFree l ym12 (head1 (Jvm.Cond.code ym12 prog_11_method_1_code 1 none :: ws) ({ frames := 1, cells := 0, slots := 0, locals := 12 } : Room)) (fun a U => a = #[(.ref o1)] ∧ Z.Warmed39 U.vm ∧ U.heap = h0) (fun _ _ _ _ _ => True) (fun _ U o U' => ∃ v L, o = .returned v ∧ Q13_13 Z w o1 h0 n0 v U'.heap L ∧ FrameEnd U o U' L ({ frames := 1, cells := 0, slots := 0, locals := 12 } : Room).cells ({ frames := 1, cells := 0, slots := 0, locals := 12 } : Room).slots) := by
  refine MetFree.of_bodySF (plainFor_of_name pnc_6) hisR ?_
  intro p e s m args below meth c s₁ Bd hml0 hP hK
  obtain ⟨rfl, hZ, hh⟩ := hP
  have hx := Bd.exec
  have hby := Bd.bytes
  have hml : c.maxLocals = 1 := hml0
  have hown : s.vm.findClass "com/example/tidy_mailbox/tidymailbox/async/Entry" = some m.cls := findClass_of_methodNamed Bd.named
  have hnm := (name_of_methodNamed Bd.named Bd.method).1
  have X0 : Stand p l e ({ frames := 1, cells := 0, slots := 0, locals := 12 } : Room) s m #[(.ref o1)] below meth c s₁ [] 0 0 := Stand.of_body Bd
  have e0 : s₁.heap = h0 := by rw [← hh, Bd.state]; rfl
  have N0 := Fr.nil n0
  skip
  have pre0 : ∀ t, Steps p.tables e below (s₁.setTop (mkF m 0 #[.val (.ref o1)] [])) t → Steps p.tables e below (s₁.setTop (entryFrame m #[(.ref o1)] 1)) t := fun t k => castTop (ef_13_13 m o1) k
  obtain ⟨T1, X1, e1, st1⟩ := initO X0 hx hZ hown (wk86 hw) (wk19 hw) (wk20 hw) e0 (g := (mkF m 1 #[.val (.ref o1)] [(.ref o1)])) rfl (by rw [hml]; rfl) rfl (hb hby d13_1) (by decide) (W := 0) (by show 2 * 0 + _ ≤ _; exact Nat.le_of_eq rfl) (by decide)
  obtain ⟨fs, hr, hrun, hended, hWm, hsame⟩ := X1.leave (v := none) (fun _ => rfl)
  refine ⟨_, _, pre0 _ ?_, hrun, hended, _, _, rfl, ?_, ⟨_, rfl⟩, hWm, hsame.mono (by decide) (by decide)⟩
  · show Steps p.tables e below (s₁.setTop (mkF m 0 #[.val (.ref o1)] [])) _
    refine sA X0 hx hby d13_0 rfl rfl ?_
    refine st1 _ ?_
    exact X1.returnOut hx Bd.returns (hb hby d13_4) hr
  · show Q13_13 Z w o1 h0 n0 _ T1.heap _
    rw [e1]
    exact ⟨rfl, N0, rfl⟩
theorem d12_4 : decode prog_13_method_1_code 4 = .ok (.aload_n 0, 1) := by decide +kernel
theorem d12_5 : decode prog_13_method_1_code 5 = .ok (.aload_n 1, 1) := by decide +kernel
theorem d12_6 : decode prog_13_method_1_code 6 = .ok (.putfield 7, 3) := by decide +kernel
theorem d12_9 : decode prog_13_method_1_code 9 = .ok (.return_, 1) := by decide +kernel
theorem ef_12_14 (m : MethodId) (o1 : Addr) (o2 : Addr) : entryFrame m #[(.ref o1), (.ref o2)] 2 = mkF m 0 #[.val (.ref o1), .val (.ref o2)] [] := by first | (simp [entryFrame, mkF, argsToLocals, Value.category]; done) | rfl
theorem pnc_7 : plainName "com/example/tidy_mailbox/tidymailbox/async/RecordEntry" = true := by first | (simp [plainName, overriddenIn]; done) | decide +kernel
def Q12_14 (Z : State) (w : Nat → Addr) (o1 : Addr) (o2 : Addr) (h0 : Heap) (n0 : Nat) (v : Option Value) (h : Heap) (L : List Loc) : Prop := v = none ∧ Fr n0 L ∧ own_KL h0 h [⟨o1, Jvm.RoadKit.slotOf Z "com/example/tidy_mailbox/tidymailbox/async/RecordEntry" "input" "Lcom/example/tidy_mailbox/tidymailbox/stream/StreamRecord;"⟩] ∧ Fld Z h o1 "com/example/tidy_mailbox/tidymailbox/async/RecordEntry" "input" "Lcom/example/tidy_mailbox/tidymailbox/stream/StreamRecord;" (.ref o2)
set_option maxRecDepth 65536 in
set_option maxHeartbeats 40000000 in
theorem rm12_14 (l : Launch) (Z : State) (a0 : Array Value) (hw : ∀ d ∈ tables_1, d.before a0 Z = true) (w : Nat → Addr) (hW : Wd Z w) (ws : List Jvm.Cond) (o1 : Addr) (o2 : Addr) (h0 : Heap) (n0 : Nat) (O0 : Old Z n0 h0) (f1 : Exa Z h0 o1 "com/example/tidy_mailbox/tidymailbox/async/RecordEntry") (f2 : Fld Z h0 o1 "com/example/tidy_mailbox/tidymailbox/async/RecordEntry" "input" "Lcom/example/tidy_mailbox/tidymailbox/stream/StreamRecord;" .null) (g3 : n0 ≤ o1) :
    MetFree l ym13 (head1 (Jvm.Cond.code ym13 prog_13_method_1_code 2 none :: ws) ({ frames := 2, cells := 0, slots := 0, locals := 24 } : Room)) (fun a U => a = #[(.ref o1), (.ref o2)] ∧ Z.Warmed39 U.vm ∧ U.heap = h0) (fun _ _ _ _ _ => True) (fun _ U o U' => ∃ v L, o = .returned v ∧ Q12_14 Z w o1 o2 h0 n0 v U'.heap L ∧ FrameEnd U o U' L ({ frames := 2, cells := 0, slots := 0, locals := 24 } : Room).cells ({ frames := 2, cells := 0, slots := 0, locals := 24 } : Room).slots) := by
  refine MetFree.of_bodySF (plainFor_of_name pnc_7) hisR ?_
  intro p e s m args below meth c s₁ Bd hml0 hP hK
  obtain ⟨rfl, hZ, hh⟩ := hP
  have hx := Bd.exec
  have hby := Bd.bytes
  have hml : c.maxLocals = 2 := hml0
  have hown : s.vm.findClass "com/example/tidy_mailbox/tidymailbox/async/RecordEntry" = some m.cls := findClass_of_methodNamed Bd.named
  have hnm := (name_of_methodNamed Bd.named Bd.method).1
  have X0 : Stand p l e ({ frames := 2, cells := 0, slots := 0, locals := 24 } : Room) s m #[(.ref o1), (.ref o2)] below meth c s₁ [] 0 0 := Stand.of_body Bd
  have e0 : s₁.heap = h0 := by rw [← hh, Bd.state]; rfl
  have N0 := Fr.nil n0
  skip
  have pre0 : ∀ t, Steps p.tables e below (s₁.setTop (mkF m 0 #[.val (.ref o1), .val (.ref o2)] [])) t → Steps p.tables e below (s₁.setTop (entryFrame m #[(.ref o1), (.ref o2)] 2)) t := fun t k => castTop (ef_12_14 m o1 o2) k
  obtain ⟨_, _, ⟨T1, L1, kk1, nn1⟩, -, X1, ⟨Lc1, hQ1, l1, y1, z1⟩, st1⟩ := X0.specialBack hx (y := ym12) rfl hown (mvT hZ (wk81 hw)) (mvT hZ (wk82 hw)) (mvT hZ (wk85 hw)) (by decide) (backOf (W := 0) (rm13_13 l Z a0 hw w hW [] o1 h0 n0 O0 ) hZ (wk85 hw) (wk84 hw) (by decide) (by decide)) (g := (mkF m 1 #[.val (.ref o1), .val (.ref o2)] [(.ref o1)])) rfl (by rw [hml]; rfl) (Steps.refl _) (a := o1) (argsL := []) (rest := []) (lenOf pds_0 rfl) rfl (by show 2 * 0 + _ ≤ _; exact Nat.le_of_eq rfl) (hb hby d12_1) (fun _ _ => ⟨rfl, e0, (by decide : 0 + 0 ≤ _), (by decide : 0 + 0 ≤ _)⟩)
  dsimp only [Pt.U, Pt.locs, Pt.cells, Pt.slots] at X1 l1 y1 z1 st1 hQ1
  subst l1 y1 z1
  obtain ⟨rfl, N1q, e1⟩ := hQ1
  have N1 := Fr.app N0 N1q
  obtain ⟨T2, h2, X2, e2, W2, st2⟩ := putF X1 hx hZ hown (host := "") (Or.inl (wk87 hw)) Via.refl e1 f2 f1 (Or.inr ⟨(wk88 hw), rfl, hnm⟩) (wk76 hw) (ty := (.object "com/example/tidy_mailbox/tidymailbox/stream/StreamRecord")) (by decide) rfl rfl (g := (mkF m 6 #[.val (.ref o1), .val (.ref o2)] [(.ref o2), (.ref o1)])) rfl rfl (hb hby d12_6)
  have F2 : Fld Z h2 o1 "com/example/tidy_mailbox/tidymailbox/async/RecordEntry" "input" "Lcom/example/tidy_mailbox/tidymailbox/stream/StreamRecord;" (.ref o2) := f2.same W2
  have N2 := Fr.snoc X2 N1 g3
  have O3 := O0.wr W2 g3
  obtain ⟨fs, hr, hrun, hended, hWm, hsame⟩ := X2.leave (v := none) (fun _ => rfl)
  have Kf4 : own_KL h0 h2 [⟨o1, Jvm.RoadKit.slotOf Z "com/example/tidy_mailbox/tidymailbox/async/RecordEntry" "input" "Lcom/example/tidy_mailbox/tidymailbox/stream/StreamRecord;"⟩] := (own_klW (own_kl0 h0 [⟨o1, Jvm.RoadKit.slotOf Z "com/example/tidy_mailbox/tidymailbox/async/RecordEntry" "input" "Lcom/example/tidy_mailbox/tidymailbox/stream/StreamRecord;"⟩]) W2 (Or.inl (List.mem_of_getElem? (i := 0) rfl)))
  refine ⟨_, _, pre0 _ ?_, hrun, hended, _, _, rfl, ?_, ⟨_, rfl⟩, hWm, hsame.mono (by decide) (by decide)⟩
  · show Steps p.tables e below (s₁.setTop (mkF m 0 #[.val (.ref o1), .val (.ref o2)] [])) _
    refine sA X0 hx hby d12_0 rfl rfl ?_
    refine st1.trans ?_
    refine sA X1 hx hby d12_4 rfl rfl ?_
    refine sA X1 hx hby d12_5 rfl rfl ?_
    refine st2 _ ?_
    exact X2.returnOut hx Bd.returns (hb hby d12_9) hr
  · show Q12_14 Z w o1 o2 h0 n0 _ T2.heap _
    rw [e2]
    exact ⟨rfl, N2, Kf4, F2⟩
theorem pds_9 : parseMethodDescriptor "(Lcom/example/tidy_mailbox/tidymailbox/stream/StreamRecord;)V" = some ⟨[(.object "com/example/tidy_mailbox/tidymailbox/stream/StreamRecord")], none⟩ := by decide +kernel
theorem d14_0 : decode prog_13_method_4_code 0 = .ok (.aload_n 0, 1) := by decide +kernel
theorem d14_1 : decode prog_13_method_4_code 1 = .ok (.getfield 13, 3) := by decide +kernel
theorem d14_4 : decode prog_13_method_4_code 4 = .ok (.ifnull 7, 3) := by decide +kernel
theorem d14_11 : decode prog_13_method_4_code 11 = .ok (.iconst 0, 1) := by decide +kernel
theorem d14_12 : decode prog_13_method_4_code 12 = .ok (.ireturn, 1) := by decide +kernel
theorem ef_14_15 (m : MethodId) (o1 : Addr) : entryFrame m #[(.ref o1)] 1 = mkF m 0 #[.val (.ref o1)] [] := by first | (simp [entryFrame, mkF, argsToLocals, Value.category]; done) | rfl
def Q14_15 (Z : State) (w : Nat → Addr) (o1 : Addr) (h0 : Heap) (n0 : Nat) (v : Option Value) (h : Heap) (L : List Loc) : Prop := v = some (.int (0 : Int32)) ∧ Fr n0 L ∧ h = h0
set_option maxRecDepth 65536 in
set_option maxHeartbeats 40000000 in
theorem rm14_15 (l : Launch) (Z : State) (a0 : Array Value) (hw : ∀ d ∈ tables_1, d.before a0 Z = true) (w : Nat → Addr) (hW : Wd Z w) (ws : List Jvm.Cond) (o1 : Addr) (h0 : Heap) (n0 : Nat) (O0 : Old Z n0 h0) (f1 : Fld Z h0 o1 "com/example/tidy_mailbox/tidymailbox/async/RecordEntry" "results" "Ljava/util/List;" .null) :
    MetFree l ym14 (head1 (Jvm.Cond.code ym14 prog_13_method_4_code 1 (some .boolean) :: ws) ({ frames := 0, cells := 0, slots := 0, locals := 0 } : Room)) (fun a U => a = #[(.ref o1)] ∧ Z.Warmed39 U.vm ∧ U.heap = h0) (fun _ _ _ _ _ => True) (fun _ U o U' => ∃ v L, o = .returned v ∧ Q14_15 Z w o1 h0 n0 v U'.heap L ∧ FrameEnd U o U' L ({ frames := 0, cells := 0, slots := 0, locals := 0 } : Room).cells ({ frames := 0, cells := 0, slots := 0, locals := 0 } : Room).slots) := by
  refine MetFree.of_bodySF (plainFor_of_name pnc_7) hisR ?_
  intro p e s m args below meth c s₁ Bd hml0 hP hK
  obtain ⟨rfl, hZ, hh⟩ := hP
  have hx := Bd.exec
  have hby := Bd.bytes
  have hml : c.maxLocals = 1 := hml0
  have hown : s.vm.findClass "com/example/tidy_mailbox/tidymailbox/async/RecordEntry" = some m.cls := findClass_of_methodNamed Bd.named
  have hnm := (name_of_methodNamed Bd.named Bd.method).1
  have X0 : Stand p l e ({ frames := 0, cells := 0, slots := 0, locals := 0 } : Room) s m #[(.ref o1)] below meth c s₁ [] 0 0 := Stand.of_body Bd
  have e0 : s₁.heap = h0 := by rw [← hh, Bd.state]; rfl
  have N0 := Fr.nil n0
  skip
  have pre0 : ∀ t, Steps p.tables e below (s₁.setTop (mkF m 0 #[.val (.ref o1)] [])) t → Steps p.tables e below (s₁.setTop (entryFrame m #[(.ref o1)] 1)) t := fun t k => castTop (ef_14_15 m o1) k
  obtain ⟨T1, X1, e1, st1⟩ := getF X0 hx hZ hown (host := "") (Or.inl (wk94 hw)) Via.refl e0 f1 (g := (mkF m 1 #[.val (.ref o1)] [(.ref o1)])) rfl rfl (hb hby d14_1)
  obtain ⟨fs, hr, hrun, hended, hWm, hsame⟩ := X1.leave (v := some (.int (0 : Int32))) (fun h => by rw [Bd.returns] at h; cases h)
  refine ⟨_, _, pre0 _ ?_, hrun, hended, _, _, rfl, ?_, ⟨_, rfl⟩, hWm, hsame.mono (by decide) (by decide)⟩
  · show Steps p.tables e below (s₁.setTop (mkF m 0 #[.val (.ref o1)] [])) _
    refine sA X0 hx hby d14_0 rfl rfl ?_
    refine st1 _ ?_
    refine XS.ifnullYes X1.here hx rfl (pc0 := 4) (pc' := 11) rfl (hb hby d14_4) rfl (by decide) (by decide) ?_
    refine sc X1 hx hby d14_11 ?_
    exact retN X1 hx (t := .boolean) Bd.returns (by simp) (hb hby d14_12) hr
  · show Q14_15 Z w o1 h0 n0 _ T1.heap _
    rw [e1]
    exact ⟨rfl, N0, rfl⟩
theorem pds_10 : parseMethodDescriptor "()Z" = some ⟨[], some .boolean⟩ := by decide +kernel
theorem d15_0 : decode method_3_code 0 = .ok (.iload_n 1, 1) := by decide +kernel
theorem d15_1 : decode method_3_code 1 = .ok (.iconst 1, 1) := by decide +kernel
theorem d15_2 : decode method_3_code 2 = .ok (.if_icmp .ne 11, 3) := by decide +kernel
theorem d15_13 : decode method_3_code 13 = .ok (.iload_n 1, 1) := by decide +kernel
theorem d15_14 : decode method_3_code 14 = .ok (.iconst 2, 1) := by decide +kernel
theorem d15_15 : decode method_3_code 15 = .ok (.if_icmp .ne 11, 3) := by decide +kernel
theorem d15_26 : decode method_3_code 26 = .ok (.iload_n 1, 1) := by decide +kernel
theorem d15_27 : decode method_3_code 27 = .ok (.iconst 3, 1) := by decide +kernel
theorem d15_28 : decode method_3_code 28 = .ok (.if_icmp .ne 8, 3) := by decide +kernel
theorem d15_36 : decode method_3_code 36 = .ok (.return_, 1) := by decide +kernel
theorem ef_15_16 (m : MethodId) (o1 : Addr) (o2 : Addr) (o3 : Addr) : entryFrame m #[(.ref o1), (.int (0 : Int32)), (.ref o2), (.ref o3)] 4 = mkF m 0 #[.val (.ref o1), .val (.int (0 : Int32)), .val (.ref o2), .val (.ref o3)] [] := by first | (simp [entryFrame, mkF, argsToLocals, Value.category]; done) | rfl
theorem pnc_8 : plainName "com/example/tidy_mailbox/tidymailbox/async/RecordEntryIsCompletePinLaw" = true := by first | (simp [plainName, overriddenIn]; done) | decide +kernel
def Q15_16 (Z : State) (w : Nat → Addr) (o1 : Addr) (o2 : Addr) (o3 : Addr) (h0 : Heap) (n0 : Nat) (v : Option Value) (h : Heap) (L : List Loc) : Prop := v = none ∧ Fr n0 L ∧ h = h0
set_option maxRecDepth 65536 in
set_option maxHeartbeats 40000000 in
theorem rm15_16 (l : Launch) (Z : State) (a0 : Array Value) (hw : ∀ d ∈ tables_1, d.before a0 Z = true) (w : Nat → Addr) (hW : Wd Z w) (ws : List Jvm.Cond) (o1 : Addr) (o2 : Addr) (o3 : Addr) (h0 : Heap) (n0 : Nat) (O0 : Old Z n0 h0) :
    MetFree l ym15 (head1 (Jvm.Cond.code ym15 method_3_code 4 none :: ws) ({ frames := 0, cells := 0, slots := 0, locals := 0 } : Room)) (fun a U => a = #[(.ref o1), (.int (0 : Int32)), (.ref o2), (.ref o3)] ∧ Z.Warmed39 U.vm ∧ U.heap = h0) (fun _ _ _ _ _ => True) (fun _ U o U' => ∃ v L, o = .returned v ∧ Q15_16 Z w o1 o2 o3 h0 n0 v U'.heap L ∧ FrameEnd U o U' L ({ frames := 0, cells := 0, slots := 0, locals := 0 } : Room).cells ({ frames := 0, cells := 0, slots := 0, locals := 0 } : Room).slots) := by
  refine MetFree.of_bodySF (plainFor_of_name pnc_8) hisR ?_
  intro p e s m args below meth c s₁ Bd hml0 hP hK
  obtain ⟨rfl, hZ, hh⟩ := hP
  have hx := Bd.exec
  have hby := Bd.bytes
  have hml : c.maxLocals = 4 := hml0
  have hown : s.vm.findClass "com/example/tidy_mailbox/tidymailbox/async/RecordEntryIsCompletePinLaw" = some m.cls := findClass_of_methodNamed Bd.named
  have hnm := (name_of_methodNamed Bd.named Bd.method).1
  have X0 : Stand p l e ({ frames := 0, cells := 0, slots := 0, locals := 0 } : Room) s m #[(.ref o1), (.int (0 : Int32)), (.ref o2), (.ref o3)] below meth c s₁ [] 0 0 := Stand.of_body Bd
  have e0 : s₁.heap = h0 := by rw [← hh, Bd.state]; rfl
  have N0 := Fr.nil n0
  let La : Array Slot := #[.val (.ref o1), .val (.int (0 : Int32)), .val (.ref o2), .val (.ref o3)]
  have pre0 : ∀ t, Steps p.tables e below (s₁.setTop (mkF m 0 #[.val (.ref o1), .val (.int (0 : Int32)), .val (.ref o2), .val (.ref o3)] [])) t → Steps p.tables e below (s₁.setTop (entryFrame m #[(.ref o1), (.int (0 : Int32)), (.ref o2), (.ref o3)] 4)) t := fun t k => castTop (ef_15_16 m o1 o2 o3) k
  obtain ⟨fs, hr, hrun, hended, hWm, hsame⟩ := X0.leave (v := none) (fun _ => rfl)
  refine ⟨_, _, pre0 _ ?_, hrun, hended, _, _, rfl, ?_, ⟨_, rfl⟩, hWm, hsame.mono (by decide) (by decide)⟩
  · show Steps p.tables e below (s₁.setTop (mkF m 0 La [])) _
    refine sI X0 hx hby d15_0 rfl ?_
    refine sc X0 hx hby d15_1 ?_
    refine XS.icmpYes X0.here hx rfl (pc0 := 2) (pc' := 13) rfl (hb hby d15_2) rfl (by decide) (by decide) (by decide) ?_
    refine sI X0 hx hby d15_13 rfl ?_
    refine sc X0 hx hby d15_14 ?_
    show Steps p.tables e below (s₁.setTop (mkF m 15 La [(.int (2 : Int32)), (.int (0 : Int32))])) _
    refine XS.icmpYes X0.here hx rfl (pc0 := 15) (pc' := 26) rfl (hb hby d15_15) rfl (by decide) (by decide) (by decide) ?_
    refine sI X0 hx hby d15_26 rfl ?_
    refine sc X0 hx hby d15_27 ?_
    refine XS.icmpYes X0.here hx rfl (pc0 := 28) (pc' := 36) rfl (hb hby d15_28) rfl (by decide) (by decide) (by decide) ?_
    exact X0.returnOut hx Bd.returns (hb hby d15_36) hr
  · show Q15_16 Z w o1 o2 o3 h0 n0 _ s₁.heap _
    rw [e0]
    exact ⟨rfl, N0, rfl⟩
theorem pds_11 : parseMethodDescriptor "(Lcom/example/tidy_mailbox/tidymailbox/async/RecordEntry;ILjava/util/ArrayList;Ljava/util/ArrayList;)V" = some ⟨[(.object "com/example/tidy_mailbox/tidymailbox/async/RecordEntry"), .int, (.object "java/util/ArrayList"), (.object "java/util/ArrayList")], none⟩ := by decide +kernel
theorem d17_0 : decode prog_13_method_2_code 0 = .ok (.aload_n 0, 1) := by decide +kernel
theorem d17_1 : decode prog_13_method_2_code 1 = .ok (.getfield 7, 3) := by decide +kernel
theorem d17_4 : decode prog_13_method_2_code 4 = .ok (.areturn, 1) := by decide +kernel
theorem ef_17_17 (m : MethodId) (o1 : Addr) : entryFrame m #[(.ref o1)] 1 = mkF m 0 #[.val (.ref o1)] [] := by first | (simp [entryFrame, mkF, argsToLocals, Value.category]; done) | rfl
def Q17_17 (Z : State) (w : Nat → Addr) (o1 : Addr) (o2 : Addr) (h0 : Heap) (n0 : Nat) (v : Option Value) (h : Heap) (L : List Loc) : Prop := v = some (.ref o2) ∧ Fr n0 L ∧ h = h0
set_option maxRecDepth 65536 in
set_option maxHeartbeats 40000000 in
theorem rm17_17 (l : Launch) (Z : State) (a0 : Array Value) (hw : ∀ d ∈ tables_1, d.before a0 Z = true) (w : Nat → Addr) (hW : Wd Z w) (ws : List Jvm.Cond) (o1 : Addr) (o2 : Addr) (h0 : Heap) (n0 : Nat) (O0 : Old Z n0 h0) (f1 : Fld Z h0 o1 "com/example/tidy_mailbox/tidymailbox/async/RecordEntry" "input" "Lcom/example/tidy_mailbox/tidymailbox/stream/StreamRecord;" (.ref o2)) :
    MetFree l ym16 (head1 (Jvm.Cond.code ym16 prog_13_method_2_code 1 (some (.object "com/example/tidy_mailbox/tidymailbox/stream/StreamRecord")) :: ws) ({ frames := 0, cells := 0, slots := 0, locals := 0 } : Room)) (fun a U => a = #[(.ref o1)] ∧ Z.Warmed39 U.vm ∧ U.heap = h0) (fun _ _ _ _ _ => True) (fun _ U o U' => ∃ v L, o = .returned v ∧ Q17_17 Z w o1 o2 h0 n0 v U'.heap L ∧ FrameEnd U o U' L ({ frames := 0, cells := 0, slots := 0, locals := 0 } : Room).cells ({ frames := 0, cells := 0, slots := 0, locals := 0 } : Room).slots) := by
  refine MetFree.of_bodySF (plainFor_of_name pnc_7) hisR ?_
  intro p e s m args below meth c s₁ Bd hml0 hP hK
  obtain ⟨rfl, hZ, hh⟩ := hP
  have hx := Bd.exec
  have hby := Bd.bytes
  have hml : c.maxLocals = 1 := hml0
  have hown : s.vm.findClass "com/example/tidy_mailbox/tidymailbox/async/RecordEntry" = some m.cls := findClass_of_methodNamed Bd.named
  have hnm := (name_of_methodNamed Bd.named Bd.method).1
  have X0 : Stand p l e ({ frames := 0, cells := 0, slots := 0, locals := 0 } : Room) s m #[(.ref o1)] below meth c s₁ [] 0 0 := Stand.of_body Bd
  have e0 : s₁.heap = h0 := by rw [← hh, Bd.state]; rfl
  have N0 := Fr.nil n0
  skip
  have pre0 : ∀ t, Steps p.tables e below (s₁.setTop (mkF m 0 #[.val (.ref o1)] [])) t → Steps p.tables e below (s₁.setTop (entryFrame m #[(.ref o1)] 1)) t := fun t k => castTop (ef_17_17 m o1) k
  obtain ⟨T1, X1, e1, st1⟩ := getF X0 hx hZ hown (host := "") (Or.inl (wk87 hw)) Via.refl e0 f1 (g := (mkF m 1 #[.val (.ref o1)] [(.ref o1)])) rfl rfl (hb hby d17_1)
  obtain ⟨fs, hr, hrun, hended, hWm, hsame⟩ := X1.leave (v := some (.ref o2)) (fun h => by rw [Bd.returns] at h; cases h)
  refine ⟨_, _, pre0 _ ?_, hrun, hended, _, _, rfl, ?_, ⟨_, rfl⟩, hWm, hsame.mono (by decide) (by decide)⟩
  · show Steps p.tables e below (s₁.setTop (mkF m 0 #[.val (.ref o1)] [])) _
    refine sA X0 hx hby d17_0 rfl rfl ?_
    refine st1 _ ?_
    jvm_step X1.here [X1.here.top, hx, (hb hby d17_4), X1.method', Bd.returns, Value.isRef, FieldType.isReference]
    first | (intro acts; rw [hr _ acts rfl rfl rfl]) | rw [hr _ _ rfl rfl rfl]
    exact Steps.refl _
  · show Q17_17 Z w o1 o2 h0 n0 _ T1.heap _
    rw [e1]
    exact ⟨rfl, N0, rfl⟩
theorem pds_12 : parseMethodDescriptor "()Lcom/example/tidy_mailbox/tidymailbox/stream/StreamRecord;" = some ⟨[], some (.object "com/example/tidy_mailbox/tidymailbox/stream/StreamRecord")⟩ := by decide +kernel
theorem d15_5 : decode method_3_code 5 = .ok (.aload_n 0, 1) := by decide +kernel
theorem d15_6 : decode method_3_code 6 = .ok (.aconst_null, 1) := by decide +kernel
theorem d15_7 : decode method_3_code 7 = .ok (.invokevirtual 44, 3) := by decide +kernel
theorem d16_0 : decode prog_13_method_3_code 0 = .ok (.aload_n 0, 1) := by decide +kernel
theorem d16_1 : decode prog_13_method_3_code 1 = .ok (.aload_n 1, 1) := by decide +kernel
theorem d16_2 : decode prog_13_method_3_code 2 = .ok (.putfield 13, 3) := by decide +kernel
theorem d16_5 : decode prog_13_method_3_code 5 = .ok (.return_, 1) := by decide +kernel
theorem ef_16_18 (m : MethodId) (o1 : Addr) : entryFrame m #[(.ref o1), .null] 2 = mkF m 0 #[.val (.ref o1), .val .null] [] := by first | (simp [entryFrame, mkF, argsToLocals, Value.category]; done) | rfl
def Q16_18 (Z : State) (w : Nat → Addr) (o1 : Addr) (h0 : Heap) (n0 : Nat) (v : Option Value) (h : Heap) (L : List Loc) : Prop := v = none ∧ Fr n0 L ∧ own_KL h0 h [⟨o1, Jvm.RoadKit.slotOf Z "com/example/tidy_mailbox/tidymailbox/async/RecordEntry" "results" "Ljava/util/List;"⟩] ∧ Fld Z h o1 "com/example/tidy_mailbox/tidymailbox/async/RecordEntry" "results" "Ljava/util/List;" .null
set_option maxRecDepth 65536 in
set_option maxHeartbeats 40000000 in
theorem rm16_18 (l : Launch) (Z : State) (a0 : Array Value) (hw : ∀ d ∈ tables_1, d.before a0 Z = true) (w : Nat → Addr) (hW : Wd Z w) (ws : List Jvm.Cond) (o1 : Addr) (h0 : Heap) (n0 : Nat) (O0 : Old Z n0 h0) (f1 : Exa Z h0 o1 "com/example/tidy_mailbox/tidymailbox/async/RecordEntry") (f2 : Fld Z h0 o1 "com/example/tidy_mailbox/tidymailbox/async/RecordEntry" "results" "Ljava/util/List;" .null) (g3 : n0 ≤ o1) :
    MetFree l ym17 (head1 (Jvm.Cond.code ym17 prog_13_method_3_code 2 none :: ws) ({ frames := 0, cells := 0, slots := 0, locals := 0 } : Room)) (fun a U => a = #[(.ref o1), .null] ∧ Z.Warmed39 U.vm ∧ U.heap = h0) (fun _ _ _ _ _ => True) (fun _ U o U' => ∃ v L, o = .returned v ∧ Q16_18 Z w o1 h0 n0 v U'.heap L ∧ FrameEnd U o U' L ({ frames := 0, cells := 0, slots := 0, locals := 0 } : Room).cells ({ frames := 0, cells := 0, slots := 0, locals := 0 } : Room).slots) := by
  refine MetFree.of_bodySF (plainFor_of_name pnc_7) hisR ?_
  intro p e s m args below meth c s₁ Bd hml0 hP hK
  obtain ⟨rfl, hZ, hh⟩ := hP
  have hx := Bd.exec
  have hby := Bd.bytes
  have hml : c.maxLocals = 2 := hml0
  have hown : s.vm.findClass "com/example/tidy_mailbox/tidymailbox/async/RecordEntry" = some m.cls := findClass_of_methodNamed Bd.named
  have hnm := (name_of_methodNamed Bd.named Bd.method).1
  have X0 : Stand p l e ({ frames := 0, cells := 0, slots := 0, locals := 0 } : Room) s m #[(.ref o1), .null] below meth c s₁ [] 0 0 := Stand.of_body Bd
  have e0 : s₁.heap = h0 := by rw [← hh, Bd.state]; rfl
  have N0 := Fr.nil n0
  skip
  have pre0 : ∀ t, Steps p.tables e below (s₁.setTop (mkF m 0 #[.val (.ref o1), .val .null] [])) t → Steps p.tables e below (s₁.setTop (entryFrame m #[(.ref o1), .null] 2)) t := fun t k => castTop (ef_16_18 m o1) k
  obtain ⟨T1, h1, X1, e1, W1, st1⟩ := putF X0 hx hZ hown (host := "") (Or.inl (wk94 hw)) Via.refl e0 f2 f1 (Or.inl (wk95 hw)) (wk76 hw) (ty := (.object "java/util/List")) (by decide) rfl rfl (g := (mkF m 2 #[.val (.ref o1), .val .null] [.null, (.ref o1)])) rfl rfl (hb hby d16_2)
  have F1 : Fld Z h1 o1 "com/example/tidy_mailbox/tidymailbox/async/RecordEntry" "results" "Ljava/util/List;" .null := f2.same W1
  have N1 := Fr.snoc X1 N0 g3
  have O2 := O0.wr W1 g3
  obtain ⟨fs, hr, hrun, hended, hWm, hsame⟩ := X1.leave (v := none) (fun _ => rfl)
  have Kf3 : own_KL h0 h1 [⟨o1, Jvm.RoadKit.slotOf Z "com/example/tidy_mailbox/tidymailbox/async/RecordEntry" "results" "Ljava/util/List;"⟩] := (own_klW (own_kl0 h0 [⟨o1, Jvm.RoadKit.slotOf Z "com/example/tidy_mailbox/tidymailbox/async/RecordEntry" "results" "Ljava/util/List;"⟩]) W1 (Or.inl (List.mem_of_getElem? (i := 0) rfl)))
  refine ⟨_, _, pre0 _ ?_, hrun, hended, _, _, rfl, ?_, ⟨_, rfl⟩, hWm, hsame.mono (by decide) (by decide)⟩
  · show Steps p.tables e below (s₁.setTop (mkF m 0 #[.val (.ref o1), .val .null] [])) _
    refine sA X0 hx hby d16_0 rfl rfl ?_
    refine sA X0 hx hby d16_1 rfl rfl ?_
    refine st1 _ ?_
    exact X1.returnOut hx Bd.returns (hb hby d16_5) hr
  · show Q16_18 Z w o1 h0 n0 _ T1.heap _
    rw [e1]
    exact ⟨rfl, N1, Kf3, F1⟩
theorem pds_13 : parseMethodDescriptor "(Ljava/util/List;)V" = some ⟨[(.object "java/util/List")], none⟩ := by decide +kernel
theorem d15_10 : decode method_3_code 10 = .ok (.goto 26, 3) := by decide +kernel
theorem ef_15_19 (m : MethodId) (o1 : Addr) (o2 : Addr) (o3 : Addr) : entryFrame m #[(.ref o1), (.int (1 : Int32)), (.ref o2), (.ref o3)] 4 = mkF m 0 #[.val (.ref o1), .val (.int (1 : Int32)), .val (.ref o2), .val (.ref o3)] [] := by first | (simp [entryFrame, mkF, argsToLocals, Value.category]; done) | rfl
def Q15_19 (Z : State) (w : Nat → Addr) (o1 : Addr) (o2 : Addr) (o3 : Addr) (h0 : Heap) (n0 : Nat) (v : Option Value) (h : Heap) (L : List Loc) : Prop := v = none ∧ Fr n0 L ∧ own_KL h0 h [⟨o1, Jvm.RoadKit.slotOf Z "com/example/tidy_mailbox/tidymailbox/async/RecordEntry" "results" "Ljava/util/List;"⟩] ∧ Fld Z h o1 "com/example/tidy_mailbox/tidymailbox/async/RecordEntry" "results" "Ljava/util/List;" .null
set_option maxRecDepth 65536 in
set_option maxHeartbeats 40000000 in
theorem rm15_19 (l : Launch) (Z : State) (a0 : Array Value) (hw : ∀ d ∈ tables_1, d.before a0 Z = true) (w : Nat → Addr) (hW : Wd Z w) (ws : List Jvm.Cond) (o1 : Addr) (o2 : Addr) (o3 : Addr) (h0 : Heap) (n0 : Nat) (O0 : Old Z n0 h0) (f1 : Exa Z h0 o1 "com/example/tidy_mailbox/tidymailbox/async/RecordEntry") (f2 : Fld Z h0 o1 "com/example/tidy_mailbox/tidymailbox/async/RecordEntry" "results" "Ljava/util/List;" .null) (g3 : n0 ≤ o1) :
    MetFree l ym15 (head1 (Jvm.Cond.code ym15 method_3_code 4 none :: ws) ({ frames := 1, cells := 0, slots := 0, locals := 13 } : Room)) (fun a U => a = #[(.ref o1), (.int (1 : Int32)), (.ref o2), (.ref o3)] ∧ Z.Warmed39 U.vm ∧ U.heap = h0) (fun _ _ _ _ _ => True) (fun _ U o U' => ∃ v L, o = .returned v ∧ Q15_19 Z w o1 o2 o3 h0 n0 v U'.heap L ∧ FrameEnd U o U' L ({ frames := 1, cells := 0, slots := 0, locals := 13 } : Room).cells ({ frames := 1, cells := 0, slots := 0, locals := 13 } : Room).slots) := by
  refine MetFree.of_bodySF (plainFor_of_name pnc_8) hisR ?_
  intro p e s m args below meth c s₁ Bd hml0 hP hK
  obtain ⟨rfl, hZ, hh⟩ := hP
  have hx := Bd.exec
  have hby := Bd.bytes
  have hml : c.maxLocals = 4 := hml0
  have hown : s.vm.findClass "com/example/tidy_mailbox/tidymailbox/async/RecordEntryIsCompletePinLaw" = some m.cls := findClass_of_methodNamed Bd.named
  have hnm := (name_of_methodNamed Bd.named Bd.method).1
  have X0 : Stand p l e ({ frames := 1, cells := 0, slots := 0, locals := 13 } : Room) s m #[(.ref o1), (.int (1 : Int32)), (.ref o2), (.ref o3)] below meth c s₁ [] 0 0 := Stand.of_body Bd
  have e0 : s₁.heap = h0 := by rw [← hh, Bd.state]; rfl
  have N0 := Fr.nil n0
  let La : Array Slot := #[.val (.ref o1), .val (.int (1 : Int32)), .val (.ref o2), .val (.ref o3)]
  have pre0 : ∀ t, Steps p.tables e below (s₁.setTop (mkF m 0 #[.val (.ref o1), .val (.int (1 : Int32)), .val (.ref o2), .val (.ref o3)] [])) t → Steps p.tables e below (s₁.setTop (entryFrame m #[(.ref o1), (.int (1 : Int32)), (.ref o2), (.ref o3)] 4)) t := fun t k => castTop (ef_15_19 m o1 o2 o3) k
  obtain ⟨cq1, kq1, q1a, q1b, q1c⟩ := isOf hZ e0 f1
  obtain ⟨_, _, ⟨T1, L1, kk1, nn1⟩, -, X1, ⟨Lc1, hQ1, l1, y1, z1⟩, st1⟩ := X0.virtualBack hx (y := ym17) (z := ym17) hown (mvT hZ (wk100 hw)) (mvT hZ (wk101 hw)) (notFace_of_selects (args := #[]) (mvT hZ (wk103 hw))) (mvT hZ (wk103 hw)) (mvT hZ (wk102 hw)) (by decide) (backOf (W := 0) (rm16_18 l Z a0 hw w hW [] o1 h0 n0 O0 f1 f2 g3) hZ (wk104 hw) (wk77 hw) (by decide) (by decide)) q1a q1c (g := (mkF m 7 La [.null, (.ref o1)])) rfl (by rw [hml]; rfl) (Steps.refl _) (argsL := [.null]) (rest := []) (lenOf pds_13 rfl) rfl (by show 2 * 0 + _ ≤ _; exact Nat.le_of_eq rfl) (hb hby d15_7) (fun _ _ => ⟨rfl, e0, (by decide : 0 + 0 ≤ _), (by decide : 0 + 0 ≤ _)⟩)
  dsimp only [Pt.U, Pt.locs, Pt.cells, Pt.slots] at X1 l1 y1 z1 st1 hQ1
  subst l1 y1 z1
  obtain ⟨rfl, N1q, K1, r1_0⟩ := hQ1
  have N1 := Fr.app N0 N1q
  have O2 := own_old O0 K1 (own_ngc g3 own_ng0)
  obtain ⟨fs, hr, hrun, hended, hWm, hsame⟩ := X1.leave (v := none) (fun _ => rfl)
  have Kf3 : own_KL h0 T1.heap [⟨o1, Jvm.RoadKit.slotOf Z "com/example/tidy_mailbox/tidymailbox/async/RecordEntry" "results" "Ljava/util/List;"⟩] := (own_klT (own_kl0 h0 [⟨o1, Jvm.RoadKit.slotOf Z "com/example/tidy_mailbox/tidymailbox/async/RecordEntry" "results" "Ljava/util/List;"⟩]) K1 (own_kac (Or.inl (List.mem_of_getElem? (i := 0) rfl)) own_ka0))
  refine ⟨_, _, pre0 _ ?_, hrun, hended, _, _, rfl, ?_, ⟨_, rfl⟩, hWm, hsame.mono (by decide) (by decide)⟩
  · show Steps p.tables e below (s₁.setTop (mkF m 0 La [])) _
    refine sI X0 hx hby d15_0 rfl ?_
    refine sc X0 hx hby d15_1 ?_
    refine sn X0 hx hby d15_2 (by decide) ?_
    refine sA X0 hx hby d15_5 rfl rfl ?_
    refine XS.aconstNull X0.here hx rfl (hb hby d15_6) ?_
    show Steps p.tables e below (s₁.setTop (mkF m 7 La [.null, (.ref o1)])) _
    refine st1.trans ?_
    refine sg (pc := 10) (pc' := 36) X1 hx hby d15_10 (by decide) (by decide) ?_
    exact X1.returnOut hx Bd.returns (hb hby d15_36) hr
  · show Q15_19 Z w o1 o2 o3 h0 n0 _ T1.heap _
    exact ⟨rfl, N1, Kf3, r1_0⟩
theorem d15_18 : decode method_3_code 18 = .ok (.aload_n 0, 1) := by decide +kernel
theorem d15_19 : decode method_3_code 19 = .ok (.aload_n 2, 1) := by decide +kernel
theorem d15_20 : decode method_3_code 20 = .ok (.invokevirtual 44, 3) := by decide +kernel
theorem ef_16_20 (m : MethodId) (o1 : Addr) (o2 : Addr) : entryFrame m #[(.ref o1), (.ref o2)] 2 = mkF m 0 #[.val (.ref o1), .val (.ref o2)] [] := by first | (simp [entryFrame, mkF, argsToLocals, Value.category]; done) | rfl
def Q16_20 (Z : State) (w : Nat → Addr) (o1 : Addr) (o2 : Addr) (h0 : Heap) (n0 : Nat) (v : Option Value) (h : Heap) (L : List Loc) : Prop := v = none ∧ Fr n0 L ∧ own_KL h0 h [⟨o1, Jvm.RoadKit.slotOf Z "com/example/tidy_mailbox/tidymailbox/async/RecordEntry" "results" "Ljava/util/List;"⟩] ∧ Fld Z h o1 "com/example/tidy_mailbox/tidymailbox/async/RecordEntry" "results" "Ljava/util/List;" (.ref o2)
set_option maxRecDepth 65536 in
set_option maxHeartbeats 40000000 in
theorem rm16_20 (l : Launch) (Z : State) (a0 : Array Value) (hw : ∀ d ∈ tables_1, d.before a0 Z = true) (w : Nat → Addr) (hW : Wd Z w) (ws : List Jvm.Cond) (o1 : Addr) (o2 : Addr) (h0 : Heap) (n0 : Nat) (O0 : Old Z n0 h0) (f1 : Exa Z h0 o1 "com/example/tidy_mailbox/tidymailbox/async/RecordEntry") (f2 : Fld Z h0 o1 "com/example/tidy_mailbox/tidymailbox/async/RecordEntry" "results" "Ljava/util/List;" .null) (g3 : n0 ≤ o1) :
    MetFree l ym17 (head1 (Jvm.Cond.code ym17 prog_13_method_3_code 2 none :: ws) ({ frames := 0, cells := 0, slots := 0, locals := 0 } : Room)) (fun a U => a = #[(.ref o1), (.ref o2)] ∧ Z.Warmed39 U.vm ∧ U.heap = h0) (fun _ _ _ _ _ => True) (fun _ U o U' => ∃ v L, o = .returned v ∧ Q16_20 Z w o1 o2 h0 n0 v U'.heap L ∧ FrameEnd U o U' L ({ frames := 0, cells := 0, slots := 0, locals := 0 } : Room).cells ({ frames := 0, cells := 0, slots := 0, locals := 0 } : Room).slots) := by
  refine MetFree.of_bodySF (plainFor_of_name pnc_7) hisR ?_
  intro p e s m args below meth c s₁ Bd hml0 hP hK
  obtain ⟨rfl, hZ, hh⟩ := hP
  have hx := Bd.exec
  have hby := Bd.bytes
  have hml : c.maxLocals = 2 := hml0
  have hown : s.vm.findClass "com/example/tidy_mailbox/tidymailbox/async/RecordEntry" = some m.cls := findClass_of_methodNamed Bd.named
  have hnm := (name_of_methodNamed Bd.named Bd.method).1
  have X0 : Stand p l e ({ frames := 0, cells := 0, slots := 0, locals := 0 } : Room) s m #[(.ref o1), (.ref o2)] below meth c s₁ [] 0 0 := Stand.of_body Bd
  have e0 : s₁.heap = h0 := by rw [← hh, Bd.state]; rfl
  have N0 := Fr.nil n0
  skip
  have pre0 : ∀ t, Steps p.tables e below (s₁.setTop (mkF m 0 #[.val (.ref o1), .val (.ref o2)] [])) t → Steps p.tables e below (s₁.setTop (entryFrame m #[(.ref o1), (.ref o2)] 2)) t := fun t k => castTop (ef_16_20 m o1 o2) k
  obtain ⟨T1, h1, X1, e1, W1, st1⟩ := putF X0 hx hZ hown (host := "") (Or.inl (wk94 hw)) Via.refl e0 f2 f1 (Or.inl (wk95 hw)) (wk76 hw) (ty := (.object "java/util/List")) (by decide) rfl rfl (g := (mkF m 2 #[.val (.ref o1), .val (.ref o2)] [(.ref o2), (.ref o1)])) rfl rfl (hb hby d16_2)
  have F1 : Fld Z h1 o1 "com/example/tidy_mailbox/tidymailbox/async/RecordEntry" "results" "Ljava/util/List;" (.ref o2) := f2.same W1
  have N1 := Fr.snoc X1 N0 g3
  have O2 := O0.wr W1 g3
  obtain ⟨fs, hr, hrun, hended, hWm, hsame⟩ := X1.leave (v := none) (fun _ => rfl)
  have Kf3 : own_KL h0 h1 [⟨o1, Jvm.RoadKit.slotOf Z "com/example/tidy_mailbox/tidymailbox/async/RecordEntry" "results" "Ljava/util/List;"⟩] := (own_klW (own_kl0 h0 [⟨o1, Jvm.RoadKit.slotOf Z "com/example/tidy_mailbox/tidymailbox/async/RecordEntry" "results" "Ljava/util/List;"⟩]) W1 (Or.inl (List.mem_of_getElem? (i := 0) rfl)))
  refine ⟨_, _, pre0 _ ?_, hrun, hended, _, _, rfl, ?_, ⟨_, rfl⟩, hWm, hsame.mono (by decide) (by decide)⟩
  · show Steps p.tables e below (s₁.setTop (mkF m 0 #[.val (.ref o1), .val (.ref o2)] [])) _
    refine sA X0 hx hby d16_0 rfl rfl ?_
    refine sA X0 hx hby d16_1 rfl rfl ?_
    refine st1 _ ?_
    exact X1.returnOut hx Bd.returns (hb hby d16_5) hr
  · show Q16_20 Z w o1 o2 h0 n0 _ T1.heap _
    rw [e1]
    exact ⟨rfl, N1, Kf3, F1⟩
theorem d15_23 : decode method_3_code 23 = .ok (.goto 13, 3) := by decide +kernel
theorem ef_15_21 (m : MethodId) (o1 : Addr) (o2 : Addr) (o3 : Addr) : entryFrame m #[(.ref o1), (.int (2 : Int32)), (.ref o2), (.ref o3)] 4 = mkF m 0 #[.val (.ref o1), .val (.int (2 : Int32)), .val (.ref o2), .val (.ref o3)] [] := by first | (simp [entryFrame, mkF, argsToLocals, Value.category]; done) | rfl
def Q15_21 (Z : State) (w : Nat → Addr) (o1 : Addr) (o2 : Addr) (o3 : Addr) (h0 : Heap) (n0 : Nat) (v : Option Value) (h : Heap) (L : List Loc) : Prop := v = none ∧ Fr n0 L ∧ own_KL h0 h [⟨o1, Jvm.RoadKit.slotOf Z "com/example/tidy_mailbox/tidymailbox/async/RecordEntry" "results" "Ljava/util/List;"⟩] ∧ Fld Z h o1 "com/example/tidy_mailbox/tidymailbox/async/RecordEntry" "results" "Ljava/util/List;" (.ref o2)
set_option maxRecDepth 65536 in
set_option maxHeartbeats 40000000 in
theorem rm15_21 (l : Launch) (Z : State) (a0 : Array Value) (hw : ∀ d ∈ tables_1, d.before a0 Z = true) (w : Nat → Addr) (hW : Wd Z w) (ws : List Jvm.Cond) (o1 : Addr) (o2 : Addr) (o3 : Addr) (h0 : Heap) (n0 : Nat) (O0 : Old Z n0 h0) (f1 : Exa Z h0 o1 "com/example/tidy_mailbox/tidymailbox/async/RecordEntry") (f2 : Fld Z h0 o1 "com/example/tidy_mailbox/tidymailbox/async/RecordEntry" "results" "Ljava/util/List;" .null) (g3 : n0 ≤ o1) :
    MetFree l ym15 (head1 (Jvm.Cond.code ym15 method_3_code 4 none :: ws) ({ frames := 1, cells := 0, slots := 0, locals := 13 } : Room)) (fun a U => a = #[(.ref o1), (.int (2 : Int32)), (.ref o2), (.ref o3)] ∧ Z.Warmed39 U.vm ∧ U.heap = h0) (fun _ _ _ _ _ => True) (fun _ U o U' => ∃ v L, o = .returned v ∧ Q15_21 Z w o1 o2 o3 h0 n0 v U'.heap L ∧ FrameEnd U o U' L ({ frames := 1, cells := 0, slots := 0, locals := 13 } : Room).cells ({ frames := 1, cells := 0, slots := 0, locals := 13 } : Room).slots) := by
  refine MetFree.of_bodySF (plainFor_of_name pnc_8) hisR ?_
  intro p e s m args below meth c s₁ Bd hml0 hP hK
  obtain ⟨rfl, hZ, hh⟩ := hP
  have hx := Bd.exec
  have hby := Bd.bytes
  have hml : c.maxLocals = 4 := hml0
  have hown : s.vm.findClass "com/example/tidy_mailbox/tidymailbox/async/RecordEntryIsCompletePinLaw" = some m.cls := findClass_of_methodNamed Bd.named
  have hnm := (name_of_methodNamed Bd.named Bd.method).1
  have X0 : Stand p l e ({ frames := 1, cells := 0, slots := 0, locals := 13 } : Room) s m #[(.ref o1), (.int (2 : Int32)), (.ref o2), (.ref o3)] below meth c s₁ [] 0 0 := Stand.of_body Bd
  have e0 : s₁.heap = h0 := by rw [← hh, Bd.state]; rfl
  have N0 := Fr.nil n0
  let La : Array Slot := #[.val (.ref o1), .val (.int (2 : Int32)), .val (.ref o2), .val (.ref o3)]
  have pre0 : ∀ t, Steps p.tables e below (s₁.setTop (mkF m 0 #[.val (.ref o1), .val (.int (2 : Int32)), .val (.ref o2), .val (.ref o3)] [])) t → Steps p.tables e below (s₁.setTop (entryFrame m #[(.ref o1), (.int (2 : Int32)), (.ref o2), (.ref o3)] 4)) t := fun t k => castTop (ef_15_21 m o1 o2 o3) k
  obtain ⟨cq1, kq1, q1a, q1b, q1c⟩ := isOf hZ e0 f1
  obtain ⟨_, _, ⟨T1, L1, kk1, nn1⟩, -, X1, ⟨Lc1, hQ1, l1, y1, z1⟩, st1⟩ := X0.virtualBack hx (y := ym17) (z := ym17) hown (mvT hZ (wk100 hw)) (mvT hZ (wk101 hw)) (notFace_of_selects (args := #[]) (mvT hZ (wk103 hw))) (mvT hZ (wk103 hw)) (mvT hZ (wk102 hw)) (by decide) (backOf (W := 0) (rm16_20 l Z a0 hw w hW [] o1 o2 h0 n0 O0 f1 f2 g3) hZ (wk104 hw) (wk77 hw) (by decide) (by decide)) q1a q1c (g := (mkF m 20 La [(.ref o2), (.ref o1)])) rfl (by rw [hml]; rfl) (Steps.refl _) (argsL := [(.ref o2)]) (rest := []) (lenOf pds_13 rfl) rfl (by show 2 * 0 + _ ≤ _; exact Nat.le_of_eq rfl) (hb hby d15_20) (fun _ _ => ⟨rfl, e0, (by decide : 0 + 0 ≤ _), (by decide : 0 + 0 ≤ _)⟩)
  dsimp only [Pt.U, Pt.locs, Pt.cells, Pt.slots] at X1 l1 y1 z1 st1 hQ1
  subst l1 y1 z1
  obtain ⟨rfl, N1q, K1, r1_0⟩ := hQ1
  have N1 := Fr.app N0 N1q
  have O2 := own_old O0 K1 (own_ngc g3 own_ng0)
  obtain ⟨fs, hr, hrun, hended, hWm, hsame⟩ := X1.leave (v := none) (fun _ => rfl)
  have Kf3 : own_KL h0 T1.heap [⟨o1, Jvm.RoadKit.slotOf Z "com/example/tidy_mailbox/tidymailbox/async/RecordEntry" "results" "Ljava/util/List;"⟩] := (own_klT (own_kl0 h0 [⟨o1, Jvm.RoadKit.slotOf Z "com/example/tidy_mailbox/tidymailbox/async/RecordEntry" "results" "Ljava/util/List;"⟩]) K1 (own_kac (Or.inl (List.mem_of_getElem? (i := 0) rfl)) own_ka0))
  refine ⟨_, _, pre0 _ ?_, hrun, hended, _, _, rfl, ?_, ⟨_, rfl⟩, hWm, hsame.mono (by decide) (by decide)⟩
  · show Steps p.tables e below (s₁.setTop (mkF m 0 La [])) _
    refine sI X0 hx hby d15_0 rfl ?_
    refine sc X0 hx hby d15_1 ?_
    refine XS.icmpYes X0.here hx rfl (pc0 := 2) (pc' := 13) rfl (hb hby d15_2) rfl (by decide) (by decide) (by decide) ?_
    refine sI X0 hx hby d15_13 rfl ?_
    refine sc X0 hx hby d15_14 ?_
    show Steps p.tables e below (s₁.setTop (mkF m 15 La [(.int (2 : Int32)), (.int (2 : Int32))])) _
    refine sn X0 hx hby d15_15 (by decide) ?_
    refine sA X0 hx hby d15_18 rfl rfl ?_
    refine sA X0 hx hby d15_19 rfl rfl ?_
    refine st1.trans ?_
    refine sg (pc := 23) (pc' := 36) X1 hx hby d15_23 (by decide) (by decide) ?_
    exact X1.returnOut hx Bd.returns (hb hby d15_36) hr
  · show Q15_21 Z w o1 o2 o3 h0 n0 _ T1.heap _
    exact ⟨rfl, N1, Kf3, r1_0⟩
theorem d14_7 : decode prog_13_method_4_code 7 = .ok (.iconst 1, 1) := by decide +kernel
theorem d14_8 : decode prog_13_method_4_code 8 = .ok (.goto 4, 3) := by decide +kernel
theorem ef_14_22 (m : MethodId) (o1 : Addr) : entryFrame m #[(.ref o1)] 1 = mkF m 0 #[.val (.ref o1)] [] := by first | (simp [entryFrame, mkF, argsToLocals, Value.category]; done) | rfl
def Q14_22 (Z : State) (w : Nat → Addr) (o1 : Addr) (o2 : Addr) (h0 : Heap) (n0 : Nat) (v : Option Value) (h : Heap) (L : List Loc) : Prop := v = some (.int (1 : Int32)) ∧ Fr n0 L ∧ h = h0
set_option maxRecDepth 65536 in
set_option maxHeartbeats 40000000 in
theorem rm14_22 (l : Launch) (Z : State) (a0 : Array Value) (hw : ∀ d ∈ tables_1, d.before a0 Z = true) (w : Nat → Addr) (hW : Wd Z w) (ws : List Jvm.Cond) (o1 : Addr) (o2 : Addr) (h0 : Heap) (n0 : Nat) (O0 : Old Z n0 h0) (f1 : Fld Z h0 o1 "com/example/tidy_mailbox/tidymailbox/async/RecordEntry" "results" "Ljava/util/List;" (.ref o2)) :
    MetFree l ym14 (head1 (Jvm.Cond.code ym14 prog_13_method_4_code 1 (some .boolean) :: ws) ({ frames := 0, cells := 0, slots := 0, locals := 0 } : Room)) (fun a U => a = #[(.ref o1)] ∧ Z.Warmed39 U.vm ∧ U.heap = h0) (fun _ _ _ _ _ => True) (fun _ U o U' => ∃ v L, o = .returned v ∧ Q14_22 Z w o1 o2 h0 n0 v U'.heap L ∧ FrameEnd U o U' L ({ frames := 0, cells := 0, slots := 0, locals := 0 } : Room).cells ({ frames := 0, cells := 0, slots := 0, locals := 0 } : Room).slots) := by
  refine MetFree.of_bodySF (plainFor_of_name pnc_7) hisR ?_
  intro p e s m args below meth c s₁ Bd hml0 hP hK
  obtain ⟨rfl, hZ, hh⟩ := hP
  have hx := Bd.exec
  have hby := Bd.bytes
  have hml : c.maxLocals = 1 := hml0
  have hown : s.vm.findClass "com/example/tidy_mailbox/tidymailbox/async/RecordEntry" = some m.cls := findClass_of_methodNamed Bd.named
  have hnm := (name_of_methodNamed Bd.named Bd.method).1
  have X0 : Stand p l e ({ frames := 0, cells := 0, slots := 0, locals := 0 } : Room) s m #[(.ref o1)] below meth c s₁ [] 0 0 := Stand.of_body Bd
  have e0 : s₁.heap = h0 := by rw [← hh, Bd.state]; rfl
  have N0 := Fr.nil n0
  skip
  have pre0 : ∀ t, Steps p.tables e below (s₁.setTop (mkF m 0 #[.val (.ref o1)] [])) t → Steps p.tables e below (s₁.setTop (entryFrame m #[(.ref o1)] 1)) t := fun t k => castTop (ef_14_22 m o1) k
  obtain ⟨T1, X1, e1, st1⟩ := getF X0 hx hZ hown (host := "") (Or.inl (wk94 hw)) Via.refl e0 f1 (g := (mkF m 1 #[.val (.ref o1)] [(.ref o1)])) rfl rfl (hb hby d14_1)
  obtain ⟨fs, hr, hrun, hended, hWm, hsame⟩ := X1.leave (v := some (.int (1 : Int32))) (fun h => by rw [Bd.returns] at h; cases h)
  refine ⟨_, _, pre0 _ ?_, hrun, hended, _, _, rfl, ?_, ⟨_, rfl⟩, hWm, hsame.mono (by decide) (by decide)⟩
  · show Steps p.tables e below (s₁.setTop (mkF m 0 #[.val (.ref o1)] [])) _
    refine sA X0 hx hby d14_0 rfl rfl ?_
    refine st1 _ ?_
    refine XS.ifnullNo X1.here hx rfl (hb hby d14_4) rfl ?_
    refine sc X1 hx hby d14_7 ?_
    refine sg (pc := 8) (pc' := 12) X1 hx hby d14_8 (by decide) (by decide) ?_
    exact retN X1 hx (t := .boolean) Bd.returns (by simp) (hb hby d14_12) hr
  · show Q14_22 Z w o1 o2 h0 n0 _ T1.heap _
    rw [e1]
    exact ⟨rfl, N0, rfl⟩
theorem d15_31 : decode method_3_code 31 = .ok (.aload_n 0, 1) := by decide +kernel
theorem d15_32 : decode method_3_code 32 = .ok (.aload_n 3, 1) := by decide +kernel
theorem d15_33 : decode method_3_code 33 = .ok (.invokevirtual 44, 3) := by decide +kernel
theorem ef_15_23 (m : MethodId) (o1 : Addr) (o2 : Addr) (o3 : Addr) : entryFrame m #[(.ref o1), (.int (3 : Int32)), (.ref o2), (.ref o3)] 4 = mkF m 0 #[.val (.ref o1), .val (.int (3 : Int32)), .val (.ref o2), .val (.ref o3)] [] := by first | (simp [entryFrame, mkF, argsToLocals, Value.category]; done) | rfl
def Q15_23 (Z : State) (w : Nat → Addr) (o1 : Addr) (o2 : Addr) (o3 : Addr) (h0 : Heap) (n0 : Nat) (v : Option Value) (h : Heap) (L : List Loc) : Prop := v = none ∧ Fr n0 L ∧ own_KL h0 h [⟨o1, Jvm.RoadKit.slotOf Z "com/example/tidy_mailbox/tidymailbox/async/RecordEntry" "results" "Ljava/util/List;"⟩] ∧ Fld Z h o1 "com/example/tidy_mailbox/tidymailbox/async/RecordEntry" "results" "Ljava/util/List;" (.ref o3)
set_option maxRecDepth 65536 in
set_option maxHeartbeats 40000000 in
theorem rm15_23 (l : Launch) (Z : State) (a0 : Array Value) (hw : ∀ d ∈ tables_1, d.before a0 Z = true) (w : Nat → Addr) (hW : Wd Z w) (ws : List Jvm.Cond) (o1 : Addr) (o2 : Addr) (o3 : Addr) (h0 : Heap) (n0 : Nat) (O0 : Old Z n0 h0) (f1 : Exa Z h0 o1 "com/example/tidy_mailbox/tidymailbox/async/RecordEntry") (f2 : Fld Z h0 o1 "com/example/tidy_mailbox/tidymailbox/async/RecordEntry" "results" "Ljava/util/List;" .null) (g3 : n0 ≤ o1) :
    MetFree l ym15 (head1 (Jvm.Cond.code ym15 method_3_code 4 none :: ws) ({ frames := 1, cells := 0, slots := 0, locals := 13 } : Room)) (fun a U => a = #[(.ref o1), (.int (3 : Int32)), (.ref o2), (.ref o3)] ∧ Z.Warmed39 U.vm ∧ U.heap = h0) (fun _ _ _ _ _ => True) (fun _ U o U' => ∃ v L, o = .returned v ∧ Q15_23 Z w o1 o2 o3 h0 n0 v U'.heap L ∧ FrameEnd U o U' L ({ frames := 1, cells := 0, slots := 0, locals := 13 } : Room).cells ({ frames := 1, cells := 0, slots := 0, locals := 13 } : Room).slots) := by
  refine MetFree.of_bodySF (plainFor_of_name pnc_8) hisR ?_
  intro p e s m args below meth c s₁ Bd hml0 hP hK
  obtain ⟨rfl, hZ, hh⟩ := hP
  have hx := Bd.exec
  have hby := Bd.bytes
  have hml : c.maxLocals = 4 := hml0
  have hown : s.vm.findClass "com/example/tidy_mailbox/tidymailbox/async/RecordEntryIsCompletePinLaw" = some m.cls := findClass_of_methodNamed Bd.named
  have hnm := (name_of_methodNamed Bd.named Bd.method).1
  have X0 : Stand p l e ({ frames := 1, cells := 0, slots := 0, locals := 13 } : Room) s m #[(.ref o1), (.int (3 : Int32)), (.ref o2), (.ref o3)] below meth c s₁ [] 0 0 := Stand.of_body Bd
  have e0 : s₁.heap = h0 := by rw [← hh, Bd.state]; rfl
  have N0 := Fr.nil n0
  let La : Array Slot := #[.val (.ref o1), .val (.int (3 : Int32)), .val (.ref o2), .val (.ref o3)]
  have pre0 : ∀ t, Steps p.tables e below (s₁.setTop (mkF m 0 #[.val (.ref o1), .val (.int (3 : Int32)), .val (.ref o2), .val (.ref o3)] [])) t → Steps p.tables e below (s₁.setTop (entryFrame m #[(.ref o1), (.int (3 : Int32)), (.ref o2), (.ref o3)] 4)) t := fun t k => castTop (ef_15_23 m o1 o2 o3) k
  obtain ⟨cq1, kq1, q1a, q1b, q1c⟩ := isOf hZ e0 f1
  obtain ⟨_, _, ⟨T1, L1, kk1, nn1⟩, -, X1, ⟨Lc1, hQ1, l1, y1, z1⟩, st1⟩ := X0.virtualBack hx (y := ym17) (z := ym17) hown (mvT hZ (wk100 hw)) (mvT hZ (wk101 hw)) (notFace_of_selects (args := #[]) (mvT hZ (wk103 hw))) (mvT hZ (wk103 hw)) (mvT hZ (wk102 hw)) (by decide) (backOf (W := 0) (rm16_20 l Z a0 hw w hW [] o1 o3 h0 n0 O0 f1 f2 g3) hZ (wk104 hw) (wk77 hw) (by decide) (by decide)) q1a q1c (g := (mkF m 33 La [(.ref o3), (.ref o1)])) rfl (by rw [hml]; rfl) (Steps.refl _) (argsL := [(.ref o3)]) (rest := []) (lenOf pds_13 rfl) rfl (by show 2 * 0 + _ ≤ _; exact Nat.le_of_eq rfl) (hb hby d15_33) (fun _ _ => ⟨rfl, e0, (by decide : 0 + 0 ≤ _), (by decide : 0 + 0 ≤ _)⟩)
  dsimp only [Pt.U, Pt.locs, Pt.cells, Pt.slots] at X1 l1 y1 z1 st1 hQ1
  subst l1 y1 z1
  obtain ⟨rfl, N1q, K1, r1_0⟩ := hQ1
  have N1 := Fr.app N0 N1q
  have O2 := own_old O0 K1 (own_ngc g3 own_ng0)
  obtain ⟨fs, hr, hrun, hended, hWm, hsame⟩ := X1.leave (v := none) (fun _ => rfl)
  have Kf3 : own_KL h0 T1.heap [⟨o1, Jvm.RoadKit.slotOf Z "com/example/tidy_mailbox/tidymailbox/async/RecordEntry" "results" "Ljava/util/List;"⟩] := (own_klT (own_kl0 h0 [⟨o1, Jvm.RoadKit.slotOf Z "com/example/tidy_mailbox/tidymailbox/async/RecordEntry" "results" "Ljava/util/List;"⟩]) K1 (own_kac (Or.inl (List.mem_of_getElem? (i := 0) rfl)) own_ka0))
  refine ⟨_, _, pre0 _ ?_, hrun, hended, _, _, rfl, ?_, ⟨_, rfl⟩, hWm, hsame.mono (by decide) (by decide)⟩
  · show Steps p.tables e below (s₁.setTop (mkF m 0 La [])) _
    refine sI X0 hx hby d15_0 rfl ?_
    refine sc X0 hx hby d15_1 ?_
    refine XS.icmpYes X0.here hx rfl (pc0 := 2) (pc' := 13) rfl (hb hby d15_2) rfl (by decide) (by decide) (by decide) ?_
    refine sI X0 hx hby d15_13 rfl ?_
    refine sc X0 hx hby d15_14 ?_
    show Steps p.tables e below (s₁.setTop (mkF m 15 La [(.int (2 : Int32)), (.int (3 : Int32))])) _
    refine XS.icmpYes X0.here hx rfl (pc0 := 15) (pc' := 26) rfl (hb hby d15_15) rfl (by decide) (by decide) (by decide) ?_
    refine sI X0 hx hby d15_26 rfl ?_
    refine sc X0 hx hby d15_27 ?_
    refine sn X0 hx hby d15_28 (by decide) ?_
    refine sA X0 hx hby d15_31 rfl rfl ?_
    show Steps p.tables e below (s₁.setTop (mkF m 32 La [(.ref o1)])) _
    refine sA X0 hx hby d15_32 rfl rfl ?_
    refine st1.trans ?_
    exact X1.returnOut hx Bd.returns (hb hby d15_36) hr
  · show Q15_23 Z w o1 o2 o3 h0 n0 _ T1.heap _
    exact ⟨rfl, N1, Kf3, r1_0⟩
theorem ef_16_24 (m : MethodId) (o1 : Addr) : entryFrame m #[(.ref o1), .null] 2 = mkF m 0 #[.val (.ref o1), .val .null] [] := by first | (simp [entryFrame, mkF, argsToLocals, Value.category]; done) | rfl
def Q16_24 (Z : State) (w : Nat → Addr) (o1 : Addr) (o2 : Addr) (h0 : Heap) (n0 : Nat) (v : Option Value) (h : Heap) (L : List Loc) : Prop := v = none ∧ Fr n0 L ∧ own_KL h0 h [⟨o1, Jvm.RoadKit.slotOf Z "com/example/tidy_mailbox/tidymailbox/async/RecordEntry" "results" "Ljava/util/List;"⟩] ∧ Fld Z h o1 "com/example/tidy_mailbox/tidymailbox/async/RecordEntry" "results" "Ljava/util/List;" .null
set_option maxRecDepth 65536 in
set_option maxHeartbeats 40000000 in
theorem rm16_24 (l : Launch) (Z : State) (a0 : Array Value) (hw : ∀ d ∈ tables_1, d.before a0 Z = true) (w : Nat → Addr) (hW : Wd Z w) (ws : List Jvm.Cond) (o1 : Addr) (o2 : Addr) (h0 : Heap) (n0 : Nat) (O0 : Old Z n0 h0) (f1 : Exa Z h0 o1 "com/example/tidy_mailbox/tidymailbox/async/RecordEntry") (f2 : Fld Z h0 o1 "com/example/tidy_mailbox/tidymailbox/async/RecordEntry" "results" "Ljava/util/List;" (.ref o2)) (g3 : n0 ≤ o1) :
    MetFree l ym17 (head1 (Jvm.Cond.code ym17 prog_13_method_3_code 2 none :: ws) ({ frames := 0, cells := 0, slots := 0, locals := 0 } : Room)) (fun a U => a = #[(.ref o1), .null] ∧ Z.Warmed39 U.vm ∧ U.heap = h0) (fun _ _ _ _ _ => True) (fun _ U o U' => ∃ v L, o = .returned v ∧ Q16_24 Z w o1 o2 h0 n0 v U'.heap L ∧ FrameEnd U o U' L ({ frames := 0, cells := 0, slots := 0, locals := 0 } : Room).cells ({ frames := 0, cells := 0, slots := 0, locals := 0 } : Room).slots) := by
  refine MetFree.of_bodySF (plainFor_of_name pnc_7) hisR ?_
  intro p e s m args below meth c s₁ Bd hml0 hP hK
  obtain ⟨rfl, hZ, hh⟩ := hP
  have hx := Bd.exec
  have hby := Bd.bytes
  have hml : c.maxLocals = 2 := hml0
  have hown : s.vm.findClass "com/example/tidy_mailbox/tidymailbox/async/RecordEntry" = some m.cls := findClass_of_methodNamed Bd.named
  have hnm := (name_of_methodNamed Bd.named Bd.method).1
  have X0 : Stand p l e ({ frames := 0, cells := 0, slots := 0, locals := 0 } : Room) s m #[(.ref o1), .null] below meth c s₁ [] 0 0 := Stand.of_body Bd
  have e0 : s₁.heap = h0 := by rw [← hh, Bd.state]; rfl
  have N0 := Fr.nil n0
  skip
  have pre0 : ∀ t, Steps p.tables e below (s₁.setTop (mkF m 0 #[.val (.ref o1), .val .null] [])) t → Steps p.tables e below (s₁.setTop (entryFrame m #[(.ref o1), .null] 2)) t := fun t k => castTop (ef_16_24 m o1) k
  obtain ⟨T1, h1, X1, e1, W1, st1⟩ := putF X0 hx hZ hown (host := "") (Or.inl (wk94 hw)) Via.refl e0 f2 f1 (Or.inl (wk95 hw)) (wk76 hw) (ty := (.object "java/util/List")) (by decide) rfl rfl (g := (mkF m 2 #[.val (.ref o1), .val .null] [.null, (.ref o1)])) rfl rfl (hb hby d16_2)
  have F1 : Fld Z h1 o1 "com/example/tidy_mailbox/tidymailbox/async/RecordEntry" "results" "Ljava/util/List;" .null := f2.same W1
  have N1 := Fr.snoc X1 N0 g3
  have O2 := O0.wr W1 g3
  obtain ⟨fs, hr, hrun, hended, hWm, hsame⟩ := X1.leave (v := none) (fun _ => rfl)
  have Kf3 : own_KL h0 h1 [⟨o1, Jvm.RoadKit.slotOf Z "com/example/tidy_mailbox/tidymailbox/async/RecordEntry" "results" "Ljava/util/List;"⟩] := (own_klW (own_kl0 h0 [⟨o1, Jvm.RoadKit.slotOf Z "com/example/tidy_mailbox/tidymailbox/async/RecordEntry" "results" "Ljava/util/List;"⟩]) W1 (Or.inl (List.mem_of_getElem? (i := 0) rfl)))
  refine ⟨_, _, pre0 _ ?_, hrun, hended, _, _, rfl, ?_, ⟨_, rfl⟩, hWm, hsame.mono (by decide) (by decide)⟩
  · show Steps p.tables e below (s₁.setTop (mkF m 0 #[.val (.ref o1), .val .null] [])) _
    refine sA X0 hx hby d16_0 rfl rfl ?_
    refine sA X0 hx hby d16_1 rfl rfl ?_
    refine st1 _ ?_
    exact X1.returnOut hx Bd.returns (hb hby d16_5) hr
  · show Q16_24 Z w o1 o2 h0 n0 _ T1.heap _
    rw [e1]
    exact ⟨rfl, N1, Kf3, F1⟩
theorem ef_15_25 (m : MethodId) (o1 : Addr) (o2 : Addr) (o3 : Addr) : entryFrame m #[(.ref o1), (.int (1 : Int32)), (.ref o2), (.ref o3)] 4 = mkF m 0 #[.val (.ref o1), .val (.int (1 : Int32)), .val (.ref o2), .val (.ref o3)] [] := by first | (simp [entryFrame, mkF, argsToLocals, Value.category]; done) | rfl
def Q15_25 (Z : State) (w : Nat → Addr) (o1 : Addr) (o2 : Addr) (o3 : Addr) (h0 : Heap) (n0 : Nat) (v : Option Value) (h : Heap) (L : List Loc) : Prop := v = none ∧ Fr n0 L ∧ own_KL h0 h [⟨o1, Jvm.RoadKit.slotOf Z "com/example/tidy_mailbox/tidymailbox/async/RecordEntry" "results" "Ljava/util/List;"⟩] ∧ Fld Z h o1 "com/example/tidy_mailbox/tidymailbox/async/RecordEntry" "results" "Ljava/util/List;" .null
set_option maxRecDepth 65536 in
set_option maxHeartbeats 40000000 in
theorem rm15_25 (l : Launch) (Z : State) (a0 : Array Value) (hw : ∀ d ∈ tables_1, d.before a0 Z = true) (w : Nat → Addr) (hW : Wd Z w) (ws : List Jvm.Cond) (o1 : Addr) (o2 : Addr) (o3 : Addr) (h0 : Heap) (n0 : Nat) (O0 : Old Z n0 h0) (f1 : Exa Z h0 o1 "com/example/tidy_mailbox/tidymailbox/async/RecordEntry") (f2 : Fld Z h0 o1 "com/example/tidy_mailbox/tidymailbox/async/RecordEntry" "results" "Ljava/util/List;" (.ref o2)) (g3 : n0 ≤ o1) :
    MetFree l ym15 (head1 (Jvm.Cond.code ym15 method_3_code 4 none :: ws) ({ frames := 1, cells := 0, slots := 0, locals := 13 } : Room)) (fun a U => a = #[(.ref o1), (.int (1 : Int32)), (.ref o2), (.ref o3)] ∧ Z.Warmed39 U.vm ∧ U.heap = h0) (fun _ _ _ _ _ => True) (fun _ U o U' => ∃ v L, o = .returned v ∧ Q15_25 Z w o1 o2 o3 h0 n0 v U'.heap L ∧ FrameEnd U o U' L ({ frames := 1, cells := 0, slots := 0, locals := 13 } : Room).cells ({ frames := 1, cells := 0, slots := 0, locals := 13 } : Room).slots) := by
  refine MetFree.of_bodySF (plainFor_of_name pnc_8) hisR ?_
  intro p e s m args below meth c s₁ Bd hml0 hP hK
  obtain ⟨rfl, hZ, hh⟩ := hP
  have hx := Bd.exec
  have hby := Bd.bytes
  have hml : c.maxLocals = 4 := hml0
  have hown : s.vm.findClass "com/example/tidy_mailbox/tidymailbox/async/RecordEntryIsCompletePinLaw" = some m.cls := findClass_of_methodNamed Bd.named
  have hnm := (name_of_methodNamed Bd.named Bd.method).1
  have X0 : Stand p l e ({ frames := 1, cells := 0, slots := 0, locals := 13 } : Room) s m #[(.ref o1), (.int (1 : Int32)), (.ref o2), (.ref o3)] below meth c s₁ [] 0 0 := Stand.of_body Bd
  have e0 : s₁.heap = h0 := by rw [← hh, Bd.state]; rfl
  have N0 := Fr.nil n0
  let La : Array Slot := #[.val (.ref o1), .val (.int (1 : Int32)), .val (.ref o2), .val (.ref o3)]
  have pre0 : ∀ t, Steps p.tables e below (s₁.setTop (mkF m 0 #[.val (.ref o1), .val (.int (1 : Int32)), .val (.ref o2), .val (.ref o3)] [])) t → Steps p.tables e below (s₁.setTop (entryFrame m #[(.ref o1), (.int (1 : Int32)), (.ref o2), (.ref o3)] 4)) t := fun t k => castTop (ef_15_25 m o1 o2 o3) k
  obtain ⟨cq1, kq1, q1a, q1b, q1c⟩ := isOf hZ e0 f1
  obtain ⟨_, _, ⟨T1, L1, kk1, nn1⟩, -, X1, ⟨Lc1, hQ1, l1, y1, z1⟩, st1⟩ := X0.virtualBack hx (y := ym17) (z := ym17) hown (mvT hZ (wk100 hw)) (mvT hZ (wk101 hw)) (notFace_of_selects (args := #[]) (mvT hZ (wk103 hw))) (mvT hZ (wk103 hw)) (mvT hZ (wk102 hw)) (by decide) (backOf (W := 0) (rm16_24 l Z a0 hw w hW [] o1 o2 h0 n0 O0 f1 f2 g3) hZ (wk104 hw) (wk77 hw) (by decide) (by decide)) q1a q1c (g := (mkF m 7 La [.null, (.ref o1)])) rfl (by rw [hml]; rfl) (Steps.refl _) (argsL := [.null]) (rest := []) (lenOf pds_13 rfl) rfl (by show 2 * 0 + _ ≤ _; exact Nat.le_of_eq rfl) (hb hby d15_7) (fun _ _ => ⟨rfl, e0, (by decide : 0 + 0 ≤ _), (by decide : 0 + 0 ≤ _)⟩)
  dsimp only [Pt.U, Pt.locs, Pt.cells, Pt.slots] at X1 l1 y1 z1 st1 hQ1
  subst l1 y1 z1
  obtain ⟨rfl, N1q, K1, r1_0⟩ := hQ1
  have N1 := Fr.app N0 N1q
  have O2 := own_old O0 K1 (own_ngc g3 own_ng0)
  obtain ⟨fs, hr, hrun, hended, hWm, hsame⟩ := X1.leave (v := none) (fun _ => rfl)
  have Kf3 : own_KL h0 T1.heap [⟨o1, Jvm.RoadKit.slotOf Z "com/example/tidy_mailbox/tidymailbox/async/RecordEntry" "results" "Ljava/util/List;"⟩] := (own_klT (own_kl0 h0 [⟨o1, Jvm.RoadKit.slotOf Z "com/example/tidy_mailbox/tidymailbox/async/RecordEntry" "results" "Ljava/util/List;"⟩]) K1 (own_kac (Or.inl (List.mem_of_getElem? (i := 0) rfl)) own_ka0))
  refine ⟨_, _, pre0 _ ?_, hrun, hended, _, _, rfl, ?_, ⟨_, rfl⟩, hWm, hsame.mono (by decide) (by decide)⟩
  · show Steps p.tables e below (s₁.setTop (mkF m 0 La [])) _
    refine sI X0 hx hby d15_0 rfl ?_
    refine sc X0 hx hby d15_1 ?_
    refine sn X0 hx hby d15_2 (by decide) ?_
    refine sA X0 hx hby d15_5 rfl rfl ?_
    refine XS.aconstNull X0.here hx rfl (hb hby d15_6) ?_
    show Steps p.tables e below (s₁.setTop (mkF m 7 La [.null, (.ref o1)])) _
    refine st1.trans ?_
    refine sg (pc := 10) (pc' := 36) X1 hx hby d15_10 (by decide) (by decide) ?_
    exact X1.returnOut hx Bd.returns (hb hby d15_36) hr
  · show Q15_25 Z w o1 o2 o3 h0 n0 _ T1.heap _
    exact ⟨rfl, N1, Kf3, r1_0⟩
theorem ef_16_26 (m : MethodId) (o1 : Addr) (o2 : Addr) : entryFrame m #[(.ref o1), (.ref o2)] 2 = mkF m 0 #[.val (.ref o1), .val (.ref o2)] [] := by first | (simp [entryFrame, mkF, argsToLocals, Value.category]; done) | rfl
def Q16_26 (Z : State) (w : Nat → Addr) (o1 : Addr) (o2 : Addr) (h0 : Heap) (n0 : Nat) (v : Option Value) (h : Heap) (L : List Loc) : Prop := v = none ∧ Fr n0 L ∧ own_KL h0 h [⟨o1, Jvm.RoadKit.slotOf Z "com/example/tidy_mailbox/tidymailbox/async/RecordEntry" "results" "Ljava/util/List;"⟩] ∧ Fld Z h o1 "com/example/tidy_mailbox/tidymailbox/async/RecordEntry" "results" "Ljava/util/List;" (.ref o2)
set_option maxRecDepth 65536 in
set_option maxHeartbeats 40000000 in
theorem rm16_26 (l : Launch) (Z : State) (a0 : Array Value) (hw : ∀ d ∈ tables_1, d.before a0 Z = true) (w : Nat → Addr) (hW : Wd Z w) (ws : List Jvm.Cond) (o1 : Addr) (o2 : Addr) (h0 : Heap) (n0 : Nat) (O0 : Old Z n0 h0) (f1 : Exa Z h0 o1 "com/example/tidy_mailbox/tidymailbox/async/RecordEntry") (f2 : Fld Z h0 o1 "com/example/tidy_mailbox/tidymailbox/async/RecordEntry" "results" "Ljava/util/List;" (.ref o2)) (g3 : n0 ≤ o1) :
    MetFree l ym17 (head1 (Jvm.Cond.code ym17 prog_13_method_3_code 2 none :: ws) ({ frames := 0, cells := 0, slots := 0, locals := 0 } : Room)) (fun a U => a = #[(.ref o1), (.ref o2)] ∧ Z.Warmed39 U.vm ∧ U.heap = h0) (fun _ _ _ _ _ => True) (fun _ U o U' => ∃ v L, o = .returned v ∧ Q16_26 Z w o1 o2 h0 n0 v U'.heap L ∧ FrameEnd U o U' L ({ frames := 0, cells := 0, slots := 0, locals := 0 } : Room).cells ({ frames := 0, cells := 0, slots := 0, locals := 0 } : Room).slots) := by
  refine MetFree.of_bodySF (plainFor_of_name pnc_7) hisR ?_
  intro p e s m args below meth c s₁ Bd hml0 hP hK
  obtain ⟨rfl, hZ, hh⟩ := hP
  have hx := Bd.exec
  have hby := Bd.bytes
  have hml : c.maxLocals = 2 := hml0
  have hown : s.vm.findClass "com/example/tidy_mailbox/tidymailbox/async/RecordEntry" = some m.cls := findClass_of_methodNamed Bd.named
  have hnm := (name_of_methodNamed Bd.named Bd.method).1
  have X0 : Stand p l e ({ frames := 0, cells := 0, slots := 0, locals := 0 } : Room) s m #[(.ref o1), (.ref o2)] below meth c s₁ [] 0 0 := Stand.of_body Bd
  have e0 : s₁.heap = h0 := by rw [← hh, Bd.state]; rfl
  have N0 := Fr.nil n0
  skip
  have pre0 : ∀ t, Steps p.tables e below (s₁.setTop (mkF m 0 #[.val (.ref o1), .val (.ref o2)] [])) t → Steps p.tables e below (s₁.setTop (entryFrame m #[(.ref o1), (.ref o2)] 2)) t := fun t k => castTop (ef_16_26 m o1 o2) k
  obtain ⟨T1, h1, X1, e1, W1, st1⟩ := putF X0 hx hZ hown (host := "") (Or.inl (wk94 hw)) Via.refl e0 f2 f1 (Or.inl (wk95 hw)) (wk76 hw) (ty := (.object "java/util/List")) (by decide) rfl rfl (g := (mkF m 2 #[.val (.ref o1), .val (.ref o2)] [(.ref o2), (.ref o1)])) rfl rfl (hb hby d16_2)
  have F1 : Fld Z h1 o1 "com/example/tidy_mailbox/tidymailbox/async/RecordEntry" "results" "Ljava/util/List;" (.ref o2) := f2.same W1
  have N1 := Fr.snoc X1 N0 g3
  have O2 := O0.wr W1 g3
  obtain ⟨fs, hr, hrun, hended, hWm, hsame⟩ := X1.leave (v := none) (fun _ => rfl)
  have Kf3 : own_KL h0 h1 [⟨o1, Jvm.RoadKit.slotOf Z "com/example/tidy_mailbox/tidymailbox/async/RecordEntry" "results" "Ljava/util/List;"⟩] := (own_klW (own_kl0 h0 [⟨o1, Jvm.RoadKit.slotOf Z "com/example/tidy_mailbox/tidymailbox/async/RecordEntry" "results" "Ljava/util/List;"⟩]) W1 (Or.inl (List.mem_of_getElem? (i := 0) rfl)))
  refine ⟨_, _, pre0 _ ?_, hrun, hended, _, _, rfl, ?_, ⟨_, rfl⟩, hWm, hsame.mono (by decide) (by decide)⟩
  · show Steps p.tables e below (s₁.setTop (mkF m 0 #[.val (.ref o1), .val (.ref o2)] [])) _
    refine sA X0 hx hby d16_0 rfl rfl ?_
    refine sA X0 hx hby d16_1 rfl rfl ?_
    refine st1 _ ?_
    exact X1.returnOut hx Bd.returns (hb hby d16_5) hr
  · show Q16_26 Z w o1 o2 h0 n0 _ T1.heap _
    rw [e1]
    exact ⟨rfl, N1, Kf3, F1⟩
theorem ef_15_27 (m : MethodId) (o1 : Addr) (o2 : Addr) (o3 : Addr) : entryFrame m #[(.ref o1), (.int (2 : Int32)), (.ref o2), (.ref o3)] 4 = mkF m 0 #[.val (.ref o1), .val (.int (2 : Int32)), .val (.ref o2), .val (.ref o3)] [] := by first | (simp [entryFrame, mkF, argsToLocals, Value.category]; done) | rfl
def Q15_27 (Z : State) (w : Nat → Addr) (o1 : Addr) (o2 : Addr) (o3 : Addr) (h0 : Heap) (n0 : Nat) (v : Option Value) (h : Heap) (L : List Loc) : Prop := v = none ∧ Fr n0 L ∧ own_KL h0 h [⟨o1, Jvm.RoadKit.slotOf Z "com/example/tidy_mailbox/tidymailbox/async/RecordEntry" "results" "Ljava/util/List;"⟩] ∧ Fld Z h o1 "com/example/tidy_mailbox/tidymailbox/async/RecordEntry" "results" "Ljava/util/List;" (.ref o2)
set_option maxRecDepth 65536 in
set_option maxHeartbeats 40000000 in
theorem rm15_27 (l : Launch) (Z : State) (a0 : Array Value) (hw : ∀ d ∈ tables_1, d.before a0 Z = true) (w : Nat → Addr) (hW : Wd Z w) (ws : List Jvm.Cond) (o1 : Addr) (o2 : Addr) (o3 : Addr) (h0 : Heap) (n0 : Nat) (O0 : Old Z n0 h0) (f1 : Exa Z h0 o1 "com/example/tidy_mailbox/tidymailbox/async/RecordEntry") (f2 : Fld Z h0 o1 "com/example/tidy_mailbox/tidymailbox/async/RecordEntry" "results" "Ljava/util/List;" (.ref o2)) (g3 : n0 ≤ o1) :
    MetFree l ym15 (head1 (Jvm.Cond.code ym15 method_3_code 4 none :: ws) ({ frames := 1, cells := 0, slots := 0, locals := 13 } : Room)) (fun a U => a = #[(.ref o1), (.int (2 : Int32)), (.ref o2), (.ref o3)] ∧ Z.Warmed39 U.vm ∧ U.heap = h0) (fun _ _ _ _ _ => True) (fun _ U o U' => ∃ v L, o = .returned v ∧ Q15_27 Z w o1 o2 o3 h0 n0 v U'.heap L ∧ FrameEnd U o U' L ({ frames := 1, cells := 0, slots := 0, locals := 13 } : Room).cells ({ frames := 1, cells := 0, slots := 0, locals := 13 } : Room).slots) := by
  refine MetFree.of_bodySF (plainFor_of_name pnc_8) hisR ?_
  intro p e s m args below meth c s₁ Bd hml0 hP hK
  obtain ⟨rfl, hZ, hh⟩ := hP
  have hx := Bd.exec
  have hby := Bd.bytes
  have hml : c.maxLocals = 4 := hml0
  have hown : s.vm.findClass "com/example/tidy_mailbox/tidymailbox/async/RecordEntryIsCompletePinLaw" = some m.cls := findClass_of_methodNamed Bd.named
  have hnm := (name_of_methodNamed Bd.named Bd.method).1
  have X0 : Stand p l e ({ frames := 1, cells := 0, slots := 0, locals := 13 } : Room) s m #[(.ref o1), (.int (2 : Int32)), (.ref o2), (.ref o3)] below meth c s₁ [] 0 0 := Stand.of_body Bd
  have e0 : s₁.heap = h0 := by rw [← hh, Bd.state]; rfl
  have N0 := Fr.nil n0
  let La : Array Slot := #[.val (.ref o1), .val (.int (2 : Int32)), .val (.ref o2), .val (.ref o3)]
  have pre0 : ∀ t, Steps p.tables e below (s₁.setTop (mkF m 0 #[.val (.ref o1), .val (.int (2 : Int32)), .val (.ref o2), .val (.ref o3)] [])) t → Steps p.tables e below (s₁.setTop (entryFrame m #[(.ref o1), (.int (2 : Int32)), (.ref o2), (.ref o3)] 4)) t := fun t k => castTop (ef_15_27 m o1 o2 o3) k
  obtain ⟨cq1, kq1, q1a, q1b, q1c⟩ := isOf hZ e0 f1
  obtain ⟨_, _, ⟨T1, L1, kk1, nn1⟩, -, X1, ⟨Lc1, hQ1, l1, y1, z1⟩, st1⟩ := X0.virtualBack hx (y := ym17) (z := ym17) hown (mvT hZ (wk100 hw)) (mvT hZ (wk101 hw)) (notFace_of_selects (args := #[]) (mvT hZ (wk103 hw))) (mvT hZ (wk103 hw)) (mvT hZ (wk102 hw)) (by decide) (backOf (W := 0) (rm16_26 l Z a0 hw w hW [] o1 o2 h0 n0 O0 f1 f2 g3) hZ (wk104 hw) (wk77 hw) (by decide) (by decide)) q1a q1c (g := (mkF m 20 La [(.ref o2), (.ref o1)])) rfl (by rw [hml]; rfl) (Steps.refl _) (argsL := [(.ref o2)]) (rest := []) (lenOf pds_13 rfl) rfl (by show 2 * 0 + _ ≤ _; exact Nat.le_of_eq rfl) (hb hby d15_20) (fun _ _ => ⟨rfl, e0, (by decide : 0 + 0 ≤ _), (by decide : 0 + 0 ≤ _)⟩)
  dsimp only [Pt.U, Pt.locs, Pt.cells, Pt.slots] at X1 l1 y1 z1 st1 hQ1
  subst l1 y1 z1
  obtain ⟨rfl, N1q, K1, r1_0⟩ := hQ1
  have N1 := Fr.app N0 N1q
  have O2 := own_old O0 K1 (own_ngc g3 own_ng0)
  obtain ⟨fs, hr, hrun, hended, hWm, hsame⟩ := X1.leave (v := none) (fun _ => rfl)
  have Kf3 : own_KL h0 T1.heap [⟨o1, Jvm.RoadKit.slotOf Z "com/example/tidy_mailbox/tidymailbox/async/RecordEntry" "results" "Ljava/util/List;"⟩] := (own_klT (own_kl0 h0 [⟨o1, Jvm.RoadKit.slotOf Z "com/example/tidy_mailbox/tidymailbox/async/RecordEntry" "results" "Ljava/util/List;"⟩]) K1 (own_kac (Or.inl (List.mem_of_getElem? (i := 0) rfl)) own_ka0))
  refine ⟨_, _, pre0 _ ?_, hrun, hended, _, _, rfl, ?_, ⟨_, rfl⟩, hWm, hsame.mono (by decide) (by decide)⟩
  · show Steps p.tables e below (s₁.setTop (mkF m 0 La [])) _
    refine sI X0 hx hby d15_0 rfl ?_
    refine sc X0 hx hby d15_1 ?_
    refine XS.icmpYes X0.here hx rfl (pc0 := 2) (pc' := 13) rfl (hb hby d15_2) rfl (by decide) (by decide) (by decide) ?_
    refine sI X0 hx hby d15_13 rfl ?_
    refine sc X0 hx hby d15_14 ?_
    show Steps p.tables e below (s₁.setTop (mkF m 15 La [(.int (2 : Int32)), (.int (2 : Int32))])) _
    refine sn X0 hx hby d15_15 (by decide) ?_
    refine sA X0 hx hby d15_18 rfl rfl ?_
    refine sA X0 hx hby d15_19 rfl rfl ?_
    refine st1.trans ?_
    refine sg (pc := 23) (pc' := 36) X1 hx hby d15_23 (by decide) (by decide) ?_
    exact X1.returnOut hx Bd.returns (hb hby d15_36) hr
  · show Q15_27 Z w o1 o2 o3 h0 n0 _ T1.heap _
    exact ⟨rfl, N1, Kf3, r1_0⟩
theorem ef_16_28 (m : MethodId) (o1 : Addr) (o2 : Addr) : entryFrame m #[(.ref o1), (.ref o2)] 2 = mkF m 0 #[.val (.ref o1), .val (.ref o2)] [] := by first | (simp [entryFrame, mkF, argsToLocals, Value.category]; done) | rfl
def Q16_28 (Z : State) (w : Nat → Addr) (o1 : Addr) (o2 : Addr) (o3 : Addr) (h0 : Heap) (n0 : Nat) (v : Option Value) (h : Heap) (L : List Loc) : Prop := v = none ∧ Fr n0 L ∧ own_KL h0 h [⟨o1, Jvm.RoadKit.slotOf Z "com/example/tidy_mailbox/tidymailbox/async/RecordEntry" "results" "Ljava/util/List;"⟩] ∧ Fld Z h o1 "com/example/tidy_mailbox/tidymailbox/async/RecordEntry" "results" "Ljava/util/List;" (.ref o2)
set_option maxRecDepth 65536 in
set_option maxHeartbeats 40000000 in
theorem rm16_28 (l : Launch) (Z : State) (a0 : Array Value) (hw : ∀ d ∈ tables_1, d.before a0 Z = true) (w : Nat → Addr) (hW : Wd Z w) (ws : List Jvm.Cond) (o1 : Addr) (o2 : Addr) (o3 : Addr) (h0 : Heap) (n0 : Nat) (O0 : Old Z n0 h0) (f1 : Exa Z h0 o1 "com/example/tidy_mailbox/tidymailbox/async/RecordEntry") (f2 : Fld Z h0 o1 "com/example/tidy_mailbox/tidymailbox/async/RecordEntry" "results" "Ljava/util/List;" (.ref o3)) (g3 : n0 ≤ o1) :
    MetFree l ym17 (head1 (Jvm.Cond.code ym17 prog_13_method_3_code 2 none :: ws) ({ frames := 0, cells := 0, slots := 0, locals := 0 } : Room)) (fun a U => a = #[(.ref o1), (.ref o2)] ∧ Z.Warmed39 U.vm ∧ U.heap = h0) (fun _ _ _ _ _ => True) (fun _ U o U' => ∃ v L, o = .returned v ∧ Q16_28 Z w o1 o2 o3 h0 n0 v U'.heap L ∧ FrameEnd U o U' L ({ frames := 0, cells := 0, slots := 0, locals := 0 } : Room).cells ({ frames := 0, cells := 0, slots := 0, locals := 0 } : Room).slots) := by
  refine MetFree.of_bodySF (plainFor_of_name pnc_7) hisR ?_
  intro p e s m args below meth c s₁ Bd hml0 hP hK
  obtain ⟨rfl, hZ, hh⟩ := hP
  have hx := Bd.exec
  have hby := Bd.bytes
  have hml : c.maxLocals = 2 := hml0
  have hown : s.vm.findClass "com/example/tidy_mailbox/tidymailbox/async/RecordEntry" = some m.cls := findClass_of_methodNamed Bd.named
  have hnm := (name_of_methodNamed Bd.named Bd.method).1
  have X0 : Stand p l e ({ frames := 0, cells := 0, slots := 0, locals := 0 } : Room) s m #[(.ref o1), (.ref o2)] below meth c s₁ [] 0 0 := Stand.of_body Bd
  have e0 : s₁.heap = h0 := by rw [← hh, Bd.state]; rfl
  have N0 := Fr.nil n0
  skip
  have pre0 : ∀ t, Steps p.tables e below (s₁.setTop (mkF m 0 #[.val (.ref o1), .val (.ref o2)] [])) t → Steps p.tables e below (s₁.setTop (entryFrame m #[(.ref o1), (.ref o2)] 2)) t := fun t k => castTop (ef_16_28 m o1 o2) k
  obtain ⟨T1, h1, X1, e1, W1, st1⟩ := putF X0 hx hZ hown (host := "") (Or.inl (wk94 hw)) Via.refl e0 f2 f1 (Or.inl (wk95 hw)) (wk76 hw) (ty := (.object "java/util/List")) (by decide) rfl rfl (g := (mkF m 2 #[.val (.ref o1), .val (.ref o2)] [(.ref o2), (.ref o1)])) rfl rfl (hb hby d16_2)
  have F1 : Fld Z h1 o1 "com/example/tidy_mailbox/tidymailbox/async/RecordEntry" "results" "Ljava/util/List;" (.ref o2) := f2.same W1
  have N1 := Fr.snoc X1 N0 g3
  have O2 := O0.wr W1 g3
  obtain ⟨fs, hr, hrun, hended, hWm, hsame⟩ := X1.leave (v := none) (fun _ => rfl)
  have Kf3 : own_KL h0 h1 [⟨o1, Jvm.RoadKit.slotOf Z "com/example/tidy_mailbox/tidymailbox/async/RecordEntry" "results" "Ljava/util/List;"⟩] := (own_klW (own_kl0 h0 [⟨o1, Jvm.RoadKit.slotOf Z "com/example/tidy_mailbox/tidymailbox/async/RecordEntry" "results" "Ljava/util/List;"⟩]) W1 (Or.inl (List.mem_of_getElem? (i := 0) rfl)))
  refine ⟨_, _, pre0 _ ?_, hrun, hended, _, _, rfl, ?_, ⟨_, rfl⟩, hWm, hsame.mono (by decide) (by decide)⟩
  · show Steps p.tables e below (s₁.setTop (mkF m 0 #[.val (.ref o1), .val (.ref o2)] [])) _
    refine sA X0 hx hby d16_0 rfl rfl ?_
    refine sA X0 hx hby d16_1 rfl rfl ?_
    refine st1 _ ?_
    exact X1.returnOut hx Bd.returns (hb hby d16_5) hr
  · show Q16_28 Z w o1 o2 o3 h0 n0 _ T1.heap _
    rw [e1]
    exact ⟨rfl, N1, Kf3, F1⟩
theorem ef_15_29 (m : MethodId) (o1 : Addr) (o2 : Addr) (o3 : Addr) : entryFrame m #[(.ref o1), (.int (3 : Int32)), (.ref o2), (.ref o3)] 4 = mkF m 0 #[.val (.ref o1), .val (.int (3 : Int32)), .val (.ref o2), .val (.ref o3)] [] := by first | (simp [entryFrame, mkF, argsToLocals, Value.category]; done) | rfl
def Q15_29 (Z : State) (w : Nat → Addr) (o1 : Addr) (o2 : Addr) (o3 : Addr) (h0 : Heap) (n0 : Nat) (v : Option Value) (h : Heap) (L : List Loc) : Prop := v = none ∧ Fr n0 L ∧ own_KL h0 h [⟨o1, Jvm.RoadKit.slotOf Z "com/example/tidy_mailbox/tidymailbox/async/RecordEntry" "results" "Ljava/util/List;"⟩] ∧ Fld Z h o1 "com/example/tidy_mailbox/tidymailbox/async/RecordEntry" "results" "Ljava/util/List;" (.ref o3)
set_option maxRecDepth 65536 in
set_option maxHeartbeats 40000000 in
theorem rm15_29 (l : Launch) (Z : State) (a0 : Array Value) (hw : ∀ d ∈ tables_1, d.before a0 Z = true) (w : Nat → Addr) (hW : Wd Z w) (ws : List Jvm.Cond) (o1 : Addr) (o2 : Addr) (o3 : Addr) (h0 : Heap) (n0 : Nat) (O0 : Old Z n0 h0) (f1 : Exa Z h0 o1 "com/example/tidy_mailbox/tidymailbox/async/RecordEntry") (f2 : Fld Z h0 o1 "com/example/tidy_mailbox/tidymailbox/async/RecordEntry" "results" "Ljava/util/List;" (.ref o2)) (g3 : n0 ≤ o1) :
    MetFree l ym15 (head1 (Jvm.Cond.code ym15 method_3_code 4 none :: ws) ({ frames := 1, cells := 0, slots := 0, locals := 13 } : Room)) (fun a U => a = #[(.ref o1), (.int (3 : Int32)), (.ref o2), (.ref o3)] ∧ Z.Warmed39 U.vm ∧ U.heap = h0) (fun _ _ _ _ _ => True) (fun _ U o U' => ∃ v L, o = .returned v ∧ Q15_29 Z w o1 o2 o3 h0 n0 v U'.heap L ∧ FrameEnd U o U' L ({ frames := 1, cells := 0, slots := 0, locals := 13 } : Room).cells ({ frames := 1, cells := 0, slots := 0, locals := 13 } : Room).slots) := by
  refine MetFree.of_bodySF (plainFor_of_name pnc_8) hisR ?_
  intro p e s m args below meth c s₁ Bd hml0 hP hK
  obtain ⟨rfl, hZ, hh⟩ := hP
  have hx := Bd.exec
  have hby := Bd.bytes
  have hml : c.maxLocals = 4 := hml0
  have hown : s.vm.findClass "com/example/tidy_mailbox/tidymailbox/async/RecordEntryIsCompletePinLaw" = some m.cls := findClass_of_methodNamed Bd.named
  have hnm := (name_of_methodNamed Bd.named Bd.method).1
  have X0 : Stand p l e ({ frames := 1, cells := 0, slots := 0, locals := 13 } : Room) s m #[(.ref o1), (.int (3 : Int32)), (.ref o2), (.ref o3)] below meth c s₁ [] 0 0 := Stand.of_body Bd
  have e0 : s₁.heap = h0 := by rw [← hh, Bd.state]; rfl
  have N0 := Fr.nil n0
  let La : Array Slot := #[.val (.ref o1), .val (.int (3 : Int32)), .val (.ref o2), .val (.ref o3)]
  have pre0 : ∀ t, Steps p.tables e below (s₁.setTop (mkF m 0 #[.val (.ref o1), .val (.int (3 : Int32)), .val (.ref o2), .val (.ref o3)] [])) t → Steps p.tables e below (s₁.setTop (entryFrame m #[(.ref o1), (.int (3 : Int32)), (.ref o2), (.ref o3)] 4)) t := fun t k => castTop (ef_15_29 m o1 o2 o3) k
  obtain ⟨cq1, kq1, q1a, q1b, q1c⟩ := isOf hZ e0 f1
  obtain ⟨_, _, ⟨T1, L1, kk1, nn1⟩, -, X1, ⟨Lc1, hQ1, l1, y1, z1⟩, st1⟩ := X0.virtualBack hx (y := ym17) (z := ym17) hown (mvT hZ (wk100 hw)) (mvT hZ (wk101 hw)) (notFace_of_selects (args := #[]) (mvT hZ (wk103 hw))) (mvT hZ (wk103 hw)) (mvT hZ (wk102 hw)) (by decide) (backOf (W := 0) (rm16_28 l Z a0 hw w hW [] o1 o3 o2 h0 n0 O0 f1 f2 g3) hZ (wk104 hw) (wk77 hw) (by decide) (by decide)) q1a q1c (g := (mkF m 33 La [(.ref o3), (.ref o1)])) rfl (by rw [hml]; rfl) (Steps.refl _) (argsL := [(.ref o3)]) (rest := []) (lenOf pds_13 rfl) rfl (by show 2 * 0 + _ ≤ _; exact Nat.le_of_eq rfl) (hb hby d15_33) (fun _ _ => ⟨rfl, e0, (by decide : 0 + 0 ≤ _), (by decide : 0 + 0 ≤ _)⟩)
  dsimp only [Pt.U, Pt.locs, Pt.cells, Pt.slots] at X1 l1 y1 z1 st1 hQ1
  subst l1 y1 z1
  obtain ⟨rfl, N1q, K1, r1_0⟩ := hQ1
  have N1 := Fr.app N0 N1q
  have O2 := own_old O0 K1 (own_ngc g3 own_ng0)
  obtain ⟨fs, hr, hrun, hended, hWm, hsame⟩ := X1.leave (v := none) (fun _ => rfl)
  have Kf3 : own_KL h0 T1.heap [⟨o1, Jvm.RoadKit.slotOf Z "com/example/tidy_mailbox/tidymailbox/async/RecordEntry" "results" "Ljava/util/List;"⟩] := (own_klT (own_kl0 h0 [⟨o1, Jvm.RoadKit.slotOf Z "com/example/tidy_mailbox/tidymailbox/async/RecordEntry" "results" "Ljava/util/List;"⟩]) K1 (own_kac (Or.inl (List.mem_of_getElem? (i := 0) rfl)) own_ka0))
  refine ⟨_, _, pre0 _ ?_, hrun, hended, _, _, rfl, ?_, ⟨_, rfl⟩, hWm, hsame.mono (by decide) (by decide)⟩
  · show Steps p.tables e below (s₁.setTop (mkF m 0 La [])) _
    refine sI X0 hx hby d15_0 rfl ?_
    refine sc X0 hx hby d15_1 ?_
    refine XS.icmpYes X0.here hx rfl (pc0 := 2) (pc' := 13) rfl (hb hby d15_2) rfl (by decide) (by decide) (by decide) ?_
    refine sI X0 hx hby d15_13 rfl ?_
    refine sc X0 hx hby d15_14 ?_
    show Steps p.tables e below (s₁.setTop (mkF m 15 La [(.int (2 : Int32)), (.int (3 : Int32))])) _
    refine XS.icmpYes X0.here hx rfl (pc0 := 15) (pc' := 26) rfl (hb hby d15_15) rfl (by decide) (by decide) (by decide) ?_
    refine sI X0 hx hby d15_26 rfl ?_
    refine sc X0 hx hby d15_27 ?_
    refine sn X0 hx hby d15_28 (by decide) ?_
    refine sA X0 hx hby d15_31 rfl rfl ?_
    show Steps p.tables e below (s₁.setTop (mkF m 32 La [(.ref o1)])) _
    refine sA X0 hx hby d15_32 rfl rfl ?_
    refine st1.trans ?_
    exact X1.returnOut hx Bd.returns (hb hby d15_36) hr
  · show Q15_29 Z w o1 o2 o3 h0 n0 _ T1.heap _
    exact ⟨rfl, N1, Kf3, r1_0⟩
theorem ef_15_30 (m : MethodId) (o1 : Addr) (o2 : Addr) (o3 : Addr) : entryFrame m #[(.ref o1), (.int (1 : Int32)), (.ref o2), (.ref o3)] 4 = mkF m 0 #[.val (.ref o1), .val (.int (1 : Int32)), .val (.ref o2), .val (.ref o3)] [] := by first | (simp [entryFrame, mkF, argsToLocals, Value.category]; done) | rfl
def Q15_30 (Z : State) (w : Nat → Addr) (o1 : Addr) (o2 : Addr) (o3 : Addr) (h0 : Heap) (n0 : Nat) (v : Option Value) (h : Heap) (L : List Loc) : Prop := v = none ∧ Fr n0 L ∧ own_KL h0 h [⟨o1, Jvm.RoadKit.slotOf Z "com/example/tidy_mailbox/tidymailbox/async/RecordEntry" "results" "Ljava/util/List;"⟩] ∧ Fld Z h o1 "com/example/tidy_mailbox/tidymailbox/async/RecordEntry" "results" "Ljava/util/List;" .null
set_option maxRecDepth 65536 in
set_option maxHeartbeats 40000000 in
theorem rm15_30 (l : Launch) (Z : State) (a0 : Array Value) (hw : ∀ d ∈ tables_1, d.before a0 Z = true) (w : Nat → Addr) (hW : Wd Z w) (ws : List Jvm.Cond) (o1 : Addr) (o2 : Addr) (o3 : Addr) (h0 : Heap) (n0 : Nat) (O0 : Old Z n0 h0) (f1 : Exa Z h0 o1 "com/example/tidy_mailbox/tidymailbox/async/RecordEntry") (f2 : Fld Z h0 o1 "com/example/tidy_mailbox/tidymailbox/async/RecordEntry" "results" "Ljava/util/List;" (.ref o3)) (g3 : n0 ≤ o1) :
    MetFree l ym15 (head1 (Jvm.Cond.code ym15 method_3_code 4 none :: ws) ({ frames := 1, cells := 0, slots := 0, locals := 13 } : Room)) (fun a U => a = #[(.ref o1), (.int (1 : Int32)), (.ref o2), (.ref o3)] ∧ Z.Warmed39 U.vm ∧ U.heap = h0) (fun _ _ _ _ _ => True) (fun _ U o U' => ∃ v L, o = .returned v ∧ Q15_30 Z w o1 o2 o3 h0 n0 v U'.heap L ∧ FrameEnd U o U' L ({ frames := 1, cells := 0, slots := 0, locals := 13 } : Room).cells ({ frames := 1, cells := 0, slots := 0, locals := 13 } : Room).slots) := by
  refine MetFree.of_bodySF (plainFor_of_name pnc_8) hisR ?_
  intro p e s m args below meth c s₁ Bd hml0 hP hK
  obtain ⟨rfl, hZ, hh⟩ := hP
  have hx := Bd.exec
  have hby := Bd.bytes
  have hml : c.maxLocals = 4 := hml0
  have hown : s.vm.findClass "com/example/tidy_mailbox/tidymailbox/async/RecordEntryIsCompletePinLaw" = some m.cls := findClass_of_methodNamed Bd.named
  have hnm := (name_of_methodNamed Bd.named Bd.method).1
  have X0 : Stand p l e ({ frames := 1, cells := 0, slots := 0, locals := 13 } : Room) s m #[(.ref o1), (.int (1 : Int32)), (.ref o2), (.ref o3)] below meth c s₁ [] 0 0 := Stand.of_body Bd
  have e0 : s₁.heap = h0 := by rw [← hh, Bd.state]; rfl
  have N0 := Fr.nil n0
  let La : Array Slot := #[.val (.ref o1), .val (.int (1 : Int32)), .val (.ref o2), .val (.ref o3)]
  have pre0 : ∀ t, Steps p.tables e below (s₁.setTop (mkF m 0 #[.val (.ref o1), .val (.int (1 : Int32)), .val (.ref o2), .val (.ref o3)] [])) t → Steps p.tables e below (s₁.setTop (entryFrame m #[(.ref o1), (.int (1 : Int32)), (.ref o2), (.ref o3)] 4)) t := fun t k => castTop (ef_15_30 m o1 o2 o3) k
  obtain ⟨cq1, kq1, q1a, q1b, q1c⟩ := isOf hZ e0 f1
  obtain ⟨_, _, ⟨T1, L1, kk1, nn1⟩, -, X1, ⟨Lc1, hQ1, l1, y1, z1⟩, st1⟩ := X0.virtualBack hx (y := ym17) (z := ym17) hown (mvT hZ (wk100 hw)) (mvT hZ (wk101 hw)) (notFace_of_selects (args := #[]) (mvT hZ (wk103 hw))) (mvT hZ (wk103 hw)) (mvT hZ (wk102 hw)) (by decide) (backOf (W := 0) (rm16_24 l Z a0 hw w hW [] o1 o3 h0 n0 O0 f1 f2 g3) hZ (wk104 hw) (wk77 hw) (by decide) (by decide)) q1a q1c (g := (mkF m 7 La [.null, (.ref o1)])) rfl (by rw [hml]; rfl) (Steps.refl _) (argsL := [.null]) (rest := []) (lenOf pds_13 rfl) rfl (by show 2 * 0 + _ ≤ _; exact Nat.le_of_eq rfl) (hb hby d15_7) (fun _ _ => ⟨rfl, e0, (by decide : 0 + 0 ≤ _), (by decide : 0 + 0 ≤ _)⟩)
  dsimp only [Pt.U, Pt.locs, Pt.cells, Pt.slots] at X1 l1 y1 z1 st1 hQ1
  subst l1 y1 z1
  obtain ⟨rfl, N1q, K1, r1_0⟩ := hQ1
  have N1 := Fr.app N0 N1q
  have O2 := own_old O0 K1 (own_ngc g3 own_ng0)
  obtain ⟨fs, hr, hrun, hended, hWm, hsame⟩ := X1.leave (v := none) (fun _ => rfl)
  have Kf3 : own_KL h0 T1.heap [⟨o1, Jvm.RoadKit.slotOf Z "com/example/tidy_mailbox/tidymailbox/async/RecordEntry" "results" "Ljava/util/List;"⟩] := (own_klT (own_kl0 h0 [⟨o1, Jvm.RoadKit.slotOf Z "com/example/tidy_mailbox/tidymailbox/async/RecordEntry" "results" "Ljava/util/List;"⟩]) K1 (own_kac (Or.inl (List.mem_of_getElem? (i := 0) rfl)) own_ka0))
  refine ⟨_, _, pre0 _ ?_, hrun, hended, _, _, rfl, ?_, ⟨_, rfl⟩, hWm, hsame.mono (by decide) (by decide)⟩
  · show Steps p.tables e below (s₁.setTop (mkF m 0 La [])) _
    refine sI X0 hx hby d15_0 rfl ?_
    refine sc X0 hx hby d15_1 ?_
    refine sn X0 hx hby d15_2 (by decide) ?_
    refine sA X0 hx hby d15_5 rfl rfl ?_
    refine XS.aconstNull X0.here hx rfl (hb hby d15_6) ?_
    show Steps p.tables e below (s₁.setTop (mkF m 7 La [.null, (.ref o1)])) _
    refine st1.trans ?_
    refine sg (pc := 10) (pc' := 36) X1 hx hby d15_10 (by decide) (by decide) ?_
    exact X1.returnOut hx Bd.returns (hb hby d15_36) hr
  · show Q15_30 Z w o1 o2 o3 h0 n0 _ T1.heap _
    exact ⟨rfl, N1, Kf3, r1_0⟩
theorem ef_15_31 (m : MethodId) (o1 : Addr) (o2 : Addr) (o3 : Addr) : entryFrame m #[(.ref o1), (.int (2 : Int32)), (.ref o2), (.ref o3)] 4 = mkF m 0 #[.val (.ref o1), .val (.int (2 : Int32)), .val (.ref o2), .val (.ref o3)] [] := by first | (simp [entryFrame, mkF, argsToLocals, Value.category]; done) | rfl
def Q15_31 (Z : State) (w : Nat → Addr) (o1 : Addr) (o2 : Addr) (o3 : Addr) (h0 : Heap) (n0 : Nat) (v : Option Value) (h : Heap) (L : List Loc) : Prop := v = none ∧ Fr n0 L ∧ own_KL h0 h [⟨o1, Jvm.RoadKit.slotOf Z "com/example/tidy_mailbox/tidymailbox/async/RecordEntry" "results" "Ljava/util/List;"⟩] ∧ Fld Z h o1 "com/example/tidy_mailbox/tidymailbox/async/RecordEntry" "results" "Ljava/util/List;" (.ref o2)
set_option maxRecDepth 65536 in
set_option maxHeartbeats 40000000 in
theorem rm15_31 (l : Launch) (Z : State) (a0 : Array Value) (hw : ∀ d ∈ tables_1, d.before a0 Z = true) (w : Nat → Addr) (hW : Wd Z w) (ws : List Jvm.Cond) (o1 : Addr) (o2 : Addr) (o3 : Addr) (h0 : Heap) (n0 : Nat) (O0 : Old Z n0 h0) (f1 : Exa Z h0 o1 "com/example/tidy_mailbox/tidymailbox/async/RecordEntry") (f2 : Fld Z h0 o1 "com/example/tidy_mailbox/tidymailbox/async/RecordEntry" "results" "Ljava/util/List;" (.ref o3)) (g3 : n0 ≤ o1) :
    MetFree l ym15 (head1 (Jvm.Cond.code ym15 method_3_code 4 none :: ws) ({ frames := 1, cells := 0, slots := 0, locals := 13 } : Room)) (fun a U => a = #[(.ref o1), (.int (2 : Int32)), (.ref o2), (.ref o3)] ∧ Z.Warmed39 U.vm ∧ U.heap = h0) (fun _ _ _ _ _ => True) (fun _ U o U' => ∃ v L, o = .returned v ∧ Q15_31 Z w o1 o2 o3 h0 n0 v U'.heap L ∧ FrameEnd U o U' L ({ frames := 1, cells := 0, slots := 0, locals := 13 } : Room).cells ({ frames := 1, cells := 0, slots := 0, locals := 13 } : Room).slots) := by
  refine MetFree.of_bodySF (plainFor_of_name pnc_8) hisR ?_
  intro p e s m args below meth c s₁ Bd hml0 hP hK
  obtain ⟨rfl, hZ, hh⟩ := hP
  have hx := Bd.exec
  have hby := Bd.bytes
  have hml : c.maxLocals = 4 := hml0
  have hown : s.vm.findClass "com/example/tidy_mailbox/tidymailbox/async/RecordEntryIsCompletePinLaw" = some m.cls := findClass_of_methodNamed Bd.named
  have hnm := (name_of_methodNamed Bd.named Bd.method).1
  have X0 : Stand p l e ({ frames := 1, cells := 0, slots := 0, locals := 13 } : Room) s m #[(.ref o1), (.int (2 : Int32)), (.ref o2), (.ref o3)] below meth c s₁ [] 0 0 := Stand.of_body Bd
  have e0 : s₁.heap = h0 := by rw [← hh, Bd.state]; rfl
  have N0 := Fr.nil n0
  let La : Array Slot := #[.val (.ref o1), .val (.int (2 : Int32)), .val (.ref o2), .val (.ref o3)]
  have pre0 : ∀ t, Steps p.tables e below (s₁.setTop (mkF m 0 #[.val (.ref o1), .val (.int (2 : Int32)), .val (.ref o2), .val (.ref o3)] [])) t → Steps p.tables e below (s₁.setTop (entryFrame m #[(.ref o1), (.int (2 : Int32)), (.ref o2), (.ref o3)] 4)) t := fun t k => castTop (ef_15_31 m o1 o2 o3) k
  obtain ⟨cq1, kq1, q1a, q1b, q1c⟩ := isOf hZ e0 f1
  obtain ⟨_, _, ⟨T1, L1, kk1, nn1⟩, -, X1, ⟨Lc1, hQ1, l1, y1, z1⟩, st1⟩ := X0.virtualBack hx (y := ym17) (z := ym17) hown (mvT hZ (wk100 hw)) (mvT hZ (wk101 hw)) (notFace_of_selects (args := #[]) (mvT hZ (wk103 hw))) (mvT hZ (wk103 hw)) (mvT hZ (wk102 hw)) (by decide) (backOf (W := 0) (rm16_28 l Z a0 hw w hW [] o1 o2 o3 h0 n0 O0 f1 f2 g3) hZ (wk104 hw) (wk77 hw) (by decide) (by decide)) q1a q1c (g := (mkF m 20 La [(.ref o2), (.ref o1)])) rfl (by rw [hml]; rfl) (Steps.refl _) (argsL := [(.ref o2)]) (rest := []) (lenOf pds_13 rfl) rfl (by show 2 * 0 + _ ≤ _; exact Nat.le_of_eq rfl) (hb hby d15_20) (fun _ _ => ⟨rfl, e0, (by decide : 0 + 0 ≤ _), (by decide : 0 + 0 ≤ _)⟩)
  dsimp only [Pt.U, Pt.locs, Pt.cells, Pt.slots] at X1 l1 y1 z1 st1 hQ1
  subst l1 y1 z1
  obtain ⟨rfl, N1q, K1, r1_0⟩ := hQ1
  have N1 := Fr.app N0 N1q
  have O2 := own_old O0 K1 (own_ngc g3 own_ng0)
  obtain ⟨fs, hr, hrun, hended, hWm, hsame⟩ := X1.leave (v := none) (fun _ => rfl)
  have Kf3 : own_KL h0 T1.heap [⟨o1, Jvm.RoadKit.slotOf Z "com/example/tidy_mailbox/tidymailbox/async/RecordEntry" "results" "Ljava/util/List;"⟩] := (own_klT (own_kl0 h0 [⟨o1, Jvm.RoadKit.slotOf Z "com/example/tidy_mailbox/tidymailbox/async/RecordEntry" "results" "Ljava/util/List;"⟩]) K1 (own_kac (Or.inl (List.mem_of_getElem? (i := 0) rfl)) own_ka0))
  refine ⟨_, _, pre0 _ ?_, hrun, hended, _, _, rfl, ?_, ⟨_, rfl⟩, hWm, hsame.mono (by decide) (by decide)⟩
  · show Steps p.tables e below (s₁.setTop (mkF m 0 La [])) _
    refine sI X0 hx hby d15_0 rfl ?_
    refine sc X0 hx hby d15_1 ?_
    refine XS.icmpYes X0.here hx rfl (pc0 := 2) (pc' := 13) rfl (hb hby d15_2) rfl (by decide) (by decide) (by decide) ?_
    refine sI X0 hx hby d15_13 rfl ?_
    refine sc X0 hx hby d15_14 ?_
    show Steps p.tables e below (s₁.setTop (mkF m 15 La [(.int (2 : Int32)), (.int (2 : Int32))])) _
    refine sn X0 hx hby d15_15 (by decide) ?_
    refine sA X0 hx hby d15_18 rfl rfl ?_
    refine sA X0 hx hby d15_19 rfl rfl ?_
    refine st1.trans ?_
    refine sg (pc := 23) (pc' := 36) X1 hx hby d15_23 (by decide) (by decide) ?_
    exact X1.returnOut hx Bd.returns (hb hby d15_36) hr
  · show Q15_31 Z w o1 o2 o3 h0 n0 _ T1.heap _
    exact ⟨rfl, N1, Kf3, r1_0⟩
theorem ef_15_32 (m : MethodId) (o1 : Addr) (o2 : Addr) (o3 : Addr) : entryFrame m #[(.ref o1), (.int (3 : Int32)), (.ref o2), (.ref o3)] 4 = mkF m 0 #[.val (.ref o1), .val (.int (3 : Int32)), .val (.ref o2), .val (.ref o3)] [] := by first | (simp [entryFrame, mkF, argsToLocals, Value.category]; done) | rfl
def Q15_32 (Z : State) (w : Nat → Addr) (o1 : Addr) (o2 : Addr) (o3 : Addr) (h0 : Heap) (n0 : Nat) (v : Option Value) (h : Heap) (L : List Loc) : Prop := v = none ∧ Fr n0 L ∧ own_KL h0 h [⟨o1, Jvm.RoadKit.slotOf Z "com/example/tidy_mailbox/tidymailbox/async/RecordEntry" "results" "Ljava/util/List;"⟩] ∧ Fld Z h o1 "com/example/tidy_mailbox/tidymailbox/async/RecordEntry" "results" "Ljava/util/List;" (.ref o3)
set_option maxRecDepth 65536 in
set_option maxHeartbeats 40000000 in
theorem rm15_32 (l : Launch) (Z : State) (a0 : Array Value) (hw : ∀ d ∈ tables_1, d.before a0 Z = true) (w : Nat → Addr) (hW : Wd Z w) (ws : List Jvm.Cond) (o1 : Addr) (o2 : Addr) (o3 : Addr) (h0 : Heap) (n0 : Nat) (O0 : Old Z n0 h0) (f1 : Exa Z h0 o1 "com/example/tidy_mailbox/tidymailbox/async/RecordEntry") (f2 : Fld Z h0 o1 "com/example/tidy_mailbox/tidymailbox/async/RecordEntry" "results" "Ljava/util/List;" (.ref o3)) (g3 : n0 ≤ o1) :
    MetFree l ym15 (head1 (Jvm.Cond.code ym15 method_3_code 4 none :: ws) ({ frames := 1, cells := 0, slots := 0, locals := 13 } : Room)) (fun a U => a = #[(.ref o1), (.int (3 : Int32)), (.ref o2), (.ref o3)] ∧ Z.Warmed39 U.vm ∧ U.heap = h0) (fun _ _ _ _ _ => True) (fun _ U o U' => ∃ v L, o = .returned v ∧ Q15_32 Z w o1 o2 o3 h0 n0 v U'.heap L ∧ FrameEnd U o U' L ({ frames := 1, cells := 0, slots := 0, locals := 13 } : Room).cells ({ frames := 1, cells := 0, slots := 0, locals := 13 } : Room).slots) := by
  refine MetFree.of_bodySF (plainFor_of_name pnc_8) hisR ?_
  intro p e s m args below meth c s₁ Bd hml0 hP hK
  obtain ⟨rfl, hZ, hh⟩ := hP
  have hx := Bd.exec
  have hby := Bd.bytes
  have hml : c.maxLocals = 4 := hml0
  have hown : s.vm.findClass "com/example/tidy_mailbox/tidymailbox/async/RecordEntryIsCompletePinLaw" = some m.cls := findClass_of_methodNamed Bd.named
  have hnm := (name_of_methodNamed Bd.named Bd.method).1
  have X0 : Stand p l e ({ frames := 1, cells := 0, slots := 0, locals := 13 } : Room) s m #[(.ref o1), (.int (3 : Int32)), (.ref o2), (.ref o3)] below meth c s₁ [] 0 0 := Stand.of_body Bd
  have e0 : s₁.heap = h0 := by rw [← hh, Bd.state]; rfl
  have N0 := Fr.nil n0
  let La : Array Slot := #[.val (.ref o1), .val (.int (3 : Int32)), .val (.ref o2), .val (.ref o3)]
  have pre0 : ∀ t, Steps p.tables e below (s₁.setTop (mkF m 0 #[.val (.ref o1), .val (.int (3 : Int32)), .val (.ref o2), .val (.ref o3)] [])) t → Steps p.tables e below (s₁.setTop (entryFrame m #[(.ref o1), (.int (3 : Int32)), (.ref o2), (.ref o3)] 4)) t := fun t k => castTop (ef_15_32 m o1 o2 o3) k
  obtain ⟨cq1, kq1, q1a, q1b, q1c⟩ := isOf hZ e0 f1
  obtain ⟨_, _, ⟨T1, L1, kk1, nn1⟩, -, X1, ⟨Lc1, hQ1, l1, y1, z1⟩, st1⟩ := X0.virtualBack hx (y := ym17) (z := ym17) hown (mvT hZ (wk100 hw)) (mvT hZ (wk101 hw)) (notFace_of_selects (args := #[]) (mvT hZ (wk103 hw))) (mvT hZ (wk103 hw)) (mvT hZ (wk102 hw)) (by decide) (backOf (W := 0) (rm16_26 l Z a0 hw w hW [] o1 o3 h0 n0 O0 f1 f2 g3) hZ (wk104 hw) (wk77 hw) (by decide) (by decide)) q1a q1c (g := (mkF m 33 La [(.ref o3), (.ref o1)])) rfl (by rw [hml]; rfl) (Steps.refl _) (argsL := [(.ref o3)]) (rest := []) (lenOf pds_13 rfl) rfl (by show 2 * 0 + _ ≤ _; exact Nat.le_of_eq rfl) (hb hby d15_33) (fun _ _ => ⟨rfl, e0, (by decide : 0 + 0 ≤ _), (by decide : 0 + 0 ≤ _)⟩)
  dsimp only [Pt.U, Pt.locs, Pt.cells, Pt.slots] at X1 l1 y1 z1 st1 hQ1
  subst l1 y1 z1
  obtain ⟨rfl, N1q, K1, r1_0⟩ := hQ1
  have N1 := Fr.app N0 N1q
  have O2 := own_old O0 K1 (own_ngc g3 own_ng0)
  obtain ⟨fs, hr, hrun, hended, hWm, hsame⟩ := X1.leave (v := none) (fun _ => rfl)
  have Kf3 : own_KL h0 T1.heap [⟨o1, Jvm.RoadKit.slotOf Z "com/example/tidy_mailbox/tidymailbox/async/RecordEntry" "results" "Ljava/util/List;"⟩] := (own_klT (own_kl0 h0 [⟨o1, Jvm.RoadKit.slotOf Z "com/example/tidy_mailbox/tidymailbox/async/RecordEntry" "results" "Ljava/util/List;"⟩]) K1 (own_kac (Or.inl (List.mem_of_getElem? (i := 0) rfl)) own_ka0))
  refine ⟨_, _, pre0 _ ?_, hrun, hended, _, _, rfl, ?_, ⟨_, rfl⟩, hWm, hsame.mono (by decide) (by decide)⟩
  · show Steps p.tables e below (s₁.setTop (mkF m 0 La [])) _
    refine sI X0 hx hby d15_0 rfl ?_
    refine sc X0 hx hby d15_1 ?_
    refine XS.icmpYes X0.here hx rfl (pc0 := 2) (pc' := 13) rfl (hb hby d15_2) rfl (by decide) (by decide) (by decide) ?_
    refine sI X0 hx hby d15_13 rfl ?_
    refine sc X0 hx hby d15_14 ?_
    show Steps p.tables e below (s₁.setTop (mkF m 15 La [(.int (2 : Int32)), (.int (3 : Int32))])) _
    refine XS.icmpYes X0.here hx rfl (pc0 := 15) (pc' := 26) rfl (hb hby d15_15) rfl (by decide) (by decide) (by decide) ?_
    refine sI X0 hx hby d15_26 rfl ?_
    refine sc X0 hx hby d15_27 ?_
    refine sn X0 hx hby d15_28 (by decide) ?_
    refine sA X0 hx hby d15_31 rfl rfl ?_
    show Steps p.tables e below (s₁.setTop (mkF m 32 La [(.ref o1)])) _
    refine sA X0 hx hby d15_32 rfl rfl ?_
    refine st1.trans ?_
    exact X1.returnOut hx Bd.returns (hb hby d15_36) hr
  · show Q15_32 Z w o1 o2 o3 h0 n0 _ T1.heap _
    exact ⟨rfl, N1, Kf3, r1_0⟩
theorem ef_0_33 (m : MethodId) (p0 : Int32) (p1 : Int64) (p2 : Int32) : entryFrame m #[(.int p0), (.long p1), (.int p2)] maxLocals = mkF m 0 #[.val (.int p0), .val (.long p1), .second, .val (.int p2), .unset, .unset, .unset, .unset, .unset, .unset, .unset, .unset] [] := by first | (simp [entryFrame, mkF, argsToLocals, Value.category, maxLocals]; done) | rfl
def Q0 (n0 : Nat) (v : Option Value) (h : Heap) (L : List Loc) : Prop := v = some (.int (1 : Int32)) ∧ Fr n0 L
set_option maxRecDepth 65536 in
set_option maxHeartbeats 400000000 in
theorem rm0 (l : Launch) (Z : State) (a0 : Array Value) (hw : ∀ d ∈ tables_1, d.before a0 Z = true) (w : Nat → Addr) (hW : Wd Z w) (ws : List Jvm.Cond) (p0 : Int32) (p1 : Int64) (p2 : Int32) (h0 : Heap) (n0 : Nat) (O0 : Old Z n0 h0) :
    MetFree l x (head1 (Jvm.Cond.code x code maxLocals ret :: ws) room_1) (fun a U => a = #[(.int p0), (.long p1), (.int p2)] ∧ Z.Warmed39 U.vm ∧ U.heap = h0) (fun _ _ _ _ _ => True) (fun _ U o U' => ∃ v L, o = .returned v ∧ Q0 n0 v U'.heap L ∧ FrameEnd U o U' L room_1.cells room_1.slots) := by
  refine MetFree.of_bodySF (plainFor_of_name pnc_8) hisR ?_
  intro p e s m args below meth c s₁ Bd hml0 hP hK
  obtain ⟨rfl, hZ, hh⟩ := hP
  have hx := Bd.exec
  have hby := Bd.bytes
  have hml : c.maxLocals = 12 := hml0
  have hown : s.vm.findClass "com/example/tidy_mailbox/tidymailbox/async/RecordEntryIsCompletePinLaw" = some m.cls := findClass_of_methodNamed Bd.named
  have hnm := (name_of_methodNamed Bd.named Bd.method).1
  have X0 : Stand p l e room_1 s m #[(.int p0), (.long p1), (.int p2)] below meth c s₁ [] 0 0 := Stand.of_body Bd
  have e0 : s₁.heap = h0 := by rw [← hh, Bd.state]; rfl
  have N0 := Fr.nil n0
  let La : Array Slot := #[.val (.int p0), .val (.long p1), .second, .val (.int p2), .unset, .unset, .unset, .unset, .unset, .unset, .unset, .unset]
  have pre0 : ∀ t, Steps p.tables e below (s₁.setTop (mkF m 0 #[.val (.int p0), .val (.long p1), .second, .val (.int p2), .unset, .unset, .unset, .unset, .unset, .unset, .unset, .unset] [])) t → Steps p.tables e below (s₁.setTop (entryFrame m #[(.int p0), (.long p1), (.int p2)] maxLocals)) t := fun t k => castTop (ef_0_33 m p0 p1 p2) k
  obtain ⟨T1, h1, X1, e1, E1, A1, D1, -, st1⟩ := newO X0 hx hZ hown (wk0 hw) (wk1 hw) (wk2 hw) e0 (g := (mkF m 0 La [])) rfl (hb hby at_0) (by decide) (by decide)
  obtain ⟨b1, g1⟩ : ∃ z, z = h0.size := ⟨_, rfl⟩
  rw [← g1] at A1 D1 st1
  have gg1 : n0 ≤ b1 := by rw [← O0.1, g1]; exact O0.2.1
  have O2 := O0.ext E1
  have i1_22 : Fld Z h1 b1 "java/util/AbstractList" "modCount" "I" (.int (0 : Int32)) := D1 (Or.inl (wk22 hw)) (ty := .int) (by decide)
  have i1_25 : Fld Z h1 b1 "java/util/ArrayList" "elementData" "[Ljava/lang/Object;" .null := D1 (Or.inl (wk25 hw)) (ty := (.array (.object "java/lang/Object"))) (by decide)
  have i1_41 : Fld Z h1 b1 "java/util/ArrayList" "size" "I" (.int (0 : Int32)) := D1 (Or.inl (wk41 hw)) (ty := .int) (by decide)
  obtain ⟨_, _, ⟨T3, L3, kk3, nn3⟩, -, X3, ⟨Lc3, hQ3, l3, y3, z3⟩, st3⟩ := X1.specialBack hx (y := ym2) rfl hown (mvT hZ (wk3 hw)) (mvT hZ (wk4 hw)) (mvT hZ (wk5 hw)) (by decide) (backOf (W := 1) (rm1_3 l Z a0 hw w hW [] b1 h1 n0 O2 A1 i1_22 gg1 i1_25) hZ (wk5 hw) (wk2 hw) (by decide) (by decide)) (g := (mkF m 4 La [(.ref b1), (.ref b1)])) rfl (by rw [hml]; rfl) (Steps.refl _) (a := b1) (argsL := []) (rest := [(.ref b1)]) (lenOf pds_0 rfl) rfl (by show 2 * 0 + _ ≤ _; exact Nat.le_of_eq rfl) (hb hby at_4) (fun _ _ => ⟨rfl, e1, (by decide : 1 + 0 ≤ _), (by decide : 3 + 0 ≤ _)⟩)
  dsimp only [Pt.U, Pt.locs, Pt.cells, Pt.slots] at X3 l3 y3 z3 st3 hQ3
  subst l3 y3 z3
  obtain ⟨rfl, N3q, K3, r3_0, r3_1⟩ := hQ3
  have N3 := Fr.app N0 N3q
  have O4 := own_old O2 K3 (own_ngc gg1 (own_ngc gg1 own_ng0))
  let Lb5 : Array Slot := #[.val (.int p0), .val (.long p1), .second, .val (.int p2), .val (.ref b1), .unset, .unset, .unset, .unset, .unset, .unset, .unset]
  obtain ⟨T6, h6, X6, e6, E6, A6, D6, -, st6⟩ := newO X3 hx hZ hown (wk0 hw) (wk1 hw) (wk2 hw) rfl (g := (mkF m 9 Lb5 [])) rfl (hb hby at_9) (by decide) (by decide)
  obtain ⟨b6, g6⟩ : ∃ z, z = T3.heap.size := ⟨_, rfl⟩
  rw [← g6] at A6 D6 st6
  have gg6 : n0 ≤ b6 := by rw [← O4.1, g6]; exact O4.2.1
  have O7 := O4.ext E6
  have i6_22 : Fld Z h6 b6 "java/util/AbstractList" "modCount" "I" (.int (0 : Int32)) := D6 (Or.inl (wk22 hw)) (ty := .int) (by decide)
  have i6_25 : Fld Z h6 b6 "java/util/ArrayList" "elementData" "[Ljava/lang/Object;" .null := D6 (Or.inl (wk25 hw)) (ty := (.array (.object "java/lang/Object"))) (by decide)
  have i6_41 : Fld Z h6 b6 "java/util/ArrayList" "size" "I" (.int (0 : Int32)) := D6 (Or.inl (wk41 hw)) (ty := .int) (by decide)
  obtain ⟨_, _, ⟨T8, L8, kk8, nn8⟩, -, X8, ⟨Lc8, hQ8, l8, y8, z8⟩, st8⟩ := X6.specialBack hx (y := ym2) rfl hown (mvT hZ (wk3 hw)) (mvT hZ (wk4 hw)) (mvT hZ (wk5 hw)) (by decide) (backOf (W := 1) (rm1_3 l Z a0 hw w hW [] b6 h6 n0 O7 A6 i6_22 gg6 i6_25) hZ (wk5 hw) (wk2 hw) (by decide) (by decide)) (g := (mkF m 13 Lb5 [(.ref b6), (.ref b6)])) rfl (by rw [hml]; rfl) (Steps.refl _) (a := b6) (argsL := []) (rest := [(.ref b6)]) (lenOf pds_0 rfl) rfl (by show 2 * 0 + _ ≤ _; exact Nat.le_of_eq rfl) (hb hby at_13) (fun _ _ => ⟨rfl, e6, (by decide : 2 + 0 ≤ _), (by decide : 6 + 0 ≤ _)⟩)
  dsimp only [Pt.U, Pt.locs, Pt.cells, Pt.slots] at X8 l8 y8 z8 st8 hQ8
  subst l8 y8 z8
  obtain ⟨rfl, N8q, K8, r8_0, r8_1⟩ := hQ8
  have N8 := Fr.app N3 N8q
  have O9 := own_old O7 K8 (own_ngc gg6 (own_ngc gg6 own_ng0))
  let Lb10 : Array Slot := #[.val (.int p0), .val (.long p1), .second, .val (.int p2), .val (.ref b1), .val (.ref b6), .unset, .unset, .unset, .unset, .unset, .unset]
  obtain ⟨_, _, ⟨T11, L11, kk11, nn11⟩, -, X11, ⟨Lc11, hQ11, l11, y11, z11⟩, st11⟩ := Jvm.LawKit.callS X8 hx (y := ym5) hown (mvT hZ (wk26 hw)) (mvT hZ (wk27 hw)) (mvT hZ (wk28 hw)) (mvT hZ (wk29 hw)) (by decide) (backOf (W := 1) (rm5_6 l Z a0 hw w hW [] p0 T8.heap n0 O9 ) hZ (wk29 hw) (wk28 hw) (by decide) (by decide)) (g := (mkF m 21 Lb10 [(.int p0), (.ref b6)])) rfl (by rw [hml]; rfl) (argsL := [(.int p0)]) (rest := [(.ref b6)]) (lenOf pds_2 rfl) rfl (by show 2 * 0 + _ ≤ _; exact Nat.le_of_eq rfl) (hb hby at_21) (fun _ _ => ⟨rfl, rfl, (by decide : 2 + 1 ≤ _), (by decide : 6 + 1 ≤ _)⟩)
  dsimp only [Pt.U, Pt.locs, Pt.cells, Pt.slots] at X11 l11 y11 z11 st11 hQ11
  subst l11 y11 z11
  obtain ⟨b11_0, rfl, N11q, K11, r11_0⟩ := hQ11
  have N11 := Fr.app N8 N11q
  have O12 := own_old O9 K11 own_ng0
  have t13 := (own_fld r8_0 K11 own_nl0)
  have t14 := (own_exa (own_exa A6 K8) K11)
  have t15 := (own_fld r8_1 K11 own_nl0)
  have t16 := (own_fld (own_fld i6_41 K8 (own_nls (sn2 hw) (own_nls (sn3 hw) own_nl0))) K11 own_nl0)
  obtain ⟨cq17, kq17, q17a, q17b, q17c⟩ := isOf hZ rfl t14
  obtain ⟨_, _, ⟨T17, L17, kk17, nn17⟩, -, X17, ⟨Lc17, hQ17, l17, y17, z17⟩, st17⟩ := X11.virtualBack hx (y := ym10) (z := ym10) hown (mvT hZ (wk33 hw)) (mvT hZ (wk34 hw)) (notFace_of_selects (args := #[]) (mvT hZ (wk36 hw))) (mvT hZ (wk36 hw)) (mvT hZ (wk35 hw)) (by decide) (backOf (W := 0) (rm6_11 l Z a0 hw w hW [] b6 b11_0 T11.heap n0 O12 t13 t14 gg6 t15 t16 r11_0) hZ (wk37 hw) (wk2 hw) (by decide) (by decide)) q17a q17c (g := (mkF m 24 Lb10 [(.ref b11_0), (.ref b6)])) rfl (by rw [hml]; rfl) (Steps.refl _) (argsL := [(.ref b11_0)]) (rest := []) (lenOf pds_7 rfl) rfl (by show 2 * 0 + _ ≤ _; exact Nat.le_of_eq rfl) (hb hby at_24) (fun _ _ => ⟨rfl, rfl, (by decide : 3 + 1 ≤ _), (by decide : 7 + 10 ≤ _)⟩)
  dsimp only [Pt.U, Pt.locs, Pt.cells, Pt.slots] at X17 l17 y17 z17 st17 hQ17
  subst l17 y17 z17
  obtain ⟨b17_0, k17_0, rfl, N17q, K17, r17_0, r17_1, r17_2, r17_3, r17_4, r17_5⟩ := hQ17
  have N17 := Fr.app N11 N17q
  have O18 := own_old O12 K17 (own_ngc gg6 (own_ngc gg6 (own_ngc gg6 own_ng0)))
  have ggb17_0 : n0 ≤ b17_0 := by rw [← O12.1]; exact Nat.le_trans O12.2.1 r17_4
  obtain ⟨T19, h19, X19, e19, E19, A19, D19, -, st19⟩ := newO X17 hx hZ hown (wk64 hw) (wk65 hw) (wk66 hw) rfl (g := (mkF m 28 Lb10 [])) rfl (hb hby at_28) (by decide) (by decide)
  obtain ⟨b19, g19⟩ : ∃ z, z = T17.heap.size := ⟨_, rfl⟩
  rw [← g19] at A19 D19 st19
  have gg19 : n0 ≤ b19 := by rw [← O18.1, g19]; exact O18.2.1
  have O20 := O18.ext E19
  have i19_72 : Fld Z h19 b19 "com/example/tidy_mailbox/tidymailbox/stream/StreamRecord" "value" "Ljava/lang/Object;" .null := D19 (Or.inr (wk72 hw)) (ty := (.object "java/lang/Object")) (by decide)
  have i19_74 : Fld Z h19 b19 "com/example/tidy_mailbox/tidymailbox/stream/StreamRecord" "timestamp" "J" (.long (0 : Int64)) := D19 (Or.inr (wk74 hw)) (ty := .long) (by decide)
  obtain ⟨_, _, ⟨T21, L21, kk21, nn21⟩, -, X21, ⟨Lc21, hQ21, l21, y21, z21⟩, st21⟩ := Jvm.LawKit.callS X19 hx (y := ym5) hown (mvT hZ (wk26 hw)) (mvT hZ (wk27 hw)) (mvT hZ (wk28 hw)) (mvT hZ (wk29 hw)) (by decide) (backOf (W := 2) (rm5_6 l Z a0 hw w hW [] p0 h19 n0 O20 ) hZ (wk29 hw) (wk28 hw) (by decide) (by decide)) (g := (mkF m 33 Lb10 [(.int p0), (.ref b19), (.ref b19)])) rfl (by rw [hml]; rfl) (argsL := [(.int p0)]) (rest := [(.ref b19), (.ref b19)]) (lenOf pds_2 rfl) rfl (by show 2 * 0 + _ ≤ _; exact Nat.le_of_eq rfl) (hb hby at_33) (fun _ _ => ⟨rfl, e19, (by decide : 5 + 1 ≤ _), (by decide : 19 + 1 ≤ _)⟩)
  dsimp only [Pt.U, Pt.locs, Pt.cells, Pt.slots] at X21 l21 y21 z21 st21 hQ21
  subst l21 y21 z21
  obtain ⟨b21_0, rfl, N21q, K21, r21_0⟩ := hQ21
  have N21 := Fr.app N17 N21q
  have O22 := own_old O20 K21 own_ng0
  have t23 := (own_exa A19 K21)
  have t24 := (own_fld i19_72 K21 own_nl0)
  have t25 := (own_fld i19_74 K21 own_nl0)
  obtain ⟨_, _, ⟨T26, L26, kk26, nn26⟩, -, X26, ⟨Lc26, hQ26, l26, y26, z26⟩, st26⟩ := X21.specialBack hx (y := ym11) rfl hown (mvT hZ (wk67 hw)) (mvT hZ (wk68 hw)) (mvT hZ (wk69 hw)) (by decide) (backOf (W := 1) (rm11_12 l Z a0 hw w hW [] b19 b21_0 p1 T21.heap n0 O22 t23 t24 gg19 t25) hZ (wk69 hw) (wk66 hw) (by decide) (by decide)) (g := (mkF m 37 Lb10 [(.long p1), (.ref b21_0), (.ref b19), (.ref b19)])) rfl (by rw [hml]; rfl) (Steps.refl _) (a := b19) (argsL := [(.ref b21_0), (.long p1)]) (rest := [(.ref b19)]) (lenOf pds_8 rfl) rfl (by show 2 * 0 + _ ≤ _; exact Nat.le_of_eq rfl) (hb hby at_37) (fun _ _ => ⟨rfl, rfl, (by decide : 6 + 0 ≤ _), (by decide : 20 + 0 ≤ _)⟩)
  dsimp only [Pt.U, Pt.locs, Pt.cells, Pt.slots] at X26 l26 y26 z26 st26 hQ26
  subst l26 y26 z26
  obtain ⟨rfl, N26q, K26, r26_0, r26_1⟩ := hQ26
  have N26 := Fr.app N21 N26q
  have O27 := own_old O22 K26 (own_ngc gg19 (own_ngc gg19 own_ng0))
  let Lb28 : Array Slot := #[.val (.int p0), .val (.long p1), .second, .val (.int p2), .val (.ref b1), .val (.ref b6), .val (.ref b19), .unset, .unset, .unset, .unset, .unset]
  obtain ⟨T29, h29, X29, e29, E29, A29, D29, -, st29⟩ := newO X26 hx hZ hown (wk75 hw) (wk76 hw) (wk77 hw) rfl (g := (mkF m 42 Lb28 [])) rfl (hb hby at_42) (by decide) (by decide)
  obtain ⟨b29, g29⟩ : ∃ z, z = T26.heap.size := ⟨_, rfl⟩
  rw [← g29] at A29 D29 st29
  have gg29 : n0 ≤ b29 := by rw [← O27.1, g29]; exact O27.2.1
  have O30 := O27.ext E29
  have i29_88 : Fld Z h29 b29 "com/example/tidy_mailbox/tidymailbox/async/RecordEntry" "input" "Lcom/example/tidy_mailbox/tidymailbox/stream/StreamRecord;" .null := D29 (Or.inr (wk88 hw)) (ty := (.object "com/example/tidy_mailbox/tidymailbox/stream/StreamRecord")) (by decide)
  have i29_95 : Fld Z h29 b29 "com/example/tidy_mailbox/tidymailbox/async/RecordEntry" "results" "Ljava/util/List;" .null := D29 (Or.inl (wk95 hw)) (ty := (.object "java/util/List")) (by decide)
  obtain ⟨_, _, ⟨T31, L31, kk31, nn31⟩, -, X31, ⟨Lc31, hQ31, l31, y31, z31⟩, st31⟩ := X29.specialBack hx (y := ym13) rfl hown (mvT hZ (wk78 hw)) (mvT hZ (wk79 hw)) (mvT hZ (wk80 hw)) (by decide) (backOf (W := 1) (rm12_14 l Z a0 hw w hW [] b29 b19 h29 n0 O30 A29 i29_88 gg29) hZ (wk80 hw) (wk77 hw) (by decide) (by decide)) (g := (mkF m 48 Lb28 [(.ref b19), (.ref b29), (.ref b29)])) rfl (by rw [hml]; rfl) (Steps.refl _) (a := b29) (argsL := [(.ref b19)]) (rest := [(.ref b29)]) (lenOf pds_9 rfl) rfl (by show 2 * 0 + _ ≤ _; exact Nat.le_of_eq rfl) (hb hby at_48) (fun _ _ => ⟨rfl, e29, (by decide : 7 + 0 ≤ _), (by decide : 22 + 0 ≤ _)⟩)
  dsimp only [Pt.U, Pt.locs, Pt.cells, Pt.slots] at X31 l31 y31 z31 st31 hQ31
  subst l31 y31 z31
  obtain ⟨rfl, N31q, K31, r31_0⟩ := hQ31
  have N31 := Fr.app N26 N31q
  have O32 := own_old O30 K31 (own_ngc gg29 own_ng0)
  let Lb33 : Array Slot := #[.val (.int p0), .val (.long p1), .second, .val (.int p2), .val (.ref b1), .val (.ref b6), .val (.ref b19), .val (.ref b29), .unset, .unset, .unset, .unset]
  let Lb34 : Array Slot := #[.val (.int p0), .val (.long p1), .second, .val (.int p2), .val (.ref b1), .val (.ref b6), .val (.ref b19), .val (.ref b29), .val (.int (p2 &&& (3 : Int32))), .unset, .unset, .unset]
  let Lb35 : Array Slot := #[.val (.int p0), .val (.long p1), .second, .val (.int p2), .val (.ref b1), .val (.ref b6), .val (.ref b19), .val (.ref b29), .val (.int (p2 &&& (3 : Int32))), .val (.int (((p2.toUInt32 >>> ((2 : Int32) &&& 31).toUInt32).toInt32) &&& (3 : Int32))), .unset, .unset]
  have t36 := (own_fld i29_95 K31 (own_nls (sn8 hw) own_nl0))
  have t38 := (own_exa A29 K31)
  obtain ⟨cq37, kq37, q37a, q37b, q37c⟩ := isOf hZ rfl t38
  obtain ⟨_, _, ⟨T37, L37, kk37, nn37⟩, -, X37, ⟨Lc37, hQ37, l37, y37, z37⟩, st37⟩ := X31.virtualBack hx (y := ym14) (z := ym14) hown (mvT hZ (wk89 hw)) (mvT hZ (wk90 hw)) (notFace_of_selects (args := #[]) (mvT hZ (wk92 hw))) (mvT hZ (wk92 hw)) (mvT hZ (wk91 hw)) (by decide) (backOf (W := 0) (rm14_15 l Z a0 hw w hW [] b29 T31.heap n0 O32 t36) hZ (wk93 hw) (wk77 hw) (by decide) (by decide)) q37a q37c (g := (mkF m 67 Lb35 [(.ref b29)])) rfl (by rw [hml]; rfl) (Steps.refl _) (argsL := []) (rest := []) (lenOf pds_10 rfl) rfl (by show 2 * 0 + _ ≤ _; exact Nat.le_of_eq rfl) (hb hby at_67) (fun _ _ => ⟨rfl, rfl, (by decide : 7 + 0 ≤ _), (by decide : 22 + 0 ≤ _)⟩)
  dsimp only [Pt.U, Pt.locs, Pt.cells, Pt.slots] at X37 l37 y37 z37 st37 hQ37
  subst l37 y37 z37
  obtain ⟨rfl, N37q, e37⟩ := hQ37
  have N37 := Fr.app N31 N37q
  have pre39 : ∀ t, Steps p.tables e below (T37.setTop (mkF m 83 #[.val (.int p0), .val (.long p1), .second, .val (.int p2), .val (.ref b1), .val (.ref b6), .val (.ref b19), .val (.ref b29), .val (.int (p2 &&& (3 : Int32))), .val (.int (((p2.toUInt32 >>> ((2 : Int32) &&& 31).toUInt32).toInt32) &&& (3 : Int32))), .unset, .unset] [(.ref b6), (.ref b1), (.int (p2 &&& (3 : Int32))), (.ref b29)])) t → Steps p.tables e below (s₁.setTop (entryFrame m #[(.int p0), (.long p1), (.int p2)] maxLocals)) t := fun t k => pre0 t (by
   show Steps p.tables e below (s₁.setTop (mkF m 0 La [])) _
   refine st1 _ ?_
   refine XS.dup X1.here hx rfl (hb hby at_3) rfl rfl ?_
   refine st3.trans ?_
   refine XS.astore X3.here hx rfl (hb hby at_7) rfl rfl (l' := Lb5) rfl ?_
   refine st6 _ ?_
   refine XS.dup X6.here hx rfl (hb hby at_12) rfl rfl ?_
   refine st8.trans ?_
   refine XS.astore X8.here hx rfl (hb hby at_16) rfl rfl (l' := Lb10) rfl ?_
   refine sa X8 hx hby at_18 rfl rfl ?_
   refine sI X8 hx hby at_20 rfl ?_
   refine st11 _ ?_
   refine st17.trans ?_
   refine XS.pop X17.here hx rfl (hb hby at_27) rfl rfl ?_
   refine st19 _ ?_
   refine XS.dup X19.here hx rfl (hb hby at_31) rfl rfl ?_
   refine sI X19 hx hby at_32 rfl ?_
   refine st21 _ ?_
   refine sL X21 hx hby at_36 rfl ?_
   refine st26.trans ?_
   refine XS.astore X26.here hx rfl (hb hby at_40) rfl rfl (l' := Lb28) rfl ?_
   refine st29 _ ?_
   refine XS.dup X29.here hx rfl (hb hby at_45) rfl rfl ?_
   refine sa X29 hx hby at_46 rfl rfl ?_
   refine st31.trans ?_
   refine XS.astore X31.here hx rfl (hb hby at_51) rfl rfl (l' := Lb33) rfl ?_
   refine sI X31 hx hby at_53 rfl ?_
   refine sc X31 hx hby at_54 ?_
   refine XS.iand X31.here hx rfl (hb hby at_55) rfl ?_
   refine XS.istore X31.here hx rfl (hb hby at_56) rfl (l' := Lb34) rfl ?_
   show Steps p.tables e below (T31.setTop (mkF m 58 Lb34 [])) _
   refine sI X31 hx hby at_58 rfl ?_
   refine sc X31 hx hby at_59 ?_
   refine XS.iushr X31.here hx rfl (hb hby at_60) rfl ?_
   refine sc X31 hx hby at_61 ?_
   refine XS.iand X31.here hx rfl (hb hby at_62) rfl ?_
   show Steps p.tables e below (T31.setTop (mkF m 63 Lb34 [(.int (((p2.toUInt32 >>> ((2 : Int32) &&& 31).toUInt32).toInt32) &&& (3 : Int32)))])) _
   refine XS.istore X31.here hx rfl (hb hby at_63) rfl (l' := Lb35) rfl ?_
   refine sa X31 hx hby at_65 rfl rfl ?_
   refine st37.trans ?_
   refine XS.ifYes X37.here hx rfl (pc0 := 70) (pc' := 75) rfl (hb hby at_70) rfl (by decide) (by decide) (by decide) ?_
   refine sa X37 hx hby at_75 rfl rfl ?_
   refine si X37 hx hby at_77 rfl ?_
   refine sa X37 hx hby at_79 rfl rfl ?_
   refine sa X37 hx hby at_81 rfl rfl ?_
   exact k)
  rcases (own_and3 p2) with hs40 | hs40 | hs40 | hs40
  ·
   rw [hs40] at pre39
   let Lb41 : Array Slot := #[.val (.int p0), .val (.long p1), .second, .val (.int p2), .val (.ref b1), .val (.ref b6), .val (.ref b19), .val (.ref b29), .val (.int (0 : Int32)), .val (.int (((p2.toUInt32 >>> ((2 : Int32) &&& 31).toUInt32).toInt32) &&& (3 : Int32))), .unset, .unset]
   obtain ⟨_, _, ⟨T42, L42, kk42, nn42⟩, -, X42, ⟨Lc42, hQ42, l42, y42, z42⟩, st42⟩ := Jvm.LawKit.callS X37 hx (y := ym15) hown (mvT hZ (wk96 hw)) (mvT hZ (wk97 hw)) (mvT hZ (wk98 hw)) (mvT hZ (wk99 hw)) (by decide) (backOf (W := 0) (rm15_16 l Z a0 hw w hW [] b29 b1 b6 T31.heap n0 O32 ) hZ (wk99 hw) (wk98 hw) (by decide) (by decide)) (g := (mkF m 83 Lb41 [(.ref b6), (.ref b1), (.int (0 : Int32)), (.ref b29)])) rfl (by rw [hml]; rfl) (argsL := [(.ref b29), (.int (0 : Int32)), (.ref b1), (.ref b6)]) (rest := []) (lenOf pds_11 rfl) rfl (by show 2 * 0 + _ ≤ _; exact Nat.le_of_eq rfl) (hb hby at_83) (fun _ _ => ⟨rfl, e37, (by decide : 7 + 0 ≤ _), (by decide : 22 + 0 ≤ _)⟩)
   dsimp only [Pt.U, Pt.locs, Pt.cells, Pt.slots] at X42 l42 y42 z42 st42 hQ42
   subst l42 y42 z42
   obtain ⟨rfl, N42q, e42⟩ := hQ42
   have N42 := Fr.app N37 N42q
   obtain ⟨cq43, kq43, q43a, q43b, q43c⟩ := isOf hZ e42 t38
   obtain ⟨_, _, ⟨T43, L43, kk43, nn43⟩, -, X43, ⟨Lc43, hQ43, l43, y43, z43⟩, st43⟩ := X42.virtualBack hx (y := ym14) (z := ym14) hown (mvT hZ (wk89 hw)) (mvT hZ (wk90 hw)) (notFace_of_selects (args := #[]) (mvT hZ (wk92 hw))) (mvT hZ (wk92 hw)) (mvT hZ (wk91 hw)) (by decide) (backOf (W := 0) (rm14_15 l Z a0 hw w hW [] b29 T31.heap n0 O32 t36) hZ (wk93 hw) (wk77 hw) (by decide) (by decide)) q43a q43c (g := (mkF m 88 Lb41 [(.ref b29)])) rfl (by rw [hml]; rfl) (Steps.refl _) (argsL := []) (rest := []) (lenOf pds_10 rfl) rfl (by show 2 * 0 + _ ≤ _; exact Nat.le_of_eq rfl) (hb hby at_88) (fun _ _ => ⟨rfl, e42, (by decide : 7 + 0 ≤ _), (by decide : 22 + 0 ≤ _)⟩)
   dsimp only [Pt.U, Pt.locs, Pt.cells, Pt.slots] at X43 l43 y43 z43 st43 hQ43
   subst l43 y43 z43
   obtain ⟨rfl, N43q, e43⟩ := hQ43
   have N43 := Fr.app N42 N43q
   let Lb44 : Array Slot := #[.val (.int p0), .val (.long p1), .second, .val (.int p2), .val (.ref b1), .val (.ref b6), .val (.ref b19), .val (.ref b29), .val (.int (0 : Int32)), .val (.int (((p2.toUInt32 >>> ((2 : Int32) &&& 31).toUInt32).toInt32) &&& (3 : Int32))), .val (.int (0 : Int32)), .unset]
   have pre45 : ∀ t, Steps p.tables e below (T43.setTop (mkF m 119 #[.val (.int p0), .val (.long p1), .second, .val (.int p2), .val (.ref b1), .val (.ref b6), .val (.ref b19), .val (.ref b29), .val (.int (0 : Int32)), .val (.int (((p2.toUInt32 >>> ((2 : Int32) &&& 31).toUInt32).toInt32) &&& (3 : Int32))), .val (.int (0 : Int32)), .unset] [(.ref b6), (.ref b1), (.int (((p2.toUInt32 >>> ((2 : Int32) &&& 31).toUInt32).toInt32) &&& (3 : Int32))), (.ref b29)])) t → Steps p.tables e below (s₁.setTop (entryFrame m #[(.int p0), (.long p1), (.int p2)] maxLocals)) t := fun t k => pre39 t (by
    show Steps p.tables e below (T37.setTop (mkF m 83 Lb41 [(.ref b6), (.ref b1), (.int (0 : Int32)), (.ref b29)])) _
    refine st42 _ ?_
    refine sa X42 hx hby at_86 rfl rfl ?_
    refine st43.trans ?_
    refine XS.istore X43.here hx rfl (hb hby at_91) rfl (l' := Lb44) rfl ?_
    refine si X43 hx hby at_93 rfl ?_
    refine si X43 hx hby at_95 rfl ?_
    refine sc X43 hx hby at_97 ?_
    refine XS.icmpYes X43.here hx rfl (pc0 := 98) (pc' := 105) rfl (hb hby at_98) rfl (by decide) (by decide) (by decide) ?_
    show Steps p.tables e below (T43.setTop (mkF m 105 Lb44 [(.int (0 : Int32))])) _
    refine sc X43 hx hby at_105 ?_
    refine XS.icmpYes X43.here hx rfl (pc0 := 106) (pc' := 111) rfl (hb hby at_106) rfl (by decide) (by decide) (by decide) ?_
    refine sa X43 hx hby at_111 rfl rfl ?_
    refine si X43 hx hby at_113 rfl ?_
    refine sa X43 hx hby at_115 rfl rfl ?_
    show Steps p.tables e below (T43.setTop (mkF m 117 Lb44 [(.ref b1), (.int (((p2.toUInt32 >>> ((2 : Int32) &&& 31).toUInt32).toInt32) &&& (3 : Int32))), (.ref b29)])) _
    refine sa X43 hx hby at_117 rfl rfl ?_
    exact k)
   rcases (own_and3 ((p2.toUInt32 >>> ((2 : Int32) &&& 31).toUInt32).toInt32)) with hs46 | hs46 | hs46 | hs46
   ·
    rw [hs46] at pre45
    let Lb47 : Array Slot := #[.val (.int p0), .val (.long p1), .second, .val (.int p2), .val (.ref b1), .val (.ref b6), .val (.ref b19), .val (.ref b29), .val (.int (0 : Int32)), .val (.int (0 : Int32)), .val (.int (0 : Int32)), .unset]
    obtain ⟨_, _, ⟨T48, L48, kk48, nn48⟩, -, X48, ⟨Lc48, hQ48, l48, y48, z48⟩, st48⟩ := Jvm.LawKit.callS X43 hx (y := ym15) hown (mvT hZ (wk96 hw)) (mvT hZ (wk97 hw)) (mvT hZ (wk98 hw)) (mvT hZ (wk99 hw)) (by decide) (backOf (W := 0) (rm15_16 l Z a0 hw w hW [] b29 b1 b6 T31.heap n0 O32 ) hZ (wk99 hw) (wk98 hw) (by decide) (by decide)) (g := (mkF m 119 Lb47 [(.ref b6), (.ref b1), (.int (0 : Int32)), (.ref b29)])) rfl (by rw [hml]; rfl) (argsL := [(.ref b29), (.int (0 : Int32)), (.ref b1), (.ref b6)]) (rest := []) (lenOf pds_11 rfl) rfl (by show 2 * 0 + _ ≤ _; exact Nat.le_of_eq rfl) (hb hby at_119) (fun _ _ => ⟨rfl, e43, (by decide : 7 + 0 ≤ _), (by decide : 22 + 0 ≤ _)⟩)
    dsimp only [Pt.U, Pt.locs, Pt.cells, Pt.slots] at X48 l48 y48 z48 st48 hQ48
    subst l48 y48 z48
    obtain ⟨rfl, N48q, e48⟩ := hQ48
    have N48 := Fr.app N43 N48q
    let Lb49 : Array Slot := #[.val (.int p0), .val (.long p1), .second, .val (.int p2), .val (.ref b1), .val (.ref b6), .val (.ref b19), .val (.ref b29), .val (.int (0 : Int32)), .val (.int (0 : Int32)), .val (.int (0 : Int32)), .val (.int (0 : Int32))]
    obtain ⟨cq50, kq50, q50a, q50b, q50c⟩ := isOf hZ e48 t38
    obtain ⟨_, _, ⟨T50, L50, kk50, nn50⟩, -, X50, ⟨Lc50, hQ50, l50, y50, z50⟩, st50⟩ := X48.virtualBack hx (y := ym14) (z := ym14) hown (mvT hZ (wk89 hw)) (mvT hZ (wk90 hw)) (notFace_of_selects (args := #[]) (mvT hZ (wk92 hw))) (mvT hZ (wk92 hw)) (mvT hZ (wk91 hw)) (by decide) (backOf (W := 0) (rm14_15 l Z a0 hw w hW [] b29 T31.heap n0 O32 t36) hZ (wk93 hw) (wk77 hw) (by decide) (by decide)) q50a q50c (g := (mkF m 156 Lb49 [(.ref b29)])) rfl (by rw [hml]; rfl) (Steps.refl _) (argsL := []) (rest := []) (lenOf pds_10 rfl) rfl (by show 2 * 0 + _ ≤ _; exact Nat.le_of_eq rfl) (hb hby at_156) (fun _ _ => ⟨rfl, e48, (by decide : 7 + 0 ≤ _), (by decide : 22 + 0 ≤ _)⟩)
    dsimp only [Pt.U, Pt.locs, Pt.cells, Pt.slots] at X50 l50 y50 z50 st50 hQ50
    subst l50 y50 z50
    obtain ⟨rfl, N50q, e50⟩ := hQ50
    have N50 := Fr.app N48 N50q
    obtain ⟨cq51, kq51, q51a, q51b, q51c⟩ := isOf hZ e50 t38
    obtain ⟨_, _, ⟨T51, L51, kk51, nn51⟩, -, X51, ⟨Lc51, hQ51, l51, y51, z51⟩, st51⟩ := X50.virtualBack hx (y := ym16) (z := ym16) hown (mvT hZ (wk105 hw)) (mvT hZ (wk106 hw)) (notFace_of_selects (args := #[]) (mvT hZ (wk108 hw))) (mvT hZ (wk108 hw)) (mvT hZ (wk107 hw)) (by decide) (backOf (W := 0) (rm17_17 l Z a0 hw w hW [] b29 b19 T31.heap n0 O32 r31_0) hZ (wk109 hw) (wk77 hw) (by decide) (by decide)) q51a q51c (g := (mkF m 166 Lb49 [(.ref b29)])) rfl (by rw [hml]; rfl) (Steps.refl _) (argsL := []) (rest := []) (lenOf pds_12 rfl) rfl (by show 2 * 0 + _ ≤ _; exact Nat.le_of_eq rfl) (hb hby at_166) (fun _ _ => ⟨rfl, e50, (by decide : 7 + 0 ≤ _), (by decide : 22 + 0 ≤ _)⟩)
    dsimp only [Pt.U, Pt.locs, Pt.cells, Pt.slots] at X51 l51 y51 z51 st51 hQ51
    subst l51 y51 z51
    obtain ⟨rfl, N51q, e51⟩ := hQ51
    have N51 := Fr.app N50 N51q
    obtain ⟨fs, hr, hrun, hended, hWm, hsame⟩ := X51.leave (v := some (.int (1 : Int32))) (fun h => by rw [Bd.returns] at h; cases h)
    refine ⟨_, _, pre45 _ ?_, hrun, hended, _, _, rfl, ?_, ⟨_, rfl⟩, hWm, hsame.mono (by decide) (by decide)⟩
    · show Steps p.tables e below (T43.setTop (mkF m 119 Lb47 [(.ref b6), (.ref b1), (.int (0 : Int32)), (.ref b29)])) _
      refine st48 _ ?_
      refine si X48 hx hby at_122 rfl ?_
      refine sN X48 hx hby at_124 (by decide) ?_
      refine si X48 hx hby at_127 rfl ?_
      refine sc X48 hx hby at_129 ?_
      refine XS.icmpYes X48.here hx rfl (pc0 := 130) (pc' := 137) rfl (hb hby at_130) rfl (by decide) (by decide) (by decide) ?_
      show Steps p.tables e below (T48.setTop (mkF m 137 Lb47 [])) _
      refine sc X48 hx hby at_137 ?_
      refine sg (pc := 138) (pc' := 152) X48 hx hby at_138 (by decide) (by decide) ?_
      refine XS.istore X48.here hx rfl (hb hby at_152) rfl (l' := Lb49) rfl ?_
      refine sa X48 hx hby at_154 rfl rfl ?_
      refine st50.trans ?_
      refine si X50 hx hby at_159 rfl ?_
      refine sn X50 hx hby at_161 (by decide) ?_
      refine sa X50 hx hby at_164 rfl rfl ?_
      refine st51.trans ?_
      refine sa X51 hx hby at_169 rfl rfl ?_
      refine Jvm.RoadKit.acmp (g := (mkF m 171 Lb49 [(.ref b19), (.ref b19)])) X51 hx rfl rfl rfl (pc0 := 171) (pc' := 174) (same := true) rfl (hb hby at_171) rfl (decide_eq_true rfl) (by decide) (by decide) ?_
      refine sc X51 hx hby at_174 ?_
      refine sg (pc := 175) (pc' := 179) X51 hx hby at_175 (by decide) (by decide) ?_
      exact retN X51 hx (t := .boolean) Bd.returns (by simp) (hb hby at_179) hr
    · show Q0 n0 _ T51.heap _
      rw [e51]
      exact ⟨rfl, N51⟩
   ·
    rw [hs46] at pre45
    let Lb52 : Array Slot := #[.val (.int p0), .val (.long p1), .second, .val (.int p2), .val (.ref b1), .val (.ref b6), .val (.ref b19), .val (.ref b29), .val (.int (0 : Int32)), .val (.int (1 : Int32)), .val (.int (0 : Int32)), .unset]
    obtain ⟨_, _, ⟨T53, L53, kk53, nn53⟩, -, X53, ⟨Lc53, hQ53, l53, y53, z53⟩, st53⟩ := Jvm.LawKit.callS X43 hx (y := ym15) hown (mvT hZ (wk96 hw)) (mvT hZ (wk97 hw)) (mvT hZ (wk98 hw)) (mvT hZ (wk99 hw)) (by decide) (backOf (W := 0) (rm15_19 l Z a0 hw w hW [] b29 b1 b6 T31.heap n0 O32 t38 t36 gg29) hZ (wk99 hw) (wk98 hw) (by decide) (by decide)) (g := (mkF m 119 Lb52 [(.ref b6), (.ref b1), (.int (1 : Int32)), (.ref b29)])) rfl (by rw [hml]; rfl) (argsL := [(.ref b29), (.int (1 : Int32)), (.ref b1), (.ref b6)]) (rest := []) (lenOf pds_11 rfl) rfl (by show 2 * 0 + _ ≤ _; exact Nat.le_of_eq rfl) (hb hby at_119) (fun _ _ => ⟨rfl, e43, (by decide : 7 + 0 ≤ _), (by decide : 22 + 0 ≤ _)⟩)
    dsimp only [Pt.U, Pt.locs, Pt.cells, Pt.slots] at X53 l53 y53 z53 st53 hQ53
    subst l53 y53 z53
    obtain ⟨rfl, N53q, K53, r53_0⟩ := hQ53
    have N53 := Fr.app N43 N53q
    have O54 := own_old O32 K53 (own_ngc gg29 own_ng0)
    let Lb55 : Array Slot := #[.val (.int p0), .val (.long p1), .second, .val (.int p2), .val (.ref b1), .val (.ref b6), .val (.ref b19), .val (.ref b29), .val (.int (0 : Int32)), .val (.int (1 : Int32)), .val (.int (0 : Int32)), .val (.int (0 : Int32))]
    have t57 := (own_exa t38 K53)
    obtain ⟨cq56, kq56, q56a, q56b, q56c⟩ := isOf hZ rfl t57
    obtain ⟨_, _, ⟨T56, L56, kk56, nn56⟩, -, X56, ⟨Lc56, hQ56, l56, y56, z56⟩, st56⟩ := X53.virtualBack hx (y := ym14) (z := ym14) hown (mvT hZ (wk89 hw)) (mvT hZ (wk90 hw)) (notFace_of_selects (args := #[]) (mvT hZ (wk92 hw))) (mvT hZ (wk92 hw)) (mvT hZ (wk91 hw)) (by decide) (backOf (W := 0) (rm14_15 l Z a0 hw w hW [] b29 T53.heap n0 O54 r53_0) hZ (wk93 hw) (wk77 hw) (by decide) (by decide)) q56a q56c (g := (mkF m 156 Lb55 [(.ref b29)])) rfl (by rw [hml]; rfl) (Steps.refl _) (argsL := []) (rest := []) (lenOf pds_10 rfl) rfl (by show 2 * 0 + _ ≤ _; exact Nat.le_of_eq rfl) (hb hby at_156) (fun _ _ => ⟨rfl, rfl, (by decide : 7 + 0 ≤ _), (by decide : 22 + 0 ≤ _)⟩)
    dsimp only [Pt.U, Pt.locs, Pt.cells, Pt.slots] at X56 l56 y56 z56 st56 hQ56
    subst l56 y56 z56
    obtain ⟨rfl, N56q, e56⟩ := hQ56
    have N56 := Fr.app N53 N56q
    have t58 := (own_fld r31_0 K53 (own_nls (sn9 hw) own_nl0))
    obtain ⟨cq59, kq59, q59a, q59b, q59c⟩ := isOf hZ e56 t57
    obtain ⟨_, _, ⟨T59, L59, kk59, nn59⟩, -, X59, ⟨Lc59, hQ59, l59, y59, z59⟩, st59⟩ := X56.virtualBack hx (y := ym16) (z := ym16) hown (mvT hZ (wk105 hw)) (mvT hZ (wk106 hw)) (notFace_of_selects (args := #[]) (mvT hZ (wk108 hw))) (mvT hZ (wk108 hw)) (mvT hZ (wk107 hw)) (by decide) (backOf (W := 0) (rm17_17 l Z a0 hw w hW [] b29 b19 T53.heap n0 O54 t58) hZ (wk109 hw) (wk77 hw) (by decide) (by decide)) q59a q59c (g := (mkF m 166 Lb55 [(.ref b29)])) rfl (by rw [hml]; rfl) (Steps.refl _) (argsL := []) (rest := []) (lenOf pds_12 rfl) rfl (by show 2 * 0 + _ ≤ _; exact Nat.le_of_eq rfl) (hb hby at_166) (fun _ _ => ⟨rfl, e56, (by decide : 7 + 0 ≤ _), (by decide : 22 + 0 ≤ _)⟩)
    dsimp only [Pt.U, Pt.locs, Pt.cells, Pt.slots] at X59 l59 y59 z59 st59 hQ59
    subst l59 y59 z59
    obtain ⟨rfl, N59q, e59⟩ := hQ59
    have N59 := Fr.app N56 N59q
    obtain ⟨fs, hr, hrun, hended, hWm, hsame⟩ := X59.leave (v := some (.int (1 : Int32))) (fun h => by rw [Bd.returns] at h; cases h)
    refine ⟨_, _, pre45 _ ?_, hrun, hended, _, _, rfl, ?_, ⟨_, rfl⟩, hWm, hsame.mono (by decide) (by decide)⟩
    · show Steps p.tables e below (T43.setTop (mkF m 119 Lb52 [(.ref b6), (.ref b1), (.int (1 : Int32)), (.ref b29)])) _
      refine st53 _ ?_
      refine si X53 hx hby at_122 rfl ?_
      refine XS.ifYes X53.here hx rfl (pc0 := 124) (pc' := 141) rfl (hb hby at_124) rfl (by decide) (by decide) (by decide) ?_
      refine si X53 hx hby at_141 rfl ?_
      refine sc X53 hx hby at_143 ?_
      refine XS.icmpYes X53.here hx rfl (pc0 := 144) (pc' := 151) rfl (hb hby at_144) rfl (by decide) (by decide) (by decide) ?_
      show Steps p.tables e below (T53.setTop (mkF m 151 Lb52 [])) _
      refine sc X53 hx hby at_151 ?_
      refine XS.istore X53.here hx rfl (hb hby at_152) rfl (l' := Lb55) rfl ?_
      refine sa X53 hx hby at_154 rfl rfl ?_
      refine st56.trans ?_
      refine si X56 hx hby at_159 rfl ?_
      refine sn X56 hx hby at_161 (by decide) ?_
      refine sa X56 hx hby at_164 rfl rfl ?_
      refine st59.trans ?_
      refine sa X59 hx hby at_169 rfl rfl ?_
      refine Jvm.RoadKit.acmp (g := (mkF m 171 Lb55 [(.ref b19), (.ref b19)])) X59 hx rfl rfl rfl (pc0 := 171) (pc' := 174) (same := true) rfl (hb hby at_171) rfl (decide_eq_true rfl) (by decide) (by decide) ?_
      refine sc X59 hx hby at_174 ?_
      refine sg (pc := 175) (pc' := 179) X59 hx hby at_175 (by decide) (by decide) ?_
      exact retN X59 hx (t := .boolean) Bd.returns (by simp) (hb hby at_179) hr
    · show Q0 n0 _ T59.heap _
      rw [e59]
      exact ⟨rfl, N59⟩
   ·
    rw [hs46] at pre45
    let Lb60 : Array Slot := #[.val (.int p0), .val (.long p1), .second, .val (.int p2), .val (.ref b1), .val (.ref b6), .val (.ref b19), .val (.ref b29), .val (.int (0 : Int32)), .val (.int (2 : Int32)), .val (.int (0 : Int32)), .unset]
    obtain ⟨_, _, ⟨T61, L61, kk61, nn61⟩, -, X61, ⟨Lc61, hQ61, l61, y61, z61⟩, st61⟩ := Jvm.LawKit.callS X43 hx (y := ym15) hown (mvT hZ (wk96 hw)) (mvT hZ (wk97 hw)) (mvT hZ (wk98 hw)) (mvT hZ (wk99 hw)) (by decide) (backOf (W := 0) (rm15_21 l Z a0 hw w hW [] b29 b1 b6 T31.heap n0 O32 t38 t36 gg29) hZ (wk99 hw) (wk98 hw) (by decide) (by decide)) (g := (mkF m 119 Lb60 [(.ref b6), (.ref b1), (.int (2 : Int32)), (.ref b29)])) rfl (by rw [hml]; rfl) (argsL := [(.ref b29), (.int (2 : Int32)), (.ref b1), (.ref b6)]) (rest := []) (lenOf pds_11 rfl) rfl (by show 2 * 0 + _ ≤ _; exact Nat.le_of_eq rfl) (hb hby at_119) (fun _ _ => ⟨rfl, e43, (by decide : 7 + 0 ≤ _), (by decide : 22 + 0 ≤ _)⟩)
    dsimp only [Pt.U, Pt.locs, Pt.cells, Pt.slots] at X61 l61 y61 z61 st61 hQ61
    subst l61 y61 z61
    obtain ⟨rfl, N61q, K61, r61_0⟩ := hQ61
    have N61 := Fr.app N43 N61q
    have O62 := own_old O32 K61 (own_ngc gg29 own_ng0)
    let Lb63 : Array Slot := #[.val (.int p0), .val (.long p1), .second, .val (.int p2), .val (.ref b1), .val (.ref b6), .val (.ref b19), .val (.ref b29), .val (.int (0 : Int32)), .val (.int (2 : Int32)), .val (.int (0 : Int32)), .val (.int (1 : Int32))]
    have t65 := (own_exa t38 K61)
    obtain ⟨cq64, kq64, q64a, q64b, q64c⟩ := isOf hZ rfl t65
    obtain ⟨_, _, ⟨T64, L64, kk64, nn64⟩, -, X64, ⟨Lc64, hQ64, l64, y64, z64⟩, st64⟩ := X61.virtualBack hx (y := ym14) (z := ym14) hown (mvT hZ (wk89 hw)) (mvT hZ (wk90 hw)) (notFace_of_selects (args := #[]) (mvT hZ (wk92 hw))) (mvT hZ (wk92 hw)) (mvT hZ (wk91 hw)) (by decide) (backOf (W := 0) (rm14_22 l Z a0 hw w hW [] b29 b1 T61.heap n0 O62 r61_0) hZ (wk93 hw) (wk77 hw) (by decide) (by decide)) q64a q64c (g := (mkF m 156 Lb63 [(.ref b29)])) rfl (by rw [hml]; rfl) (Steps.refl _) (argsL := []) (rest := []) (lenOf pds_10 rfl) rfl (by show 2 * 0 + _ ≤ _; exact Nat.le_of_eq rfl) (hb hby at_156) (fun _ _ => ⟨rfl, rfl, (by decide : 7 + 0 ≤ _), (by decide : 22 + 0 ≤ _)⟩)
    dsimp only [Pt.U, Pt.locs, Pt.cells, Pt.slots] at X64 l64 y64 z64 st64 hQ64
    subst l64 y64 z64
    obtain ⟨rfl, N64q, e64⟩ := hQ64
    have N64 := Fr.app N61 N64q
    have t66 := (own_fld r31_0 K61 (own_nls (sn9 hw) own_nl0))
    obtain ⟨cq67, kq67, q67a, q67b, q67c⟩ := isOf hZ e64 t65
    obtain ⟨_, _, ⟨T67, L67, kk67, nn67⟩, -, X67, ⟨Lc67, hQ67, l67, y67, z67⟩, st67⟩ := X64.virtualBack hx (y := ym16) (z := ym16) hown (mvT hZ (wk105 hw)) (mvT hZ (wk106 hw)) (notFace_of_selects (args := #[]) (mvT hZ (wk108 hw))) (mvT hZ (wk108 hw)) (mvT hZ (wk107 hw)) (by decide) (backOf (W := 0) (rm17_17 l Z a0 hw w hW [] b29 b19 T61.heap n0 O62 t66) hZ (wk109 hw) (wk77 hw) (by decide) (by decide)) q67a q67c (g := (mkF m 166 Lb63 [(.ref b29)])) rfl (by rw [hml]; rfl) (Steps.refl _) (argsL := []) (rest := []) (lenOf pds_12 rfl) rfl (by show 2 * 0 + _ ≤ _; exact Nat.le_of_eq rfl) (hb hby at_166) (fun _ _ => ⟨rfl, e64, (by decide : 7 + 0 ≤ _), (by decide : 22 + 0 ≤ _)⟩)
    dsimp only [Pt.U, Pt.locs, Pt.cells, Pt.slots] at X67 l67 y67 z67 st67 hQ67
    subst l67 y67 z67
    obtain ⟨rfl, N67q, e67⟩ := hQ67
    have N67 := Fr.app N64 N67q
    obtain ⟨fs, hr, hrun, hended, hWm, hsame⟩ := X67.leave (v := some (.int (1 : Int32))) (fun h => by rw [Bd.returns] at h; cases h)
    refine ⟨_, _, pre45 _ ?_, hrun, hended, _, _, rfl, ?_, ⟨_, rfl⟩, hWm, hsame.mono (by decide) (by decide)⟩
    · show Steps p.tables e below (T43.setTop (mkF m 119 Lb60 [(.ref b6), (.ref b1), (.int (2 : Int32)), (.ref b29)])) _
      refine st61 _ ?_
      refine si X61 hx hby at_122 rfl ?_
      refine XS.ifYes X61.here hx rfl (pc0 := 124) (pc' := 141) rfl (hb hby at_124) rfl (by decide) (by decide) (by decide) ?_
      refine si X61 hx hby at_141 rfl ?_
      refine sc X61 hx hby at_143 ?_
      refine sn X61 hx hby at_144 (by decide) ?_
      show Steps p.tables e below (T61.setTop (mkF m 147 Lb60 [])) _
      refine sc X61 hx hby at_147 ?_
      refine sg (pc := 148) (pc' := 152) X61 hx hby at_148 (by decide) (by decide) ?_
      refine XS.istore X61.here hx rfl (hb hby at_152) rfl (l' := Lb63) rfl ?_
      refine sa X61 hx hby at_154 rfl rfl ?_
      refine st64.trans ?_
      refine si X64 hx hby at_159 rfl ?_
      refine sn X64 hx hby at_161 (by decide) ?_
      refine sa X64 hx hby at_164 rfl rfl ?_
      refine st67.trans ?_
      refine sa X67 hx hby at_169 rfl rfl ?_
      refine Jvm.RoadKit.acmp (g := (mkF m 171 Lb63 [(.ref b19), (.ref b19)])) X67 hx rfl rfl rfl (pc0 := 171) (pc' := 174) (same := true) rfl (hb hby at_171) rfl (decide_eq_true rfl) (by decide) (by decide) ?_
      refine sc X67 hx hby at_174 ?_
      refine sg (pc := 175) (pc' := 179) X67 hx hby at_175 (by decide) (by decide) ?_
      exact retN X67 hx (t := .boolean) Bd.returns (by simp) (hb hby at_179) hr
    · show Q0 n0 _ T67.heap _
      rw [e67]
      exact ⟨rfl, N67⟩
   ·
    rw [hs46] at pre45
    let Lb68 : Array Slot := #[.val (.int p0), .val (.long p1), .second, .val (.int p2), .val (.ref b1), .val (.ref b6), .val (.ref b19), .val (.ref b29), .val (.int (0 : Int32)), .val (.int (3 : Int32)), .val (.int (0 : Int32)), .unset]
    obtain ⟨_, _, ⟨T69, L69, kk69, nn69⟩, -, X69, ⟨Lc69, hQ69, l69, y69, z69⟩, st69⟩ := Jvm.LawKit.callS X43 hx (y := ym15) hown (mvT hZ (wk96 hw)) (mvT hZ (wk97 hw)) (mvT hZ (wk98 hw)) (mvT hZ (wk99 hw)) (by decide) (backOf (W := 0) (rm15_23 l Z a0 hw w hW [] b29 b1 b6 T31.heap n0 O32 t38 t36 gg29) hZ (wk99 hw) (wk98 hw) (by decide) (by decide)) (g := (mkF m 119 Lb68 [(.ref b6), (.ref b1), (.int (3 : Int32)), (.ref b29)])) rfl (by rw [hml]; rfl) (argsL := [(.ref b29), (.int (3 : Int32)), (.ref b1), (.ref b6)]) (rest := []) (lenOf pds_11 rfl) rfl (by show 2 * 0 + _ ≤ _; exact Nat.le_of_eq rfl) (hb hby at_119) (fun _ _ => ⟨rfl, e43, (by decide : 7 + 0 ≤ _), (by decide : 22 + 0 ≤ _)⟩)
    dsimp only [Pt.U, Pt.locs, Pt.cells, Pt.slots] at X69 l69 y69 z69 st69 hQ69
    subst l69 y69 z69
    obtain ⟨rfl, N69q, K69, r69_0⟩ := hQ69
    have N69 := Fr.app N43 N69q
    have O70 := own_old O32 K69 (own_ngc gg29 own_ng0)
    let Lb71 : Array Slot := #[.val (.int p0), .val (.long p1), .second, .val (.int p2), .val (.ref b1), .val (.ref b6), .val (.ref b19), .val (.ref b29), .val (.int (0 : Int32)), .val (.int (3 : Int32)), .val (.int (0 : Int32)), .val (.int (1 : Int32))]
    have t73 := (own_exa t38 K69)
    obtain ⟨cq72, kq72, q72a, q72b, q72c⟩ := isOf hZ rfl t73
    obtain ⟨_, _, ⟨T72, L72, kk72, nn72⟩, -, X72, ⟨Lc72, hQ72, l72, y72, z72⟩, st72⟩ := X69.virtualBack hx (y := ym14) (z := ym14) hown (mvT hZ (wk89 hw)) (mvT hZ (wk90 hw)) (notFace_of_selects (args := #[]) (mvT hZ (wk92 hw))) (mvT hZ (wk92 hw)) (mvT hZ (wk91 hw)) (by decide) (backOf (W := 0) (rm14_22 l Z a0 hw w hW [] b29 b6 T69.heap n0 O70 r69_0) hZ (wk93 hw) (wk77 hw) (by decide) (by decide)) q72a q72c (g := (mkF m 156 Lb71 [(.ref b29)])) rfl (by rw [hml]; rfl) (Steps.refl _) (argsL := []) (rest := []) (lenOf pds_10 rfl) rfl (by show 2 * 0 + _ ≤ _; exact Nat.le_of_eq rfl) (hb hby at_156) (fun _ _ => ⟨rfl, rfl, (by decide : 7 + 0 ≤ _), (by decide : 22 + 0 ≤ _)⟩)
    dsimp only [Pt.U, Pt.locs, Pt.cells, Pt.slots] at X72 l72 y72 z72 st72 hQ72
    subst l72 y72 z72
    obtain ⟨rfl, N72q, e72⟩ := hQ72
    have N72 := Fr.app N69 N72q
    have t74 := (own_fld r31_0 K69 (own_nls (sn9 hw) own_nl0))
    obtain ⟨cq75, kq75, q75a, q75b, q75c⟩ := isOf hZ e72 t73
    obtain ⟨_, _, ⟨T75, L75, kk75, nn75⟩, -, X75, ⟨Lc75, hQ75, l75, y75, z75⟩, st75⟩ := X72.virtualBack hx (y := ym16) (z := ym16) hown (mvT hZ (wk105 hw)) (mvT hZ (wk106 hw)) (notFace_of_selects (args := #[]) (mvT hZ (wk108 hw))) (mvT hZ (wk108 hw)) (mvT hZ (wk107 hw)) (by decide) (backOf (W := 0) (rm17_17 l Z a0 hw w hW [] b29 b19 T69.heap n0 O70 t74) hZ (wk109 hw) (wk77 hw) (by decide) (by decide)) q75a q75c (g := (mkF m 166 Lb71 [(.ref b29)])) rfl (by rw [hml]; rfl) (Steps.refl _) (argsL := []) (rest := []) (lenOf pds_12 rfl) rfl (by show 2 * 0 + _ ≤ _; exact Nat.le_of_eq rfl) (hb hby at_166) (fun _ _ => ⟨rfl, e72, (by decide : 7 + 0 ≤ _), (by decide : 22 + 0 ≤ _)⟩)
    dsimp only [Pt.U, Pt.locs, Pt.cells, Pt.slots] at X75 l75 y75 z75 st75 hQ75
    subst l75 y75 z75
    obtain ⟨rfl, N75q, e75⟩ := hQ75
    have N75 := Fr.app N72 N75q
    obtain ⟨fs, hr, hrun, hended, hWm, hsame⟩ := X75.leave (v := some (.int (1 : Int32))) (fun h => by rw [Bd.returns] at h; cases h)
    refine ⟨_, _, pre45 _ ?_, hrun, hended, _, _, rfl, ?_, ⟨_, rfl⟩, hWm, hsame.mono (by decide) (by decide)⟩
    · show Steps p.tables e below (T43.setTop (mkF m 119 Lb68 [(.ref b6), (.ref b1), (.int (3 : Int32)), (.ref b29)])) _
      refine st69 _ ?_
      refine si X69 hx hby at_122 rfl ?_
      refine XS.ifYes X69.here hx rfl (pc0 := 124) (pc' := 141) rfl (hb hby at_124) rfl (by decide) (by decide) (by decide) ?_
      refine si X69 hx hby at_141 rfl ?_
      refine sc X69 hx hby at_143 ?_
      refine sn X69 hx hby at_144 (by decide) ?_
      show Steps p.tables e below (T69.setTop (mkF m 147 Lb68 [])) _
      refine sc X69 hx hby at_147 ?_
      refine sg (pc := 148) (pc' := 152) X69 hx hby at_148 (by decide) (by decide) ?_
      refine XS.istore X69.here hx rfl (hb hby at_152) rfl (l' := Lb71) rfl ?_
      refine sa X69 hx hby at_154 rfl rfl ?_
      refine st72.trans ?_
      refine si X72 hx hby at_159 rfl ?_
      refine sn X72 hx hby at_161 (by decide) ?_
      refine sa X72 hx hby at_164 rfl rfl ?_
      refine st75.trans ?_
      refine sa X75 hx hby at_169 rfl rfl ?_
      refine Jvm.RoadKit.acmp (g := (mkF m 171 Lb71 [(.ref b19), (.ref b19)])) X75 hx rfl rfl rfl (pc0 := 171) (pc' := 174) (same := true) rfl (hb hby at_171) rfl (decide_eq_true rfl) (by decide) (by decide) ?_
      refine sc X75 hx hby at_174 ?_
      refine sg (pc := 175) (pc' := 179) X75 hx hby at_175 (by decide) (by decide) ?_
      exact retN X75 hx (t := .boolean) Bd.returns (by simp) (hb hby at_179) hr
    · show Q0 n0 _ T75.heap _
      rw [e75]
      exact ⟨rfl, N75⟩
  ·
   rw [hs40] at pre39
   let Lb76 : Array Slot := #[.val (.int p0), .val (.long p1), .second, .val (.int p2), .val (.ref b1), .val (.ref b6), .val (.ref b19), .val (.ref b29), .val (.int (1 : Int32)), .val (.int (((p2.toUInt32 >>> ((2 : Int32) &&& 31).toUInt32).toInt32) &&& (3 : Int32))), .unset, .unset]
   obtain ⟨_, _, ⟨T77, L77, kk77, nn77⟩, -, X77, ⟨Lc77, hQ77, l77, y77, z77⟩, st77⟩ := Jvm.LawKit.callS X37 hx (y := ym15) hown (mvT hZ (wk96 hw)) (mvT hZ (wk97 hw)) (mvT hZ (wk98 hw)) (mvT hZ (wk99 hw)) (by decide) (backOf (W := 0) (rm15_19 l Z a0 hw w hW [] b29 b1 b6 T31.heap n0 O32 t38 t36 gg29) hZ (wk99 hw) (wk98 hw) (by decide) (by decide)) (g := (mkF m 83 Lb76 [(.ref b6), (.ref b1), (.int (1 : Int32)), (.ref b29)])) rfl (by rw [hml]; rfl) (argsL := [(.ref b29), (.int (1 : Int32)), (.ref b1), (.ref b6)]) (rest := []) (lenOf pds_11 rfl) rfl (by show 2 * 0 + _ ≤ _; exact Nat.le_of_eq rfl) (hb hby at_83) (fun _ _ => ⟨rfl, e37, (by decide : 7 + 0 ≤ _), (by decide : 22 + 0 ≤ _)⟩)
   dsimp only [Pt.U, Pt.locs, Pt.cells, Pt.slots] at X77 l77 y77 z77 st77 hQ77
   subst l77 y77 z77
   obtain ⟨rfl, N77q, K77, r77_0⟩ := hQ77
   have N77 := Fr.app N37 N77q
   have O78 := own_old O32 K77 (own_ngc gg29 own_ng0)
   have t80 := (own_exa t38 K77)
   obtain ⟨cq79, kq79, q79a, q79b, q79c⟩ := isOf hZ rfl t80
   obtain ⟨_, _, ⟨T79, L79, kk79, nn79⟩, -, X79, ⟨Lc79, hQ79, l79, y79, z79⟩, st79⟩ := X77.virtualBack hx (y := ym14) (z := ym14) hown (mvT hZ (wk89 hw)) (mvT hZ (wk90 hw)) (notFace_of_selects (args := #[]) (mvT hZ (wk92 hw))) (mvT hZ (wk92 hw)) (mvT hZ (wk91 hw)) (by decide) (backOf (W := 0) (rm14_15 l Z a0 hw w hW [] b29 T77.heap n0 O78 r77_0) hZ (wk93 hw) (wk77 hw) (by decide) (by decide)) q79a q79c (g := (mkF m 88 Lb76 [(.ref b29)])) rfl (by rw [hml]; rfl) (Steps.refl _) (argsL := []) (rest := []) (lenOf pds_10 rfl) rfl (by show 2 * 0 + _ ≤ _; exact Nat.le_of_eq rfl) (hb hby at_88) (fun _ _ => ⟨rfl, rfl, (by decide : 7 + 0 ≤ _), (by decide : 22 + 0 ≤ _)⟩)
   dsimp only [Pt.U, Pt.locs, Pt.cells, Pt.slots] at X79 l79 y79 z79 st79 hQ79
   subst l79 y79 z79
   obtain ⟨rfl, N79q, e79⟩ := hQ79
   have N79 := Fr.app N77 N79q
   let Lb81 : Array Slot := #[.val (.int p0), .val (.long p1), .second, .val (.int p2), .val (.ref b1), .val (.ref b6), .val (.ref b19), .val (.ref b29), .val (.int (1 : Int32)), .val (.int (((p2.toUInt32 >>> ((2 : Int32) &&& 31).toUInt32).toInt32) &&& (3 : Int32))), .val (.int (0 : Int32)), .unset]
   have pre82 : ∀ t, Steps p.tables e below (T79.setTop (mkF m 119 #[.val (.int p0), .val (.long p1), .second, .val (.int p2), .val (.ref b1), .val (.ref b6), .val (.ref b19), .val (.ref b29), .val (.int (1 : Int32)), .val (.int (((p2.toUInt32 >>> ((2 : Int32) &&& 31).toUInt32).toInt32) &&& (3 : Int32))), .val (.int (0 : Int32)), .unset] [(.ref b6), (.ref b1), (.int (((p2.toUInt32 >>> ((2 : Int32) &&& 31).toUInt32).toInt32) &&& (3 : Int32))), (.ref b29)])) t → Steps p.tables e below (s₁.setTop (entryFrame m #[(.int p0), (.long p1), (.int p2)] maxLocals)) t := fun t k => pre39 t (by
    show Steps p.tables e below (T37.setTop (mkF m 83 Lb76 [(.ref b6), (.ref b1), (.int (1 : Int32)), (.ref b29)])) _
    refine st77 _ ?_
    refine sa X77 hx hby at_86 rfl rfl ?_
    refine st79.trans ?_
    refine XS.istore X79.here hx rfl (hb hby at_91) rfl (l' := Lb81) rfl ?_
    refine si X79 hx hby at_93 rfl ?_
    refine si X79 hx hby at_95 rfl ?_
    refine sc X79 hx hby at_97 ?_
    refine XS.icmpYes X79.here hx rfl (pc0 := 98) (pc' := 105) rfl (hb hby at_98) rfl (by decide) (by decide) (by decide) ?_
    show Steps p.tables e below (T79.setTop (mkF m 105 Lb81 [(.int (0 : Int32))])) _
    refine sc X79 hx hby at_105 ?_
    refine XS.icmpYes X79.here hx rfl (pc0 := 106) (pc' := 111) rfl (hb hby at_106) rfl (by decide) (by decide) (by decide) ?_
    refine sa X79 hx hby at_111 rfl rfl ?_
    refine si X79 hx hby at_113 rfl ?_
    refine sa X79 hx hby at_115 rfl rfl ?_
    show Steps p.tables e below (T79.setTop (mkF m 117 Lb81 [(.ref b1), (.int (((p2.toUInt32 >>> ((2 : Int32) &&& 31).toUInt32).toInt32) &&& (3 : Int32))), (.ref b29)])) _
    refine sa X79 hx hby at_117 rfl rfl ?_
    exact k)
   rcases (own_and3 ((p2.toUInt32 >>> ((2 : Int32) &&& 31).toUInt32).toInt32)) with hs83 | hs83 | hs83 | hs83
   ·
    rw [hs83] at pre82
    let Lb84 : Array Slot := #[.val (.int p0), .val (.long p1), .second, .val (.int p2), .val (.ref b1), .val (.ref b6), .val (.ref b19), .val (.ref b29), .val (.int (1 : Int32)), .val (.int (0 : Int32)), .val (.int (0 : Int32)), .unset]
    obtain ⟨_, _, ⟨T85, L85, kk85, nn85⟩, -, X85, ⟨Lc85, hQ85, l85, y85, z85⟩, st85⟩ := Jvm.LawKit.callS X79 hx (y := ym15) hown (mvT hZ (wk96 hw)) (mvT hZ (wk97 hw)) (mvT hZ (wk98 hw)) (mvT hZ (wk99 hw)) (by decide) (backOf (W := 0) (rm15_16 l Z a0 hw w hW [] b29 b1 b6 T77.heap n0 O78 ) hZ (wk99 hw) (wk98 hw) (by decide) (by decide)) (g := (mkF m 119 Lb84 [(.ref b6), (.ref b1), (.int (0 : Int32)), (.ref b29)])) rfl (by rw [hml]; rfl) (argsL := [(.ref b29), (.int (0 : Int32)), (.ref b1), (.ref b6)]) (rest := []) (lenOf pds_11 rfl) rfl (by show 2 * 0 + _ ≤ _; exact Nat.le_of_eq rfl) (hb hby at_119) (fun _ _ => ⟨rfl, e79, (by decide : 7 + 0 ≤ _), (by decide : 22 + 0 ≤ _)⟩)
    dsimp only [Pt.U, Pt.locs, Pt.cells, Pt.slots] at X85 l85 y85 z85 st85 hQ85
    subst l85 y85 z85
    obtain ⟨rfl, N85q, e85⟩ := hQ85
    have N85 := Fr.app N79 N85q
    let Lb86 : Array Slot := #[.val (.int p0), .val (.long p1), .second, .val (.int p2), .val (.ref b1), .val (.ref b6), .val (.ref b19), .val (.ref b29), .val (.int (1 : Int32)), .val (.int (0 : Int32)), .val (.int (0 : Int32)), .val (.int (0 : Int32))]
    obtain ⟨cq87, kq87, q87a, q87b, q87c⟩ := isOf hZ e85 t80
    obtain ⟨_, _, ⟨T87, L87, kk87, nn87⟩, -, X87, ⟨Lc87, hQ87, l87, y87, z87⟩, st87⟩ := X85.virtualBack hx (y := ym14) (z := ym14) hown (mvT hZ (wk89 hw)) (mvT hZ (wk90 hw)) (notFace_of_selects (args := #[]) (mvT hZ (wk92 hw))) (mvT hZ (wk92 hw)) (mvT hZ (wk91 hw)) (by decide) (backOf (W := 0) (rm14_15 l Z a0 hw w hW [] b29 T77.heap n0 O78 r77_0) hZ (wk93 hw) (wk77 hw) (by decide) (by decide)) q87a q87c (g := (mkF m 156 Lb86 [(.ref b29)])) rfl (by rw [hml]; rfl) (Steps.refl _) (argsL := []) (rest := []) (lenOf pds_10 rfl) rfl (by show 2 * 0 + _ ≤ _; exact Nat.le_of_eq rfl) (hb hby at_156) (fun _ _ => ⟨rfl, e85, (by decide : 7 + 0 ≤ _), (by decide : 22 + 0 ≤ _)⟩)
    dsimp only [Pt.U, Pt.locs, Pt.cells, Pt.slots] at X87 l87 y87 z87 st87 hQ87
    subst l87 y87 z87
    obtain ⟨rfl, N87q, e87⟩ := hQ87
    have N87 := Fr.app N85 N87q
    have t88 := (own_fld r31_0 K77 (own_nls (sn9 hw) own_nl0))
    obtain ⟨cq89, kq89, q89a, q89b, q89c⟩ := isOf hZ e87 t80
    obtain ⟨_, _, ⟨T89, L89, kk89, nn89⟩, -, X89, ⟨Lc89, hQ89, l89, y89, z89⟩, st89⟩ := X87.virtualBack hx (y := ym16) (z := ym16) hown (mvT hZ (wk105 hw)) (mvT hZ (wk106 hw)) (notFace_of_selects (args := #[]) (mvT hZ (wk108 hw))) (mvT hZ (wk108 hw)) (mvT hZ (wk107 hw)) (by decide) (backOf (W := 0) (rm17_17 l Z a0 hw w hW [] b29 b19 T77.heap n0 O78 t88) hZ (wk109 hw) (wk77 hw) (by decide) (by decide)) q89a q89c (g := (mkF m 166 Lb86 [(.ref b29)])) rfl (by rw [hml]; rfl) (Steps.refl _) (argsL := []) (rest := []) (lenOf pds_12 rfl) rfl (by show 2 * 0 + _ ≤ _; exact Nat.le_of_eq rfl) (hb hby at_166) (fun _ _ => ⟨rfl, e87, (by decide : 7 + 0 ≤ _), (by decide : 22 + 0 ≤ _)⟩)
    dsimp only [Pt.U, Pt.locs, Pt.cells, Pt.slots] at X89 l89 y89 z89 st89 hQ89
    subst l89 y89 z89
    obtain ⟨rfl, N89q, e89⟩ := hQ89
    have N89 := Fr.app N87 N89q
    obtain ⟨fs, hr, hrun, hended, hWm, hsame⟩ := X89.leave (v := some (.int (1 : Int32))) (fun h => by rw [Bd.returns] at h; cases h)
    refine ⟨_, _, pre82 _ ?_, hrun, hended, _, _, rfl, ?_, ⟨_, rfl⟩, hWm, hsame.mono (by decide) (by decide)⟩
    · show Steps p.tables e below (T79.setTop (mkF m 119 Lb84 [(.ref b6), (.ref b1), (.int (0 : Int32)), (.ref b29)])) _
      refine st85 _ ?_
      refine si X85 hx hby at_122 rfl ?_
      refine sN X85 hx hby at_124 (by decide) ?_
      refine si X85 hx hby at_127 rfl ?_
      refine sc X85 hx hby at_129 ?_
      refine XS.icmpYes X85.here hx rfl (pc0 := 130) (pc' := 137) rfl (hb hby at_130) rfl (by decide) (by decide) (by decide) ?_
      show Steps p.tables e below (T85.setTop (mkF m 137 Lb84 [])) _
      refine sc X85 hx hby at_137 ?_
      refine sg (pc := 138) (pc' := 152) X85 hx hby at_138 (by decide) (by decide) ?_
      refine XS.istore X85.here hx rfl (hb hby at_152) rfl (l' := Lb86) rfl ?_
      refine sa X85 hx hby at_154 rfl rfl ?_
      refine st87.trans ?_
      refine si X87 hx hby at_159 rfl ?_
      refine sn X87 hx hby at_161 (by decide) ?_
      refine sa X87 hx hby at_164 rfl rfl ?_
      refine st89.trans ?_
      refine sa X89 hx hby at_169 rfl rfl ?_
      refine Jvm.RoadKit.acmp (g := (mkF m 171 Lb86 [(.ref b19), (.ref b19)])) X89 hx rfl rfl rfl (pc0 := 171) (pc' := 174) (same := true) rfl (hb hby at_171) rfl (decide_eq_true rfl) (by decide) (by decide) ?_
      refine sc X89 hx hby at_174 ?_
      refine sg (pc := 175) (pc' := 179) X89 hx hby at_175 (by decide) (by decide) ?_
      exact retN X89 hx (t := .boolean) Bd.returns (by simp) (hb hby at_179) hr
    · show Q0 n0 _ T89.heap _
      rw [e89]
      exact ⟨rfl, N89⟩
   ·
    rw [hs83] at pre82
    let Lb90 : Array Slot := #[.val (.int p0), .val (.long p1), .second, .val (.int p2), .val (.ref b1), .val (.ref b6), .val (.ref b19), .val (.ref b29), .val (.int (1 : Int32)), .val (.int (1 : Int32)), .val (.int (0 : Int32)), .unset]
    obtain ⟨_, _, ⟨T91, L91, kk91, nn91⟩, -, X91, ⟨Lc91, hQ91, l91, y91, z91⟩, st91⟩ := Jvm.LawKit.callS X79 hx (y := ym15) hown (mvT hZ (wk96 hw)) (mvT hZ (wk97 hw)) (mvT hZ (wk98 hw)) (mvT hZ (wk99 hw)) (by decide) (backOf (W := 0) (rm15_19 l Z a0 hw w hW [] b29 b1 b6 T77.heap n0 O78 t80 r77_0 gg29) hZ (wk99 hw) (wk98 hw) (by decide) (by decide)) (g := (mkF m 119 Lb90 [(.ref b6), (.ref b1), (.int (1 : Int32)), (.ref b29)])) rfl (by rw [hml]; rfl) (argsL := [(.ref b29), (.int (1 : Int32)), (.ref b1), (.ref b6)]) (rest := []) (lenOf pds_11 rfl) rfl (by show 2 * 0 + _ ≤ _; exact Nat.le_of_eq rfl) (hb hby at_119) (fun _ _ => ⟨rfl, e79, (by decide : 7 + 0 ≤ _), (by decide : 22 + 0 ≤ _)⟩)
    dsimp only [Pt.U, Pt.locs, Pt.cells, Pt.slots] at X91 l91 y91 z91 st91 hQ91
    subst l91 y91 z91
    obtain ⟨rfl, N91q, K91, r91_0⟩ := hQ91
    have N91 := Fr.app N79 N91q
    have O92 := own_old O78 K91 (own_ngc gg29 own_ng0)
    let Lb93 : Array Slot := #[.val (.int p0), .val (.long p1), .second, .val (.int p2), .val (.ref b1), .val (.ref b6), .val (.ref b19), .val (.ref b29), .val (.int (1 : Int32)), .val (.int (1 : Int32)), .val (.int (0 : Int32)), .val (.int (0 : Int32))]
    have t95 := (own_exa t80 K91)
    obtain ⟨cq94, kq94, q94a, q94b, q94c⟩ := isOf hZ rfl t95
    obtain ⟨_, _, ⟨T94, L94, kk94, nn94⟩, -, X94, ⟨Lc94, hQ94, l94, y94, z94⟩, st94⟩ := X91.virtualBack hx (y := ym14) (z := ym14) hown (mvT hZ (wk89 hw)) (mvT hZ (wk90 hw)) (notFace_of_selects (args := #[]) (mvT hZ (wk92 hw))) (mvT hZ (wk92 hw)) (mvT hZ (wk91 hw)) (by decide) (backOf (W := 0) (rm14_15 l Z a0 hw w hW [] b29 T91.heap n0 O92 r91_0) hZ (wk93 hw) (wk77 hw) (by decide) (by decide)) q94a q94c (g := (mkF m 156 Lb93 [(.ref b29)])) rfl (by rw [hml]; rfl) (Steps.refl _) (argsL := []) (rest := []) (lenOf pds_10 rfl) rfl (by show 2 * 0 + _ ≤ _; exact Nat.le_of_eq rfl) (hb hby at_156) (fun _ _ => ⟨rfl, rfl, (by decide : 7 + 0 ≤ _), (by decide : 22 + 0 ≤ _)⟩)
    dsimp only [Pt.U, Pt.locs, Pt.cells, Pt.slots] at X94 l94 y94 z94 st94 hQ94
    subst l94 y94 z94
    obtain ⟨rfl, N94q, e94⟩ := hQ94
    have N94 := Fr.app N91 N94q
    have t96 := (own_fld (own_fld r31_0 K77 (own_nls (sn9 hw) own_nl0)) K91 (own_nls (sn9 hw) own_nl0))
    obtain ⟨cq97, kq97, q97a, q97b, q97c⟩ := isOf hZ e94 t95
    obtain ⟨_, _, ⟨T97, L97, kk97, nn97⟩, -, X97, ⟨Lc97, hQ97, l97, y97, z97⟩, st97⟩ := X94.virtualBack hx (y := ym16) (z := ym16) hown (mvT hZ (wk105 hw)) (mvT hZ (wk106 hw)) (notFace_of_selects (args := #[]) (mvT hZ (wk108 hw))) (mvT hZ (wk108 hw)) (mvT hZ (wk107 hw)) (by decide) (backOf (W := 0) (rm17_17 l Z a0 hw w hW [] b29 b19 T91.heap n0 O92 t96) hZ (wk109 hw) (wk77 hw) (by decide) (by decide)) q97a q97c (g := (mkF m 166 Lb93 [(.ref b29)])) rfl (by rw [hml]; rfl) (Steps.refl _) (argsL := []) (rest := []) (lenOf pds_12 rfl) rfl (by show 2 * 0 + _ ≤ _; exact Nat.le_of_eq rfl) (hb hby at_166) (fun _ _ => ⟨rfl, e94, (by decide : 7 + 0 ≤ _), (by decide : 22 + 0 ≤ _)⟩)
    dsimp only [Pt.U, Pt.locs, Pt.cells, Pt.slots] at X97 l97 y97 z97 st97 hQ97
    subst l97 y97 z97
    obtain ⟨rfl, N97q, e97⟩ := hQ97
    have N97 := Fr.app N94 N97q
    obtain ⟨fs, hr, hrun, hended, hWm, hsame⟩ := X97.leave (v := some (.int (1 : Int32))) (fun h => by rw [Bd.returns] at h; cases h)
    refine ⟨_, _, pre82 _ ?_, hrun, hended, _, _, rfl, ?_, ⟨_, rfl⟩, hWm, hsame.mono (by decide) (by decide)⟩
    · show Steps p.tables e below (T79.setTop (mkF m 119 Lb90 [(.ref b6), (.ref b1), (.int (1 : Int32)), (.ref b29)])) _
      refine st91 _ ?_
      refine si X91 hx hby at_122 rfl ?_
      refine XS.ifYes X91.here hx rfl (pc0 := 124) (pc' := 141) rfl (hb hby at_124) rfl (by decide) (by decide) (by decide) ?_
      refine si X91 hx hby at_141 rfl ?_
      refine sc X91 hx hby at_143 ?_
      refine XS.icmpYes X91.here hx rfl (pc0 := 144) (pc' := 151) rfl (hb hby at_144) rfl (by decide) (by decide) (by decide) ?_
      show Steps p.tables e below (T91.setTop (mkF m 151 Lb90 [])) _
      refine sc X91 hx hby at_151 ?_
      refine XS.istore X91.here hx rfl (hb hby at_152) rfl (l' := Lb93) rfl ?_
      refine sa X91 hx hby at_154 rfl rfl ?_
      refine st94.trans ?_
      refine si X94 hx hby at_159 rfl ?_
      refine sn X94 hx hby at_161 (by decide) ?_
      refine sa X94 hx hby at_164 rfl rfl ?_
      refine st97.trans ?_
      refine sa X97 hx hby at_169 rfl rfl ?_
      refine Jvm.RoadKit.acmp (g := (mkF m 171 Lb93 [(.ref b19), (.ref b19)])) X97 hx rfl rfl rfl (pc0 := 171) (pc' := 174) (same := true) rfl (hb hby at_171) rfl (decide_eq_true rfl) (by decide) (by decide) ?_
      refine sc X97 hx hby at_174 ?_
      refine sg (pc := 175) (pc' := 179) X97 hx hby at_175 (by decide) (by decide) ?_
      exact retN X97 hx (t := .boolean) Bd.returns (by simp) (hb hby at_179) hr
    · show Q0 n0 _ T97.heap _
      rw [e97]
      exact ⟨rfl, N97⟩
   ·
    rw [hs83] at pre82
    let Lb98 : Array Slot := #[.val (.int p0), .val (.long p1), .second, .val (.int p2), .val (.ref b1), .val (.ref b6), .val (.ref b19), .val (.ref b29), .val (.int (1 : Int32)), .val (.int (2 : Int32)), .val (.int (0 : Int32)), .unset]
    obtain ⟨_, _, ⟨T99, L99, kk99, nn99⟩, -, X99, ⟨Lc99, hQ99, l99, y99, z99⟩, st99⟩ := Jvm.LawKit.callS X79 hx (y := ym15) hown (mvT hZ (wk96 hw)) (mvT hZ (wk97 hw)) (mvT hZ (wk98 hw)) (mvT hZ (wk99 hw)) (by decide) (backOf (W := 0) (rm15_21 l Z a0 hw w hW [] b29 b1 b6 T77.heap n0 O78 t80 r77_0 gg29) hZ (wk99 hw) (wk98 hw) (by decide) (by decide)) (g := (mkF m 119 Lb98 [(.ref b6), (.ref b1), (.int (2 : Int32)), (.ref b29)])) rfl (by rw [hml]; rfl) (argsL := [(.ref b29), (.int (2 : Int32)), (.ref b1), (.ref b6)]) (rest := []) (lenOf pds_11 rfl) rfl (by show 2 * 0 + _ ≤ _; exact Nat.le_of_eq rfl) (hb hby at_119) (fun _ _ => ⟨rfl, e79, (by decide : 7 + 0 ≤ _), (by decide : 22 + 0 ≤ _)⟩)
    dsimp only [Pt.U, Pt.locs, Pt.cells, Pt.slots] at X99 l99 y99 z99 st99 hQ99
    subst l99 y99 z99
    obtain ⟨rfl, N99q, K99, r99_0⟩ := hQ99
    have N99 := Fr.app N79 N99q
    have O100 := own_old O78 K99 (own_ngc gg29 own_ng0)
    let Lb101 : Array Slot := #[.val (.int p0), .val (.long p1), .second, .val (.int p2), .val (.ref b1), .val (.ref b6), .val (.ref b19), .val (.ref b29), .val (.int (1 : Int32)), .val (.int (2 : Int32)), .val (.int (0 : Int32)), .val (.int (1 : Int32))]
    have t103 := (own_exa t80 K99)
    obtain ⟨cq102, kq102, q102a, q102b, q102c⟩ := isOf hZ rfl t103
    obtain ⟨_, _, ⟨T102, L102, kk102, nn102⟩, -, X102, ⟨Lc102, hQ102, l102, y102, z102⟩, st102⟩ := X99.virtualBack hx (y := ym14) (z := ym14) hown (mvT hZ (wk89 hw)) (mvT hZ (wk90 hw)) (notFace_of_selects (args := #[]) (mvT hZ (wk92 hw))) (mvT hZ (wk92 hw)) (mvT hZ (wk91 hw)) (by decide) (backOf (W := 0) (rm14_22 l Z a0 hw w hW [] b29 b1 T99.heap n0 O100 r99_0) hZ (wk93 hw) (wk77 hw) (by decide) (by decide)) q102a q102c (g := (mkF m 156 Lb101 [(.ref b29)])) rfl (by rw [hml]; rfl) (Steps.refl _) (argsL := []) (rest := []) (lenOf pds_10 rfl) rfl (by show 2 * 0 + _ ≤ _; exact Nat.le_of_eq rfl) (hb hby at_156) (fun _ _ => ⟨rfl, rfl, (by decide : 7 + 0 ≤ _), (by decide : 22 + 0 ≤ _)⟩)
    dsimp only [Pt.U, Pt.locs, Pt.cells, Pt.slots] at X102 l102 y102 z102 st102 hQ102
    subst l102 y102 z102
    obtain ⟨rfl, N102q, e102⟩ := hQ102
    have N102 := Fr.app N99 N102q
    have t104 := (own_fld (own_fld r31_0 K77 (own_nls (sn9 hw) own_nl0)) K99 (own_nls (sn9 hw) own_nl0))
    obtain ⟨cq105, kq105, q105a, q105b, q105c⟩ := isOf hZ e102 t103
    obtain ⟨_, _, ⟨T105, L105, kk105, nn105⟩, -, X105, ⟨Lc105, hQ105, l105, y105, z105⟩, st105⟩ := X102.virtualBack hx (y := ym16) (z := ym16) hown (mvT hZ (wk105 hw)) (mvT hZ (wk106 hw)) (notFace_of_selects (args := #[]) (mvT hZ (wk108 hw))) (mvT hZ (wk108 hw)) (mvT hZ (wk107 hw)) (by decide) (backOf (W := 0) (rm17_17 l Z a0 hw w hW [] b29 b19 T99.heap n0 O100 t104) hZ (wk109 hw) (wk77 hw) (by decide) (by decide)) q105a q105c (g := (mkF m 166 Lb101 [(.ref b29)])) rfl (by rw [hml]; rfl) (Steps.refl _) (argsL := []) (rest := []) (lenOf pds_12 rfl) rfl (by show 2 * 0 + _ ≤ _; exact Nat.le_of_eq rfl) (hb hby at_166) (fun _ _ => ⟨rfl, e102, (by decide : 7 + 0 ≤ _), (by decide : 22 + 0 ≤ _)⟩)
    dsimp only [Pt.U, Pt.locs, Pt.cells, Pt.slots] at X105 l105 y105 z105 st105 hQ105
    subst l105 y105 z105
    obtain ⟨rfl, N105q, e105⟩ := hQ105
    have N105 := Fr.app N102 N105q
    obtain ⟨fs, hr, hrun, hended, hWm, hsame⟩ := X105.leave (v := some (.int (1 : Int32))) (fun h => by rw [Bd.returns] at h; cases h)
    refine ⟨_, _, pre82 _ ?_, hrun, hended, _, _, rfl, ?_, ⟨_, rfl⟩, hWm, hsame.mono (by decide) (by decide)⟩
    · show Steps p.tables e below (T79.setTop (mkF m 119 Lb98 [(.ref b6), (.ref b1), (.int (2 : Int32)), (.ref b29)])) _
      refine st99 _ ?_
      refine si X99 hx hby at_122 rfl ?_
      refine XS.ifYes X99.here hx rfl (pc0 := 124) (pc' := 141) rfl (hb hby at_124) rfl (by decide) (by decide) (by decide) ?_
      refine si X99 hx hby at_141 rfl ?_
      refine sc X99 hx hby at_143 ?_
      refine sn X99 hx hby at_144 (by decide) ?_
      show Steps p.tables e below (T99.setTop (mkF m 147 Lb98 [])) _
      refine sc X99 hx hby at_147 ?_
      refine sg (pc := 148) (pc' := 152) X99 hx hby at_148 (by decide) (by decide) ?_
      refine XS.istore X99.here hx rfl (hb hby at_152) rfl (l' := Lb101) rfl ?_
      refine sa X99 hx hby at_154 rfl rfl ?_
      refine st102.trans ?_
      refine si X102 hx hby at_159 rfl ?_
      refine sn X102 hx hby at_161 (by decide) ?_
      refine sa X102 hx hby at_164 rfl rfl ?_
      refine st105.trans ?_
      refine sa X105 hx hby at_169 rfl rfl ?_
      refine Jvm.RoadKit.acmp (g := (mkF m 171 Lb101 [(.ref b19), (.ref b19)])) X105 hx rfl rfl rfl (pc0 := 171) (pc' := 174) (same := true) rfl (hb hby at_171) rfl (decide_eq_true rfl) (by decide) (by decide) ?_
      refine sc X105 hx hby at_174 ?_
      refine sg (pc := 175) (pc' := 179) X105 hx hby at_175 (by decide) (by decide) ?_
      exact retN X105 hx (t := .boolean) Bd.returns (by simp) (hb hby at_179) hr
    · show Q0 n0 _ T105.heap _
      rw [e105]
      exact ⟨rfl, N105⟩
   ·
    rw [hs83] at pre82
    let Lb106 : Array Slot := #[.val (.int p0), .val (.long p1), .second, .val (.int p2), .val (.ref b1), .val (.ref b6), .val (.ref b19), .val (.ref b29), .val (.int (1 : Int32)), .val (.int (3 : Int32)), .val (.int (0 : Int32)), .unset]
    obtain ⟨_, _, ⟨T107, L107, kk107, nn107⟩, -, X107, ⟨Lc107, hQ107, l107, y107, z107⟩, st107⟩ := Jvm.LawKit.callS X79 hx (y := ym15) hown (mvT hZ (wk96 hw)) (mvT hZ (wk97 hw)) (mvT hZ (wk98 hw)) (mvT hZ (wk99 hw)) (by decide) (backOf (W := 0) (rm15_23 l Z a0 hw w hW [] b29 b1 b6 T77.heap n0 O78 t80 r77_0 gg29) hZ (wk99 hw) (wk98 hw) (by decide) (by decide)) (g := (mkF m 119 Lb106 [(.ref b6), (.ref b1), (.int (3 : Int32)), (.ref b29)])) rfl (by rw [hml]; rfl) (argsL := [(.ref b29), (.int (3 : Int32)), (.ref b1), (.ref b6)]) (rest := []) (lenOf pds_11 rfl) rfl (by show 2 * 0 + _ ≤ _; exact Nat.le_of_eq rfl) (hb hby at_119) (fun _ _ => ⟨rfl, e79, (by decide : 7 + 0 ≤ _), (by decide : 22 + 0 ≤ _)⟩)
    dsimp only [Pt.U, Pt.locs, Pt.cells, Pt.slots] at X107 l107 y107 z107 st107 hQ107
    subst l107 y107 z107
    obtain ⟨rfl, N107q, K107, r107_0⟩ := hQ107
    have N107 := Fr.app N79 N107q
    have O108 := own_old O78 K107 (own_ngc gg29 own_ng0)
    let Lb109 : Array Slot := #[.val (.int p0), .val (.long p1), .second, .val (.int p2), .val (.ref b1), .val (.ref b6), .val (.ref b19), .val (.ref b29), .val (.int (1 : Int32)), .val (.int (3 : Int32)), .val (.int (0 : Int32)), .val (.int (1 : Int32))]
    have t111 := (own_exa t80 K107)
    obtain ⟨cq110, kq110, q110a, q110b, q110c⟩ := isOf hZ rfl t111
    obtain ⟨_, _, ⟨T110, L110, kk110, nn110⟩, -, X110, ⟨Lc110, hQ110, l110, y110, z110⟩, st110⟩ := X107.virtualBack hx (y := ym14) (z := ym14) hown (mvT hZ (wk89 hw)) (mvT hZ (wk90 hw)) (notFace_of_selects (args := #[]) (mvT hZ (wk92 hw))) (mvT hZ (wk92 hw)) (mvT hZ (wk91 hw)) (by decide) (backOf (W := 0) (rm14_22 l Z a0 hw w hW [] b29 b6 T107.heap n0 O108 r107_0) hZ (wk93 hw) (wk77 hw) (by decide) (by decide)) q110a q110c (g := (mkF m 156 Lb109 [(.ref b29)])) rfl (by rw [hml]; rfl) (Steps.refl _) (argsL := []) (rest := []) (lenOf pds_10 rfl) rfl (by show 2 * 0 + _ ≤ _; exact Nat.le_of_eq rfl) (hb hby at_156) (fun _ _ => ⟨rfl, rfl, (by decide : 7 + 0 ≤ _), (by decide : 22 + 0 ≤ _)⟩)
    dsimp only [Pt.U, Pt.locs, Pt.cells, Pt.slots] at X110 l110 y110 z110 st110 hQ110
    subst l110 y110 z110
    obtain ⟨rfl, N110q, e110⟩ := hQ110
    have N110 := Fr.app N107 N110q
    have t112 := (own_fld (own_fld r31_0 K77 (own_nls (sn9 hw) own_nl0)) K107 (own_nls (sn9 hw) own_nl0))
    obtain ⟨cq113, kq113, q113a, q113b, q113c⟩ := isOf hZ e110 t111
    obtain ⟨_, _, ⟨T113, L113, kk113, nn113⟩, -, X113, ⟨Lc113, hQ113, l113, y113, z113⟩, st113⟩ := X110.virtualBack hx (y := ym16) (z := ym16) hown (mvT hZ (wk105 hw)) (mvT hZ (wk106 hw)) (notFace_of_selects (args := #[]) (mvT hZ (wk108 hw))) (mvT hZ (wk108 hw)) (mvT hZ (wk107 hw)) (by decide) (backOf (W := 0) (rm17_17 l Z a0 hw w hW [] b29 b19 T107.heap n0 O108 t112) hZ (wk109 hw) (wk77 hw) (by decide) (by decide)) q113a q113c (g := (mkF m 166 Lb109 [(.ref b29)])) rfl (by rw [hml]; rfl) (Steps.refl _) (argsL := []) (rest := []) (lenOf pds_12 rfl) rfl (by show 2 * 0 + _ ≤ _; exact Nat.le_of_eq rfl) (hb hby at_166) (fun _ _ => ⟨rfl, e110, (by decide : 7 + 0 ≤ _), (by decide : 22 + 0 ≤ _)⟩)
    dsimp only [Pt.U, Pt.locs, Pt.cells, Pt.slots] at X113 l113 y113 z113 st113 hQ113
    subst l113 y113 z113
    obtain ⟨rfl, N113q, e113⟩ := hQ113
    have N113 := Fr.app N110 N113q
    obtain ⟨fs, hr, hrun, hended, hWm, hsame⟩ := X113.leave (v := some (.int (1 : Int32))) (fun h => by rw [Bd.returns] at h; cases h)
    refine ⟨_, _, pre82 _ ?_, hrun, hended, _, _, rfl, ?_, ⟨_, rfl⟩, hWm, hsame.mono (by decide) (by decide)⟩
    · show Steps p.tables e below (T79.setTop (mkF m 119 Lb106 [(.ref b6), (.ref b1), (.int (3 : Int32)), (.ref b29)])) _
      refine st107 _ ?_
      refine si X107 hx hby at_122 rfl ?_
      refine XS.ifYes X107.here hx rfl (pc0 := 124) (pc' := 141) rfl (hb hby at_124) rfl (by decide) (by decide) (by decide) ?_
      refine si X107 hx hby at_141 rfl ?_
      refine sc X107 hx hby at_143 ?_
      refine sn X107 hx hby at_144 (by decide) ?_
      show Steps p.tables e below (T107.setTop (mkF m 147 Lb106 [])) _
      refine sc X107 hx hby at_147 ?_
      refine sg (pc := 148) (pc' := 152) X107 hx hby at_148 (by decide) (by decide) ?_
      refine XS.istore X107.here hx rfl (hb hby at_152) rfl (l' := Lb109) rfl ?_
      refine sa X107 hx hby at_154 rfl rfl ?_
      refine st110.trans ?_
      refine si X110 hx hby at_159 rfl ?_
      refine sn X110 hx hby at_161 (by decide) ?_
      refine sa X110 hx hby at_164 rfl rfl ?_
      refine st113.trans ?_
      refine sa X113 hx hby at_169 rfl rfl ?_
      refine Jvm.RoadKit.acmp (g := (mkF m 171 Lb109 [(.ref b19), (.ref b19)])) X113 hx rfl rfl rfl (pc0 := 171) (pc' := 174) (same := true) rfl (hb hby at_171) rfl (decide_eq_true rfl) (by decide) (by decide) ?_
      refine sc X113 hx hby at_174 ?_
      refine sg (pc := 175) (pc' := 179) X113 hx hby at_175 (by decide) (by decide) ?_
      exact retN X113 hx (t := .boolean) Bd.returns (by simp) (hb hby at_179) hr
    · show Q0 n0 _ T113.heap _
      rw [e113]
      exact ⟨rfl, N113⟩
  ·
   rw [hs40] at pre39
   let Lb114 : Array Slot := #[.val (.int p0), .val (.long p1), .second, .val (.int p2), .val (.ref b1), .val (.ref b6), .val (.ref b19), .val (.ref b29), .val (.int (2 : Int32)), .val (.int (((p2.toUInt32 >>> ((2 : Int32) &&& 31).toUInt32).toInt32) &&& (3 : Int32))), .unset, .unset]
   obtain ⟨_, _, ⟨T115, L115, kk115, nn115⟩, -, X115, ⟨Lc115, hQ115, l115, y115, z115⟩, st115⟩ := Jvm.LawKit.callS X37 hx (y := ym15) hown (mvT hZ (wk96 hw)) (mvT hZ (wk97 hw)) (mvT hZ (wk98 hw)) (mvT hZ (wk99 hw)) (by decide) (backOf (W := 0) (rm15_21 l Z a0 hw w hW [] b29 b1 b6 T31.heap n0 O32 t38 t36 gg29) hZ (wk99 hw) (wk98 hw) (by decide) (by decide)) (g := (mkF m 83 Lb114 [(.ref b6), (.ref b1), (.int (2 : Int32)), (.ref b29)])) rfl (by rw [hml]; rfl) (argsL := [(.ref b29), (.int (2 : Int32)), (.ref b1), (.ref b6)]) (rest := []) (lenOf pds_11 rfl) rfl (by show 2 * 0 + _ ≤ _; exact Nat.le_of_eq rfl) (hb hby at_83) (fun _ _ => ⟨rfl, e37, (by decide : 7 + 0 ≤ _), (by decide : 22 + 0 ≤ _)⟩)
   dsimp only [Pt.U, Pt.locs, Pt.cells, Pt.slots] at X115 l115 y115 z115 st115 hQ115
   subst l115 y115 z115
   obtain ⟨rfl, N115q, K115, r115_0⟩ := hQ115
   have N115 := Fr.app N37 N115q
   have O116 := own_old O32 K115 (own_ngc gg29 own_ng0)
   have t118 := (own_exa t38 K115)
   obtain ⟨cq117, kq117, q117a, q117b, q117c⟩ := isOf hZ rfl t118
   obtain ⟨_, _, ⟨T117, L117, kk117, nn117⟩, -, X117, ⟨Lc117, hQ117, l117, y117, z117⟩, st117⟩ := X115.virtualBack hx (y := ym14) (z := ym14) hown (mvT hZ (wk89 hw)) (mvT hZ (wk90 hw)) (notFace_of_selects (args := #[]) (mvT hZ (wk92 hw))) (mvT hZ (wk92 hw)) (mvT hZ (wk91 hw)) (by decide) (backOf (W := 0) (rm14_22 l Z a0 hw w hW [] b29 b1 T115.heap n0 O116 r115_0) hZ (wk93 hw) (wk77 hw) (by decide) (by decide)) q117a q117c (g := (mkF m 88 Lb114 [(.ref b29)])) rfl (by rw [hml]; rfl) (Steps.refl _) (argsL := []) (rest := []) (lenOf pds_10 rfl) rfl (by show 2 * 0 + _ ≤ _; exact Nat.le_of_eq rfl) (hb hby at_88) (fun _ _ => ⟨rfl, rfl, (by decide : 7 + 0 ≤ _), (by decide : 22 + 0 ≤ _)⟩)
   dsimp only [Pt.U, Pt.locs, Pt.cells, Pt.slots] at X117 l117 y117 z117 st117 hQ117
   subst l117 y117 z117
   obtain ⟨rfl, N117q, e117⟩ := hQ117
   have N117 := Fr.app N115 N117q
   let Lb119 : Array Slot := #[.val (.int p0), .val (.long p1), .second, .val (.int p2), .val (.ref b1), .val (.ref b6), .val (.ref b19), .val (.ref b29), .val (.int (2 : Int32)), .val (.int (((p2.toUInt32 >>> ((2 : Int32) &&& 31).toUInt32).toInt32) &&& (3 : Int32))), .val (.int (1 : Int32)), .unset]
   have pre120 : ∀ t, Steps p.tables e below (T117.setTop (mkF m 119 #[.val (.int p0), .val (.long p1), .second, .val (.int p2), .val (.ref b1), .val (.ref b6), .val (.ref b19), .val (.ref b29), .val (.int (2 : Int32)), .val (.int (((p2.toUInt32 >>> ((2 : Int32) &&& 31).toUInt32).toInt32) &&& (3 : Int32))), .val (.int (1 : Int32)), .unset] [(.ref b6), (.ref b1), (.int (((p2.toUInt32 >>> ((2 : Int32) &&& 31).toUInt32).toInt32) &&& (3 : Int32))), (.ref b29)])) t → Steps p.tables e below (s₁.setTop (entryFrame m #[(.int p0), (.long p1), (.int p2)] maxLocals)) t := fun t k => pre39 t (by
    show Steps p.tables e below (T37.setTop (mkF m 83 Lb114 [(.ref b6), (.ref b1), (.int (2 : Int32)), (.ref b29)])) _
    refine st115 _ ?_
    refine sa X115 hx hby at_86 rfl rfl ?_
    refine st117.trans ?_
    refine XS.istore X117.here hx rfl (hb hby at_91) rfl (l' := Lb119) rfl ?_
    refine si X117 hx hby at_93 rfl ?_
    refine si X117 hx hby at_95 rfl ?_
    refine sc X117 hx hby at_97 ?_
    refine sn X117 hx hby at_98 (by decide) ?_
    show Steps p.tables e below (T117.setTop (mkF m 101 Lb119 [(.int (1 : Int32))])) _
    refine sc X117 hx hby at_101 ?_
    refine sg (pc := 102) (pc' := 106) X117 hx hby at_102 (by decide) (by decide) ?_
    refine XS.icmpYes X117.here hx rfl (pc0 := 106) (pc' := 111) rfl (hb hby at_106) rfl (by decide) (by decide) (by decide) ?_
    refine sa X117 hx hby at_111 rfl rfl ?_
    refine si X117 hx hby at_113 rfl ?_
    show Steps p.tables e below (T117.setTop (mkF m 115 Lb119 [(.int (((p2.toUInt32 >>> ((2 : Int32) &&& 31).toUInt32).toInt32) &&& (3 : Int32))), (.ref b29)])) _
    refine sa X117 hx hby at_115 rfl rfl ?_
    refine sa X117 hx hby at_117 rfl rfl ?_
    exact k)
   rcases (own_and3 ((p2.toUInt32 >>> ((2 : Int32) &&& 31).toUInt32).toInt32)) with hs121 | hs121 | hs121 | hs121
   ·
    rw [hs121] at pre120
    let Lb122 : Array Slot := #[.val (.int p0), .val (.long p1), .second, .val (.int p2), .val (.ref b1), .val (.ref b6), .val (.ref b19), .val (.ref b29), .val (.int (2 : Int32)), .val (.int (0 : Int32)), .val (.int (1 : Int32)), .unset]
    obtain ⟨_, _, ⟨T123, L123, kk123, nn123⟩, -, X123, ⟨Lc123, hQ123, l123, y123, z123⟩, st123⟩ := Jvm.LawKit.callS X117 hx (y := ym15) hown (mvT hZ (wk96 hw)) (mvT hZ (wk97 hw)) (mvT hZ (wk98 hw)) (mvT hZ (wk99 hw)) (by decide) (backOf (W := 0) (rm15_16 l Z a0 hw w hW [] b29 b1 b6 T115.heap n0 O116 ) hZ (wk99 hw) (wk98 hw) (by decide) (by decide)) (g := (mkF m 119 Lb122 [(.ref b6), (.ref b1), (.int (0 : Int32)), (.ref b29)])) rfl (by rw [hml]; rfl) (argsL := [(.ref b29), (.int (0 : Int32)), (.ref b1), (.ref b6)]) (rest := []) (lenOf pds_11 rfl) rfl (by show 2 * 0 + _ ≤ _; exact Nat.le_of_eq rfl) (hb hby at_119) (fun _ _ => ⟨rfl, e117, (by decide : 7 + 0 ≤ _), (by decide : 22 + 0 ≤ _)⟩)
    dsimp only [Pt.U, Pt.locs, Pt.cells, Pt.slots] at X123 l123 y123 z123 st123 hQ123
    subst l123 y123 z123
    obtain ⟨rfl, N123q, e123⟩ := hQ123
    have N123 := Fr.app N117 N123q
    let Lb124 : Array Slot := #[.val (.int p0), .val (.long p1), .second, .val (.int p2), .val (.ref b1), .val (.ref b6), .val (.ref b19), .val (.ref b29), .val (.int (2 : Int32)), .val (.int (0 : Int32)), .val (.int (1 : Int32)), .val (.int (1 : Int32))]
    obtain ⟨cq125, kq125, q125a, q125b, q125c⟩ := isOf hZ e123 t118
    obtain ⟨_, _, ⟨T125, L125, kk125, nn125⟩, -, X125, ⟨Lc125, hQ125, l125, y125, z125⟩, st125⟩ := X123.virtualBack hx (y := ym14) (z := ym14) hown (mvT hZ (wk89 hw)) (mvT hZ (wk90 hw)) (notFace_of_selects (args := #[]) (mvT hZ (wk92 hw))) (mvT hZ (wk92 hw)) (mvT hZ (wk91 hw)) (by decide) (backOf (W := 0) (rm14_22 l Z a0 hw w hW [] b29 b1 T115.heap n0 O116 r115_0) hZ (wk93 hw) (wk77 hw) (by decide) (by decide)) q125a q125c (g := (mkF m 156 Lb124 [(.ref b29)])) rfl (by rw [hml]; rfl) (Steps.refl _) (argsL := []) (rest := []) (lenOf pds_10 rfl) rfl (by show 2 * 0 + _ ≤ _; exact Nat.le_of_eq rfl) (hb hby at_156) (fun _ _ => ⟨rfl, e123, (by decide : 7 + 0 ≤ _), (by decide : 22 + 0 ≤ _)⟩)
    dsimp only [Pt.U, Pt.locs, Pt.cells, Pt.slots] at X125 l125 y125 z125 st125 hQ125
    subst l125 y125 z125
    obtain ⟨rfl, N125q, e125⟩ := hQ125
    have N125 := Fr.app N123 N125q
    have t126 := (own_fld r31_0 K115 (own_nls (sn9 hw) own_nl0))
    obtain ⟨cq127, kq127, q127a, q127b, q127c⟩ := isOf hZ e125 t118
    obtain ⟨_, _, ⟨T127, L127, kk127, nn127⟩, -, X127, ⟨Lc127, hQ127, l127, y127, z127⟩, st127⟩ := X125.virtualBack hx (y := ym16) (z := ym16) hown (mvT hZ (wk105 hw)) (mvT hZ (wk106 hw)) (notFace_of_selects (args := #[]) (mvT hZ (wk108 hw))) (mvT hZ (wk108 hw)) (mvT hZ (wk107 hw)) (by decide) (backOf (W := 0) (rm17_17 l Z a0 hw w hW [] b29 b19 T115.heap n0 O116 t126) hZ (wk109 hw) (wk77 hw) (by decide) (by decide)) q127a q127c (g := (mkF m 166 Lb124 [(.ref b29)])) rfl (by rw [hml]; rfl) (Steps.refl _) (argsL := []) (rest := []) (lenOf pds_12 rfl) rfl (by show 2 * 0 + _ ≤ _; exact Nat.le_of_eq rfl) (hb hby at_166) (fun _ _ => ⟨rfl, e125, (by decide : 7 + 0 ≤ _), (by decide : 22 + 0 ≤ _)⟩)
    dsimp only [Pt.U, Pt.locs, Pt.cells, Pt.slots] at X127 l127 y127 z127 st127 hQ127
    subst l127 y127 z127
    obtain ⟨rfl, N127q, e127⟩ := hQ127
    have N127 := Fr.app N125 N127q
    obtain ⟨fs, hr, hrun, hended, hWm, hsame⟩ := X127.leave (v := some (.int (1 : Int32))) (fun h => by rw [Bd.returns] at h; cases h)
    refine ⟨_, _, pre120 _ ?_, hrun, hended, _, _, rfl, ?_, ⟨_, rfl⟩, hWm, hsame.mono (by decide) (by decide)⟩
    · show Steps p.tables e below (T117.setTop (mkF m 119 Lb122 [(.ref b6), (.ref b1), (.int (0 : Int32)), (.ref b29)])) _
      refine st123 _ ?_
      refine si X123 hx hby at_122 rfl ?_
      refine sN X123 hx hby at_124 (by decide) ?_
      refine si X123 hx hby at_127 rfl ?_
      refine sc X123 hx hby at_129 ?_
      refine sn X123 hx hby at_130 (by decide) ?_
      show Steps p.tables e below (T123.setTop (mkF m 133 Lb122 [])) _
      refine sc X123 hx hby at_133 ?_
      refine sg (pc := 134) (pc' := 152) X123 hx hby at_134 (by decide) (by decide) ?_
      refine XS.istore X123.here hx rfl (hb hby at_152) rfl (l' := Lb124) rfl ?_
      refine sa X123 hx hby at_154 rfl rfl ?_
      refine st125.trans ?_
      refine si X125 hx hby at_159 rfl ?_
      refine sn X125 hx hby at_161 (by decide) ?_
      refine sa X125 hx hby at_164 rfl rfl ?_
      refine st127.trans ?_
      refine sa X127 hx hby at_169 rfl rfl ?_
      refine Jvm.RoadKit.acmp (g := (mkF m 171 Lb124 [(.ref b19), (.ref b19)])) X127 hx rfl rfl rfl (pc0 := 171) (pc' := 174) (same := true) rfl (hb hby at_171) rfl (decide_eq_true rfl) (by decide) (by decide) ?_
      refine sc X127 hx hby at_174 ?_
      refine sg (pc := 175) (pc' := 179) X127 hx hby at_175 (by decide) (by decide) ?_
      exact retN X127 hx (t := .boolean) Bd.returns (by simp) (hb hby at_179) hr
    · show Q0 n0 _ T127.heap _
      rw [e127]
      exact ⟨rfl, N127⟩
   ·
    rw [hs121] at pre120
    let Lb128 : Array Slot := #[.val (.int p0), .val (.long p1), .second, .val (.int p2), .val (.ref b1), .val (.ref b6), .val (.ref b19), .val (.ref b29), .val (.int (2 : Int32)), .val (.int (1 : Int32)), .val (.int (1 : Int32)), .unset]
    obtain ⟨_, _, ⟨T129, L129, kk129, nn129⟩, -, X129, ⟨Lc129, hQ129, l129, y129, z129⟩, st129⟩ := Jvm.LawKit.callS X117 hx (y := ym15) hown (mvT hZ (wk96 hw)) (mvT hZ (wk97 hw)) (mvT hZ (wk98 hw)) (mvT hZ (wk99 hw)) (by decide) (backOf (W := 0) (rm15_25 l Z a0 hw w hW [] b29 b1 b6 T115.heap n0 O116 t118 r115_0 gg29) hZ (wk99 hw) (wk98 hw) (by decide) (by decide)) (g := (mkF m 119 Lb128 [(.ref b6), (.ref b1), (.int (1 : Int32)), (.ref b29)])) rfl (by rw [hml]; rfl) (argsL := [(.ref b29), (.int (1 : Int32)), (.ref b1), (.ref b6)]) (rest := []) (lenOf pds_11 rfl) rfl (by show 2 * 0 + _ ≤ _; exact Nat.le_of_eq rfl) (hb hby at_119) (fun _ _ => ⟨rfl, e117, (by decide : 7 + 0 ≤ _), (by decide : 22 + 0 ≤ _)⟩)
    dsimp only [Pt.U, Pt.locs, Pt.cells, Pt.slots] at X129 l129 y129 z129 st129 hQ129
    subst l129 y129 z129
    obtain ⟨rfl, N129q, K129, r129_0⟩ := hQ129
    have N129 := Fr.app N117 N129q
    have O130 := own_old O116 K129 (own_ngc gg29 own_ng0)
    let Lb131 : Array Slot := #[.val (.int p0), .val (.long p1), .second, .val (.int p2), .val (.ref b1), .val (.ref b6), .val (.ref b19), .val (.ref b29), .val (.int (2 : Int32)), .val (.int (1 : Int32)), .val (.int (1 : Int32)), .val (.int (0 : Int32))]
    have t133 := (own_exa t118 K129)
    obtain ⟨cq132, kq132, q132a, q132b, q132c⟩ := isOf hZ rfl t133
    obtain ⟨_, _, ⟨T132, L132, kk132, nn132⟩, -, X132, ⟨Lc132, hQ132, l132, y132, z132⟩, st132⟩ := X129.virtualBack hx (y := ym14) (z := ym14) hown (mvT hZ (wk89 hw)) (mvT hZ (wk90 hw)) (notFace_of_selects (args := #[]) (mvT hZ (wk92 hw))) (mvT hZ (wk92 hw)) (mvT hZ (wk91 hw)) (by decide) (backOf (W := 0) (rm14_15 l Z a0 hw w hW [] b29 T129.heap n0 O130 r129_0) hZ (wk93 hw) (wk77 hw) (by decide) (by decide)) q132a q132c (g := (mkF m 156 Lb131 [(.ref b29)])) rfl (by rw [hml]; rfl) (Steps.refl _) (argsL := []) (rest := []) (lenOf pds_10 rfl) rfl (by show 2 * 0 + _ ≤ _; exact Nat.le_of_eq rfl) (hb hby at_156) (fun _ _ => ⟨rfl, rfl, (by decide : 7 + 0 ≤ _), (by decide : 22 + 0 ≤ _)⟩)
    dsimp only [Pt.U, Pt.locs, Pt.cells, Pt.slots] at X132 l132 y132 z132 st132 hQ132
    subst l132 y132 z132
    obtain ⟨rfl, N132q, e132⟩ := hQ132
    have N132 := Fr.app N129 N132q
    have t134 := (own_fld (own_fld r31_0 K115 (own_nls (sn9 hw) own_nl0)) K129 (own_nls (sn9 hw) own_nl0))
    obtain ⟨cq135, kq135, q135a, q135b, q135c⟩ := isOf hZ e132 t133
    obtain ⟨_, _, ⟨T135, L135, kk135, nn135⟩, -, X135, ⟨Lc135, hQ135, l135, y135, z135⟩, st135⟩ := X132.virtualBack hx (y := ym16) (z := ym16) hown (mvT hZ (wk105 hw)) (mvT hZ (wk106 hw)) (notFace_of_selects (args := #[]) (mvT hZ (wk108 hw))) (mvT hZ (wk108 hw)) (mvT hZ (wk107 hw)) (by decide) (backOf (W := 0) (rm17_17 l Z a0 hw w hW [] b29 b19 T129.heap n0 O130 t134) hZ (wk109 hw) (wk77 hw) (by decide) (by decide)) q135a q135c (g := (mkF m 166 Lb131 [(.ref b29)])) rfl (by rw [hml]; rfl) (Steps.refl _) (argsL := []) (rest := []) (lenOf pds_12 rfl) rfl (by show 2 * 0 + _ ≤ _; exact Nat.le_of_eq rfl) (hb hby at_166) (fun _ _ => ⟨rfl, e132, (by decide : 7 + 0 ≤ _), (by decide : 22 + 0 ≤ _)⟩)
    dsimp only [Pt.U, Pt.locs, Pt.cells, Pt.slots] at X135 l135 y135 z135 st135 hQ135
    subst l135 y135 z135
    obtain ⟨rfl, N135q, e135⟩ := hQ135
    have N135 := Fr.app N132 N135q
    obtain ⟨fs, hr, hrun, hended, hWm, hsame⟩ := X135.leave (v := some (.int (1 : Int32))) (fun h => by rw [Bd.returns] at h; cases h)
    refine ⟨_, _, pre120 _ ?_, hrun, hended, _, _, rfl, ?_, ⟨_, rfl⟩, hWm, hsame.mono (by decide) (by decide)⟩
    · show Steps p.tables e below (T117.setTop (mkF m 119 Lb128 [(.ref b6), (.ref b1), (.int (1 : Int32)), (.ref b29)])) _
      refine st129 _ ?_
      refine si X129 hx hby at_122 rfl ?_
      refine XS.ifYes X129.here hx rfl (pc0 := 124) (pc' := 141) rfl (hb hby at_124) rfl (by decide) (by decide) (by decide) ?_
      refine si X129 hx hby at_141 rfl ?_
      refine sc X129 hx hby at_143 ?_
      refine XS.icmpYes X129.here hx rfl (pc0 := 144) (pc' := 151) rfl (hb hby at_144) rfl (by decide) (by decide) (by decide) ?_
      show Steps p.tables e below (T129.setTop (mkF m 151 Lb128 [])) _
      refine sc X129 hx hby at_151 ?_
      refine XS.istore X129.here hx rfl (hb hby at_152) rfl (l' := Lb131) rfl ?_
      refine sa X129 hx hby at_154 rfl rfl ?_
      refine st132.trans ?_
      refine si X132 hx hby at_159 rfl ?_
      refine sn X132 hx hby at_161 (by decide) ?_
      refine sa X132 hx hby at_164 rfl rfl ?_
      refine st135.trans ?_
      refine sa X135 hx hby at_169 rfl rfl ?_
      refine Jvm.RoadKit.acmp (g := (mkF m 171 Lb131 [(.ref b19), (.ref b19)])) X135 hx rfl rfl rfl (pc0 := 171) (pc' := 174) (same := true) rfl (hb hby at_171) rfl (decide_eq_true rfl) (by decide) (by decide) ?_
      refine sc X135 hx hby at_174 ?_
      refine sg (pc := 175) (pc' := 179) X135 hx hby at_175 (by decide) (by decide) ?_
      exact retN X135 hx (t := .boolean) Bd.returns (by simp) (hb hby at_179) hr
    · show Q0 n0 _ T135.heap _
      rw [e135]
      exact ⟨rfl, N135⟩
   ·
    rw [hs121] at pre120
    let Lb136 : Array Slot := #[.val (.int p0), .val (.long p1), .second, .val (.int p2), .val (.ref b1), .val (.ref b6), .val (.ref b19), .val (.ref b29), .val (.int (2 : Int32)), .val (.int (2 : Int32)), .val (.int (1 : Int32)), .unset]
    obtain ⟨_, _, ⟨T137, L137, kk137, nn137⟩, -, X137, ⟨Lc137, hQ137, l137, y137, z137⟩, st137⟩ := Jvm.LawKit.callS X117 hx (y := ym15) hown (mvT hZ (wk96 hw)) (mvT hZ (wk97 hw)) (mvT hZ (wk98 hw)) (mvT hZ (wk99 hw)) (by decide) (backOf (W := 0) (rm15_27 l Z a0 hw w hW [] b29 b1 b6 T115.heap n0 O116 t118 r115_0 gg29) hZ (wk99 hw) (wk98 hw) (by decide) (by decide)) (g := (mkF m 119 Lb136 [(.ref b6), (.ref b1), (.int (2 : Int32)), (.ref b29)])) rfl (by rw [hml]; rfl) (argsL := [(.ref b29), (.int (2 : Int32)), (.ref b1), (.ref b6)]) (rest := []) (lenOf pds_11 rfl) rfl (by show 2 * 0 + _ ≤ _; exact Nat.le_of_eq rfl) (hb hby at_119) (fun _ _ => ⟨rfl, e117, (by decide : 7 + 0 ≤ _), (by decide : 22 + 0 ≤ _)⟩)
    dsimp only [Pt.U, Pt.locs, Pt.cells, Pt.slots] at X137 l137 y137 z137 st137 hQ137
    subst l137 y137 z137
    obtain ⟨rfl, N137q, K137, r137_0⟩ := hQ137
    have N137 := Fr.app N117 N137q
    have O138 := own_old O116 K137 (own_ngc gg29 own_ng0)
    let Lb139 : Array Slot := #[.val (.int p0), .val (.long p1), .second, .val (.int p2), .val (.ref b1), .val (.ref b6), .val (.ref b19), .val (.ref b29), .val (.int (2 : Int32)), .val (.int (2 : Int32)), .val (.int (1 : Int32)), .val (.int (1 : Int32))]
    have t141 := (own_exa t118 K137)
    obtain ⟨cq140, kq140, q140a, q140b, q140c⟩ := isOf hZ rfl t141
    obtain ⟨_, _, ⟨T140, L140, kk140, nn140⟩, -, X140, ⟨Lc140, hQ140, l140, y140, z140⟩, st140⟩ := X137.virtualBack hx (y := ym14) (z := ym14) hown (mvT hZ (wk89 hw)) (mvT hZ (wk90 hw)) (notFace_of_selects (args := #[]) (mvT hZ (wk92 hw))) (mvT hZ (wk92 hw)) (mvT hZ (wk91 hw)) (by decide) (backOf (W := 0) (rm14_22 l Z a0 hw w hW [] b29 b1 T137.heap n0 O138 r137_0) hZ (wk93 hw) (wk77 hw) (by decide) (by decide)) q140a q140c (g := (mkF m 156 Lb139 [(.ref b29)])) rfl (by rw [hml]; rfl) (Steps.refl _) (argsL := []) (rest := []) (lenOf pds_10 rfl) rfl (by show 2 * 0 + _ ≤ _; exact Nat.le_of_eq rfl) (hb hby at_156) (fun _ _ => ⟨rfl, rfl, (by decide : 7 + 0 ≤ _), (by decide : 22 + 0 ≤ _)⟩)
    dsimp only [Pt.U, Pt.locs, Pt.cells, Pt.slots] at X140 l140 y140 z140 st140 hQ140
    subst l140 y140 z140
    obtain ⟨rfl, N140q, e140⟩ := hQ140
    have N140 := Fr.app N137 N140q
    have t142 := (own_fld (own_fld r31_0 K115 (own_nls (sn9 hw) own_nl0)) K137 (own_nls (sn9 hw) own_nl0))
    obtain ⟨cq143, kq143, q143a, q143b, q143c⟩ := isOf hZ e140 t141
    obtain ⟨_, _, ⟨T143, L143, kk143, nn143⟩, -, X143, ⟨Lc143, hQ143, l143, y143, z143⟩, st143⟩ := X140.virtualBack hx (y := ym16) (z := ym16) hown (mvT hZ (wk105 hw)) (mvT hZ (wk106 hw)) (notFace_of_selects (args := #[]) (mvT hZ (wk108 hw))) (mvT hZ (wk108 hw)) (mvT hZ (wk107 hw)) (by decide) (backOf (W := 0) (rm17_17 l Z a0 hw w hW [] b29 b19 T137.heap n0 O138 t142) hZ (wk109 hw) (wk77 hw) (by decide) (by decide)) q143a q143c (g := (mkF m 166 Lb139 [(.ref b29)])) rfl (by rw [hml]; rfl) (Steps.refl _) (argsL := []) (rest := []) (lenOf pds_12 rfl) rfl (by show 2 * 0 + _ ≤ _; exact Nat.le_of_eq rfl) (hb hby at_166) (fun _ _ => ⟨rfl, e140, (by decide : 7 + 0 ≤ _), (by decide : 22 + 0 ≤ _)⟩)
    dsimp only [Pt.U, Pt.locs, Pt.cells, Pt.slots] at X143 l143 y143 z143 st143 hQ143
    subst l143 y143 z143
    obtain ⟨rfl, N143q, e143⟩ := hQ143
    have N143 := Fr.app N140 N143q
    obtain ⟨fs, hr, hrun, hended, hWm, hsame⟩ := X143.leave (v := some (.int (1 : Int32))) (fun h => by rw [Bd.returns] at h; cases h)
    refine ⟨_, _, pre120 _ ?_, hrun, hended, _, _, rfl, ?_, ⟨_, rfl⟩, hWm, hsame.mono (by decide) (by decide)⟩
    · show Steps p.tables e below (T117.setTop (mkF m 119 Lb136 [(.ref b6), (.ref b1), (.int (2 : Int32)), (.ref b29)])) _
      refine st137 _ ?_
      refine si X137 hx hby at_122 rfl ?_
      refine XS.ifYes X137.here hx rfl (pc0 := 124) (pc' := 141) rfl (hb hby at_124) rfl (by decide) (by decide) (by decide) ?_
      refine si X137 hx hby at_141 rfl ?_
      refine sc X137 hx hby at_143 ?_
      refine sn X137 hx hby at_144 (by decide) ?_
      show Steps p.tables e below (T137.setTop (mkF m 147 Lb136 [])) _
      refine sc X137 hx hby at_147 ?_
      refine sg (pc := 148) (pc' := 152) X137 hx hby at_148 (by decide) (by decide) ?_
      refine XS.istore X137.here hx rfl (hb hby at_152) rfl (l' := Lb139) rfl ?_
      refine sa X137 hx hby at_154 rfl rfl ?_
      refine st140.trans ?_
      refine si X140 hx hby at_159 rfl ?_
      refine sn X140 hx hby at_161 (by decide) ?_
      refine sa X140 hx hby at_164 rfl rfl ?_
      refine st143.trans ?_
      refine sa X143 hx hby at_169 rfl rfl ?_
      refine Jvm.RoadKit.acmp (g := (mkF m 171 Lb139 [(.ref b19), (.ref b19)])) X143 hx rfl rfl rfl (pc0 := 171) (pc' := 174) (same := true) rfl (hb hby at_171) rfl (decide_eq_true rfl) (by decide) (by decide) ?_
      refine sc X143 hx hby at_174 ?_
      refine sg (pc := 175) (pc' := 179) X143 hx hby at_175 (by decide) (by decide) ?_
      exact retN X143 hx (t := .boolean) Bd.returns (by simp) (hb hby at_179) hr
    · show Q0 n0 _ T143.heap _
      rw [e143]
      exact ⟨rfl, N143⟩
   ·
    rw [hs121] at pre120
    let Lb144 : Array Slot := #[.val (.int p0), .val (.long p1), .second, .val (.int p2), .val (.ref b1), .val (.ref b6), .val (.ref b19), .val (.ref b29), .val (.int (2 : Int32)), .val (.int (3 : Int32)), .val (.int (1 : Int32)), .unset]
    obtain ⟨_, _, ⟨T145, L145, kk145, nn145⟩, -, X145, ⟨Lc145, hQ145, l145, y145, z145⟩, st145⟩ := Jvm.LawKit.callS X117 hx (y := ym15) hown (mvT hZ (wk96 hw)) (mvT hZ (wk97 hw)) (mvT hZ (wk98 hw)) (mvT hZ (wk99 hw)) (by decide) (backOf (W := 0) (rm15_29 l Z a0 hw w hW [] b29 b1 b6 T115.heap n0 O116 t118 r115_0 gg29) hZ (wk99 hw) (wk98 hw) (by decide) (by decide)) (g := (mkF m 119 Lb144 [(.ref b6), (.ref b1), (.int (3 : Int32)), (.ref b29)])) rfl (by rw [hml]; rfl) (argsL := [(.ref b29), (.int (3 : Int32)), (.ref b1), (.ref b6)]) (rest := []) (lenOf pds_11 rfl) rfl (by show 2 * 0 + _ ≤ _; exact Nat.le_of_eq rfl) (hb hby at_119) (fun _ _ => ⟨rfl, e117, (by decide : 7 + 0 ≤ _), (by decide : 22 + 0 ≤ _)⟩)
    dsimp only [Pt.U, Pt.locs, Pt.cells, Pt.slots] at X145 l145 y145 z145 st145 hQ145
    subst l145 y145 z145
    obtain ⟨rfl, N145q, K145, r145_0⟩ := hQ145
    have N145 := Fr.app N117 N145q
    have O146 := own_old O116 K145 (own_ngc gg29 own_ng0)
    let Lb147 : Array Slot := #[.val (.int p0), .val (.long p1), .second, .val (.int p2), .val (.ref b1), .val (.ref b6), .val (.ref b19), .val (.ref b29), .val (.int (2 : Int32)), .val (.int (3 : Int32)), .val (.int (1 : Int32)), .val (.int (1 : Int32))]
    have t149 := (own_exa t118 K145)
    obtain ⟨cq148, kq148, q148a, q148b, q148c⟩ := isOf hZ rfl t149
    obtain ⟨_, _, ⟨T148, L148, kk148, nn148⟩, -, X148, ⟨Lc148, hQ148, l148, y148, z148⟩, st148⟩ := X145.virtualBack hx (y := ym14) (z := ym14) hown (mvT hZ (wk89 hw)) (mvT hZ (wk90 hw)) (notFace_of_selects (args := #[]) (mvT hZ (wk92 hw))) (mvT hZ (wk92 hw)) (mvT hZ (wk91 hw)) (by decide) (backOf (W := 0) (rm14_22 l Z a0 hw w hW [] b29 b6 T145.heap n0 O146 r145_0) hZ (wk93 hw) (wk77 hw) (by decide) (by decide)) q148a q148c (g := (mkF m 156 Lb147 [(.ref b29)])) rfl (by rw [hml]; rfl) (Steps.refl _) (argsL := []) (rest := []) (lenOf pds_10 rfl) rfl (by show 2 * 0 + _ ≤ _; exact Nat.le_of_eq rfl) (hb hby at_156) (fun _ _ => ⟨rfl, rfl, (by decide : 7 + 0 ≤ _), (by decide : 22 + 0 ≤ _)⟩)
    dsimp only [Pt.U, Pt.locs, Pt.cells, Pt.slots] at X148 l148 y148 z148 st148 hQ148
    subst l148 y148 z148
    obtain ⟨rfl, N148q, e148⟩ := hQ148
    have N148 := Fr.app N145 N148q
    have t150 := (own_fld (own_fld r31_0 K115 (own_nls (sn9 hw) own_nl0)) K145 (own_nls (sn9 hw) own_nl0))
    obtain ⟨cq151, kq151, q151a, q151b, q151c⟩ := isOf hZ e148 t149
    obtain ⟨_, _, ⟨T151, L151, kk151, nn151⟩, -, X151, ⟨Lc151, hQ151, l151, y151, z151⟩, st151⟩ := X148.virtualBack hx (y := ym16) (z := ym16) hown (mvT hZ (wk105 hw)) (mvT hZ (wk106 hw)) (notFace_of_selects (args := #[]) (mvT hZ (wk108 hw))) (mvT hZ (wk108 hw)) (mvT hZ (wk107 hw)) (by decide) (backOf (W := 0) (rm17_17 l Z a0 hw w hW [] b29 b19 T145.heap n0 O146 t150) hZ (wk109 hw) (wk77 hw) (by decide) (by decide)) q151a q151c (g := (mkF m 166 Lb147 [(.ref b29)])) rfl (by rw [hml]; rfl) (Steps.refl _) (argsL := []) (rest := []) (lenOf pds_12 rfl) rfl (by show 2 * 0 + _ ≤ _; exact Nat.le_of_eq rfl) (hb hby at_166) (fun _ _ => ⟨rfl, e148, (by decide : 7 + 0 ≤ _), (by decide : 22 + 0 ≤ _)⟩)
    dsimp only [Pt.U, Pt.locs, Pt.cells, Pt.slots] at X151 l151 y151 z151 st151 hQ151
    subst l151 y151 z151
    obtain ⟨rfl, N151q, e151⟩ := hQ151
    have N151 := Fr.app N148 N151q
    obtain ⟨fs, hr, hrun, hended, hWm, hsame⟩ := X151.leave (v := some (.int (1 : Int32))) (fun h => by rw [Bd.returns] at h; cases h)
    refine ⟨_, _, pre120 _ ?_, hrun, hended, _, _, rfl, ?_, ⟨_, rfl⟩, hWm, hsame.mono (by decide) (by decide)⟩
    · show Steps p.tables e below (T117.setTop (mkF m 119 Lb144 [(.ref b6), (.ref b1), (.int (3 : Int32)), (.ref b29)])) _
      refine st145 _ ?_
      refine si X145 hx hby at_122 rfl ?_
      refine XS.ifYes X145.here hx rfl (pc0 := 124) (pc' := 141) rfl (hb hby at_124) rfl (by decide) (by decide) (by decide) ?_
      refine si X145 hx hby at_141 rfl ?_
      refine sc X145 hx hby at_143 ?_
      refine sn X145 hx hby at_144 (by decide) ?_
      show Steps p.tables e below (T145.setTop (mkF m 147 Lb144 [])) _
      refine sc X145 hx hby at_147 ?_
      refine sg (pc := 148) (pc' := 152) X145 hx hby at_148 (by decide) (by decide) ?_
      refine XS.istore X145.here hx rfl (hb hby at_152) rfl (l' := Lb147) rfl ?_
      refine sa X145 hx hby at_154 rfl rfl ?_
      refine st148.trans ?_
      refine si X148 hx hby at_159 rfl ?_
      refine sn X148 hx hby at_161 (by decide) ?_
      refine sa X148 hx hby at_164 rfl rfl ?_
      refine st151.trans ?_
      refine sa X151 hx hby at_169 rfl rfl ?_
      refine Jvm.RoadKit.acmp (g := (mkF m 171 Lb147 [(.ref b19), (.ref b19)])) X151 hx rfl rfl rfl (pc0 := 171) (pc' := 174) (same := true) rfl (hb hby at_171) rfl (decide_eq_true rfl) (by decide) (by decide) ?_
      refine sc X151 hx hby at_174 ?_
      refine sg (pc := 175) (pc' := 179) X151 hx hby at_175 (by decide) (by decide) ?_
      exact retN X151 hx (t := .boolean) Bd.returns (by simp) (hb hby at_179) hr
    · show Q0 n0 _ T151.heap _
      rw [e151]
      exact ⟨rfl, N151⟩
  ·
   rw [hs40] at pre39
   let Lb152 : Array Slot := #[.val (.int p0), .val (.long p1), .second, .val (.int p2), .val (.ref b1), .val (.ref b6), .val (.ref b19), .val (.ref b29), .val (.int (3 : Int32)), .val (.int (((p2.toUInt32 >>> ((2 : Int32) &&& 31).toUInt32).toInt32) &&& (3 : Int32))), .unset, .unset]
   obtain ⟨_, _, ⟨T153, L153, kk153, nn153⟩, -, X153, ⟨Lc153, hQ153, l153, y153, z153⟩, st153⟩ := Jvm.LawKit.callS X37 hx (y := ym15) hown (mvT hZ (wk96 hw)) (mvT hZ (wk97 hw)) (mvT hZ (wk98 hw)) (mvT hZ (wk99 hw)) (by decide) (backOf (W := 0) (rm15_23 l Z a0 hw w hW [] b29 b1 b6 T31.heap n0 O32 t38 t36 gg29) hZ (wk99 hw) (wk98 hw) (by decide) (by decide)) (g := (mkF m 83 Lb152 [(.ref b6), (.ref b1), (.int (3 : Int32)), (.ref b29)])) rfl (by rw [hml]; rfl) (argsL := [(.ref b29), (.int (3 : Int32)), (.ref b1), (.ref b6)]) (rest := []) (lenOf pds_11 rfl) rfl (by show 2 * 0 + _ ≤ _; exact Nat.le_of_eq rfl) (hb hby at_83) (fun _ _ => ⟨rfl, e37, (by decide : 7 + 0 ≤ _), (by decide : 22 + 0 ≤ _)⟩)
   dsimp only [Pt.U, Pt.locs, Pt.cells, Pt.slots] at X153 l153 y153 z153 st153 hQ153
   subst l153 y153 z153
   obtain ⟨rfl, N153q, K153, r153_0⟩ := hQ153
   have N153 := Fr.app N37 N153q
   have O154 := own_old O32 K153 (own_ngc gg29 own_ng0)
   have t156 := (own_exa t38 K153)
   obtain ⟨cq155, kq155, q155a, q155b, q155c⟩ := isOf hZ rfl t156
   obtain ⟨_, _, ⟨T155, L155, kk155, nn155⟩, -, X155, ⟨Lc155, hQ155, l155, y155, z155⟩, st155⟩ := X153.virtualBack hx (y := ym14) (z := ym14) hown (mvT hZ (wk89 hw)) (mvT hZ (wk90 hw)) (notFace_of_selects (args := #[]) (mvT hZ (wk92 hw))) (mvT hZ (wk92 hw)) (mvT hZ (wk91 hw)) (by decide) (backOf (W := 0) (rm14_22 l Z a0 hw w hW [] b29 b6 T153.heap n0 O154 r153_0) hZ (wk93 hw) (wk77 hw) (by decide) (by decide)) q155a q155c (g := (mkF m 88 Lb152 [(.ref b29)])) rfl (by rw [hml]; rfl) (Steps.refl _) (argsL := []) (rest := []) (lenOf pds_10 rfl) rfl (by show 2 * 0 + _ ≤ _; exact Nat.le_of_eq rfl) (hb hby at_88) (fun _ _ => ⟨rfl, rfl, (by decide : 7 + 0 ≤ _), (by decide : 22 + 0 ≤ _)⟩)
   dsimp only [Pt.U, Pt.locs, Pt.cells, Pt.slots] at X155 l155 y155 z155 st155 hQ155
   subst l155 y155 z155
   obtain ⟨rfl, N155q, e155⟩ := hQ155
   have N155 := Fr.app N153 N155q
   let Lb157 : Array Slot := #[.val (.int p0), .val (.long p1), .second, .val (.int p2), .val (.ref b1), .val (.ref b6), .val (.ref b19), .val (.ref b29), .val (.int (3 : Int32)), .val (.int (((p2.toUInt32 >>> ((2 : Int32) &&& 31).toUInt32).toInt32) &&& (3 : Int32))), .val (.int (1 : Int32)), .unset]
   have pre158 : ∀ t, Steps p.tables e below (T155.setTop (mkF m 119 #[.val (.int p0), .val (.long p1), .second, .val (.int p2), .val (.ref b1), .val (.ref b6), .val (.ref b19), .val (.ref b29), .val (.int (3 : Int32)), .val (.int (((p2.toUInt32 >>> ((2 : Int32) &&& 31).toUInt32).toInt32) &&& (3 : Int32))), .val (.int (1 : Int32)), .unset] [(.ref b6), (.ref b1), (.int (((p2.toUInt32 >>> ((2 : Int32) &&& 31).toUInt32).toInt32) &&& (3 : Int32))), (.ref b29)])) t → Steps p.tables e below (s₁.setTop (entryFrame m #[(.int p0), (.long p1), (.int p2)] maxLocals)) t := fun t k => pre39 t (by
    show Steps p.tables e below (T37.setTop (mkF m 83 Lb152 [(.ref b6), (.ref b1), (.int (3 : Int32)), (.ref b29)])) _
    refine st153 _ ?_
    refine sa X153 hx hby at_86 rfl rfl ?_
    refine st155.trans ?_
    refine XS.istore X155.here hx rfl (hb hby at_91) rfl (l' := Lb157) rfl ?_
    refine si X155 hx hby at_93 rfl ?_
    refine si X155 hx hby at_95 rfl ?_
    refine sc X155 hx hby at_97 ?_
    refine sn X155 hx hby at_98 (by decide) ?_
    show Steps p.tables e below (T155.setTop (mkF m 101 Lb157 [(.int (1 : Int32))])) _
    refine sc X155 hx hby at_101 ?_
    refine sg (pc := 102) (pc' := 106) X155 hx hby at_102 (by decide) (by decide) ?_
    refine XS.icmpYes X155.here hx rfl (pc0 := 106) (pc' := 111) rfl (hb hby at_106) rfl (by decide) (by decide) (by decide) ?_
    refine sa X155 hx hby at_111 rfl rfl ?_
    refine si X155 hx hby at_113 rfl ?_
    show Steps p.tables e below (T155.setTop (mkF m 115 Lb157 [(.int (((p2.toUInt32 >>> ((2 : Int32) &&& 31).toUInt32).toInt32) &&& (3 : Int32))), (.ref b29)])) _
    refine sa X155 hx hby at_115 rfl rfl ?_
    refine sa X155 hx hby at_117 rfl rfl ?_
    exact k)
   rcases (own_and3 ((p2.toUInt32 >>> ((2 : Int32) &&& 31).toUInt32).toInt32)) with hs159 | hs159 | hs159 | hs159
   ·
    rw [hs159] at pre158
    let Lb160 : Array Slot := #[.val (.int p0), .val (.long p1), .second, .val (.int p2), .val (.ref b1), .val (.ref b6), .val (.ref b19), .val (.ref b29), .val (.int (3 : Int32)), .val (.int (0 : Int32)), .val (.int (1 : Int32)), .unset]
    obtain ⟨_, _, ⟨T161, L161, kk161, nn161⟩, -, X161, ⟨Lc161, hQ161, l161, y161, z161⟩, st161⟩ := Jvm.LawKit.callS X155 hx (y := ym15) hown (mvT hZ (wk96 hw)) (mvT hZ (wk97 hw)) (mvT hZ (wk98 hw)) (mvT hZ (wk99 hw)) (by decide) (backOf (W := 0) (rm15_16 l Z a0 hw w hW [] b29 b1 b6 T153.heap n0 O154 ) hZ (wk99 hw) (wk98 hw) (by decide) (by decide)) (g := (mkF m 119 Lb160 [(.ref b6), (.ref b1), (.int (0 : Int32)), (.ref b29)])) rfl (by rw [hml]; rfl) (argsL := [(.ref b29), (.int (0 : Int32)), (.ref b1), (.ref b6)]) (rest := []) (lenOf pds_11 rfl) rfl (by show 2 * 0 + _ ≤ _; exact Nat.le_of_eq rfl) (hb hby at_119) (fun _ _ => ⟨rfl, e155, (by decide : 7 + 0 ≤ _), (by decide : 22 + 0 ≤ _)⟩)
    dsimp only [Pt.U, Pt.locs, Pt.cells, Pt.slots] at X161 l161 y161 z161 st161 hQ161
    subst l161 y161 z161
    obtain ⟨rfl, N161q, e161⟩ := hQ161
    have N161 := Fr.app N155 N161q
    let Lb162 : Array Slot := #[.val (.int p0), .val (.long p1), .second, .val (.int p2), .val (.ref b1), .val (.ref b6), .val (.ref b19), .val (.ref b29), .val (.int (3 : Int32)), .val (.int (0 : Int32)), .val (.int (1 : Int32)), .val (.int (1 : Int32))]
    obtain ⟨cq163, kq163, q163a, q163b, q163c⟩ := isOf hZ e161 t156
    obtain ⟨_, _, ⟨T163, L163, kk163, nn163⟩, -, X163, ⟨Lc163, hQ163, l163, y163, z163⟩, st163⟩ := X161.virtualBack hx (y := ym14) (z := ym14) hown (mvT hZ (wk89 hw)) (mvT hZ (wk90 hw)) (notFace_of_selects (args := #[]) (mvT hZ (wk92 hw))) (mvT hZ (wk92 hw)) (mvT hZ (wk91 hw)) (by decide) (backOf (W := 0) (rm14_22 l Z a0 hw w hW [] b29 b6 T153.heap n0 O154 r153_0) hZ (wk93 hw) (wk77 hw) (by decide) (by decide)) q163a q163c (g := (mkF m 156 Lb162 [(.ref b29)])) rfl (by rw [hml]; rfl) (Steps.refl _) (argsL := []) (rest := []) (lenOf pds_10 rfl) rfl (by show 2 * 0 + _ ≤ _; exact Nat.le_of_eq rfl) (hb hby at_156) (fun _ _ => ⟨rfl, e161, (by decide : 7 + 0 ≤ _), (by decide : 22 + 0 ≤ _)⟩)
    dsimp only [Pt.U, Pt.locs, Pt.cells, Pt.slots] at X163 l163 y163 z163 st163 hQ163
    subst l163 y163 z163
    obtain ⟨rfl, N163q, e163⟩ := hQ163
    have N163 := Fr.app N161 N163q
    have t164 := (own_fld r31_0 K153 (own_nls (sn9 hw) own_nl0))
    obtain ⟨cq165, kq165, q165a, q165b, q165c⟩ := isOf hZ e163 t156
    obtain ⟨_, _, ⟨T165, L165, kk165, nn165⟩, -, X165, ⟨Lc165, hQ165, l165, y165, z165⟩, st165⟩ := X163.virtualBack hx (y := ym16) (z := ym16) hown (mvT hZ (wk105 hw)) (mvT hZ (wk106 hw)) (notFace_of_selects (args := #[]) (mvT hZ (wk108 hw))) (mvT hZ (wk108 hw)) (mvT hZ (wk107 hw)) (by decide) (backOf (W := 0) (rm17_17 l Z a0 hw w hW [] b29 b19 T153.heap n0 O154 t164) hZ (wk109 hw) (wk77 hw) (by decide) (by decide)) q165a q165c (g := (mkF m 166 Lb162 [(.ref b29)])) rfl (by rw [hml]; rfl) (Steps.refl _) (argsL := []) (rest := []) (lenOf pds_12 rfl) rfl (by show 2 * 0 + _ ≤ _; exact Nat.le_of_eq rfl) (hb hby at_166) (fun _ _ => ⟨rfl, e163, (by decide : 7 + 0 ≤ _), (by decide : 22 + 0 ≤ _)⟩)
    dsimp only [Pt.U, Pt.locs, Pt.cells, Pt.slots] at X165 l165 y165 z165 st165 hQ165
    subst l165 y165 z165
    obtain ⟨rfl, N165q, e165⟩ := hQ165
    have N165 := Fr.app N163 N165q
    obtain ⟨fs, hr, hrun, hended, hWm, hsame⟩ := X165.leave (v := some (.int (1 : Int32))) (fun h => by rw [Bd.returns] at h; cases h)
    refine ⟨_, _, pre158 _ ?_, hrun, hended, _, _, rfl, ?_, ⟨_, rfl⟩, hWm, hsame.mono (by decide) (by decide)⟩
    · show Steps p.tables e below (T155.setTop (mkF m 119 Lb160 [(.ref b6), (.ref b1), (.int (0 : Int32)), (.ref b29)])) _
      refine st161 _ ?_
      refine si X161 hx hby at_122 rfl ?_
      refine sN X161 hx hby at_124 (by decide) ?_
      refine si X161 hx hby at_127 rfl ?_
      refine sc X161 hx hby at_129 ?_
      refine sn X161 hx hby at_130 (by decide) ?_
      show Steps p.tables e below (T161.setTop (mkF m 133 Lb160 [])) _
      refine sc X161 hx hby at_133 ?_
      refine sg (pc := 134) (pc' := 152) X161 hx hby at_134 (by decide) (by decide) ?_
      refine XS.istore X161.here hx rfl (hb hby at_152) rfl (l' := Lb162) rfl ?_
      refine sa X161 hx hby at_154 rfl rfl ?_
      refine st163.trans ?_
      refine si X163 hx hby at_159 rfl ?_
      refine sn X163 hx hby at_161 (by decide) ?_
      refine sa X163 hx hby at_164 rfl rfl ?_
      refine st165.trans ?_
      refine sa X165 hx hby at_169 rfl rfl ?_
      refine Jvm.RoadKit.acmp (g := (mkF m 171 Lb162 [(.ref b19), (.ref b19)])) X165 hx rfl rfl rfl (pc0 := 171) (pc' := 174) (same := true) rfl (hb hby at_171) rfl (decide_eq_true rfl) (by decide) (by decide) ?_
      refine sc X165 hx hby at_174 ?_
      refine sg (pc := 175) (pc' := 179) X165 hx hby at_175 (by decide) (by decide) ?_
      exact retN X165 hx (t := .boolean) Bd.returns (by simp) (hb hby at_179) hr
    · show Q0 n0 _ T165.heap _
      rw [e165]
      exact ⟨rfl, N165⟩
   ·
    rw [hs159] at pre158
    let Lb166 : Array Slot := #[.val (.int p0), .val (.long p1), .second, .val (.int p2), .val (.ref b1), .val (.ref b6), .val (.ref b19), .val (.ref b29), .val (.int (3 : Int32)), .val (.int (1 : Int32)), .val (.int (1 : Int32)), .unset]
    obtain ⟨_, _, ⟨T167, L167, kk167, nn167⟩, -, X167, ⟨Lc167, hQ167, l167, y167, z167⟩, st167⟩ := Jvm.LawKit.callS X155 hx (y := ym15) hown (mvT hZ (wk96 hw)) (mvT hZ (wk97 hw)) (mvT hZ (wk98 hw)) (mvT hZ (wk99 hw)) (by decide) (backOf (W := 0) (rm15_30 l Z a0 hw w hW [] b29 b1 b6 T153.heap n0 O154 t156 r153_0 gg29) hZ (wk99 hw) (wk98 hw) (by decide) (by decide)) (g := (mkF m 119 Lb166 [(.ref b6), (.ref b1), (.int (1 : Int32)), (.ref b29)])) rfl (by rw [hml]; rfl) (argsL := [(.ref b29), (.int (1 : Int32)), (.ref b1), (.ref b6)]) (rest := []) (lenOf pds_11 rfl) rfl (by show 2 * 0 + _ ≤ _; exact Nat.le_of_eq rfl) (hb hby at_119) (fun _ _ => ⟨rfl, e155, (by decide : 7 + 0 ≤ _), (by decide : 22 + 0 ≤ _)⟩)
    dsimp only [Pt.U, Pt.locs, Pt.cells, Pt.slots] at X167 l167 y167 z167 st167 hQ167
    subst l167 y167 z167
    obtain ⟨rfl, N167q, K167, r167_0⟩ := hQ167
    have N167 := Fr.app N155 N167q
    have O168 := own_old O154 K167 (own_ngc gg29 own_ng0)
    let Lb169 : Array Slot := #[.val (.int p0), .val (.long p1), .second, .val (.int p2), .val (.ref b1), .val (.ref b6), .val (.ref b19), .val (.ref b29), .val (.int (3 : Int32)), .val (.int (1 : Int32)), .val (.int (1 : Int32)), .val (.int (0 : Int32))]
    have t171 := (own_exa t156 K167)
    obtain ⟨cq170, kq170, q170a, q170b, q170c⟩ := isOf hZ rfl t171
    obtain ⟨_, _, ⟨T170, L170, kk170, nn170⟩, -, X170, ⟨Lc170, hQ170, l170, y170, z170⟩, st170⟩ := X167.virtualBack hx (y := ym14) (z := ym14) hown (mvT hZ (wk89 hw)) (mvT hZ (wk90 hw)) (notFace_of_selects (args := #[]) (mvT hZ (wk92 hw))) (mvT hZ (wk92 hw)) (mvT hZ (wk91 hw)) (by decide) (backOf (W := 0) (rm14_15 l Z a0 hw w hW [] b29 T167.heap n0 O168 r167_0) hZ (wk93 hw) (wk77 hw) (by decide) (by decide)) q170a q170c (g := (mkF m 156 Lb169 [(.ref b29)])) rfl (by rw [hml]; rfl) (Steps.refl _) (argsL := []) (rest := []) (lenOf pds_10 rfl) rfl (by show 2 * 0 + _ ≤ _; exact Nat.le_of_eq rfl) (hb hby at_156) (fun _ _ => ⟨rfl, rfl, (by decide : 7 + 0 ≤ _), (by decide : 22 + 0 ≤ _)⟩)
    dsimp only [Pt.U, Pt.locs, Pt.cells, Pt.slots] at X170 l170 y170 z170 st170 hQ170
    subst l170 y170 z170
    obtain ⟨rfl, N170q, e170⟩ := hQ170
    have N170 := Fr.app N167 N170q
    have t172 := (own_fld (own_fld r31_0 K153 (own_nls (sn9 hw) own_nl0)) K167 (own_nls (sn9 hw) own_nl0))
    obtain ⟨cq173, kq173, q173a, q173b, q173c⟩ := isOf hZ e170 t171
    obtain ⟨_, _, ⟨T173, L173, kk173, nn173⟩, -, X173, ⟨Lc173, hQ173, l173, y173, z173⟩, st173⟩ := X170.virtualBack hx (y := ym16) (z := ym16) hown (mvT hZ (wk105 hw)) (mvT hZ (wk106 hw)) (notFace_of_selects (args := #[]) (mvT hZ (wk108 hw))) (mvT hZ (wk108 hw)) (mvT hZ (wk107 hw)) (by decide) (backOf (W := 0) (rm17_17 l Z a0 hw w hW [] b29 b19 T167.heap n0 O168 t172) hZ (wk109 hw) (wk77 hw) (by decide) (by decide)) q173a q173c (g := (mkF m 166 Lb169 [(.ref b29)])) rfl (by rw [hml]; rfl) (Steps.refl _) (argsL := []) (rest := []) (lenOf pds_12 rfl) rfl (by show 2 * 0 + _ ≤ _; exact Nat.le_of_eq rfl) (hb hby at_166) (fun _ _ => ⟨rfl, e170, (by decide : 7 + 0 ≤ _), (by decide : 22 + 0 ≤ _)⟩)
    dsimp only [Pt.U, Pt.locs, Pt.cells, Pt.slots] at X173 l173 y173 z173 st173 hQ173
    subst l173 y173 z173
    obtain ⟨rfl, N173q, e173⟩ := hQ173
    have N173 := Fr.app N170 N173q
    obtain ⟨fs, hr, hrun, hended, hWm, hsame⟩ := X173.leave (v := some (.int (1 : Int32))) (fun h => by rw [Bd.returns] at h; cases h)
    refine ⟨_, _, pre158 _ ?_, hrun, hended, _, _, rfl, ?_, ⟨_, rfl⟩, hWm, hsame.mono (by decide) (by decide)⟩
    · show Steps p.tables e below (T155.setTop (mkF m 119 Lb166 [(.ref b6), (.ref b1), (.int (1 : Int32)), (.ref b29)])) _
      refine st167 _ ?_
      refine si X167 hx hby at_122 rfl ?_
      refine XS.ifYes X167.here hx rfl (pc0 := 124) (pc' := 141) rfl (hb hby at_124) rfl (by decide) (by decide) (by decide) ?_
      refine si X167 hx hby at_141 rfl ?_
      refine sc X167 hx hby at_143 ?_
      refine XS.icmpYes X167.here hx rfl (pc0 := 144) (pc' := 151) rfl (hb hby at_144) rfl (by decide) (by decide) (by decide) ?_
      show Steps p.tables e below (T167.setTop (mkF m 151 Lb166 [])) _
      refine sc X167 hx hby at_151 ?_
      refine XS.istore X167.here hx rfl (hb hby at_152) rfl (l' := Lb169) rfl ?_
      refine sa X167 hx hby at_154 rfl rfl ?_
      refine st170.trans ?_
      refine si X170 hx hby at_159 rfl ?_
      refine sn X170 hx hby at_161 (by decide) ?_
      refine sa X170 hx hby at_164 rfl rfl ?_
      refine st173.trans ?_
      refine sa X173 hx hby at_169 rfl rfl ?_
      refine Jvm.RoadKit.acmp (g := (mkF m 171 Lb169 [(.ref b19), (.ref b19)])) X173 hx rfl rfl rfl (pc0 := 171) (pc' := 174) (same := true) rfl (hb hby at_171) rfl (decide_eq_true rfl) (by decide) (by decide) ?_
      refine sc X173 hx hby at_174 ?_
      refine sg (pc := 175) (pc' := 179) X173 hx hby at_175 (by decide) (by decide) ?_
      exact retN X173 hx (t := .boolean) Bd.returns (by simp) (hb hby at_179) hr
    · show Q0 n0 _ T173.heap _
      rw [e173]
      exact ⟨rfl, N173⟩
   ·
    rw [hs159] at pre158
    let Lb174 : Array Slot := #[.val (.int p0), .val (.long p1), .second, .val (.int p2), .val (.ref b1), .val (.ref b6), .val (.ref b19), .val (.ref b29), .val (.int (3 : Int32)), .val (.int (2 : Int32)), .val (.int (1 : Int32)), .unset]
    obtain ⟨_, _, ⟨T175, L175, kk175, nn175⟩, -, X175, ⟨Lc175, hQ175, l175, y175, z175⟩, st175⟩ := Jvm.LawKit.callS X155 hx (y := ym15) hown (mvT hZ (wk96 hw)) (mvT hZ (wk97 hw)) (mvT hZ (wk98 hw)) (mvT hZ (wk99 hw)) (by decide) (backOf (W := 0) (rm15_31 l Z a0 hw w hW [] b29 b1 b6 T153.heap n0 O154 t156 r153_0 gg29) hZ (wk99 hw) (wk98 hw) (by decide) (by decide)) (g := (mkF m 119 Lb174 [(.ref b6), (.ref b1), (.int (2 : Int32)), (.ref b29)])) rfl (by rw [hml]; rfl) (argsL := [(.ref b29), (.int (2 : Int32)), (.ref b1), (.ref b6)]) (rest := []) (lenOf pds_11 rfl) rfl (by show 2 * 0 + _ ≤ _; exact Nat.le_of_eq rfl) (hb hby at_119) (fun _ _ => ⟨rfl, e155, (by decide : 7 + 0 ≤ _), (by decide : 22 + 0 ≤ _)⟩)
    dsimp only [Pt.U, Pt.locs, Pt.cells, Pt.slots] at X175 l175 y175 z175 st175 hQ175
    subst l175 y175 z175
    obtain ⟨rfl, N175q, K175, r175_0⟩ := hQ175
    have N175 := Fr.app N155 N175q
    have O176 := own_old O154 K175 (own_ngc gg29 own_ng0)
    let Lb177 : Array Slot := #[.val (.int p0), .val (.long p1), .second, .val (.int p2), .val (.ref b1), .val (.ref b6), .val (.ref b19), .val (.ref b29), .val (.int (3 : Int32)), .val (.int (2 : Int32)), .val (.int (1 : Int32)), .val (.int (1 : Int32))]
    have t179 := (own_exa t156 K175)
    obtain ⟨cq178, kq178, q178a, q178b, q178c⟩ := isOf hZ rfl t179
    obtain ⟨_, _, ⟨T178, L178, kk178, nn178⟩, -, X178, ⟨Lc178, hQ178, l178, y178, z178⟩, st178⟩ := X175.virtualBack hx (y := ym14) (z := ym14) hown (mvT hZ (wk89 hw)) (mvT hZ (wk90 hw)) (notFace_of_selects (args := #[]) (mvT hZ (wk92 hw))) (mvT hZ (wk92 hw)) (mvT hZ (wk91 hw)) (by decide) (backOf (W := 0) (rm14_22 l Z a0 hw w hW [] b29 b1 T175.heap n0 O176 r175_0) hZ (wk93 hw) (wk77 hw) (by decide) (by decide)) q178a q178c (g := (mkF m 156 Lb177 [(.ref b29)])) rfl (by rw [hml]; rfl) (Steps.refl _) (argsL := []) (rest := []) (lenOf pds_10 rfl) rfl (by show 2 * 0 + _ ≤ _; exact Nat.le_of_eq rfl) (hb hby at_156) (fun _ _ => ⟨rfl, rfl, (by decide : 7 + 0 ≤ _), (by decide : 22 + 0 ≤ _)⟩)
    dsimp only [Pt.U, Pt.locs, Pt.cells, Pt.slots] at X178 l178 y178 z178 st178 hQ178
    subst l178 y178 z178
    obtain ⟨rfl, N178q, e178⟩ := hQ178
    have N178 := Fr.app N175 N178q
    have t180 := (own_fld (own_fld r31_0 K153 (own_nls (sn9 hw) own_nl0)) K175 (own_nls (sn9 hw) own_nl0))
    obtain ⟨cq181, kq181, q181a, q181b, q181c⟩ := isOf hZ e178 t179
    obtain ⟨_, _, ⟨T181, L181, kk181, nn181⟩, -, X181, ⟨Lc181, hQ181, l181, y181, z181⟩, st181⟩ := X178.virtualBack hx (y := ym16) (z := ym16) hown (mvT hZ (wk105 hw)) (mvT hZ (wk106 hw)) (notFace_of_selects (args := #[]) (mvT hZ (wk108 hw))) (mvT hZ (wk108 hw)) (mvT hZ (wk107 hw)) (by decide) (backOf (W := 0) (rm17_17 l Z a0 hw w hW [] b29 b19 T175.heap n0 O176 t180) hZ (wk109 hw) (wk77 hw) (by decide) (by decide)) q181a q181c (g := (mkF m 166 Lb177 [(.ref b29)])) rfl (by rw [hml]; rfl) (Steps.refl _) (argsL := []) (rest := []) (lenOf pds_12 rfl) rfl (by show 2 * 0 + _ ≤ _; exact Nat.le_of_eq rfl) (hb hby at_166) (fun _ _ => ⟨rfl, e178, (by decide : 7 + 0 ≤ _), (by decide : 22 + 0 ≤ _)⟩)
    dsimp only [Pt.U, Pt.locs, Pt.cells, Pt.slots] at X181 l181 y181 z181 st181 hQ181
    subst l181 y181 z181
    obtain ⟨rfl, N181q, e181⟩ := hQ181
    have N181 := Fr.app N178 N181q
    obtain ⟨fs, hr, hrun, hended, hWm, hsame⟩ := X181.leave (v := some (.int (1 : Int32))) (fun h => by rw [Bd.returns] at h; cases h)
    refine ⟨_, _, pre158 _ ?_, hrun, hended, _, _, rfl, ?_, ⟨_, rfl⟩, hWm, hsame.mono (by decide) (by decide)⟩
    · show Steps p.tables e below (T155.setTop (mkF m 119 Lb174 [(.ref b6), (.ref b1), (.int (2 : Int32)), (.ref b29)])) _
      refine st175 _ ?_
      refine si X175 hx hby at_122 rfl ?_
      refine XS.ifYes X175.here hx rfl (pc0 := 124) (pc' := 141) rfl (hb hby at_124) rfl (by decide) (by decide) (by decide) ?_
      refine si X175 hx hby at_141 rfl ?_
      refine sc X175 hx hby at_143 ?_
      refine sn X175 hx hby at_144 (by decide) ?_
      show Steps p.tables e below (T175.setTop (mkF m 147 Lb174 [])) _
      refine sc X175 hx hby at_147 ?_
      refine sg (pc := 148) (pc' := 152) X175 hx hby at_148 (by decide) (by decide) ?_
      refine XS.istore X175.here hx rfl (hb hby at_152) rfl (l' := Lb177) rfl ?_
      refine sa X175 hx hby at_154 rfl rfl ?_
      refine st178.trans ?_
      refine si X178 hx hby at_159 rfl ?_
      refine sn X178 hx hby at_161 (by decide) ?_
      refine sa X178 hx hby at_164 rfl rfl ?_
      refine st181.trans ?_
      refine sa X181 hx hby at_169 rfl rfl ?_
      refine Jvm.RoadKit.acmp (g := (mkF m 171 Lb177 [(.ref b19), (.ref b19)])) X181 hx rfl rfl rfl (pc0 := 171) (pc' := 174) (same := true) rfl (hb hby at_171) rfl (decide_eq_true rfl) (by decide) (by decide) ?_
      refine sc X181 hx hby at_174 ?_
      refine sg (pc := 175) (pc' := 179) X181 hx hby at_175 (by decide) (by decide) ?_
      exact retN X181 hx (t := .boolean) Bd.returns (by simp) (hb hby at_179) hr
    · show Q0 n0 _ T181.heap _
      rw [e181]
      exact ⟨rfl, N181⟩
   ·
    rw [hs159] at pre158
    let Lb182 : Array Slot := #[.val (.int p0), .val (.long p1), .second, .val (.int p2), .val (.ref b1), .val (.ref b6), .val (.ref b19), .val (.ref b29), .val (.int (3 : Int32)), .val (.int (3 : Int32)), .val (.int (1 : Int32)), .unset]
    obtain ⟨_, _, ⟨T183, L183, kk183, nn183⟩, -, X183, ⟨Lc183, hQ183, l183, y183, z183⟩, st183⟩ := Jvm.LawKit.callS X155 hx (y := ym15) hown (mvT hZ (wk96 hw)) (mvT hZ (wk97 hw)) (mvT hZ (wk98 hw)) (mvT hZ (wk99 hw)) (by decide) (backOf (W := 0) (rm15_32 l Z a0 hw w hW [] b29 b1 b6 T153.heap n0 O154 t156 r153_0 gg29) hZ (wk99 hw) (wk98 hw) (by decide) (by decide)) (g := (mkF m 119 Lb182 [(.ref b6), (.ref b1), (.int (3 : Int32)), (.ref b29)])) rfl (by rw [hml]; rfl) (argsL := [(.ref b29), (.int (3 : Int32)), (.ref b1), (.ref b6)]) (rest := []) (lenOf pds_11 rfl) rfl (by show 2 * 0 + _ ≤ _; exact Nat.le_of_eq rfl) (hb hby at_119) (fun _ _ => ⟨rfl, e155, (by decide : 7 + 0 ≤ _), (by decide : 22 + 0 ≤ _)⟩)
    dsimp only [Pt.U, Pt.locs, Pt.cells, Pt.slots] at X183 l183 y183 z183 st183 hQ183
    subst l183 y183 z183
    obtain ⟨rfl, N183q, K183, r183_0⟩ := hQ183
    have N183 := Fr.app N155 N183q
    have O184 := own_old O154 K183 (own_ngc gg29 own_ng0)
    let Lb185 : Array Slot := #[.val (.int p0), .val (.long p1), .second, .val (.int p2), .val (.ref b1), .val (.ref b6), .val (.ref b19), .val (.ref b29), .val (.int (3 : Int32)), .val (.int (3 : Int32)), .val (.int (1 : Int32)), .val (.int (1 : Int32))]
    have t187 := (own_exa t156 K183)
    obtain ⟨cq186, kq186, q186a, q186b, q186c⟩ := isOf hZ rfl t187
    obtain ⟨_, _, ⟨T186, L186, kk186, nn186⟩, -, X186, ⟨Lc186, hQ186, l186, y186, z186⟩, st186⟩ := X183.virtualBack hx (y := ym14) (z := ym14) hown (mvT hZ (wk89 hw)) (mvT hZ (wk90 hw)) (notFace_of_selects (args := #[]) (mvT hZ (wk92 hw))) (mvT hZ (wk92 hw)) (mvT hZ (wk91 hw)) (by decide) (backOf (W := 0) (rm14_22 l Z a0 hw w hW [] b29 b6 T183.heap n0 O184 r183_0) hZ (wk93 hw) (wk77 hw) (by decide) (by decide)) q186a q186c (g := (mkF m 156 Lb185 [(.ref b29)])) rfl (by rw [hml]; rfl) (Steps.refl _) (argsL := []) (rest := []) (lenOf pds_10 rfl) rfl (by show 2 * 0 + _ ≤ _; exact Nat.le_of_eq rfl) (hb hby at_156) (fun _ _ => ⟨rfl, rfl, (by decide : 7 + 0 ≤ _), (by decide : 22 + 0 ≤ _)⟩)
    dsimp only [Pt.U, Pt.locs, Pt.cells, Pt.slots] at X186 l186 y186 z186 st186 hQ186
    subst l186 y186 z186
    obtain ⟨rfl, N186q, e186⟩ := hQ186
    have N186 := Fr.app N183 N186q
    have t188 := (own_fld (own_fld r31_0 K153 (own_nls (sn9 hw) own_nl0)) K183 (own_nls (sn9 hw) own_nl0))
    obtain ⟨cq189, kq189, q189a, q189b, q189c⟩ := isOf hZ e186 t187
    obtain ⟨_, _, ⟨T189, L189, kk189, nn189⟩, -, X189, ⟨Lc189, hQ189, l189, y189, z189⟩, st189⟩ := X186.virtualBack hx (y := ym16) (z := ym16) hown (mvT hZ (wk105 hw)) (mvT hZ (wk106 hw)) (notFace_of_selects (args := #[]) (mvT hZ (wk108 hw))) (mvT hZ (wk108 hw)) (mvT hZ (wk107 hw)) (by decide) (backOf (W := 0) (rm17_17 l Z a0 hw w hW [] b29 b19 T183.heap n0 O184 t188) hZ (wk109 hw) (wk77 hw) (by decide) (by decide)) q189a q189c (g := (mkF m 166 Lb185 [(.ref b29)])) rfl (by rw [hml]; rfl) (Steps.refl _) (argsL := []) (rest := []) (lenOf pds_12 rfl) rfl (by show 2 * 0 + _ ≤ _; exact Nat.le_of_eq rfl) (hb hby at_166) (fun _ _ => ⟨rfl, e186, (by decide : 7 + 0 ≤ _), (by decide : 22 + 0 ≤ _)⟩)
    dsimp only [Pt.U, Pt.locs, Pt.cells, Pt.slots] at X189 l189 y189 z189 st189 hQ189
    subst l189 y189 z189
    obtain ⟨rfl, N189q, e189⟩ := hQ189
    have N189 := Fr.app N186 N189q
    obtain ⟨fs, hr, hrun, hended, hWm, hsame⟩ := X189.leave (v := some (.int (1 : Int32))) (fun h => by rw [Bd.returns] at h; cases h)
    refine ⟨_, _, pre158 _ ?_, hrun, hended, _, _, rfl, ?_, ⟨_, rfl⟩, hWm, hsame.mono (by decide) (by decide)⟩
    · show Steps p.tables e below (T155.setTop (mkF m 119 Lb182 [(.ref b6), (.ref b1), (.int (3 : Int32)), (.ref b29)])) _
      refine st183 _ ?_
      refine si X183 hx hby at_122 rfl ?_
      refine XS.ifYes X183.here hx rfl (pc0 := 124) (pc' := 141) rfl (hb hby at_124) rfl (by decide) (by decide) (by decide) ?_
      refine si X183 hx hby at_141 rfl ?_
      refine sc X183 hx hby at_143 ?_
      refine sn X183 hx hby at_144 (by decide) ?_
      show Steps p.tables e below (T183.setTop (mkF m 147 Lb182 [])) _
      refine sc X183 hx hby at_147 ?_
      refine sg (pc := 148) (pc' := 152) X183 hx hby at_148 (by decide) (by decide) ?_
      refine XS.istore X183.here hx rfl (hb hby at_152) rfl (l' := Lb185) rfl ?_
      refine sa X183 hx hby at_154 rfl rfl ?_
      refine st186.trans ?_
      refine si X186 hx hby at_159 rfl ?_
      refine sn X186 hx hby at_161 (by decide) ?_
      refine sa X186 hx hby at_164 rfl rfl ?_
      refine st189.trans ?_
      refine sa X189 hx hby at_169 rfl rfl ?_
      refine Jvm.RoadKit.acmp (g := (mkF m 171 Lb185 [(.ref b19), (.ref b19)])) X189 hx rfl rfl rfl (pc0 := 171) (pc' := 174) (same := true) rfl (hb hby at_171) rfl (decide_eq_true rfl) (by decide) (by decide) ?_
      refine sc X189 hx hby at_174 ?_
      refine sg (pc := 175) (pc' := 179) X189 hx hby at_175 (by decide) (by decide) ?_
      exact retN X189 hx (t := .boolean) Bd.returns (by simp) (hb hby at_179) hr
    · show Q0 n0 _ T189.heap _
      rw [e189]
      exact ⟨rfl, N189⟩
set_option maxRecDepth 65536 in
set_option maxHeartbeats 400000000 in
theorem comes_1 {Post : Tables → Env → Array Value → State → Outcome → State → Prop} (hpost : ∀ tb e args s v u, (limb_1_1.after args s (.returned v) u = true ∧ limb_1_2.after args s (.returned v) u = true ∧ True) → FrameEnd s (.returned v) u (Jvm.fieldLocs frame_1_writes args s ++ Jvm.arrayLocs frame_1_arrays args s ++ Jvm.staticLocs frame_1_statics s) 24 128 → Post tb e args s (.returned v) u) :
    ArmFor flags0 classFile x code maxLocals ret World_1 tables_1 room_1 Calls_1 rest_1 Pre_1 Post := by
  intro l hfl _ _ p e ha hc hk s m args below hf hA hF happ hP
  obtain ⟨hcalls, hrest, hpre⟩ := hP
  obtain ⟨-, -, -, hnamed, -, -, -, hat⟩ := (Spec.applies_iff hf).mp happ
  obtain ⟨hg, hn⟩ := and_e (Cond.before_iff.mp (show (Jvm.Cond.and given_1 narrow_1).before args s = true from hpre))
  obtain ⟨ga4, gb4⟩ := and_e hg
  obtain ⟨ga5, gb5⟩ := and_e gb4
  obtain ⟨ga6, gb6⟩ := and_e gb5
  obtain ⟨v0, v1, v2, rfl⟩ : ∃ v0 v1 v2 : Value, args = #[v0, v1, v2] := by
    have hs : args.size = 3 := by simpa [Cond.value, given_1] using ga4
    obtain ⟨L⟩ := args
    match L, hs with
    | [v0, v1, v2], _ => exact ⟨v0, v1, v2, rfl⟩
  have hw := fun d (hd : d ∈ tables_1) => atoms_spec (ws := Jvm.Cond.code x code maxLocals ret :: tables_1) hat d (List.mem_cons_of_mem _ hd)
  have hfit : Fit s := fun {y c} hc i hi => by
    obtain ⟨ha, rfl⟩ := Array.getElem?_eq_some_iff.mp hc
    have q := List.all_eq_true.mp ((Array.all_eq_true_iff_forall_mem.mp hF) _ (Array.getElem_mem ha)) i (List.mem_range.mpr hi)
    simpa [Array.getElem?_eq_getElem hi] using q
  obtain ⟨hsets, hown0⟩ := atoms_of _ (rest_1_c_eq ▸ (show rest_1_c.before _ s = true from hrest))
  obtain ⟨i0, ei0⟩ := is_v ga5
  obtain rfl : v0 = (.int i0) := Option.some.inj ei0
  obtain ⟨i1, ei1⟩ := isL_v ga6
  obtain rfl : v1 = (.long i1) := Option.some.inj ei1
  obtain ⟨i2, ei2⟩ := is_v gb6
  obtain rfl : v2 = (.int i2) := Option.some.inj ei2
  obtain ⟨x0, ev0⟩ := arr_v (Cond.before_iff.mp (hsets _ (List.mem_of_getElem? (i := 3) rfl)))
  obtain ⟨cl0, A0⟩ := Arr.start ev0 (Cond.before_iff.mp (hsets _ (List.mem_of_getElem? (i := 3) rfl)))
  obtain ⟨x1, ev1⟩ := arr_v (Cond.before_iff.mp (hsets _ (List.mem_of_getElem? (i := 6) rfl)))
  obtain ⟨cl1, A1⟩ := Arr.start ev1 (Cond.before_iff.mp (hsets _ (List.mem_of_getElem? (i := 6) rfl)))
  obtain ⟨x2, ev2⟩ := arr_v (Cond.before_iff.mp (hsets _ (List.mem_of_getElem? (i := 13) rfl)))
  obtain ⟨cl2, A2⟩ := Arr.start ev2 (Cond.before_iff.mp (hsets _ (List.mem_of_getElem? (i := 13) rfl)))
  have len0 := own_len ev0 A0 (Cond.before_iff.mp (hsets _ (List.mem_of_getElem? (i := 5) rfl)))
  have V0 : Arv s s.heap x0 cl0.cls (.object "java/lang/Object") (0 : Int32) [] .null := Arv.start hfit A0 len0.2 len0.1 (by decide) (by decide) trivial
  have len1 := own_len ev1 A1 (Cond.before_iff.mp (hsets _ (List.mem_of_getElem? (i := 8) rfl)))
  have V1 : Arv s s.heap x1 cl1.cls (.object "java/lang/Object") (0 : Int32) [] .null := Arv.start hfit A1 len1.2 len1.1 (by decide) (by decide) trivial
  have len2 := own_len ev2 A2 (Cond.before_iff.mp (hsets _ (List.mem_of_getElem? (i := 15) rfl)))
  have B2 := own_boxI (fun _ => ev2) A2 len2 (by decide) (Cond.before_iff.mp (hsets _ (List.mem_of_getElem? (i := 16) rfl)))
  have hW : Wd s (fun i => ([x0, x1, x2, cl0.cls, cl1.cls] : List Addr).getD i 0) := ⟨(Sta.start ev0 (Or.inr ⟨(wk2 hw), (hsets _ (List.mem_of_getElem? (i := 0) rfl))⟩)), (Sta.start ev1 (Or.inr ⟨(wk2 hw), (hsets _ (List.mem_of_getElem? (i := 2) rfl))⟩)), (Sta.start (own_staI (Cond.before_iff.mp (hsets _ (List.mem_of_getElem? (i := 12) rfl)))) (Or.inr ⟨(wk31 hw), (hsets _ (List.mem_of_getElem? (i := 9) rfl))⟩)), (Sta.start ev2 (Or.inr ⟨(wk31 hw), (hsets _ (List.mem_of_getElem? (i := 11) rfl))⟩)), (Exa.start ev0 (Cond.before_iff.mp (hsets _ (List.mem_of_getElem? (i := 4) rfl)))), V0, (Exa.start ev1 (Cond.before_iff.mp (hsets _ (List.mem_of_getElem? (i := 7) rfl)))), V1, (Exa.start ev2 (Cond.before_iff.mp (hsets _ (List.mem_of_getElem? (i := 14) rfl)))), ⟨_, B2⟩, trivial⟩
  obtain ⟨n, o, h1, h2, h3, _, L, rfl, ⟨rfl, N⟩, hq⟩ := rm0 l s _ hw _ hW tables_1 i0 i1 i2 s.heap s.heap.size (Old.start s) p e ha hc hk s m _ below hf ((Spec.applies_iff_loose hf).mp happ).1 ⟨rfl, State.Warmed39.refl s, rfl⟩ trivial
  refine ⟨n, _, h1, h2, h3, hpost _ _ _ _ _ _ ⟨Cond.after_iff.mpr rfl, Cond.after_iff.mpr (eq_i res_at (Term.int_eval (1)) rfl), trivial⟩ ⟨hq.1, hq.2.1, (hq.2.2.sift fun y hy => Or.inr (N y hy)).mono (by decide) (by decide)⟩⟩
theorem main_1_1 : Claimed_1_1 := comes_1 fun _ _ _ _ _ _ h hF => ⟨h.1, hF⟩
theorem main_1_2 : Claimed_1_2 := comes_1 fun _ _ _ _ _ _ h hF => ⟨h.2.1, hF⟩
end Jvm.Pilot.@@N@@
namespace Jvm.Pilot.@@N@@
open Jvm Jvm.ClassFile Sem Op Lib Jvm.Free Jvm.Stand Jvm.Pilot.@@N@@.Jvm.D
/-! MADE BY PROGRAM (witnessworld.py) out of the Statement's table words and the real class files: 29 classes; the members and pool entries that the words name. The judged class is class 1, her method 1. -/
namespace start1
open Jvm.ClassFile
def u (s : String) : CpInfo := .utf8 (stringToUtf16 s)
/-- a pool by its gaps: so many unusable entries, then the entry; so many at the end -/
def gap : Nat → List CpInfo → List CpInfo
  | 0, r => r
  | n + 1, r => .unusable :: gap n r
def poolList (es : List (Nat × CpInfo)) (last : Nat) : List CpInfo := es.foldr (fun e r => gap e.1 (e.2 :: r)) (gap last [])
def pool (es : List (Nat × CpInfo)) (last : Nat) : Array CpInfo := ⟨poolList es last⟩
def fileOf (pool : Array CpInfo) (this : Nat) (attrs : Array Attribute := #[]) (ms : Array MethodInfo := #[]) (fl : Nat := 33) (sup : Nat := 0) (ifs : Array Nat := #[]) (fds : Array FieldInfo := #[]) : ClassFile where
  minorVersion := 0
  majorVersion := 65
  constantPool := pool
  accessFlags := fl
  thisClass := this
  superClass := sup
  interfaces := ifs
  fields := fds
  methods := ms
  attributes := attrs
def plain (name : String) (sup : Option ClassId) : Class where
  name := name
  kind := .ordinary
  loader := none
  accessFlags := 33
  super := sup
  interfaces := #[]
  cf := none
  fields := #[]
  methods := #[]
  instanceTypes := #[]
  staticTypes := #[]
  resolved := #[]
  callSites := []
  init := .initialized
  statics := none
  mirror := none

def pool0 : Array CpInfo := pool [(5, u "<init>"), (0, u "()V"), (1, .class_ 10), (1, u "java/lang/Object")] 113

def k0c0 : Code := { maxStack := 0, maxLocals := 1, code := object_method_1_code, exceptionTable := #[], attributes := #[] }
def k0m0 : Method := { name := "<init>", desc := "()V", sig := { parameters := [], returnType := none }, accessFlags := 1, code := some k0c0 }
/-- java/lang/Object -/
def k0 : Class := { plain "java/lang/Object" none with
  accessFlags := 33
  interfaces := #[]
  cf := some (fileOf pool0 8 #[] #[{ accessFlags := 1, nameIndex := 5, descriptorIndex := 6, attributes := #[] }] 33 0 #[] #[])
  fields := #[]
  methods := #[k0m0]
  instanceTypes := #[]
  staticTypes := #[]
  resolved := Array.replicate 124 none
  statics := none }

def pool1 : Array CpInfo := pool [(2, .class_ 4), (0, .nameAndType 5 6), (0, u "java/lang/Object"), (0, u "<init>"), (0, u "()V"), (0, .class_ 8), (0, u "java/util/ArrayList"), (0, .methodref 7 3), (0, .methodref 11 12), (0, .class_ 13), (0, .nameAndType 14 15), (0, u "java/lang/Integer"), (0, u "valueOf"), (0, u "(I)Ljava/lang/Integer;"), (0, .methodref 7 17), (0, .nameAndType 18 19), (0, u "add"), (0, u "(Ljava/lang/Object;)Z"), (0, .class_ 21), (0, u "com/example/tidy_mailbox/tidymailbox/stream/StreamRecord"), (0, .methodref 20 23), (0, .nameAndType 5 24), (0, u "(Ljava/lang/Object;J)V"), (0, .class_ 26), (0, u "com/example/tidy_mailbox/tidymailbox/async/RecordEntry"), (0, .methodref 25 28), (0, .nameAndType 5 29), (0, u "(Lcom/example/tidy_mailbox/tidymailbox/stream/StreamRecord;)V"), (0, .methodref 25 31), (0, .nameAndType 32 33), (0, u "isComplete"), (0, u "()Z"), (0, .methodref 35 36), (0, .class_ 37), (0, .nameAndType 38 39), (0, u "com/example/tidy_mailbox/tidymailbox/async/RecordEntryIsCompletePinLaw"), (0, u "apply"), (0, u "(Lcom/example/tidy_mailbox/tidymailbox/async/RecordEntry;ILjava/util/ArrayList;Ljava/util/ArrayList;)V"), (0, .methodref 25 41), (0, .nameAndType 42 43), (0, u "input"), (0, u "()Lcom/example/tidy_mailbox/tidymailbox/stream/StreamRecord;"), (0, .methodref 25 45), (0, .nameAndType 46 47), (0, u "setResults"), (0, u "(Ljava/util/List;)V"), (2, u "law"), (0, u "(IJI)Z")] 5

def k1m0 : Method := { name := "<init>", desc := "()V", sig := { parameters := [], returnType := none }, accessFlags := 1, code := none }
def k1c1 : Code := { maxStack := 5, maxLocals := 12, code := code, exceptionTable := #[], attributes := #[] }
def k1m1 : Method := { name := "law", desc := "(IJI)Z", sig := { parameters := [.int, .long, .int], returnType := some .boolean }, accessFlags := 9, code := some k1c1 }
def k1c2 : Code := { maxStack := 2, maxLocals := 4, code := method_3_code, exceptionTable := #[], attributes := #[] }
def k1m2 : Method := { name := "apply", desc := "(Lcom/example/tidy_mailbox/tidymailbox/async/RecordEntry;ILjava/util/ArrayList;Ljava/util/ArrayList;)V", sig := { parameters := [(.object "com/example/tidy_mailbox/tidymailbox/async/RecordEntry"), .int, (.object "java/util/ArrayList"), (.object "java/util/ArrayList")], returnType := none }, accessFlags := 10, code := some k1c2 }
/-- com/example/tidy_mailbox/tidymailbox/async/RecordEntryIsCompletePinLaw -/
def k1 : Class := { plain "com/example/tidy_mailbox/tidymailbox/async/RecordEntryIsCompletePinLaw" (some 0) with
  accessFlags := 49
  interfaces := #[]
  cf := some (fileOf pool1 35 #[] #[{ accessFlags := 1, nameIndex := 5, descriptorIndex := 6, attributes := #[] }, { accessFlags := 9, nameIndex := 50, descriptorIndex := 51, attributes := #[] }, { accessFlags := 10, nameIndex := 38, descriptorIndex := 39, attributes := #[] }] 49 2 #[] #[])
  fields := #[]
  methods := #[k1m0, k1m1, k1m2]
  instanceTypes := #[]
  staticTypes := #[]
  resolved := Array.replicate 57 none
  statics := none }

def pool2 : Array CpInfo := pool [(8, .class_ 10), (1, u "java/lang/Iterable"), (24, .class_ 36), (0, u "java/lang/Object")] 25

/-- java/lang/Iterable -/
def k2 : Class := { plain "java/lang/Iterable" (some 0) with
  accessFlags := 1537
  interfaces := #[]
  cf := some (fileOf pool2 8 #[] #[] 1537 35 #[] #[])
  fields := #[]
  methods := #[]
  instanceTypes := #[]
  staticTypes := #[]
  resolved := Array.replicate 62 none
  statics := none }

def pool3 : Array CpInfo := pool [(10, .class_ 12), (1, u "java/util/Collection"), (47, .class_ 61), (0, u "java/lang/Object"), (0, .class_ 63), (0, u "java/lang/Iterable")] 51

/-- java/util/Collection -/
def k3 : Class := { plain "java/util/Collection" (some 0) with
  accessFlags := 1537
  interfaces := #[2]
  cf := some (fileOf pool3 10 #[] #[] 1537 60 #[62] #[])
  fields := #[]
  methods := #[]
  instanceTypes := #[]
  staticTypes := #[]
  resolved := Array.replicate 115 none
  statics := none }

def pool4 : Array CpInfo := pool [(1, .methodref 2 3), (0, .class_ 4), (0, .nameAndType 5 6), (0, u "java/lang/Object"), (0, u "<init>"), (0, u "()V"), (1, .class_ 10), (1, u "java/util/AbstractCollection"), (66, .class_ 78), (0, u "java/util/Collection")] 81

def k4c0 : Code := { maxStack := 1, maxLocals := 1, code := jdk_22_method_1_code, exceptionTable := #[], attributes := #[] }
def k4m0 : Method := { name := "<init>", desc := "()V", sig := { parameters := [], returnType := none }, accessFlags := 4, code := some k4c0 }
/-- java/util/AbstractCollection -/
def k4 : Class := { plain "java/util/AbstractCollection" (some 0) with
  accessFlags := 1057
  interfaces := #[3]
  cf := some (fileOf pool4 8 #[] #[{ accessFlags := 4, nameIndex := 5, descriptorIndex := 6, attributes := #[] }] 1057 2 #[77] #[])
  fields := #[]
  methods := #[k4m0]
  instanceTypes := #[]
  staticTypes := #[]
  resolved := Array.replicate 160 none
  statics := none }

def pool5 : Array CpInfo := pool [(8, .class_ 10), (1, u "java/util/SequencedCollection"), (15, .class_ 27), (0, u "java/lang/Object"), (0, .class_ 29), (0, u "java/util/Collection")] 27

/-- java/util/SequencedCollection -/
def k5 : Class := { plain "java/util/SequencedCollection" (some 0) with
  accessFlags := 1537
  interfaces := #[3]
  cf := some (fileOf pool5 8 #[] #[] 1537 26 #[28] #[])
  fields := #[]
  methods := #[]
  instanceTypes := #[]
  staticTypes := #[]
  resolved := Array.replicate 57 none
  statics := none }

def pool6 : Array CpInfo := pool [(8, .class_ 10), (1, u "java/util/List"), (92, .class_ 104), (0, u "java/lang/Object"), (15, .class_ 121), (0, u "java/util/SequencedCollection")] 129

/-- java/util/List -/
def k6 : Class := { plain "java/util/List" (some 0) with
  accessFlags := 1537
  interfaces := #[5]
  cf := some (fileOf pool6 8 #[] #[] 1537 103 #[120] #[])
  fields := #[]
  methods := #[]
  instanceTypes := #[]
  staticTypes := #[]
  resolved := Array.replicate 251 none
  statics := none }

def pool7 : Array CpInfo := pool [(1, .methodref 2 3), (0, .class_ 4), (0, .nameAndType 5 6), (0, u "java/util/AbstractCollection"), (0, u "<init>"), (0, u "()V"), (0, .fieldref 8 9), (0, .class_ 10), (0, .nameAndType 11 12), (0, u "java/util/AbstractList"), (0, u "modCount"), (0, u "I"), (64, .class_ 78), (0, u "java/util/AbstractList$Itr"), (3, .class_ 83), (0, u "java/util/AbstractList$ListItr"), (9, .class_ 94), (0, u "java/util/AbstractList$RandomAccessSubList"), (3, .class_ 99), (0, u "java/util/AbstractList$SubList"), (33, .class_ 134), (0, u "java/util/List"), (73, .class_ 209), (0, u "java/util/AbstractList$SubList$1"), (0, .class_ 211), (0, u "java/util/AbstractList$RandomAccessSpliterator")] 6

def k7c0 : Code := { maxStack := 2, maxLocals := 1, code := jdk_39_method_1_code, exceptionTable := #[], attributes := #[] }
def k7m0 : Method := { name := "<init>", desc := "()V", sig := { parameters := [], returnType := none }, accessFlags := 4, code := some k7c0 }
/-- java/util/AbstractList -/
def k7 : Class := { plain "java/util/AbstractList" (some 4) with
  accessFlags := 1057
  interfaces := #[6]
  cf := some (fileOf pool7 8 #[.nestMembers #[93, 98, 208, 210, 82, 77]] #[{ accessFlags := 4, nameIndex := 5, descriptorIndex := 6, attributes := #[] }] 1057 2 #[133] #[{ accessFlags := 132, nameIndex := 11, descriptorIndex := 12, attributes := #[] }])
  fields := #[{ name := "modCount", type := .int, accessFlags := 132, slot := 0, constantValue := 0 }]
  methods := #[k7m0]
  instanceTypes := #[.int]
  staticTypes := #[]
  resolved := Array.replicate 218 none
  statics := none }

def pool8 : Array CpInfo := pool [(1, .class_ 2), (0, u "java/util/RandomAccess"), (0, .class_ 4), (0, u "java/lang/Object")] 2

/-- java/util/RandomAccess -/
def k8 : Class := { plain "java/util/RandomAccess" (some 0) with
  accessFlags := 1537
  interfaces := #[]
  cf := some (fileOf pool8 1 #[] #[] 1537 3 #[] #[])
  fields := #[]
  methods := #[]
  instanceTypes := #[]
  staticTypes := #[]
  resolved := Array.replicate 7 none
  statics := none }

def pool9 : Array CpInfo := pool [(1, .class_ 2), (0, u "java/lang/Cloneable"), (0, .class_ 4), (0, u "java/lang/Object")] 2

/-- java/lang/Cloneable -/
def k9 : Class := { plain "java/lang/Cloneable" (some 0) with
  accessFlags := 1537
  interfaces := #[]
  cf := some (fileOf pool9 1 #[] #[] 1537 3 #[] #[])
  fields := #[]
  methods := #[]
  instanceTypes := #[]
  staticTypes := #[]
  resolved := Array.replicate 7 none
  statics := none }

def pool10 : Array CpInfo := pool [(1, .class_ 2), (0, u "java/io/Serializable"), (0, .class_ 4), (0, u "java/lang/Object")] 2

/-- java/io/Serializable -/
def k10 : Class := { plain "java/io/Serializable" (some 0) with
  accessFlags := 1537
  interfaces := #[]
  cf := some (fileOf pool10 1 #[] #[] 1537 3 #[] #[])
  fields := #[]
  methods := #[]
  instanceTypes := #[]
  staticTypes := #[]
  resolved := Array.replicate 7 none
  statics := none }

def pool11 : Array CpInfo := pool [(1, .methodref 2 3), (0, .class_ 4), (0, .nameAndType 5 6), (0, u "java/util/AbstractList"), (0, u "<init>"), (0, u "()V"), (0, .class_ 8), (0, u "java/lang/Object"), (0, .fieldref 10 11), (0, .class_ 12), (0, .nameAndType 13 14), (0, u "java/util/ArrayList"), (0, u "elementData"), (0, u "[Ljava/lang/Object;"), (2, u "EMPTY_ELEMENTDATA"), (21, .fieldref 10 40), (0, .nameAndType 41 14), (0, u "DEFAULTCAPACITY_EMPTY_ELEMENTDATA"), (5, u "()[Ljava/lang/Object;"), (0, .fieldref 10 49), (0, .nameAndType 50 51), (0, u "size"), (0, u "I"), (11, .fieldref 10 64), (0, .nameAndType 65 51), (0, u "modCount"), (3, .methodref 10 70), (0, .nameAndType 71 72), (0, u "grow"), (0, u "(I)[Ljava/lang/Object;"), (6, .methodref 80 81), (0, .class_ 82), (0, .nameAndType 83 84), (0, u "java/lang/Math"), (0, u "max"), (0, u "(II)I"), (11, u "(Ljava/lang/Object;)Z"), (32, .methodref 10 130), (0, .nameAndType 71 47), (0, .methodref 10 132), (0, .nameAndType 133 134), (0, u "add"), (0, u "(Ljava/lang/Object;[Ljava/lang/Object;I)V"), (13, .class_ 149), (0, u "java/util/List"), (112, .class_ 263), (0, u "java/util/ArrayList$ListItr"), (3, .class_ 268), (0, u "java/util/ArrayList$Itr"), (7, .class_ 277), (0, u "java/util/ArrayList$SubList"), (12, .class_ 291), (0, u "java/util/ArrayList$ArrayListSpliterator"), (37, .class_ 330), (0, u "java/util/RandomAccess"), (0, .class_ 332), (0, u "java/lang/Cloneable"), (0, .class_ 334), (0, u "java/io/Serializable"), (0, u "serialVersionUID"), (0, u "J"), (3, u "DEFAULT_CAPACITY"), (159, .class_ 501), (0, u "java/util/ArrayList$SubList$2"), (0, .class_ 503), (0, u "java/util/ArrayList$SubList$1")] 5

def k11c0 : Code := { maxStack := 2, maxLocals := 1, code := jdk_38_method_2_code, exceptionTable := #[], attributes := #[] }
def k11m0 : Method := { name := "<init>", desc := "()V", sig := { parameters := [], returnType := none }, accessFlags := 1, code := some k11c0 }
def k11c1 : Code := { maxStack := 4, maxLocals := 4, code := jdk_38_method_6_code, exceptionTable := #[], attributes := #[] }
def k11m1 : Method := { name := "grow", desc := "(I)[Ljava/lang/Object;", sig := { parameters := [.int], returnType := some (.array (.object "java/lang/Object")) }, accessFlags := 2, code := some k11c1 }
def k11c2 : Code := { maxStack := 3, maxLocals := 1, code := jdk_38_method_7_code, exceptionTable := #[], attributes := #[] }
def k11m2 : Method := { name := "grow", desc := "()[Ljava/lang/Object;", sig := { parameters := [], returnType := some (.array (.object "java/lang/Object")) }, accessFlags := 2, code := some k11c2 }
def k11c3 : Code := { maxStack := 3, maxLocals := 4, code := jdk_38_method_24_code, exceptionTable := #[], attributes := #[] }
def k11m3 : Method := { name := "add", desc := "(Ljava/lang/Object;[Ljava/lang/Object;I)V", sig := { parameters := [(.object "java/lang/Object"), (.array (.object "java/lang/Object")), .int], returnType := none }, accessFlags := 2, code := some k11c3 }
def k11c4 : Code := { maxStack := 4, maxLocals := 2, code := jdk_38_method_25_code, exceptionTable := #[], attributes := #[] }
def k11m4 : Method := { name := "add", desc := "(Ljava/lang/Object;)Z", sig := { parameters := [(.object "java/lang/Object")], returnType := some .boolean }, accessFlags := 1, code := some k11c4 }
/-- java/util/ArrayList -/
def k11 : Class := { plain "java/util/ArrayList" (some 7) with
  accessFlags := 33
  interfaces := #[6, 8, 9, 10]
  cf := some (fileOf pool11 10 #[.nestMembers #[290, 276, 500, 502, 262, 267]] #[{ accessFlags := 1, nameIndex := 5, descriptorIndex := 6, attributes := #[] }, { accessFlags := 2, nameIndex := 71, descriptorIndex := 72, attributes := #[] }, { accessFlags := 2, nameIndex := 71, descriptorIndex := 47, attributes := #[] }, { accessFlags := 2, nameIndex := 133, descriptorIndex := 134, attributes := #[] }, { accessFlags := 1, nameIndex := 133, descriptorIndex := 96, attributes := #[] }] 33 2 #[148, 329, 331, 333] #[{ accessFlags := 26, nameIndex := 335, descriptorIndex := 336, attributes := #[] }, { accessFlags := 26, nameIndex := 340, descriptorIndex := 51, attributes := #[] }, { accessFlags := 26, nameIndex := 17, descriptorIndex := 14, attributes := #[] }, { accessFlags := 26, nameIndex := 41, descriptorIndex := 14, attributes := #[] }, { accessFlags := 128, nameIndex := 13, descriptorIndex := 14, attributes := #[] }, { accessFlags := 2, nameIndex := 50, descriptorIndex := 51, attributes := #[] }])
  fields := #[{ name := "serialVersionUID", type := .long, accessFlags := 26, slot := 0, constantValue := 0 }, { name := "DEFAULT_CAPACITY", type := .int, accessFlags := 26, slot := 1, constantValue := 0 }, { name := "EMPTY_ELEMENTDATA", type := (.array (.object "java/lang/Object")), accessFlags := 26, slot := 2, constantValue := 0 }, { name := "DEFAULTCAPACITY_EMPTY_ELEMENTDATA", type := (.array (.object "java/lang/Object")), accessFlags := 26, slot := 3, constantValue := 0 }, { name := "elementData", type := (.array (.object "java/lang/Object")), accessFlags := 128, slot := 1, constantValue := 0 }, { name := "size", type := .int, accessFlags := 2, slot := 2, constantValue := 0 }]
  methods := #[k11m0, k11m1, k11m2, k11m3, k11m4]
  instanceTypes := #[.int, (.array (.object "java/lang/Object")), .int]
  staticTypes := #[.long, .int, (.array (.object "java/lang/Object")), (.array (.object "java/lang/Object"))]
  resolved := Array.replicate 509 none
  statics := some 0 }

def pool12 : Array CpInfo := pool [(1, .methodref 2 3), (0, .class_ 4), (0, .nameAndType 5 6), (0, u "java/lang/Object"), (0, u "<init>"), (0, u "()V"), (1, .class_ 10), (1, u "java/lang/Number"), (2, .class_ 14), (0, u "java/io/Serializable"), (0, u "serialVersionUID"), (0, u "J")] 20

def k12c0 : Code := { maxStack := 1, maxLocals := 1, code := jdk_18_method_1_code, exceptionTable := #[], attributes := #[] }
def k12m0 : Method := { name := "<init>", desc := "()V", sig := { parameters := [], returnType := none }, accessFlags := 1, code := some k12c0 }
/-- java/lang/Number -/
def k12 : Class := { plain "java/lang/Number" (some 0) with
  accessFlags := 1057
  interfaces := #[10]
  cf := some (fileOf pool12 8 #[] #[{ accessFlags := 1, nameIndex := 5, descriptorIndex := 6, attributes := #[] }] 1057 2 #[13] #[{ accessFlags := 26, nameIndex := 15, descriptorIndex := 16, attributes := #[] }])
  fields := #[{ name := "serialVersionUID", type := .long, accessFlags := 26, slot := 0, constantValue := 0 }]
  methods := #[k12m0]
  instanceTypes := #[]
  staticTypes := #[.long]
  resolved := Array.replicate 37 none
  statics := none }

def pool13 : Array CpInfo := pool [(1, .class_ 2), (0, u "java/lang/Comparable"), (0, .class_ 4), (0, u "java/lang/Object")] 7

/-- java/lang/Comparable -/
def k13 : Class := { plain "java/lang/Comparable" (some 0) with
  accessFlags := 1537
  interfaces := #[]
  cf := some (fileOf pool13 1 #[] #[] 1537 3 #[] #[])
  fields := #[]
  methods := #[]
  instanceTypes := #[]
  staticTypes := #[]
  resolved := Array.replicate 12 none
  statics := none }

def pool14 : Array CpInfo := pool [(1, .class_ 2), (0, u "java/lang/constant/Constable"), (0, .class_ 4), (0, u "java/lang/Object")] 6

/-- java/lang/constant/Constable -/
def k14 : Class := { plain "java/lang/constant/Constable" (some 0) with
  accessFlags := 1537
  interfaces := #[]
  cf := some (fileOf pool14 1 #[] #[] 1537 3 #[] #[])
  fields := #[]
  methods := #[]
  instanceTypes := #[]
  staticTypes := #[]
  resolved := Array.replicate 11 none
  statics := none }

def pool15 : Array CpInfo := pool [(1, .class_ 2), (0, u "java/lang/constant/ConstantDesc"), (0, .class_ 4), (0, u "java/lang/Object")] 32

/-- java/lang/constant/ConstantDesc -/
def k15 : Class := { plain "java/lang/constant/ConstantDesc" (some 0) with
  accessFlags := 1537
  interfaces := #[]
  cf := some (fileOf pool15 1 #[] #[] 1537 3 #[] #[])
  fields := #[]
  methods := #[]
  instanceTypes := #[]
  staticTypes := #[]
  resolved := Array.replicate 37 none
  statics := none }

def pool16 : Array CpInfo := pool [(1, .class_ 2), (0, u "java/lang/Integer"), (16, u "digits"), (0, u "[C"), (46, u "<init>"), (17, u "DigitOnes"), (0, u "[B"), (2, u "DigitTens"), (10, .nameAndType 67 101), (0, u "()V"), (85, u "valueOf"), (0, u "(I)Ljava/lang/Integer;"), (0, .class_ 190), (0, u "java/lang/Integer$IntegerCache"), (0, .fieldref 189 192), (0, .nameAndType 193 194), (0, u "high"), (0, u "I"), (0, .fieldref 189 196), (0, .nameAndType 197 198), (0, u "cache"), (0, u "[Ljava/lang/Integer;"), (0, .methodref 1 200), (0, .nameAndType 67 201), (0, u "(I)V"), (0, .methodref 203 100), (0, .class_ 204), (0, u "java/lang/Number"), (0, .fieldref 1 206), (0, .nameAndType 207 194), (0, u "value"), (94, u "TYPE"), (0, u "Ljava/lang/Class;"), (0, .class_ 305), (0, u "java/lang/Comparable"), (0, .class_ 307), (0, u "java/lang/constant/Constable"), (0, .class_ 309), (0, u "java/lang/constant/ConstantDesc"), (0, u "MIN_VALUE"), (1, u "MAX_VALUE"), (3, u "SIZE"), (1, u "BYTES"), (1, u "serialVersionUID"), (0, u "J")] 131

def k16c0 : Code := { maxStack := 3, maxLocals := 1, code := jdk_33_method_22_code, exceptionTable := #[], attributes := #[] }
def k16m0 : Method := { name := "valueOf", desc := "(I)Ljava/lang/Integer;", sig := { parameters := [.int], returnType := some (.object "java/lang/Integer") }, accessFlags := 9, code := some k16c0 }
def k16c1 : Code := { maxStack := 2, maxLocals := 2, code := jdk_33_method_23_code, exceptionTable := #[], attributes := #[] }
def k16m1 : Method := { name := "<init>", desc := "(I)V", sig := { parameters := [.int], returnType := none }, accessFlags := 1, code := some k16c1 }
/-- java/lang/Integer -/
def k16 : Class := { plain "java/lang/Integer" (some 12) with
  accessFlags := 49
  interfaces := #[13, 14, 15]
  cf := some (fileOf pool16 1 #[.nestMembers #[189]] #[{ accessFlags := 9, nameIndex := 187, descriptorIndex := 188, attributes := #[] }, { accessFlags := 1, nameIndex := 67, descriptorIndex := 201, attributes := #[] }] 49 203 #[304, 306, 308] #[{ accessFlags := 25, nameIndex := 310, descriptorIndex := 194, attributes := #[] }, { accessFlags := 25, nameIndex := 312, descriptorIndex := 194, attributes := #[] }, { accessFlags := 25, nameIndex := 302, descriptorIndex := 303, attributes := #[] }, { accessFlags := 24, nameIndex := 19, descriptorIndex := 20, attributes := #[] }, { accessFlags := 24, nameIndex := 89, descriptorIndex := 86, attributes := #[] }, { accessFlags := 24, nameIndex := 85, descriptorIndex := 86, attributes := #[] }, { accessFlags := 18, nameIndex := 207, descriptorIndex := 194, attributes := #[] }, { accessFlags := 25, nameIndex := 316, descriptorIndex := 194, attributes := #[] }, { accessFlags := 25, nameIndex := 318, descriptorIndex := 194, attributes := #[] }, { accessFlags := 26, nameIndex := 320, descriptorIndex := 321, attributes := #[] }])
  fields := #[{ name := "MIN_VALUE", type := .int, accessFlags := 25, slot := 0, constantValue := 0 }, { name := "MAX_VALUE", type := .int, accessFlags := 25, slot := 1, constantValue := 0 }, { name := "TYPE", type := (.object "java/lang/Class"), accessFlags := 25, slot := 2, constantValue := 0 }, { name := "digits", type := (.array .char), accessFlags := 24, slot := 3, constantValue := 0 }, { name := "DigitTens", type := (.array .byte), accessFlags := 24, slot := 4, constantValue := 0 }, { name := "DigitOnes", type := (.array .byte), accessFlags := 24, slot := 5, constantValue := 0 }, { name := "value", type := .int, accessFlags := 18, slot := 0, constantValue := 0 }, { name := "SIZE", type := .int, accessFlags := 25, slot := 6, constantValue := 0 }, { name := "BYTES", type := .int, accessFlags := 25, slot := 7, constantValue := 0 }, { name := "serialVersionUID", type := .long, accessFlags := 26, slot := 8, constantValue := 0 }]
  methods := #[k16m0, k16m1]
  instanceTypes := #[.int]
  staticTypes := #[.int, .int, (.object "java/lang/Class"), (.array .char), (.array .byte), (.array .byte), .int, .int, .long]
  resolved := Array.replicate 453 none
  statics := none }

def pool17 : Array CpInfo := pool [(2, .class_ 4), (1, u "java/lang/Object"), (0, u "<init>"), (0, u "()V"), (0, .class_ 8), (0, u "java/lang/Integer"), (7, .class_ 18), (1, u "java/lang/Integer$IntegerCache"), (0, u "$assertionsDisabled"), (0, u "Z"), (26, u "high"), (0, u "I"), (8, u "archivedCache"), (0, u "[Ljava/lang/Integer;"), (12, u "cache"), (0, u "low")] 27

def k17m0 : Method := { name := "<init>", desc := "()V", sig := { parameters := [], returnType := none }, accessFlags := 2, code := none }
/-- java/lang/Integer$IntegerCache -/
def k17 : Class := { plain "java/lang/Integer$IntegerCache" (some 0) with
  accessFlags := 48
  interfaces := #[]
  cf := some (fileOf pool17 16 #[.nestHost 7] #[{ accessFlags := 2, nameIndex := 5, descriptorIndex := 6, attributes := #[] }] 48 2 #[] #[{ accessFlags := 24, nameIndex := 72, descriptorIndex := 48, attributes := #[] }, { accessFlags := 24, nameIndex := 47, descriptorIndex := 48, attributes := #[] }, { accessFlags := 24, nameIndex := 71, descriptorIndex := 58, attributes := #[] }, { accessFlags := 8, nameIndex := 57, descriptorIndex := 58, attributes := #[] }, { accessFlags := 4120, nameIndex := 19, descriptorIndex := 20, attributes := #[] }])
  fields := #[{ name := "low", type := .int, accessFlags := 24, slot := 0, constantValue := 0 }, { name := "high", type := .int, accessFlags := 24, slot := 1, constantValue := 0 }, { name := "cache", type := (.array (.object "java/lang/Integer")), accessFlags := 24, slot := 2, constantValue := 0 }, { name := "archivedCache", type := (.array (.object "java/lang/Integer")), accessFlags := 8, slot := 3, constantValue := 0 }, { name := "$assertionsDisabled", type := .boolean, accessFlags := 4120, slot := 4, constantValue := 0 }]
  methods := #[k17m0]
  instanceTypes := #[]
  staticTypes := #[.int, .int, (.array (.object "java/lang/Integer")), (.array (.object "java/lang/Integer")), .boolean]
  resolved := Array.replicate 100 none
  statics := some 1 }

def pool18 : Array CpInfo := pool [(1, .class_ 2), (0, u "java/lang/Math"), (1, .class_ 6), (1, u "java/lang/Object"), (0, u "<init>"), (0, u "()V"), (89, .class_ 100), (1, u "java/lang/Math$RandomNumberGeneratorHolder"), (71, u "negativeZeroFloatBits"), (0, u "J"), (2, u "negativeZeroDoubleBits"), (21, u "max"), (46, u "$assertionsDisabled"), (0, u "Z"), (88, u "(II)I"), (2, u "twoToTheDoubleScaleDown"), (0, u "D"), (4, u "twoToTheDoubleScaleUp"), (9, u "E"), (3, u "PI"), (2, u "TAU"), (2, u "DEGREES_TO_RADIANS"), (0, u "RADIANS_TO_DEGREES")] 94

def k18m0 : Method := { name := "<init>", desc := "()V", sig := { parameters := [], returnType := none }, accessFlags := 2, code := none }
def k18c1 : Code := { maxStack := 2, maxLocals := 2, code := jdk_29_method_65_code, exceptionTable := #[], attributes := #[] }
def k18m1 : Method := { name := "max", desc := "(II)I", sig := { parameters := [.int, .int], returnType := some .int }, accessFlags := 9, code := some k18c1 }
/-- java/lang/Math -/
def k18 : Class := { plain "java/lang/Math" (some 0) with
  accessFlags := 49
  interfaces := #[]
  cf := some (fileOf pool18 1 #[.nestMembers #[98]] #[{ accessFlags := 2, nameIndex := 7, descriptorIndex := 8, attributes := #[] }, { accessFlags := 9, nameIndex := 198, descriptorIndex := 335, attributes := #[] }] 49 4 #[] #[{ accessFlags := 25, nameIndex := 354, descriptorIndex := 339, attributes := #[] }, { accessFlags := 25, nameIndex := 358, descriptorIndex := 339, attributes := #[] }, { accessFlags := 25, nameIndex := 361, descriptorIndex := 339, attributes := #[] }, { accessFlags := 26, nameIndex := 364, descriptorIndex := 339, attributes := #[] }, { accessFlags := 26, nameIndex := 365, descriptorIndex := 339, attributes := #[] }, { accessFlags := 26, nameIndex := 172, descriptorIndex := 173, attributes := #[] }, { accessFlags := 26, nameIndex := 176, descriptorIndex := 173, attributes := #[] }, { accessFlags := 8, nameIndex := 344, descriptorIndex := 339, attributes := #[] }, { accessFlags := 8, nameIndex := 338, descriptorIndex := 339, attributes := #[] }, { accessFlags := 4120, nameIndex := 245, descriptorIndex := 246, attributes := #[] }])
  fields := #[{ name := "E", type := .double, accessFlags := 25, slot := 0, constantValue := 0 }, { name := "PI", type := .double, accessFlags := 25, slot := 1, constantValue := 0 }, { name := "TAU", type := .double, accessFlags := 25, slot := 2, constantValue := 0 }, { name := "DEGREES_TO_RADIANS", type := .double, accessFlags := 26, slot := 3, constantValue := 0 }, { name := "RADIANS_TO_DEGREES", type := .double, accessFlags := 26, slot := 4, constantValue := 0 }, { name := "negativeZeroFloatBits", type := .long, accessFlags := 26, slot := 5, constantValue := 0 }, { name := "negativeZeroDoubleBits", type := .long, accessFlags := 26, slot := 6, constantValue := 0 }, { name := "twoToTheDoubleScaleUp", type := .double, accessFlags := 8, slot := 7, constantValue := 0 }, { name := "twoToTheDoubleScaleDown", type := .double, accessFlags := 8, slot := 8, constantValue := 0 }, { name := "$assertionsDisabled", type := .boolean, accessFlags := 4120, slot := 9, constantValue := 0 }]
  methods := #[k18m0, k18m1]
  instanceTypes := #[]
  staticTypes := #[.double, .double, .double, .double, .double, .long, .long, .double, .double, .boolean]
  resolved := Array.replicate 460 none
  statics := none }

def pool19 : Array CpInfo := pool [(1, .class_ 2), (0, u "com/example/tidy_mailbox/tidymailbox/stream/StreamElement"), (0, .class_ 4), (0, u "java/lang/Object")] 11

/-- com/example/tidy_mailbox/tidymailbox/stream/StreamElement -/
def k19 : Class := { plain "com/example/tidy_mailbox/tidymailbox/stream/StreamElement" (some 0) with
  accessFlags := 1537
  interfaces := #[]
  cf := some (fileOf pool19 1 #[] #[] 1537 3 #[] #[])
  fields := #[]
  methods := #[]
  instanceTypes := #[]
  staticTypes := #[]
  resolved := Array.replicate 16 none
  statics := none }

def pool20 : Array CpInfo := pool [(1, .methodref 2 3), (0, .class_ 4), (0, .nameAndType 5 6), (0, u "java/lang/Object"), (0, u "<init>"), (0, u "()V"), (0, .fieldref 8 9), (0, .class_ 10), (0, .nameAndType 11 12), (0, u "com/example/tidy_mailbox/tidymailbox/stream/StreamRecord"), (0, u "value"), (0, u "Ljava/lang/Object;"), (0, .fieldref 8 14), (0, .nameAndType 15 16), (0, u "timestamp"), (0, u "J"), (25, .class_ 43), (0, u "com/example/tidy_mailbox/tidymailbox/stream/StreamElement"), (2, u "(Ljava/lang/Object;J)V")] 31

def k20c0 : Code := { maxStack := 3, maxLocals := 4, code := prog_33_method_1_code, exceptionTable := #[], attributes := #[] }
def k20m0 : Method := { name := "<init>", desc := "(Ljava/lang/Object;J)V", sig := { parameters := [(.object "java/lang/Object"), .long], returnType := none }, accessFlags := 1, code := some k20c0 }
/-- com/example/tidy_mailbox/tidymailbox/stream/StreamRecord -/
def k20 : Class := { plain "com/example/tidy_mailbox/tidymailbox/stream/StreamRecord" (some 0) with
  accessFlags := 49
  interfaces := #[19]
  cf := some (fileOf pool20 8 #[] #[{ accessFlags := 1, nameIndex := 5, descriptorIndex := 46, attributes := #[] }] 49 2 #[42] #[{ accessFlags := 18, nameIndex := 11, descriptorIndex := 12, attributes := #[] }, { accessFlags := 18, nameIndex := 15, descriptorIndex := 16, attributes := #[] }])
  fields := #[{ name := "value", type := (.object "java/lang/Object"), accessFlags := 18, slot := 0, constantValue := 0 }, { name := "timestamp", type := .long, accessFlags := 18, slot := 1, constantValue := 0 }]
  methods := #[k20m0]
  instanceTypes := #[(.object "java/lang/Object"), .long]
  staticTypes := #[]
  resolved := Array.replicate 78 none
  statics := none }

def pool21 : Array CpInfo := pool [(1, .methodref 2 3), (0, .class_ 4), (0, .nameAndType 5 6), (0, u "java/lang/Object"), (0, u "<init>"), (0, u "()V"), (0, .class_ 8), (0, u "com/example/tidy_mailbox/tidymailbox/async/Entry")] 14

def k21c0 : Code := { maxStack := 1, maxLocals := 1, code := prog_11_method_1_code, exceptionTable := #[], attributes := #[] }
def k21m0 : Method := { name := "<init>", desc := "()V", sig := { parameters := [], returnType := none }, accessFlags := 0, code := some k21c0 }
/-- com/example/tidy_mailbox/tidymailbox/async/Entry -/
def k21 : Class := { plain "com/example/tidy_mailbox/tidymailbox/async/Entry" (some 0) with
  accessFlags := 1056
  interfaces := #[]
  cf := some (fileOf pool21 7 #[] #[{ accessFlags := 0, nameIndex := 5, descriptorIndex := 6, attributes := #[] }] 1056 2 #[] #[])
  fields := #[]
  methods := #[k21m0]
  instanceTypes := #[]
  staticTypes := #[]
  resolved := Array.replicate 23 none
  statics := none }

def pool22 : Array CpInfo := pool [(1, .methodref 2 3), (0, .class_ 4), (0, .nameAndType 5 6), (0, u "com/example/tidy_mailbox/tidymailbox/async/Entry"), (0, u "<init>"), (0, u "()V"), (0, .fieldref 8 9), (0, .class_ 10), (0, .nameAndType 11 12), (0, u "com/example/tidy_mailbox/tidymailbox/async/RecordEntry"), (0, u "input"), (0, u "Lcom/example/tidy_mailbox/tidymailbox/stream/StreamRecord;"), (0, .fieldref 8 14), (0, .nameAndType 15 16), (0, u "results"), (0, u "Ljava/util/List;"), (11, u "()Z"), (18, u "(Lcom/example/tidy_mailbox/tidymailbox/stream/StreamRecord;)V"), (2, u "()Lcom/example/tidy_mailbox/tidymailbox/stream/StreamRecord;"), (7, u "setResults"), (0, u "(Ljava/util/List;)V"), (1, u "isComplete")] 8

def k22c0 : Code := { maxStack := 2, maxLocals := 2, code := prog_13_method_1_code, exceptionTable := #[], attributes := #[] }
def k22m0 : Method := { name := "<init>", desc := "(Lcom/example/tidy_mailbox/tidymailbox/stream/StreamRecord;)V", sig := { parameters := [(.object "com/example/tidy_mailbox/tidymailbox/stream/StreamRecord")], returnType := none }, accessFlags := 0, code := some k22c0 }
def k22c1 : Code := { maxStack := 1, maxLocals := 1, code := prog_13_method_2_code, exceptionTable := #[], attributes := #[] }
def k22m1 : Method := { name := "input", desc := "()Lcom/example/tidy_mailbox/tidymailbox/stream/StreamRecord;", sig := { parameters := [], returnType := some (.object "com/example/tidy_mailbox/tidymailbox/stream/StreamRecord") }, accessFlags := 0, code := some k22c1 }
def k22c2 : Code := { maxStack := 2, maxLocals := 2, code := prog_13_method_3_code, exceptionTable := #[], attributes := #[] }
def k22m2 : Method := { name := "setResults", desc := "(Ljava/util/List;)V", sig := { parameters := [(.object "java/util/List")], returnType := none }, accessFlags := 0, code := some k22c2 }
def k22c3 : Code := { maxStack := 1, maxLocals := 1, code := prog_13_method_4_code, exceptionTable := #[], attributes := #[] }
def k22m3 : Method := { name := "isComplete", desc := "()Z", sig := { parameters := [], returnType := some .boolean }, accessFlags := 0, code := some k22c3 }
/-- com/example/tidy_mailbox/tidymailbox/async/RecordEntry -/
def k22 : Class := { plain "com/example/tidy_mailbox/tidymailbox/async/RecordEntry" (some 21) with
  accessFlags := 48
  interfaces := #[]
  cf := some (fileOf pool22 8 #[] #[{ accessFlags := 0, nameIndex := 5, descriptorIndex := 47, attributes := #[] }, { accessFlags := 0, nameIndex := 11, descriptorIndex := 50, attributes := #[] }, { accessFlags := 0, nameIndex := 58, descriptorIndex := 59, attributes := #[] }, { accessFlags := 0, nameIndex := 61, descriptorIndex := 28, attributes := #[] }] 48 2 #[] #[{ accessFlags := 18, nameIndex := 11, descriptorIndex := 12, attributes := #[] }, { accessFlags := 2, nameIndex := 15, descriptorIndex := 16, attributes := #[] }])
  fields := #[{ name := "input", type := (.object "com/example/tidy_mailbox/tidymailbox/stream/StreamRecord"), accessFlags := 18, slot := 0, constantValue := 0 }, { name := "results", type := (.object "java/util/List"), accessFlags := 2, slot := 1, constantValue := 0 }]
  methods := #[k22m0, k22m1, k22m2, k22m3]
  instanceTypes := #[(.object "com/example/tidy_mailbox/tidymailbox/stream/StreamRecord"), (.object "java/util/List")]
  staticTypes := #[]
  resolved := Array.replicate 70 none
  statics := none }

/-- the primitive byte -/
def k23 : Class := { plain "byte" none with kind := .primitive 'B', accessFlags := 0x411 }
/-- [B -/
def k24 : Class := { plain "[B" (some 0) with kind := .array 23 .byte, interfaces := #[9, 10], accessFlags := 1041 }

/-- the primitive int -/
def k25 : Class := { plain "int" none with kind := .primitive 'I', accessFlags := 0x411 }
/-- [I -/
def k26 : Class := { plain "[I" (some 0) with kind := .array 25 .int, interfaces := #[9, 10], accessFlags := 1041 }

/-- [Ljava/lang/Integer; -/
def k27 : Class := { plain "[Ljava/lang/Integer;" (some 0) with kind := .array 16 (.object "java/lang/Integer"), interfaces := #[9, 10], accessFlags := 1041 }

/-- [Ljava/lang/Object; -/
def k28 : Class := { plain "[Ljava/lang/Object;" (some 0) with kind := .array 0 (.object "java/lang/Object"), interfaces := #[9, 10], accessFlags := 1041 }

def heap : Heap := #[{ cls := 11, slots := #[.long 0, .int 0, .ref 2, .ref 3], vm := .statics 11 },
  { cls := 17, slots := #[.int 0, .int 127, .ref 4, .null, .int 0], vm := .statics 17 },
  { cls := 28, slots := #[], vm := .none },
  { cls := 28, slots := #[], vm := .none },
  { cls := 27, slots := #[.ref 5, .ref 6, .ref 7, .ref 8, .ref 9, .ref 10, .ref 11, .ref 12, .ref 13, .ref 14, .ref 15, .ref 16, .ref 17, .ref 18, .ref 19, .ref 20, .ref 21, .ref 22, .ref 23, .ref 24, .ref 25, .ref 26, .ref 27, .ref 28, .ref 29, .ref 30, .ref 31, .ref 32, .ref 33, .ref 34, .ref 35, .ref 36, .ref 37, .ref 38, .ref 39, .ref 40, .ref 41, .ref 42, .ref 43, .ref 44, .ref 45, .ref 46, .ref 47, .ref 48, .ref 49, .ref 50, .ref 51, .ref 52, .ref 53, .ref 54, .ref 55, .ref 56, .ref 57, .ref 58, .ref 59, .ref 60, .ref 61, .ref 62, .ref 63, .ref 64, .ref 65, .ref 66, .ref 67, .ref 68, .ref 69, .ref 70, .ref 71, .ref 72, .ref 73, .ref 74, .ref 75, .ref 76, .ref 77, .ref 78, .ref 79, .ref 80, .ref 81, .ref 82, .ref 83, .ref 84, .ref 85, .ref 86, .ref 87, .ref 88, .ref 89, .ref 90, .ref 91, .ref 92, .ref 93, .ref 94, .ref 95, .ref 96, .ref 97, .ref 98, .ref 99, .ref 100, .ref 101, .ref 102, .ref 103, .ref 104, .ref 105, .ref 106, .ref 107, .ref 108, .ref 109, .ref 110, .ref 111, .ref 112, .ref 113, .ref 114, .ref 115, .ref 116, .ref 117, .ref 118, .ref 119, .ref 120, .ref 121, .ref 122, .ref 123, .ref 124, .ref 125, .ref 126, .ref 127, .ref 128, .ref 129, .ref 130, .ref 131, .ref 132, .ref 133, .ref 134, .ref 135, .ref 136, .ref 137, .ref 138, .ref 139, .ref 140, .ref 141, .ref 142, .ref 143, .ref 144, .ref 145, .ref 146, .ref 147, .ref 148, .ref 149, .ref 150, .ref 151, .ref 152, .ref 153, .ref 154, .ref 155, .ref 156, .ref 157, .ref 158, .ref 159, .ref 160, .ref 161, .ref 162, .ref 163, .ref 164, .ref 165, .ref 166, .ref 167, .ref 168, .ref 169, .ref 170, .ref 171, .ref 172, .ref 173, .ref 174, .ref 175, .ref 176, .ref 177, .ref 178, .ref 179, .ref 180, .ref 181, .ref 182, .ref 183, .ref 184, .ref 185, .ref 186, .ref 187, .ref 188, .ref 189, .ref 190, .ref 191, .ref 192, .ref 193, .ref 194, .ref 195, .ref 196, .ref 197, .ref 198, .ref 199, .ref 200, .ref 201, .ref 202, .ref 203, .ref 204, .ref 205, .ref 206, .ref 207, .ref 208, .ref 209, .ref 210, .ref 211, .ref 212, .ref 213, .ref 214, .ref 215, .ref 216, .ref 217, .ref 218, .ref 219, .ref 220, .ref 221, .ref 222, .ref 223, .ref 224, .ref 225, .ref 226, .ref 227, .ref 228, .ref 229, .ref 230, .ref 231, .ref 232, .ref 233, .ref 234, .ref 235, .ref 236, .ref 237, .ref 238, .ref 239, .ref 240, .ref 241, .ref 242, .ref 243, .ref 244, .ref 245, .ref 246, .ref 247, .ref 248, .ref 249, .ref 250, .ref 251, .ref 252, .ref 253, .ref 254, .ref 255, .ref 256, .ref 257, .ref 258, .ref 259, .ref 260], vm := .none },
  { cls := 16, slots := #[.int (-128)], vm := .none },
  { cls := 16, slots := #[.int (-127)], vm := .none },
  { cls := 16, slots := #[.int (-126)], vm := .none },
  { cls := 16, slots := #[.int (-125)], vm := .none },
  { cls := 16, slots := #[.int (-124)], vm := .none },
  { cls := 16, slots := #[.int (-123)], vm := .none },
  { cls := 16, slots := #[.int (-122)], vm := .none },
  { cls := 16, slots := #[.int (-121)], vm := .none },
  { cls := 16, slots := #[.int (-120)], vm := .none },
  { cls := 16, slots := #[.int (-119)], vm := .none },
  { cls := 16, slots := #[.int (-118)], vm := .none },
  { cls := 16, slots := #[.int (-117)], vm := .none },
  { cls := 16, slots := #[.int (-116)], vm := .none },
  { cls := 16, slots := #[.int (-115)], vm := .none },
  { cls := 16, slots := #[.int (-114)], vm := .none },
  { cls := 16, slots := #[.int (-113)], vm := .none },
  { cls := 16, slots := #[.int (-112)], vm := .none },
  { cls := 16, slots := #[.int (-111)], vm := .none },
  { cls := 16, slots := #[.int (-110)], vm := .none },
  { cls := 16, slots := #[.int (-109)], vm := .none },
  { cls := 16, slots := #[.int (-108)], vm := .none },
  { cls := 16, slots := #[.int (-107)], vm := .none },
  { cls := 16, slots := #[.int (-106)], vm := .none },
  { cls := 16, slots := #[.int (-105)], vm := .none },
  { cls := 16, slots := #[.int (-104)], vm := .none },
  { cls := 16, slots := #[.int (-103)], vm := .none },
  { cls := 16, slots := #[.int (-102)], vm := .none },
  { cls := 16, slots := #[.int (-101)], vm := .none },
  { cls := 16, slots := #[.int (-100)], vm := .none },
  { cls := 16, slots := #[.int (-99)], vm := .none },
  { cls := 16, slots := #[.int (-98)], vm := .none },
  { cls := 16, slots := #[.int (-97)], vm := .none },
  { cls := 16, slots := #[.int (-96)], vm := .none },
  { cls := 16, slots := #[.int (-95)], vm := .none },
  { cls := 16, slots := #[.int (-94)], vm := .none },
  { cls := 16, slots := #[.int (-93)], vm := .none },
  { cls := 16, slots := #[.int (-92)], vm := .none },
  { cls := 16, slots := #[.int (-91)], vm := .none },
  { cls := 16, slots := #[.int (-90)], vm := .none },
  { cls := 16, slots := #[.int (-89)], vm := .none },
  { cls := 16, slots := #[.int (-88)], vm := .none },
  { cls := 16, slots := #[.int (-87)], vm := .none },
  { cls := 16, slots := #[.int (-86)], vm := .none },
  { cls := 16, slots := #[.int (-85)], vm := .none },
  { cls := 16, slots := #[.int (-84)], vm := .none },
  { cls := 16, slots := #[.int (-83)], vm := .none },
  { cls := 16, slots := #[.int (-82)], vm := .none },
  { cls := 16, slots := #[.int (-81)], vm := .none },
  { cls := 16, slots := #[.int (-80)], vm := .none },
  { cls := 16, slots := #[.int (-79)], vm := .none },
  { cls := 16, slots := #[.int (-78)], vm := .none },
  { cls := 16, slots := #[.int (-77)], vm := .none },
  { cls := 16, slots := #[.int (-76)], vm := .none },
  { cls := 16, slots := #[.int (-75)], vm := .none },
  { cls := 16, slots := #[.int (-74)], vm := .none },
  { cls := 16, slots := #[.int (-73)], vm := .none },
  { cls := 16, slots := #[.int (-72)], vm := .none },
  { cls := 16, slots := #[.int (-71)], vm := .none },
  { cls := 16, slots := #[.int (-70)], vm := .none },
  { cls := 16, slots := #[.int (-69)], vm := .none },
  { cls := 16, slots := #[.int (-68)], vm := .none },
  { cls := 16, slots := #[.int (-67)], vm := .none },
  { cls := 16, slots := #[.int (-66)], vm := .none },
  { cls := 16, slots := #[.int (-65)], vm := .none },
  { cls := 16, slots := #[.int (-64)], vm := .none },
  { cls := 16, slots := #[.int (-63)], vm := .none },
  { cls := 16, slots := #[.int (-62)], vm := .none },
  { cls := 16, slots := #[.int (-61)], vm := .none },
  { cls := 16, slots := #[.int (-60)], vm := .none },
  { cls := 16, slots := #[.int (-59)], vm := .none },
  { cls := 16, slots := #[.int (-58)], vm := .none },
  { cls := 16, slots := #[.int (-57)], vm := .none },
  { cls := 16, slots := #[.int (-56)], vm := .none },
  { cls := 16, slots := #[.int (-55)], vm := .none },
  { cls := 16, slots := #[.int (-54)], vm := .none },
  { cls := 16, slots := #[.int (-53)], vm := .none },
  { cls := 16, slots := #[.int (-52)], vm := .none },
  { cls := 16, slots := #[.int (-51)], vm := .none },
  { cls := 16, slots := #[.int (-50)], vm := .none },
  { cls := 16, slots := #[.int (-49)], vm := .none },
  { cls := 16, slots := #[.int (-48)], vm := .none },
  { cls := 16, slots := #[.int (-47)], vm := .none },
  { cls := 16, slots := #[.int (-46)], vm := .none },
  { cls := 16, slots := #[.int (-45)], vm := .none },
  { cls := 16, slots := #[.int (-44)], vm := .none },
  { cls := 16, slots := #[.int (-43)], vm := .none },
  { cls := 16, slots := #[.int (-42)], vm := .none },
  { cls := 16, slots := #[.int (-41)], vm := .none },
  { cls := 16, slots := #[.int (-40)], vm := .none },
  { cls := 16, slots := #[.int (-39)], vm := .none },
  { cls := 16, slots := #[.int (-38)], vm := .none },
  { cls := 16, slots := #[.int (-37)], vm := .none },
  { cls := 16, slots := #[.int (-36)], vm := .none },
  { cls := 16, slots := #[.int (-35)], vm := .none },
  { cls := 16, slots := #[.int (-34)], vm := .none },
  { cls := 16, slots := #[.int (-33)], vm := .none },
  { cls := 16, slots := #[.int (-32)], vm := .none },
  { cls := 16, slots := #[.int (-31)], vm := .none },
  { cls := 16, slots := #[.int (-30)], vm := .none },
  { cls := 16, slots := #[.int (-29)], vm := .none },
  { cls := 16, slots := #[.int (-28)], vm := .none },
  { cls := 16, slots := #[.int (-27)], vm := .none },
  { cls := 16, slots := #[.int (-26)], vm := .none },
  { cls := 16, slots := #[.int (-25)], vm := .none },
  { cls := 16, slots := #[.int (-24)], vm := .none },
  { cls := 16, slots := #[.int (-23)], vm := .none },
  { cls := 16, slots := #[.int (-22)], vm := .none },
  { cls := 16, slots := #[.int (-21)], vm := .none },
  { cls := 16, slots := #[.int (-20)], vm := .none },
  { cls := 16, slots := #[.int (-19)], vm := .none },
  { cls := 16, slots := #[.int (-18)], vm := .none },
  { cls := 16, slots := #[.int (-17)], vm := .none },
  { cls := 16, slots := #[.int (-16)], vm := .none },
  { cls := 16, slots := #[.int (-15)], vm := .none },
  { cls := 16, slots := #[.int (-14)], vm := .none },
  { cls := 16, slots := #[.int (-13)], vm := .none },
  { cls := 16, slots := #[.int (-12)], vm := .none },
  { cls := 16, slots := #[.int (-11)], vm := .none },
  { cls := 16, slots := #[.int (-10)], vm := .none },
  { cls := 16, slots := #[.int (-9)], vm := .none },
  { cls := 16, slots := #[.int (-8)], vm := .none },
  { cls := 16, slots := #[.int (-7)], vm := .none },
  { cls := 16, slots := #[.int (-6)], vm := .none },
  { cls := 16, slots := #[.int (-5)], vm := .none },
  { cls := 16, slots := #[.int (-4)], vm := .none },
  { cls := 16, slots := #[.int (-3)], vm := .none },
  { cls := 16, slots := #[.int (-2)], vm := .none },
  { cls := 16, slots := #[.int (-1)], vm := .none },
  { cls := 16, slots := #[.int 0], vm := .none },
  { cls := 16, slots := #[.int 1], vm := .none },
  { cls := 16, slots := #[.int 2], vm := .none },
  { cls := 16, slots := #[.int 3], vm := .none },
  { cls := 16, slots := #[.int 4], vm := .none },
  { cls := 16, slots := #[.int 5], vm := .none },
  { cls := 16, slots := #[.int 6], vm := .none },
  { cls := 16, slots := #[.int 7], vm := .none },
  { cls := 16, slots := #[.int 8], vm := .none },
  { cls := 16, slots := #[.int 9], vm := .none },
  { cls := 16, slots := #[.int 10], vm := .none },
  { cls := 16, slots := #[.int 11], vm := .none },
  { cls := 16, slots := #[.int 12], vm := .none },
  { cls := 16, slots := #[.int 13], vm := .none },
  { cls := 16, slots := #[.int 14], vm := .none },
  { cls := 16, slots := #[.int 15], vm := .none },
  { cls := 16, slots := #[.int 16], vm := .none },
  { cls := 16, slots := #[.int 17], vm := .none },
  { cls := 16, slots := #[.int 18], vm := .none },
  { cls := 16, slots := #[.int 19], vm := .none },
  { cls := 16, slots := #[.int 20], vm := .none },
  { cls := 16, slots := #[.int 21], vm := .none },
  { cls := 16, slots := #[.int 22], vm := .none },
  { cls := 16, slots := #[.int 23], vm := .none },
  { cls := 16, slots := #[.int 24], vm := .none },
  { cls := 16, slots := #[.int 25], vm := .none },
  { cls := 16, slots := #[.int 26], vm := .none },
  { cls := 16, slots := #[.int 27], vm := .none },
  { cls := 16, slots := #[.int 28], vm := .none },
  { cls := 16, slots := #[.int 29], vm := .none },
  { cls := 16, slots := #[.int 30], vm := .none },
  { cls := 16, slots := #[.int 31], vm := .none },
  { cls := 16, slots := #[.int 32], vm := .none },
  { cls := 16, slots := #[.int 33], vm := .none },
  { cls := 16, slots := #[.int 34], vm := .none },
  { cls := 16, slots := #[.int 35], vm := .none },
  { cls := 16, slots := #[.int 36], vm := .none },
  { cls := 16, slots := #[.int 37], vm := .none },
  { cls := 16, slots := #[.int 38], vm := .none },
  { cls := 16, slots := #[.int 39], vm := .none },
  { cls := 16, slots := #[.int 40], vm := .none },
  { cls := 16, slots := #[.int 41], vm := .none },
  { cls := 16, slots := #[.int 42], vm := .none },
  { cls := 16, slots := #[.int 43], vm := .none },
  { cls := 16, slots := #[.int 44], vm := .none },
  { cls := 16, slots := #[.int 45], vm := .none },
  { cls := 16, slots := #[.int 46], vm := .none },
  { cls := 16, slots := #[.int 47], vm := .none },
  { cls := 16, slots := #[.int 48], vm := .none },
  { cls := 16, slots := #[.int 49], vm := .none },
  { cls := 16, slots := #[.int 50], vm := .none },
  { cls := 16, slots := #[.int 51], vm := .none },
  { cls := 16, slots := #[.int 52], vm := .none },
  { cls := 16, slots := #[.int 53], vm := .none },
  { cls := 16, slots := #[.int 54], vm := .none },
  { cls := 16, slots := #[.int 55], vm := .none },
  { cls := 16, slots := #[.int 56], vm := .none },
  { cls := 16, slots := #[.int 57], vm := .none },
  { cls := 16, slots := #[.int 58], vm := .none },
  { cls := 16, slots := #[.int 59], vm := .none },
  { cls := 16, slots := #[.int 60], vm := .none },
  { cls := 16, slots := #[.int 61], vm := .none },
  { cls := 16, slots := #[.int 62], vm := .none },
  { cls := 16, slots := #[.int 63], vm := .none },
  { cls := 16, slots := #[.int 64], vm := .none },
  { cls := 16, slots := #[.int 65], vm := .none },
  { cls := 16, slots := #[.int 66], vm := .none },
  { cls := 16, slots := #[.int 67], vm := .none },
  { cls := 16, slots := #[.int 68], vm := .none },
  { cls := 16, slots := #[.int 69], vm := .none },
  { cls := 16, slots := #[.int 70], vm := .none },
  { cls := 16, slots := #[.int 71], vm := .none },
  { cls := 16, slots := #[.int 72], vm := .none },
  { cls := 16, slots := #[.int 73], vm := .none },
  { cls := 16, slots := #[.int 74], vm := .none },
  { cls := 16, slots := #[.int 75], vm := .none },
  { cls := 16, slots := #[.int 76], vm := .none },
  { cls := 16, slots := #[.int 77], vm := .none },
  { cls := 16, slots := #[.int 78], vm := .none },
  { cls := 16, slots := #[.int 79], vm := .none },
  { cls := 16, slots := #[.int 80], vm := .none },
  { cls := 16, slots := #[.int 81], vm := .none },
  { cls := 16, slots := #[.int 82], vm := .none },
  { cls := 16, slots := #[.int 83], vm := .none },
  { cls := 16, slots := #[.int 84], vm := .none },
  { cls := 16, slots := #[.int 85], vm := .none },
  { cls := 16, slots := #[.int 86], vm := .none },
  { cls := 16, slots := #[.int 87], vm := .none },
  { cls := 16, slots := #[.int 88], vm := .none },
  { cls := 16, slots := #[.int 89], vm := .none },
  { cls := 16, slots := #[.int 90], vm := .none },
  { cls := 16, slots := #[.int 91], vm := .none },
  { cls := 16, slots := #[.int 92], vm := .none },
  { cls := 16, slots := #[.int 93], vm := .none },
  { cls := 16, slots := #[.int 94], vm := .none },
  { cls := 16, slots := #[.int 95], vm := .none },
  { cls := 16, slots := #[.int 96], vm := .none },
  { cls := 16, slots := #[.int 97], vm := .none },
  { cls := 16, slots := #[.int 98], vm := .none },
  { cls := 16, slots := #[.int 99], vm := .none },
  { cls := 16, slots := #[.int 100], vm := .none },
  { cls := 16, slots := #[.int 101], vm := .none },
  { cls := 16, slots := #[.int 102], vm := .none },
  { cls := 16, slots := #[.int 103], vm := .none },
  { cls := 16, slots := #[.int 104], vm := .none },
  { cls := 16, slots := #[.int 105], vm := .none },
  { cls := 16, slots := #[.int 106], vm := .none },
  { cls := 16, slots := #[.int 107], vm := .none },
  { cls := 16, slots := #[.int 108], vm := .none },
  { cls := 16, slots := #[.int 109], vm := .none },
  { cls := 16, slots := #[.int 110], vm := .none },
  { cls := 16, slots := #[.int 111], vm := .none },
  { cls := 16, slots := #[.int 112], vm := .none },
  { cls := 16, slots := #[.int 113], vm := .none },
  { cls := 16, slots := #[.int 114], vm := .none },
  { cls := 16, slots := #[.int 115], vm := .none },
  { cls := 16, slots := #[.int 116], vm := .none },
  { cls := 16, slots := #[.int 117], vm := .none },
  { cls := 16, slots := #[.int 118], vm := .none },
  { cls := 16, slots := #[.int 119], vm := .none },
  { cls := 16, slots := #[.int 120], vm := .none },
  { cls := 16, slots := #[.int 121], vm := .none },
  { cls := 16, slots := #[.int 122], vm := .none },
  { cls := 16, slots := #[.int 123], vm := .none },
  { cls := 16, slots := #[.int 124], vm := .none },
  { cls := 16, slots := #[.int 125], vm := .none },
  { cls := 16, slots := #[.int 126], vm := .none },
  { cls := 16, slots := #[.int 127], vm := .none }]
def classes : Array Class := #[k0, k1, k2, k3, k4, k5, k6, k7, k8, k9, k10, k11, k12, k13, k14, k15, k16, k17, k18, k19, k20, k21, k22, k23, k24, k25, k26, k27, k28]
def interned : List (Array UInt16 × Addr) := []
def slotsUsed : Nat := 521
def theMethod : MethodId := ⟨1, 1⟩
def args0 : Array Value := #[.int 5, .long 4, .int 7]
def aboutOver (below : List Frame) : State where
  vm := { classes := classes, interned := interned.toArray }
  heap := heap
  slotsUsed := slotsUsed
  threads := #[{ frames := .invoking theMethod args0 :: below }]
def below0 : List Frame := [.native { method := ⟨0, 0⟩, args := #[] }]
def about1 : State := aboutOver below0
def p0 : Program := .bare "" "" ""
def e0 : Env := launch0.env 0 0 0
theorem w_frames : about1.frames = Frame.invoking theMethod args0 :: below0 := rfl
set_option maxRecDepth 65536 in
theorem w_args : argsFit about1.vm theMethod args0 = true := by decide +kernel
set_option maxRecDepth 65536 in
theorem w_heap : heapFits about1 = true := by decide +kernel
set_option maxRecDepth 65536 in
theorem w_runnable : about1.curStatus? = some .runnable := by decide +kernel
set_option maxRecDepth 65536 in
theorem w_alone : about1.alone = true := by decide +kernel
set_option maxRecDepth 65536 in
theorem w_named : about1.methodNamed? x = some theMethod := by decide +kernel
set_option maxRecDepth 65536 in
theorem w_hears : about1.hears theMethod below0 = true := by decide +kernel
set_option maxRecDepth 65536 in
theorem w_ripe : about1.ripe theMethod args0 below0 = true := by decide +kernel
theorem w_running : about1.status = .running := rfl
set_option maxRecDepth 65536 in
theorem w_room : about1.hasRoom e0.platform room_1 = true :=
  launch0.hasRoom_least _ room_1 (by decide +kernel) (by decide +kernel) (by decide +kernel) (by decide +kernel) (by decide +kernel) (by decide +kernel)
theorem allAtoms_all (ts : List Jvm.Cond) (a : Array Jvm.Value) (st : Jvm.State) : (allAtoms ts).before a st = ts.all (fun c => c.before a st) := by
  induction ts with
  | nil => rfl
  | cons c t ih =>
    show (Jvm.Cond.and c (allAtoms t)).before a st = _
    rw [Jvm.Cond.before_and, ih, List.all_cons]
def words1 : List Jvm.Cond := Jvm.Cond.code x code maxLocals ret :: tables_1
/-- a 'code' word, met by the world's own term for the bytes: nothing is compared byte by byte -/
theorem code_word {y : MethodName} {bytes : ByteArray} {mx : Nat} {rt : Option FieldType} {a : Array Value} {s : State} {m : MethodId} {meth : Method} {c : Code} (h1 : s.methodNamed? y = some m) (h2 : s.vm.method? m = some meth) (h3 : meth.code = some c) (h4 : c.code = bytes)
    (h5 : (c.maxLocals == mx && c.exceptionTable.isEmpty && decide (c.maxStack ≤ mostOperands) && decide (meth.sig.returnType = rt) && !meth.locks && decide (parseMethodDescriptor y.desc = some meth.sig)) = true) : (Jvm.Cond.code y bytes mx rt).before a s = true := by
  simp only [Bool.and_eq_true, beq_iff_eq, Bool.not_eq_true', decide_eq_true_eq] at h5
  obtain ⟨⟨⟨⟨⟨g1, g2⟩, g3⟩, g4⟩, g5⟩, g6⟩ := h5
  simp [Cond.before, Cond.holds, Cond.value, h1, h2, h3, h4, g1, g2, g3, g4, g5, g6]
def isCode : Jvm.Cond → Bool
  | .code _ _ _ _ => true
  | _ => false
theorem all_split {L : List Jvm.Cond} {P : Jvm.Cond → Bool} (h1 : L.all (fun c => isCode c || P c) = true) (h2 : ∀ c ∈ L.filter isCode, P c = true) : L.all P = true := by
  refine List.all_eq_true.mpr fun c hc => ?_
  have h := List.all_eq_true.mp h1 c hc
  rcases Bool.eq_false_or_eq_true (isCode c) with hi | hi
  · exact h2 c (List.mem_filter.mpr ⟨hc, hi⟩)
  · simpa [hi] using h
set_option maxRecDepth 65536 in
theorem w_c0 : (Jvm.Cond.code x code maxLocals ret).before args0 about1 = true := code_word (m := ⟨1, 1⟩) (meth := k1m1) (c := k1c1) (by decide +kernel) rfl rfl rfl (by decide +kernel)
set_option maxRecDepth 65536 in
theorem w_c1 : (Jvm.Cond.code ({ cls := "java/util/ArrayList", name := "<init>", desc := "()V" } : Jvm.MethodName) jdk_38_method_2_code (1 : Nat) (Option.none : Option Jvm.ClassFile.FieldType)).before args0 about1 = true := code_word (m := ⟨11, 0⟩) (meth := k11m0) (c := k11c0) (by decide +kernel) rfl rfl rfl (by decide +kernel)
set_option maxRecDepth 65536 in
theorem w_c2 : (Jvm.Cond.code ({ cls := "java/util/AbstractList", name := "<init>", desc := "()V" } : Jvm.MethodName) jdk_39_method_1_code (1 : Nat) (Option.none : Option Jvm.ClassFile.FieldType)).before args0 about1 = true := code_word (m := ⟨7, 0⟩) (meth := k7m0) (c := k7c0) (by decide +kernel) rfl rfl rfl (by decide +kernel)
set_option maxRecDepth 65536 in
theorem w_c3 : (Jvm.Cond.code ({ cls := "java/util/AbstractCollection", name := "<init>", desc := "()V" } : Jvm.MethodName) jdk_22_method_1_code (1 : Nat) (Option.none : Option Jvm.ClassFile.FieldType)).before args0 about1 = true := code_word (m := ⟨4, 0⟩) (meth := k4m0) (c := k4c0) (by decide +kernel) rfl rfl rfl (by decide +kernel)
set_option maxRecDepth 65536 in
theorem w_c4 : (Jvm.Cond.code ({ cls := "java/lang/Object", name := "<init>", desc := "()V" } : Jvm.MethodName) object_method_1_code (1 : Nat) (Option.none : Option Jvm.ClassFile.FieldType)).before args0 about1 = true := code_word (m := ⟨0, 0⟩) (meth := k0m0) (c := k0c0) (by decide +kernel) rfl rfl rfl (by decide +kernel)
set_option maxRecDepth 65536 in
theorem w_c5 : (Jvm.Cond.code ({ cls := "java/lang/Integer", name := "valueOf", desc := "(I)Ljava/lang/Integer;" } : Jvm.MethodName) jdk_33_method_22_code (1 : Nat) (Option.some (Jvm.ClassFile.FieldType.object "java/lang/Integer"))).before args0 about1 = true := code_word (m := ⟨16, 0⟩) (meth := k16m0) (c := k16c0) (by decide +kernel) rfl rfl rfl (by decide +kernel)
set_option maxRecDepth 65536 in
theorem w_c6 : (Jvm.Cond.code ({ cls := "java/util/ArrayList", name := "add", desc := "(Ljava/lang/Object;)Z" } : Jvm.MethodName) jdk_38_method_25_code (2 : Nat) (Option.some Jvm.ClassFile.FieldType.boolean)).before args0 about1 = true := code_word (m := ⟨11, 4⟩) (meth := k11m4) (c := k11c4) (by decide +kernel) rfl rfl rfl (by decide +kernel)
set_option maxRecDepth 65536 in
theorem w_c7 : (Jvm.Cond.code ({ cls := "java/util/ArrayList", name := "add", desc := "(Ljava/lang/Object;[Ljava/lang/Object;I)V" } : Jvm.MethodName) jdk_38_method_24_code (4 : Nat) (Option.none : Option Jvm.ClassFile.FieldType)).before args0 about1 = true := code_word (m := ⟨11, 3⟩) (meth := k11m3) (c := k11c3) (by decide +kernel) rfl rfl rfl (by decide +kernel)
set_option maxRecDepth 65536 in
theorem w_c8 : (Jvm.Cond.code ({ cls := "java/util/ArrayList", name := "grow", desc := "()[Ljava/lang/Object;" } : Jvm.MethodName) jdk_38_method_7_code (1 : Nat) (Option.some (Jvm.ClassFile.FieldType.array (Jvm.ClassFile.FieldType.object "java/lang/Object")))).before args0 about1 = true := code_word (m := ⟨11, 2⟩) (meth := k11m2) (c := k11c2) (by decide +kernel) rfl rfl rfl (by decide +kernel)
set_option maxRecDepth 65536 in
theorem w_c9 : (Jvm.Cond.code ({ cls := "java/util/ArrayList", name := "grow", desc := "(I)[Ljava/lang/Object;" } : Jvm.MethodName) jdk_38_method_6_code (4 : Nat) (Option.some (Jvm.ClassFile.FieldType.array (Jvm.ClassFile.FieldType.object "java/lang/Object")))).before args0 about1 = true := code_word (m := ⟨11, 1⟩) (meth := k11m1) (c := k11c1) (by decide +kernel) rfl rfl rfl (by decide +kernel)
set_option maxRecDepth 65536 in
theorem w_c10 : (Jvm.Cond.code ({ cls := "java/lang/Math", name := "max", desc := "(II)I" } : Jvm.MethodName) jdk_29_method_65_code (2 : Nat) (Option.some Jvm.ClassFile.FieldType.int)).before args0 about1 = true := code_word (m := ⟨18, 1⟩) (meth := k18m1) (c := k18c1) (by decide +kernel) rfl rfl rfl (by decide +kernel)
set_option maxRecDepth 65536 in
theorem w_c11 : (Jvm.Cond.code ({ cls := "com/example/tidy_mailbox/tidymailbox/stream/StreamRecord", name := "<init>", desc := "(Ljava/lang/Object;J)V" } : Jvm.MethodName) prog_33_method_1_code (4 : Nat) (Option.none : Option Jvm.ClassFile.FieldType)).before args0 about1 = true := code_word (m := ⟨20, 0⟩) (meth := k20m0) (c := k20c0) (by decide +kernel) rfl rfl rfl (by decide +kernel)
set_option maxRecDepth 65536 in
theorem w_c12 : (Jvm.Cond.code ({ cls := "com/example/tidy_mailbox/tidymailbox/async/RecordEntry", name := "<init>", desc := "(Lcom/example/tidy_mailbox/tidymailbox/stream/StreamRecord;)V" } : Jvm.MethodName) prog_13_method_1_code (2 : Nat) (Option.none : Option Jvm.ClassFile.FieldType)).before args0 about1 = true := code_word (m := ⟨22, 0⟩) (meth := k22m0) (c := k22c0) (by decide +kernel) rfl rfl rfl (by decide +kernel)
set_option maxRecDepth 65536 in
theorem w_c13 : (Jvm.Cond.code ({ cls := "com/example/tidy_mailbox/tidymailbox/async/Entry", name := "<init>", desc := "()V" } : Jvm.MethodName) prog_11_method_1_code (1 : Nat) (Option.none : Option Jvm.ClassFile.FieldType)).before args0 about1 = true := code_word (m := ⟨21, 0⟩) (meth := k21m0) (c := k21c0) (by decide +kernel) rfl rfl rfl (by decide +kernel)
set_option maxRecDepth 65536 in
theorem w_c14 : (Jvm.Cond.code ({ cls := "com/example/tidy_mailbox/tidymailbox/async/RecordEntry", name := "isComplete", desc := "()Z" } : Jvm.MethodName) prog_13_method_4_code (1 : Nat) (Option.some Jvm.ClassFile.FieldType.boolean)).before args0 about1 = true := code_word (m := ⟨22, 3⟩) (meth := k22m3) (c := k22c3) (by decide +kernel) rfl rfl rfl (by decide +kernel)
set_option maxRecDepth 65536 in
theorem w_c15 : (Jvm.Cond.code ({ cls := "com/example/tidy_mailbox/tidymailbox/async/RecordEntryIsCompletePinLaw", name := "apply", desc := "(Lcom/example/tidy_mailbox/tidymailbox/async/RecordEntry;ILjava/util/ArrayList;Ljava/util/ArrayList;)V" } : Jvm.MethodName) method_3_code (4 : Nat) (Option.none : Option Jvm.ClassFile.FieldType)).before args0 about1 = true := code_word (m := ⟨1, 2⟩) (meth := k1m2) (c := k1c2) (by decide +kernel) rfl rfl rfl (by decide +kernel)
set_option maxRecDepth 65536 in
theorem w_c16 : (Jvm.Cond.code ({ cls := "com/example/tidy_mailbox/tidymailbox/async/RecordEntry", name := "setResults", desc := "(Ljava/util/List;)V" } : Jvm.MethodName) prog_13_method_3_code (2 : Nat) (Option.none : Option Jvm.ClassFile.FieldType)).before args0 about1 = true := code_word (m := ⟨22, 2⟩) (meth := k22m2) (c := k22c2) (by decide +kernel) rfl rfl rfl (by decide +kernel)
set_option maxRecDepth 65536 in
theorem w_c17 : (Jvm.Cond.code ({ cls := "com/example/tidy_mailbox/tidymailbox/async/RecordEntry", name := "input", desc := "()Lcom/example/tidy_mailbox/tidymailbox/stream/StreamRecord;" } : Jvm.MethodName) prog_13_method_2_code (1 : Nat) (Option.some (Jvm.ClassFile.FieldType.object "com/example/tidy_mailbox/tidymailbox/stream/StreamRecord"))).before args0 about1 = true := code_word (m := ⟨22, 1⟩) (meth := k22m1) (c := k22c1) (by decide +kernel) rfl rfl rfl (by decide +kernel)
set_option maxRecDepth 65536 in
theorem w_c18 : (Jvm.Cond.code ({ cls := "java/lang/Integer", name := "<init>", desc := "(I)V" } : Jvm.MethodName) jdk_33_method_23_code (2 : Nat) (Option.none : Option Jvm.ClassFile.FieldType)).before args0 about1 = true := code_word (m := ⟨16, 1⟩) (meth := k16m1) (c := k16c1) (by decide +kernel) rfl rfl rfl (by decide +kernel)
set_option maxRecDepth 65536 in
theorem w_c19 : (Jvm.Cond.code ({ cls := "java/lang/Number", name := "<init>", desc := "()V" } : Jvm.MethodName) jdk_18_method_1_code (1 : Nat) (Option.none : Option Jvm.ClassFile.FieldType)).before args0 about1 = true := code_word (m := ⟨12, 0⟩) (meth := k12m0) (c := k12c0) (by decide +kernel) rfl rfl rfl (by decide +kernel)
def codes1 : List Jvm.Cond := [Jvm.Cond.code x code maxLocals ret, Jvm.Cond.code ({ cls := "java/util/ArrayList", name := "<init>", desc := "()V" } : Jvm.MethodName) jdk_38_method_2_code (1 : Nat) (Option.none : Option Jvm.ClassFile.FieldType), Jvm.Cond.code ({ cls := "java/util/AbstractList", name := "<init>", desc := "()V" } : Jvm.MethodName) jdk_39_method_1_code (1 : Nat) (Option.none : Option Jvm.ClassFile.FieldType), Jvm.Cond.code ({ cls := "java/util/AbstractCollection", name := "<init>", desc := "()V" } : Jvm.MethodName) jdk_22_method_1_code (1 : Nat) (Option.none : Option Jvm.ClassFile.FieldType), Jvm.Cond.code ({ cls := "java/lang/Object", name := "<init>", desc := "()V" } : Jvm.MethodName) object_method_1_code (1 : Nat) (Option.none : Option Jvm.ClassFile.FieldType), Jvm.Cond.code ({ cls := "java/lang/Integer", name := "valueOf", desc := "(I)Ljava/lang/Integer;" } : Jvm.MethodName) jdk_33_method_22_code (1 : Nat) (Option.some (Jvm.ClassFile.FieldType.object "java/lang/Integer")), Jvm.Cond.code ({ cls := "java/util/ArrayList", name := "add", desc := "(Ljava/lang/Object;)Z" } : Jvm.MethodName) jdk_38_method_25_code (2 : Nat) (Option.some Jvm.ClassFile.FieldType.boolean), Jvm.Cond.code ({ cls := "java/util/ArrayList", name := "add", desc := "(Ljava/lang/Object;[Ljava/lang/Object;I)V" } : Jvm.MethodName) jdk_38_method_24_code (4 : Nat) (Option.none : Option Jvm.ClassFile.FieldType), Jvm.Cond.code ({ cls := "java/util/ArrayList", name := "grow", desc := "()[Ljava/lang/Object;" } : Jvm.MethodName) jdk_38_method_7_code (1 : Nat) (Option.some (Jvm.ClassFile.FieldType.array (Jvm.ClassFile.FieldType.object "java/lang/Object"))), Jvm.Cond.code ({ cls := "java/util/ArrayList", name := "grow", desc := "(I)[Ljava/lang/Object;" } : Jvm.MethodName) jdk_38_method_6_code (4 : Nat) (Option.some (Jvm.ClassFile.FieldType.array (Jvm.ClassFile.FieldType.object "java/lang/Object"))), Jvm.Cond.code ({ cls := "java/lang/Math", name := "max", desc := "(II)I" } : Jvm.MethodName) jdk_29_method_65_code (2 : Nat) (Option.some Jvm.ClassFile.FieldType.int), Jvm.Cond.code ({ cls := "com/example/tidy_mailbox/tidymailbox/stream/StreamRecord", name := "<init>", desc := "(Ljava/lang/Object;J)V" } : Jvm.MethodName) prog_33_method_1_code (4 : Nat) (Option.none : Option Jvm.ClassFile.FieldType), Jvm.Cond.code ({ cls := "com/example/tidy_mailbox/tidymailbox/async/RecordEntry", name := "<init>", desc := "(Lcom/example/tidy_mailbox/tidymailbox/stream/StreamRecord;)V" } : Jvm.MethodName) prog_13_method_1_code (2 : Nat) (Option.none : Option Jvm.ClassFile.FieldType), Jvm.Cond.code ({ cls := "com/example/tidy_mailbox/tidymailbox/async/Entry", name := "<init>", desc := "()V" } : Jvm.MethodName) prog_11_method_1_code (1 : Nat) (Option.none : Option Jvm.ClassFile.FieldType), Jvm.Cond.code ({ cls := "com/example/tidy_mailbox/tidymailbox/async/RecordEntry", name := "isComplete", desc := "()Z" } : Jvm.MethodName) prog_13_method_4_code (1 : Nat) (Option.some Jvm.ClassFile.FieldType.boolean), Jvm.Cond.code ({ cls := "com/example/tidy_mailbox/tidymailbox/async/RecordEntryIsCompletePinLaw", name := "apply", desc := "(Lcom/example/tidy_mailbox/tidymailbox/async/RecordEntry;ILjava/util/ArrayList;Ljava/util/ArrayList;)V" } : Jvm.MethodName) method_3_code (4 : Nat) (Option.none : Option Jvm.ClassFile.FieldType), Jvm.Cond.code ({ cls := "com/example/tidy_mailbox/tidymailbox/async/RecordEntry", name := "setResults", desc := "(Ljava/util/List;)V" } : Jvm.MethodName) prog_13_method_3_code (2 : Nat) (Option.none : Option Jvm.ClassFile.FieldType), Jvm.Cond.code ({ cls := "com/example/tidy_mailbox/tidymailbox/async/RecordEntry", name := "input", desc := "()Lcom/example/tidy_mailbox/tidymailbox/stream/StreamRecord;" } : Jvm.MethodName) prog_13_method_2_code (1 : Nat) (Option.some (Jvm.ClassFile.FieldType.object "com/example/tidy_mailbox/tidymailbox/stream/StreamRecord")), Jvm.Cond.code ({ cls := "java/lang/Integer", name := "<init>", desc := "(I)V" } : Jvm.MethodName) jdk_33_method_23_code (2 : Nat) (Option.none : Option Jvm.ClassFile.FieldType), Jvm.Cond.code ({ cls := "java/lang/Number", name := "<init>", desc := "()V" } : Jvm.MethodName) jdk_18_method_1_code (1 : Nat) (Option.none : Option Jvm.ClassFile.FieldType)]
set_option maxRecDepth 65536 in
theorem codes_eq : words1.filter isCode = codes1 := rfl
theorem w_codes : ∀ c ∈ words1.filter isCode, c.before args0 about1 = true := by
  rw [codes_eq]
  intro c hc
  simp only [codes1, List.mem_cons, List.not_mem_nil, or_false] at hc
  rcases hc with rfl | rfl | rfl | rfl | rfl | rfl | rfl | rfl | rfl | rfl | rfl | rfl | rfl | rfl | rfl | rfl | rfl | rfl | rfl | rfl
  · exact w_c0
  · exact w_c1
  · exact w_c2
  · exact w_c3
  · exact w_c4
  · exact w_c5
  · exact w_c6
  · exact w_c7
  · exact w_c8
  · exact w_c9
  · exact w_c10
  · exact w_c11
  · exact w_c12
  · exact w_c13
  · exact w_c14
  · exact w_c15
  · exact w_c16
  · exact w_c17
  · exact w_c18
  · exact w_c19
set_option maxRecDepth 65536 in
theorem w_t1 : (words1.take 24).all (fun c => isCode c || c.before args0 about1) = true := by decide +kernel
set_option maxRecDepth 65536 in
theorem w_t2 : ((words1.drop 24).take 24).all (fun c => isCode c || c.before args0 about1) = true := by decide +kernel
set_option maxRecDepth 65536 in
theorem w_t3 : (((words1.drop 24).drop 24).take 24).all (fun c => isCode c || c.before args0 about1) = true := by decide +kernel
set_option maxRecDepth 65536 in
theorem w_t4 : ((((words1.drop 24).drop 24).drop 24).take 24).all (fun c => isCode c || c.before args0 about1) = true := by decide +kernel
set_option maxRecDepth 65536 in
theorem w_t5 : (((((words1.drop 24).drop 24).drop 24).drop 24).take 24).all (fun c => isCode c || c.before args0 about1) = true := by decide +kernel
set_option maxRecDepth 65536 in
theorem w_t6 : (((((words1.drop 24).drop 24).drop 24).drop 24).drop 24).all (fun c => isCode c || c.before args0 about1) = true := by decide +kernel
theorem w_tables : (allAtoms (Jvm.Cond.code x code maxLocals ret :: tables_1)).before args0 about1 = true := by
  rw [allAtoms_all]
  show words1.all (fun c => c.before args0 about1) = true
  refine all_split ?_ w_codes
  rw [← List.take_append_drop 24 words1, List.all_append, w_t1, ← List.take_append_drop 24 (words1.drop 24), List.all_append, w_t2, ← List.take_append_drop 24 ((words1.drop 24).drop 24), List.all_append, w_t3, ← List.take_append_drop 24 (((words1.drop 24).drop 24).drop 24), List.all_append, w_t4, ← List.take_append_drop 24 ((((words1.drop 24).drop 24).drop 24).drop 24), List.all_append, w_t5, w_t6]
  rfl
set_option maxRecDepth 65536 in
theorem w_rest : rest_1_c.before args0 about1 = true := by decide +kernel
set_option maxRecDepth 65536 in
theorem w_case : (Jvm.Cond.and given_1 narrow_1).before args0 about1 = true := by decide +kernel
theorem w_applies : (headSpec (Jvm.Cond.code x code maxLocals ret :: tables_1) room_1).applies x e0.platform about1 = true :=
  (Spec.applies_iff w_frames).mpr ⟨w_running, w_runnable, w_alone, w_named, w_hears, w_ripe, w_room, w_tables⟩
theorem atStart : AtStart classFile x code maxLocals ret World_1 tables_1 room_1 Calls_1 rest_1 Pre_1 launch0 p0 e0 about1 theMethod args0 below0 :=
  ⟨lists_1, trivial, launch0.admits_env _ _ _, launch0.least_env, fairChoices_fair.cas, fairChoices_fair.clock, w_frames, w_args, w_heap, w_applies, trivial, w_rest, w_case⟩
end start1
theorem witness_1 : WitnessClaimed_1 := ⟨start1.p0, start1.e0, start1.about1, start1.theMethod, start1.args0, start1.below0, start1.atStart⟩
end Jvm.Pilot.@@N@@
