import JvmDerived
import JvmDerived.Pilot.@@N@@Statement
import JvmDerived.Pilot.@@N@@Code
set_option linter.unusedVariables false
set_option linter.unusedSimpArgs false
namespace Jvm.RoadKit
open Sem ClassFile Op Lib Jvm.Stand Jvm.Free Jvm.LawKit
section New
variable {p : Program} {l : Launch} {e : Env} {R : Room} {s : State} {m : MethodId} {args : Array Value} {below : List Frame} {meth : Method} {c : Code} {T : State} {locs : List Loc} {cells slots : Nat}
theorem retI (X : Stand p l e R s m args below meth c T locs cells slots) (hx : p.tables.exec = Jvm.exec) {pc : Nat} {Ls : Array Slot} {z : Int32} {rest : List Value} (hret : meth.sig.returnType = some .int) (hd : decode c.code pc = .ok (.ireturn, 1)) {fs : List Frame}
    (hl : ∀ (f : JFrame) (acts : List Action), f.method = m → f.locked = none → f.entered = [] → (doReturn e (T.setTop f) acts (some (.int z))).1 = T.setFrames fs) : Steps p.tables e below (T.setTop (mkF m pc Ls (.int z :: rest))) (T.setFrames fs) := by
  have hm' : T.vm.method? m = some meth := X.method'
  have hn : narrow .int (.int z) = .int z := rfl
  show Steps p.tables e below (T.setTop { method := m, pc := pc, locals := Ls, stack := _ :: rest, locked := none }) _
  jvm_step X.here [X.here.top, hx, hd, hm', hret, hn]
  first | (intro acts; rw [hl _ acts rfl rfl rfl]) | rw [hl _ _ rfl rfl rfl]
  exact Steps.refl _
end New
end Jvm.RoadKit
namespace Jvm.Pilot.@@N@@
open Jvm Jvm.ClassFile Sem Op Lib Jvm.Free Jvm.Stand Jvm.LawKit Jvm.RoadKit Bundle Jvm.Pilot.@@N@@.Jvm.D
theorem own_set {Z : State} {h h' : Heap} {a : Addr} {k : ClassId} {ty : FieldType} {z j : Int32} {vs : List Value} {dv v : Value} {c : Cell} (A : Arr Z h a c ty) (q1 : c.cls = k) (S : c.slots.size = z.toNatClampNeg) (q3 : ¬ z < 0) (H : Has c vs dv) (G : ∀ i, i < c.slots.size → fits ty (vs.getD i dv) = true) (hv : fits ty v = true) (W : Wr h h' a j.toNatClampNeg v) (i : Nat) (hj : j.toNatClampNeg = i) (hi : i < vs.length) (v' : Value) (e1 : v = v') (vs' : List Value) (e2 : vs.set i v' = vs') : Arv Z h' a k ty z vs' dv := by
  subst e1; subst e2; exact Arv.set A q1 S q3 H G hv W i hj hi
theorem own_pad {Z : State} {h : Heap} {a : Addr} {k : ClassId} {ty : FieldType} {z : Int32} {dv : Value} (F : Arv Z h a k ty z [] dv) (n : Nat) (vs : List Value) (e : vs = List.replicate n dv) : Arv Z h a k ty z vs dv := e ▸ F.pad (pad_rep [] dv n)
theorem own_irr32 (x : Int32) : ¬ x < x := Int32.lt_irrefl
theorem own_irr64 (x : Int64) : ¬ x < x := Int64.lt_irrefl
theorem own_fldI {args : Array Value} {s : State} {t : Term} {C n d : String} {x : Addr} {k : Int32} (ht : t.eval args s none [] s = some (.ref x)) (h : (Cond.eq (Term.field t C n d) (Term.int k)).value args s none s [] = some true) : Fld s s.heap x C n d (.int k) := Fld.start ((fld_at ht).symm.trans (eqv_i (Term.int_eval k) h))
theorem own_fldJ {args : Array Value} {s : State} {t : Term} {C n d : String} {x : Addr} {k : Int64} (ht : t.eval args s none [] s = some (.ref x)) (h : (Cond.eq (Term.field t C n d) (Term.long k)).value args s none s [] = some true) : Fld s s.heap x C n d (.long k) := Fld.start ((fld_at ht).symm.trans (eqv_l (long_at k) h))
theorem own_len {args : Array Value} {s : State} {t : Term} {x : Addr} {cl : Cell} {ty : FieldType} {k : Int32} (ht : t.eval args s none [] s = some (.ref x)) (A : Arr s s.heap x cl ty) (h : (Cond.eq (Term.length t) (Term.int k)).value args s none s [] = some true) : cl.slots.size.toInt32 = k ∧ cl.slots.size < 2 ^ 31 := by
  have e := eqv_i (Term.int_eval k) h
  have ha := A.fin (Vm.Alike.refl _)
  by_cases q : cl.slots.size < 2 ^ 31
  · have e2 := (len_f ht ha q).symm.trans e
    exact ⟨Value.int.inj (Option.some.inj e2), q⟩
  · simp [Term.eval, ht, ha, q] at e
theorem own_elem {args : Array Value} {s : State} {t u : Term} {x : Addr} {cl : Cell} {ty : FieldType} {k : Int32} {v : Value} (ht : t.eval args s none [] s = some (.ref x)) (A : Arr s s.heap x cl ty) (hu : u.eval args s none [] s = some v) (hv : v.isRef = true) (h : (Cond.eq (Term.elem t (Term.int k)) u).value args s none s [] = some true) : cl.slots[k.toNatClampNeg]? = some v := by
  obtain ⟨a, b, h1, h2, h3, h4⟩ := cmp_v (Or.inl h)
  have hb := Option.some.inj (h2.symm.trans hu)
  subst hb
  obtain ⟨c', e1, e2, e3⟩ := elem_at h1 ht (Term.int_eval k)
  have ec := Option.some.inj (e1.symm.trans A.1)
  subst ec
  have ha : a.isRef = true := by
    rcases ref_cases hv with rfl | ⟨y, rfl⟩
    · exact h4.2
    · exact h4.2
  rw [e3, gotT (eq_R h1 h2 ha hv) h]
def own_KL (h h' : Heap) (ls : List Loc) : Prop := h.size ≤ h'.size ∧ ∀ (x : Addr) (c : Cell), h[x]? = some c → ∃ c' : Cell, h'[x]? = some c' ∧ c'.cls = c.cls ∧ c'.vm = c.vm ∧ c'.slots.size = c.slots.size ∧ ((∀ y ∈ ls, y.base ≠ x) → c' = c) ∧ ∀ i, (⟨x, i⟩ : Loc) ∉ ls → c'.slots[i]? = c.slots[i]?
section OwnKL
variable {Z : State} {h0 h h' : Heap} {ls ls' : List Loc} {a b x : Addr} {i j sl n0 : Nat} {v : Value} {C n d : String}
theorem own_kl0 (h : Heap) (ls : List Loc) : own_KL h h ls := ⟨Nat.le_refl _, fun x c q => ⟨c, q, rfl, rfl, rfl, fun _ => rfl, fun _ _ => rfl⟩⟩
theorem own_klE (K : own_KL h0 h ls) (E : Ext h h') : own_KL h0 h' ls := ⟨Nat.le_trans K.1 E.1, fun x c q => by obtain ⟨c', q', r⟩ := K.2 x c q; exact ⟨c', E.2 x c' q', r⟩⟩
theorem own_klT (K : own_KL h0 h ls) (K' : own_KL h h' ls') (q : ∀ y ∈ ls', y ∈ ls ∨ h0.size ≤ y.base) : own_KL h0 h' ls := by
  refine ⟨Nat.le_trans K.1 K'.1, fun x c hc => ?_⟩
  obtain ⟨c1, a1, a2, a3, a4, a5, a6⟩ := K.2 x c hc
  obtain ⟨c2, b1, b2, b3, b4, b5, b6⟩ := K'.2 x c1 a1
  have hx : x < h0.size := (Array.getElem?_eq_some_iff.mp hc).1
  refine ⟨c2, b1, b2.trans a2, b3.trans a3, b4.trans a4, fun hn => ?_, fun i hi => ?_⟩
  · rw [← a5 hn]; exact b5 fun y hy e => (q y hy).elim (fun z => hn y z e) (fun z => absurd hx (Nat.not_lt.mpr (e ▸ z)))
  · rw [← a6 i hi]; exact b6 i fun z => (q _ z).elim hi (fun u => absurd hx (Nat.not_lt.mpr u))
theorem own_klofW (W : Wr h h' a sl v) : own_KL h h' [⟨a, sl⟩] := by
  refine ⟨Nat.le_of_eq W.size.symm, fun x c hc => ?_⟩
  obtain ⟨c', e1, e2, e3, e4, e5, e6, -⟩ := wr_at W hc
  refine ⟨c', e1, e2, e3, e4, fun hn => e5 fun q => hn _ (List.mem_singleton.mpr rfl) q.symm, fun i hi => ?_⟩
  by_cases q : x = a
  · exact e6 i fun r => hi (by rw [q, r]; exact List.mem_singleton.mpr rfl)
  · rw [e5 q]
theorem own_klW (K : own_KL h0 h ls) (W : Wr h h' a sl v) (q : (⟨a, sl⟩ : Loc) ∈ ls ∨ h0.size ≤ a) : own_KL h0 h' ls := own_klT K (own_klofW W) fun y hy => by cases List.mem_singleton.mp hy; exact q
theorem own_ka0 : ∀ y ∈ ([] : List Loc), y ∈ ls ∨ n0 ≤ y.base := fun _ q => nomatch q
theorem own_kac (q : (⟨a, sl⟩ : Loc) ∈ ls ∨ n0 ≤ a) (r : ∀ y ∈ ls', y ∈ ls ∨ n0 ≤ y.base) : ∀ y ∈ (⟨a, sl⟩ : Loc) :: ls', y ∈ ls ∨ n0 ≤ y.base := fun y z => (List.mem_cons.mp z).elim (fun u => u ▸ q) (r y)
theorem own_ng0 : ∀ y ∈ ([] : List Loc), n0 ≤ y.base := fun _ q => nomatch q
theorem own_ngc (q : n0 ≤ a) (r : ∀ y ∈ ls', n0 ≤ y.base) : ∀ y ∈ (⟨a, sl⟩ : Loc) :: ls', n0 ≤ y.base := fun y z => (List.mem_cons.mp z).elim (fun u => u ▸ q) (r y)
theorem own_nb0 : ∀ y ∈ ([] : List Loc), y.base ≠ a := fun _ q => nomatch q
theorem own_nbc (q : b ≠ a) (r : ∀ y ∈ ls', y.base ≠ a) : ∀ y ∈ (⟨b, sl⟩ : Loc) :: ls', y.base ≠ a := fun y z => (List.mem_cons.mp z).elim (fun u => u ▸ q) (r y)
theorem own_nl0 : (⟨a, i⟩ : Loc) ∉ ([] : List Loc) := fun q => nomatch q
theorem own_nlb (q : a ≠ b) (r : (⟨a, i⟩ : Loc) ∉ ls) : (⟨a, i⟩ : Loc) ∉ (⟨b, j⟩ : Loc) :: ls := fun z => (List.mem_cons.mp z).elim (fun u => q (congrArg Loc.base u)) r
theorem own_nls (q : i ≠ j) (r : (⟨a, i⟩ : Loc) ∉ ls) : (⟨a, i⟩ : Loc) ∉ (⟨b, j⟩ : Loc) :: ls := fun z => (List.mem_cons.mp z).elim (fun u => q (congrArg Loc.slot u)) r
theorem own_exa (F : Exa Z h a C) (K : own_KL h h' ls) : Exa Z h' a C := by
  obtain ⟨cell, k, h1, h2, h3, h4, h5⟩ := F
  obtain ⟨c', e1, e2, e3, e4, -⟩ := K.2 _ _ h1
  exact ⟨c', k, e1, by rw [e2]; exact h2, by rw [e2]; exact h3, by rw [e3]; exact h4, by rw [e4]; exact h5⟩
theorem own_fld (F : Fld Z h a C n d v) (K : own_KL h h' ls) (q : (⟨a, Jvm.RoadKit.slotOf Z C n d⟩ : Loc) ∉ ls) : Fld Z h' a C n d v := by
  obtain ⟨cell, cf, k, i, f, h1, h2, h3, h4, h5, h6, h7⟩ := F
  obtain ⟨c', e1, e2, e3, e4, -, e6⟩ := K.2 _ _ h1
  refine ⟨c', cf, k, i, f, e1, h2, h3, by rw [e3]; exact h4, by rw [e3]; exact h5, by rw [e2]; exact h6, ?_⟩
  rw [e6 _ (by simpa [Jvm.RoadKit.slotOf, h2] using q)]; exact h7
theorem own_arv {k : ClassId} {ty : FieldType} {z : Int32} {vs : List Value} {dv : Value} (F : Arv Z h a k ty z vs dv) (K : own_KL h h' ls) (q : ∀ y ∈ ls, y.base ≠ a) : Arv Z h' a k ty z vs dv := by
  obtain ⟨c, A, r⟩ := F
  obtain ⟨c', e1, -, -, -, e5, -⟩ := K.2 _ _ A.1
  cases e5 q
  exact ⟨c, ⟨e1, A.2⟩, r⟩
theorem own_old (O : Old Z n0 h) (K : own_KL h h' ls) (q : ∀ y ∈ ls, n0 ≤ y.base) : Old Z n0 h' := ⟨O.1, Nat.le_trans O.2.1 K.1, fun x c r => by
  obtain ⟨c', e1, -, -, -, e5, -⟩ := K.2 x c (O.2.2 x c r)
  have hx : x < n0 := O.1 ▸ (Array.getElem?_eq_some_iff.mp r).1
  rw [e1, e5 fun y hy e => absurd hx (Nat.not_lt.mpr (e ▸ q y hy))]⟩
end OwnKL
theorem own_NSroot {Z : State} {a0 : Array Value} {O K : String} {n : Nat} (w : (Cond.noSuperclass O).before a0 Z = true) (wk : (Cond.instantiable K n).before a0 Z = true) (hn : O ≠ K) : NS Z O K := by
  obtain ⟨c, k, h1, h2, h3, -, -⟩ := Cond.noSuperclass_spec w
  obtain ⟨t, -, g1, -⟩ := Cond.instantiable_spec wk
  have ne := ids_ne h1 g1 hn
  refine ⟨c, t, h1, g1, fun fuel => ?_⟩
  cases fuel with
  | zero => rfl
  | succ f => simp [Vm.isSubclassAux, ne, h2, h3]
theorem own_NSno {Z : State} {a0 : Array Value} {C S K : String} {n : Nat} (w : (Cond.superclass C S).before a0 Z = true) (wk : (Cond.instantiable K n).before a0 Z = true) (u : NS Z C K) (hn : C ≠ K) : ∃ c t, Z.vm.findClass C = some c ∧ Z.vm.findClass K = some t ∧ Z.vm.assignable c t = false := by
  obtain ⟨c, t, h0, g0, n3⟩ := u
  obtain ⟨p, k, kp, h1, h2, h3, h4, h5, -, h7⟩ := Cond.superclass_spec h0 w
  obtain ⟨t', k', g1, g2, g5, g7, -⟩ := Cond.instantiable_spec wk
  cases g0.symm.trans g1
  have ne := ids_ne h0 g0 hn
  have g8 : k'.isInterface = false := by cases hI : k'.isInterface <;> simp [hI] at g7 ⊢
  refine ⟨c, t, h0, g0, ?_⟩
  show Z.vm.assignableAux (255 + 1) c t = false
  simp [Vm.assignableAux, ne, h2, g2, h5, g5, g8, Vm.isSubclass, n3]
theorem own_boxI {Z : State} {args : Array Value} {t : Term} {a : Addr} {c : Cell} {K : String} {z : Int32} (et : ∀ idx, t.eval args Z none idx Z = some (.ref a)) (A : Arr Z Z.heap a c (.object K)) (q : c.slots.size.toInt32 = z ∧ c.slots.size < 2 ^ 31) (hz : ¬ z < 0)
    (h : (Cond.all t (.and (.exactly (.elem t (.index 0)) K) (.eq (.field (.elem t (.index 0)) K "value" "I") (.sub (.index 0) (.int 128))))).value args Z none Z [] = some true) : Bxs Z a c K "I" z (fun j => .int (j - 128)) :=
  Bxs.start et A q.2 q.1 hz h fun X j nn hh => eqv_i (by simp [Term.eval, idx_at nn, (back32 nn).1]) hh
theorem own_boxJ {Z : State} {args : Array Value} {t : Term} {a : Addr} {c : Cell} {K : String} {z : Int32} (et : ∀ idx, t.eval args Z none idx Z = some (.ref a)) (A : Arr Z Z.heap a c (.object K)) (q : c.slots.size.toInt32 = z ∧ c.slots.size < 2 ^ 31) (hz : ¬ z < 0)
    (h : (Cond.all t (.and (.exactly (.elem t (.index 0)) K) (.eq (.field (.elem t (.index 0)) K "value" "J") (.op1 .i2l (.sub (.index 0) (.int 128)))))).value args Z none Z [] = some true) : Bxs Z a c K "J" z (fun j => .long (j - 128).toInt64) :=
  Bxs.start et A q.2 q.1 hz h fun X j nn hh => eqv_l (i2l_at (by simp [Term.eval, idx_at nn, (back32 nn).1])) hh
theorem own_staI {s : State} {args : Array Value} {C n d : String} {k : Int32} (h : (Cond.eq (Term.static C n d) (Term.int k)).value args s none s [] = some true) : (Term.static C n d).eval args s none [] s = some (.int k) := eqv_i (Term.int_eval k) h
theorem own_selp {Z : State} {a0 : Array Value} {y : MethodName} {n : Nat} (wi : (Cond.instantiable y.cls n).before a0 Z = true) (wp : (Cond.privateMethod y).before a0 Z = true) (wm : (Cond.instanceMethod y).before a0 Z = true) (hy : y.cls ≠ "java/lang/invoke/MethodHandle" ∧ y.cls ≠ "java/lang/invoke/VarHandle") : (Cond.selects y.cls y y).before a0 Z = true := by
  obtain ⟨c, k, h1, h2, -, h4, -⟩ := Cond.instantiable_spec wi
  exact selects_self_of_private h1 h2 (by cases hI : k.isInterface <;> simp [hI] at h4 ⊢) (Cond.privateMethod_at wp) wm hy
def own_Gk (Z : State) (h : Heap) (a : Addr) (k : ClassId) (ty : FieldType) (n j : Int32) (v : Value) : Prop := ∃ c : Cell, Arr Z h a c ty ∧ c.cls = k ∧ c.slots.size = n.toNatClampNeg ∧ ¬ n < 0 ∧ c.slots[j.toNatClampNeg]? = some v
section OwnGk
variable {Z : State} {h h' : Heap} {ls : List Loc} {a b : Addr} {k : ClassId} {ty : FieldType} {n j : Int32} {v u : Value} {sl : Nat}
theorem own_Gk.lt (F : own_Gk Z h a k ty n j v) : a < h.size := by obtain ⟨c, A, -⟩ := F; exact A.lt
theorem own_gk_ext (F : own_Gk Z h a k ty n j v) (E : Ext h h') : own_Gk Z h' a k ty n j v := by obtain ⟨c, A, r⟩ := F; exact ⟨c, A.ext E, r⟩
theorem own_gk_oth (F : own_Gk Z h a k ty n j v) (W : Wr h h' b sl u) (q : a ≠ b) : own_Gk Z h' a k ty n j v := by obtain ⟨c, A, r⟩ := F; exact ⟨c, A.other W q, r⟩
theorem own_gk_kl (F : own_Gk Z h a k ty n j v) (K : own_KL h h' ls) (q : ∀ y ∈ ls, y.base ≠ a) : own_Gk Z h' a k ty n j v := by
  obtain ⟨c, A, r⟩ := F
  obtain ⟨c', e1, -, -, -, e5, -⟩ := K.2 _ _ A.1
  cases e5 q
  exact ⟨c, ⟨e1, A.2⟩, r⟩
theorem own_gk_set {c : Cell} (A : Arr Z h a c ty) (q1 : c.cls = k) (S : c.slots.size = n.toNatClampNeg) (N : ¬ n < 0) (W : Wr h h' a j.toNatClampNeg v) : own_Gk Z h' a k ty n j v := by
  obtain ⟨c', e1, e2, e3, e4, -, -, e7⟩ := wr_at W A.1
  have e8 := (e7 rfl).1
  exact ⟨_, A.same W, q1, by rw [sz_set]; exact S, N, by rw [← e8]; exact (e7 rfl).2.1⟩
end OwnGk
section OwnSteps
variable {p : Program} {l : Launch} {e : Env} {R : Room} {s : State} {m : MethodId} {args : Array Value} {below : List Frame} {meth : Method} {c : Code} {T target : State} {locs : List Loc} {cells slots : Nat} {code : ByteArray} {pc : Nat} {Ls : Array Slot} {K : List Value}
theorem sc (X : Stand p l e R s m args below meth c T locs cells slots) (hx : p.tables.exec = Jvm.exec) (hby : c.code = code) {i : Int} (hd : decode code pc = .ok (.iconst i, 1)) (hr : Steps p.tables e below (T.setTop (mkF m (pc + 1) Ls (.int (Int32.ofInt i) :: K))) target) : Steps p.tables e below (T.setTop (mkF m pc Ls K)) target := XS.iconst X.here hx rfl (hb hby hd) hr
theorem sa (X : Stand p l e R s m args below meth c T locs cells slots) (hx : p.tables.exec = Jvm.exec) (hby : c.code = code) {k : Nat} {v : Value} (hd : decode code pc = .ok (.aload k, 2)) (hl : Ls[k]? = some (.val v)) (hv : v.isRef = true) (hr : Steps p.tables e below (T.setTop (mkF m (pc + 2) Ls (v :: K))) target) : Steps p.tables e below (T.setTop (mkF m pc Ls K)) target := XS.aload X.here hx rfl (hb hby hd) hl hv hr
theorem sA (X : Stand p l e R s m args below meth c T locs cells slots) (hx : p.tables.exec = Jvm.exec) (hby : c.code = code) {k : Fin 4} {v : Value} (hd : decode code pc = .ok (.aload_n k, 1)) (hl : Ls[k.val]? = some (.val v)) (hv : v.isRef = true) (hr : Steps p.tables e below (T.setTop (mkF m (pc + 1) Ls (v :: K))) target) : Steps p.tables e below (T.setTop (mkF m pc Ls K)) target := XS.aloadN X.here hx rfl (hb hby hd) hl hv hr
theorem si (X : Stand p l e R s m args below meth c T locs cells slots) (hx : p.tables.exec = Jvm.exec) (hby : c.code = code) {k : Nat} {v : Int32} (hd : decode code pc = .ok (.iload k, 2)) (hl : Ls[k]? = some (.val (.int v))) (hr : Steps p.tables e below (T.setTop (mkF m (pc + 2) Ls (.int v :: K))) target) : Steps p.tables e below (T.setTop (mkF m pc Ls K)) target := XS.iload X.here hx rfl (hb hby hd) hl hr
theorem sI (X : Stand p l e R s m args below meth c T locs cells slots) (hx : p.tables.exec = Jvm.exec) (hby : c.code = code) {k : Fin 4} {v : Int32} (hd : decode code pc = .ok (.iload_n k, 1)) (hl : Ls[k.val]? = some (.val (.int v))) (hr : Steps p.tables e below (T.setTop (mkF m (pc + 1) Ls (.int v :: K))) target) : Steps p.tables e below (T.setTop (mkF m pc Ls K)) target := XS.iloadN X.here hx rfl (hb hby hd) hl hr
theorem sL (X : Stand p l e R s m args below meth c T locs cells slots) (hx : p.tables.exec = Jvm.exec) (hby : c.code = code) {k : Fin 4} {v : Int64} (hd : decode code pc = .ok (.lload_n k, 1)) (hl : Ls[k.val]? = some (.val (.long v))) (hr : Steps p.tables e below (T.setTop (mkF m (pc + 1) Ls (.long v :: K))) target) : Steps p.tables e below (T.setTop (mkF m pc Ls K)) target := XS.lloadN X.here hx rfl (hb hby hd) hl hr
theorem sg (X : Stand p l e R s m args below meth c T locs cells slots) (hx : p.tables.exec = Jvm.exec) (hby : c.code = code) {o : Int} {pc' : Nat} (hd : decode code pc = .ok (.goto o, 3)) (ho : 0 ≤ (pc : Int) + o) (hp : ((pc : Int) + o).toNat = pc') (hr : Steps p.tables e below (T.setTop (mkF m pc' Ls K)) target) : Steps p.tables e below (T.setTop (mkF m pc Ls K)) target := XS.goto X.here hx rfl rfl (hb hby hd) ho hp hr
theorem sn (X : Stand p l e R s m args below meth c T locs cells slots) (hx : p.tables.exec = Jvm.exec) (hby : c.code = code) {cd : ClassFile.Cond} {o : Int} {x y : Int32} (hd : decode code pc = .ok (.if_icmp cd o, 3)) (hc : if_icmp.holds cd x y = false) (hr : Steps p.tables e below (T.setTop (mkF m (pc + 3) Ls K)) target) : Steps p.tables e below (T.setTop (mkF m pc Ls (.int y :: .int x :: K))) target := XS.icmpNo X.here hx rfl (hb hby hd) rfl hc hr
theorem sN (X : Stand p l e R s m args below meth c T locs cells slots) (hx : p.tables.exec = Jvm.exec) (hby : c.code = code) {cd : ClassFile.Cond} {o : Int} {x : Int32} (hd : decode code pc = .ok (.ifCond cd o, 3)) (hc : ifCond.holds cd x = false) (hr : Steps p.tables e below (T.setTop (mkF m (pc + 3) Ls K)) target) : Steps p.tables e below (T.setTop (mkF m pc Ls (.int x :: K))) target := XS.ifNo X.here hx rfl (hb hby hd) rfl hc hr
end OwnSteps

theorem own_rem13 (x : Int32) : (x &&& 2147483647) % 13 = 0 ∨ (x &&& 2147483647) % 13 = 1 ∨ (x &&& 2147483647) % 13 = 2 ∨ (x &&& 2147483647) % 13 = 3 ∨ (x &&& 2147483647) % 13 = 4 ∨ (x &&& 2147483647) % 13 = 5 ∨ (x &&& 2147483647) % 13 = 6 ∨ (x &&& 2147483647) % 13 = 7 ∨ (x &&& 2147483647) % 13 = 8 ∨ (x &&& 2147483647) % 13 = 9 ∨ (x &&& 2147483647) % 13 = 10 ∨ (x &&& 2147483647) % 13 = 11 ∨ (x &&& 2147483647) % 13 = 12 := by
  have h : (x &&& 2147483647).toInt = x.toInt % 2147483648 := c_mask x 2147483647 31 (by decide) (by decide)
  have h2 : ((x &&& 2147483647) % 13).toInt = (x &&& 2147483647).toInt % 13 := by
    rw [Int32.toInt_mod, Int.tmod_eq_emod_of_nonneg (by rw [h]; omega)]; rfl
  have hr : ((x &&& 2147483647) % 13).toInt = 0 ∨ ((x &&& 2147483647) % 13).toInt = 1 ∨ ((x &&& 2147483647) % 13).toInt = 2 ∨ ((x &&& 2147483647) % 13).toInt = 3 ∨ ((x &&& 2147483647) % 13).toInt = 4 ∨ ((x &&& 2147483647) % 13).toInt = 5 ∨ ((x &&& 2147483647) % 13).toInt = 6 ∨ ((x &&& 2147483647) % 13).toInt = 7 ∨ ((x &&& 2147483647) % 13).toInt = 8 ∨ ((x &&& 2147483647) % 13).toInt = 9 ∨ ((x &&& 2147483647) % 13).toInt = 10 ∨ ((x &&& 2147483647) % 13).toInt = 11 ∨ ((x &&& 2147483647) % 13).toInt = 12 := by omega
  rcases hr with q | q | q | q | q | q | q | q | q | q | q | q | q
  · exact Or.inl (Int32.toInt_inj.mp q)
  · exact Or.inr (Or.inl (Int32.toInt_inj.mp q))
  · exact Or.inr (Or.inr (Or.inl (Int32.toInt_inj.mp q)))
  · exact Or.inr (Or.inr (Or.inr (Or.inl (Int32.toInt_inj.mp q))))
  · exact Or.inr (Or.inr (Or.inr (Or.inr (Or.inl (Int32.toInt_inj.mp q)))))
  · exact Or.inr (Or.inr (Or.inr (Or.inr (Or.inr (Or.inl (Int32.toInt_inj.mp q))))))
  · exact Or.inr (Or.inr (Or.inr (Or.inr (Or.inr (Or.inr (Or.inl (Int32.toInt_inj.mp q)))))))
  · exact Or.inr (Or.inr (Or.inr (Or.inr (Or.inr (Or.inr (Or.inr (Or.inl (Int32.toInt_inj.mp q))))))))
  · exact Or.inr (Or.inr (Or.inr (Or.inr (Or.inr (Or.inr (Or.inr (Or.inr (Or.inl (Int32.toInt_inj.mp q)))))))))
  · exact Or.inr (Or.inr (Or.inr (Or.inr (Or.inr (Or.inr (Or.inr (Or.inr (Or.inr (Or.inl (Int32.toInt_inj.mp q))))))))))
  · exact Or.inr (Or.inr (Or.inr (Or.inr (Or.inr (Or.inr (Or.inr (Or.inr (Or.inr (Or.inr (Or.inl (Int32.toInt_inj.mp q)))))))))))
  · exact Or.inr (Or.inr (Or.inr (Or.inr (Or.inr (Or.inr (Or.inr (Or.inr (Or.inr (Or.inr (Or.inr (Or.inl (Int32.toInt_inj.mp q))))))))))))
  · exact Or.inr (Or.inr (Or.inr (Or.inr (Or.inr (Or.inr (Or.inr (Or.inr (Or.inr (Or.inr (Or.inr (Or.inr (Int32.toInt_inj.mp q))))))))))))
abbrev ym0 : MethodName := ⟨"com/example/weftcheck/weftcheck/OperationKind", "usesRow", "()Z"⟩
abbrev ym1 : MethodName := ⟨"com/example/weftcheck/weftcheck/OperationKind", "declares", "()Z"⟩
abbrev ym2 : MethodName := ⟨"com/example/weftcheck/weftcheck/OperationKind", "endsTransaction", "()Z"⟩
abbrev ym3 : MethodName := ⟨"com/example/weftcheck/weftcheck/OperationKind", "accessesRows", "()Z"⟩
theorem wk0 {Z : State} {a0 : Array Value} (hw : ∀ d ∈ tables_1, d.before a0 Z = true) : (Jvm.Cond.classLink "com/example/weftcheck/weftcheck/OperationKindUsesRowPinLaw" (7 : Nat) "com/example/weftcheck/weftcheck/OperationKind").before a0 Z = true := hw _ (List.mem_of_getElem? (i := 0) rfl)
theorem wk1 {Z : State} {a0 : Array Value} (hw : ∀ d ∈ tables_1, d.before a0 Z = true) : (Jvm.Cond.arrayOver (Jvm.ClassFile.FieldType.object "com/example/weftcheck/weftcheck/OperationKind")).before a0 Z = true := hw _ (List.mem_of_getElem? (i := 1) rfl)
theorem wk2 {Z : State} {a0 : Array Value} (hw : ∀ d ∈ tables_1, d.before a0 Z = true) : (Jvm.Cond.fieldLink "com/example/weftcheck/weftcheck/OperationKindUsesRowPinLaw" (9 : Nat) "com/example/weftcheck/weftcheck/OperationKind" "MAP" "Lcom/example/weftcheck/weftcheck/OperationKind;").before a0 Z = true := hw _ (List.mem_of_getElem? (i := 2) rfl)
theorem wk3 {Z : State} {a0 : Array Value} (hw : ∀ d ∈ tables_1, d.before a0 Z = true) : (Jvm.Cond.initialized "com/example/weftcheck/weftcheck/OperationKind").before a0 Z = true := hw _ (List.mem_of_getElem? (i := 3) rfl)
theorem wk4 {Z : State} {a0 : Array Value} (hw : ∀ d ∈ tables_1, d.before a0 Z = true) : (Jvm.Cond.laysStatic "com/example/weftcheck/weftcheck/OperationKind" "MAP" "Lcom/example/weftcheck/weftcheck/OperationKind;").before a0 Z = true := hw _ (List.mem_of_getElem? (i := 4) rfl)
theorem wk6 {Z : State} {a0 : Array Value} (hw : ∀ d ∈ tables_1, d.before a0 Z = true) : (Jvm.Cond.fieldLink "com/example/weftcheck/weftcheck/OperationKindUsesRowPinLaw" (13 : Nat) "com/example/weftcheck/weftcheck/OperationKind" "PREDICATE" "Lcom/example/weftcheck/weftcheck/OperationKind;").before a0 Z = true := hw _ (List.mem_of_getElem? (i := 6) rfl)
theorem wk7 {Z : State} {a0 : Array Value} (hw : ∀ d ∈ tables_1, d.before a0 Z = true) : (Jvm.Cond.laysStatic "com/example/weftcheck/weftcheck/OperationKind" "PREDICATE" "Lcom/example/weftcheck/weftcheck/OperationKind;").before a0 Z = true := hw _ (List.mem_of_getElem? (i := 7) rfl)
theorem wk8 {Z : State} {a0 : Array Value} (hw : ∀ d ∈ tables_1, d.before a0 Z = true) : (Jvm.Cond.fieldLink "com/example/weftcheck/weftcheck/OperationKindUsesRowPinLaw" (16 : Nat) "com/example/weftcheck/weftcheck/OperationKind" "ISOLATION" "Lcom/example/weftcheck/weftcheck/OperationKind;").before a0 Z = true := hw _ (List.mem_of_getElem? (i := 8) rfl)
theorem wk9 {Z : State} {a0 : Array Value} (hw : ∀ d ∈ tables_1, d.before a0 Z = true) : (Jvm.Cond.laysStatic "com/example/weftcheck/weftcheck/OperationKind" "ISOLATION" "Lcom/example/weftcheck/weftcheck/OperationKind;").before a0 Z = true := hw _ (List.mem_of_getElem? (i := 9) rfl)
theorem wk10 {Z : State} {a0 : Array Value} (hw : ∀ d ∈ tables_1, d.before a0 Z = true) : (Jvm.Cond.fieldLink "com/example/weftcheck/weftcheck/OperationKindUsesRowPinLaw" (19 : Nat) "com/example/weftcheck/weftcheck/OperationKind" "READ" "Lcom/example/weftcheck/weftcheck/OperationKind;").before a0 Z = true := hw _ (List.mem_of_getElem? (i := 10) rfl)
theorem wk11 {Z : State} {a0 : Array Value} (hw : ∀ d ∈ tables_1, d.before a0 Z = true) : (Jvm.Cond.laysStatic "com/example/weftcheck/weftcheck/OperationKind" "READ" "Lcom/example/weftcheck/weftcheck/OperationKind;").before a0 Z = true := hw _ (List.mem_of_getElem? (i := 11) rfl)
theorem wk12 {Z : State} {a0 : Array Value} (hw : ∀ d ∈ tables_1, d.before a0 Z = true) : (Jvm.Cond.fieldLink "com/example/weftcheck/weftcheck/OperationKindUsesRowPinLaw" (22 : Nat) "com/example/weftcheck/weftcheck/OperationKind" "WRITE" "Lcom/example/weftcheck/weftcheck/OperationKind;").before a0 Z = true := hw _ (List.mem_of_getElem? (i := 12) rfl)
theorem wk13 {Z : State} {a0 : Array Value} (hw : ∀ d ∈ tables_1, d.before a0 Z = true) : (Jvm.Cond.laysStatic "com/example/weftcheck/weftcheck/OperationKind" "WRITE" "Lcom/example/weftcheck/weftcheck/OperationKind;").before a0 Z = true := hw _ (List.mem_of_getElem? (i := 13) rfl)
theorem wk14 {Z : State} {a0 : Array Value} (hw : ∀ d ∈ tables_1, d.before a0 Z = true) : (Jvm.Cond.fieldLink "com/example/weftcheck/weftcheck/OperationKindUsesRowPinLaw" (25 : Nat) "com/example/weftcheck/weftcheck/OperationKind" "READ_WRITE" "Lcom/example/weftcheck/weftcheck/OperationKind;").before a0 Z = true := hw _ (List.mem_of_getElem? (i := 14) rfl)
theorem wk15 {Z : State} {a0 : Array Value} (hw : ∀ d ∈ tables_1, d.before a0 Z = true) : (Jvm.Cond.laysStatic "com/example/weftcheck/weftcheck/OperationKind" "READ_WRITE" "Lcom/example/weftcheck/weftcheck/OperationKind;").before a0 Z = true := hw _ (List.mem_of_getElem? (i := 15) rfl)
theorem wk16 {Z : State} {a0 : Array Value} (hw : ∀ d ∈ tables_1, d.before a0 Z = true) : (Jvm.Cond.fieldLink "com/example/weftcheck/weftcheck/OperationKindUsesRowPinLaw" (28 : Nat) "com/example/weftcheck/weftcheck/OperationKind" "INSERT" "Lcom/example/weftcheck/weftcheck/OperationKind;").before a0 Z = true := hw _ (List.mem_of_getElem? (i := 16) rfl)
theorem wk17 {Z : State} {a0 : Array Value} (hw : ∀ d ∈ tables_1, d.before a0 Z = true) : (Jvm.Cond.laysStatic "com/example/weftcheck/weftcheck/OperationKind" "INSERT" "Lcom/example/weftcheck/weftcheck/OperationKind;").before a0 Z = true := hw _ (List.mem_of_getElem? (i := 17) rfl)
theorem wk18 {Z : State} {a0 : Array Value} (hw : ∀ d ∈ tables_1, d.before a0 Z = true) : (Jvm.Cond.fieldLink "com/example/weftcheck/weftcheck/OperationKindUsesRowPinLaw" (31 : Nat) "com/example/weftcheck/weftcheck/OperationKind" "DELETE" "Lcom/example/weftcheck/weftcheck/OperationKind;").before a0 Z = true := hw _ (List.mem_of_getElem? (i := 18) rfl)
theorem wk19 {Z : State} {a0 : Array Value} (hw : ∀ d ∈ tables_1, d.before a0 Z = true) : (Jvm.Cond.laysStatic "com/example/weftcheck/weftcheck/OperationKind" "DELETE" "Lcom/example/weftcheck/weftcheck/OperationKind;").before a0 Z = true := hw _ (List.mem_of_getElem? (i := 19) rfl)
theorem wk20 {Z : State} {a0 : Array Value} (hw : ∀ d ∈ tables_1, d.before a0 Z = true) : (Jvm.Cond.fieldLink "com/example/weftcheck/weftcheck/OperationKindUsesRowPinLaw" (34 : Nat) "com/example/weftcheck/weftcheck/OperationKind" "PREDICATE_READ" "Lcom/example/weftcheck/weftcheck/OperationKind;").before a0 Z = true := hw _ (List.mem_of_getElem? (i := 20) rfl)
theorem wk21 {Z : State} {a0 : Array Value} (hw : ∀ d ∈ tables_1, d.before a0 Z = true) : (Jvm.Cond.laysStatic "com/example/weftcheck/weftcheck/OperationKind" "PREDICATE_READ" "Lcom/example/weftcheck/weftcheck/OperationKind;").before a0 Z = true := hw _ (List.mem_of_getElem? (i := 21) rfl)
theorem wk22 {Z : State} {a0 : Array Value} (hw : ∀ d ∈ tables_1, d.before a0 Z = true) : (Jvm.Cond.fieldLink "com/example/weftcheck/weftcheck/OperationKindUsesRowPinLaw" (37 : Nat) "com/example/weftcheck/weftcheck/OperationKind" "SQL_STATEMENT" "Lcom/example/weftcheck/weftcheck/OperationKind;").before a0 Z = true := hw _ (List.mem_of_getElem? (i := 22) rfl)
theorem wk23 {Z : State} {a0 : Array Value} (hw : ∀ d ∈ tables_1, d.before a0 Z = true) : (Jvm.Cond.laysStatic "com/example/weftcheck/weftcheck/OperationKind" "SQL_STATEMENT" "Lcom/example/weftcheck/weftcheck/OperationKind;").before a0 Z = true := hw _ (List.mem_of_getElem? (i := 23) rfl)
theorem wk24 {Z : State} {a0 : Array Value} (hw : ∀ d ∈ tables_1, d.before a0 Z = true) : (Jvm.Cond.fieldLink "com/example/weftcheck/weftcheck/OperationKindUsesRowPinLaw" (40 : Nat) "com/example/weftcheck/weftcheck/OperationKind" "SQL_QUERY" "Lcom/example/weftcheck/weftcheck/OperationKind;").before a0 Z = true := hw _ (List.mem_of_getElem? (i := 24) rfl)
theorem wk25 {Z : State} {a0 : Array Value} (hw : ∀ d ∈ tables_1, d.before a0 Z = true) : (Jvm.Cond.laysStatic "com/example/weftcheck/weftcheck/OperationKind" "SQL_QUERY" "Lcom/example/weftcheck/weftcheck/OperationKind;").before a0 Z = true := hw _ (List.mem_of_getElem? (i := 25) rfl)
theorem wk26 {Z : State} {a0 : Array Value} (hw : ∀ d ∈ tables_1, d.before a0 Z = true) : (Jvm.Cond.fieldLink "com/example/weftcheck/weftcheck/OperationKindUsesRowPinLaw" (43 : Nat) "com/example/weftcheck/weftcheck/OperationKind" "COMMIT" "Lcom/example/weftcheck/weftcheck/OperationKind;").before a0 Z = true := hw _ (List.mem_of_getElem? (i := 26) rfl)
theorem wk27 {Z : State} {a0 : Array Value} (hw : ∀ d ∈ tables_1, d.before a0 Z = true) : (Jvm.Cond.laysStatic "com/example/weftcheck/weftcheck/OperationKind" "COMMIT" "Lcom/example/weftcheck/weftcheck/OperationKind;").before a0 Z = true := hw _ (List.mem_of_getElem? (i := 27) rfl)
theorem wk28 {Z : State} {a0 : Array Value} (hw : ∀ d ∈ tables_1, d.before a0 Z = true) : (Jvm.Cond.fieldLink "com/example/weftcheck/weftcheck/OperationKindUsesRowPinLaw" (46 : Nat) "com/example/weftcheck/weftcheck/OperationKind" "ABORT" "Lcom/example/weftcheck/weftcheck/OperationKind;").before a0 Z = true := hw _ (List.mem_of_getElem? (i := 28) rfl)
theorem wk29 {Z : State} {a0 : Array Value} (hw : ∀ d ∈ tables_1, d.before a0 Z = true) : (Jvm.Cond.laysStatic "com/example/weftcheck/weftcheck/OperationKind" "ABORT" "Lcom/example/weftcheck/weftcheck/OperationKind;").before a0 Z = true := hw _ (List.mem_of_getElem? (i := 29) rfl)
theorem wk30 {Z : State} {a0 : Array Value} (hw : ∀ d ∈ tables_1, d.before a0 Z = true) : (Jvm.Cond.arrayClass Jvm.ClassFile.FieldType.boolean).before a0 Z = true := hw _ (List.mem_of_getElem? (i := 30) rfl)
theorem wk31 {Z : State} {a0 : Array Value} (hw : ∀ d ∈ tables_1, d.before a0 Z = true) : (Jvm.Cond.constant "com/example/weftcheck/weftcheck/OperationKindUsesRowPinLaw" (49 : Nat) (2147483647 : Int32)).before a0 Z = true := hw _ (List.mem_of_getElem? (i := 31) rfl)
theorem wk32 {Z : State} {a0 : Array Value} (hw : ∀ d ∈ tables_1, d.before a0 Z = true) : (Jvm.Cond.methodLink "com/example/weftcheck/weftcheck/OperationKindUsesRowPinLaw" (50 : Nat) ({ cls := "com/example/weftcheck/weftcheck/OperationKind", name := "usesRow", desc := "()Z" } : Jvm.MethodName)).before a0 Z = true := hw _ (List.mem_of_getElem? (i := 32) rfl)
theorem wk33 {Z : State} {a0 : Array Value} (hw : ∀ d ∈ tables_1, d.before a0 Z = true) : (Jvm.Cond.declares ({ cls := "com/example/weftcheck/weftcheck/OperationKind", name := "usesRow", desc := "()Z" } : Jvm.MethodName)).before a0 Z = true := hw _ (List.mem_of_getElem? (i := 33) rfl)
theorem wk34 {Z : State} {a0 : Array Value} (hw : ∀ d ∈ tables_1, d.before a0 Z = true) : (Jvm.Cond.instanceMethod ({ cls := "com/example/weftcheck/weftcheck/OperationKind", name := "usesRow", desc := "()Z" } : Jvm.MethodName)).before a0 Z = true := hw _ (List.mem_of_getElem? (i := 34) rfl)
theorem wk35 {Z : State} {a0 : Array Value} (hw : ∀ d ∈ tables_1, d.before a0 Z = true) : (Jvm.Cond.selects "com/example/weftcheck/weftcheck/OperationKind" ({ cls := "com/example/weftcheck/weftcheck/OperationKind", name := "usesRow", desc := "()Z" } : Jvm.MethodName) ({ cls := "com/example/weftcheck/weftcheck/OperationKind", name := "usesRow", desc := "()Z" } : Jvm.MethodName)).before a0 Z = true := hw _ (List.mem_of_getElem? (i := 35) rfl)
theorem wk36 {Z : State} {a0 : Array Value} (hw : ∀ d ∈ tables_1, d.before a0 Z = true) : (Jvm.Cond.code ({ cls := "com/example/weftcheck/weftcheck/OperationKind", name := "usesRow", desc := "()Z" } : Jvm.MethodName) prog_29_method_7_code (1 : Nat) (Option.some Jvm.ClassFile.FieldType.boolean)).before a0 Z = true := hw _ (List.mem_of_getElem? (i := 36) rfl)
theorem wk37 {Z : State} {a0 : Array Value} (hw : ∀ d ∈ tables_1, d.before a0 Z = true) : (Jvm.Cond.fieldLink "com/example/weftcheck/weftcheck/OperationKind" (13 : Nat) "com/example/weftcheck/weftcheck/OperationKind" "READ" "Lcom/example/weftcheck/weftcheck/OperationKind;").before a0 Z = true := hw _ (List.mem_of_getElem? (i := 37) rfl)
theorem wk38 {Z : State} {a0 : Array Value} (hw : ∀ d ∈ tables_1, d.before a0 Z = true) : (Jvm.Cond.fieldLink "com/example/weftcheck/weftcheck/OperationKind" (16 : Nat) "com/example/weftcheck/weftcheck/OperationKind" "WRITE" "Lcom/example/weftcheck/weftcheck/OperationKind;").before a0 Z = true := hw _ (List.mem_of_getElem? (i := 38) rfl)
theorem wk39 {Z : State} {a0 : Array Value} (hw : ∀ d ∈ tables_1, d.before a0 Z = true) : (Jvm.Cond.fieldLink "com/example/weftcheck/weftcheck/OperationKind" (19 : Nat) "com/example/weftcheck/weftcheck/OperationKind" "READ_WRITE" "Lcom/example/weftcheck/weftcheck/OperationKind;").before a0 Z = true := hw _ (List.mem_of_getElem? (i := 39) rfl)
theorem wk40 {Z : State} {a0 : Array Value} (hw : ∀ d ∈ tables_1, d.before a0 Z = true) : (Jvm.Cond.fieldLink "com/example/weftcheck/weftcheck/OperationKind" (22 : Nat) "com/example/weftcheck/weftcheck/OperationKind" "INSERT" "Lcom/example/weftcheck/weftcheck/OperationKind;").before a0 Z = true := hw _ (List.mem_of_getElem? (i := 40) rfl)
theorem wk41 {Z : State} {a0 : Array Value} (hw : ∀ d ∈ tables_1, d.before a0 Z = true) : (Jvm.Cond.fieldLink "com/example/weftcheck/weftcheck/OperationKind" (25 : Nat) "com/example/weftcheck/weftcheck/OperationKind" "DELETE" "Lcom/example/weftcheck/weftcheck/OperationKind;").before a0 Z = true := hw _ (List.mem_of_getElem? (i := 41) rfl)
theorem wk42 {Z : State} {a0 : Array Value} (hw : ∀ d ∈ tables_1, d.before a0 Z = true) : (Jvm.Cond.methodLink "com/example/weftcheck/weftcheck/OperationKindUsesRowPinLaw" (54 : Nat) ({ cls := "com/example/weftcheck/weftcheck/OperationKind", name := "accessesRows", desc := "()Z" } : Jvm.MethodName)).before a0 Z = true := hw _ (List.mem_of_getElem? (i := 42) rfl)
theorem wk43 {Z : State} {a0 : Array Value} (hw : ∀ d ∈ tables_1, d.before a0 Z = true) : (Jvm.Cond.declares ({ cls := "com/example/weftcheck/weftcheck/OperationKind", name := "accessesRows", desc := "()Z" } : Jvm.MethodName)).before a0 Z = true := hw _ (List.mem_of_getElem? (i := 43) rfl)
theorem wk44 {Z : State} {a0 : Array Value} (hw : ∀ d ∈ tables_1, d.before a0 Z = true) : (Jvm.Cond.instanceMethod ({ cls := "com/example/weftcheck/weftcheck/OperationKind", name := "accessesRows", desc := "()Z" } : Jvm.MethodName)).before a0 Z = true := hw _ (List.mem_of_getElem? (i := 44) rfl)
theorem wk45 {Z : State} {a0 : Array Value} (hw : ∀ d ∈ tables_1, d.before a0 Z = true) : (Jvm.Cond.selects "com/example/weftcheck/weftcheck/OperationKind" ({ cls := "com/example/weftcheck/weftcheck/OperationKind", name := "accessesRows", desc := "()Z" } : Jvm.MethodName) ({ cls := "com/example/weftcheck/weftcheck/OperationKind", name := "accessesRows", desc := "()Z" } : Jvm.MethodName)).before a0 Z = true := hw _ (List.mem_of_getElem? (i := 45) rfl)
theorem wk46 {Z : State} {a0 : Array Value} (hw : ∀ d ∈ tables_1, d.before a0 Z = true) : (Jvm.Cond.code ({ cls := "com/example/weftcheck/weftcheck/OperationKind", name := "accessesRows", desc := "()Z" } : Jvm.MethodName) prog_29_method_12_code (1 : Nat) (Option.some Jvm.ClassFile.FieldType.boolean)).before a0 Z = true := hw _ (List.mem_of_getElem? (i := 46) rfl)
theorem wk47 {Z : State} {a0 : Array Value} (hw : ∀ d ∈ tables_1, d.before a0 Z = true) : (Jvm.Cond.methodLink "com/example/weftcheck/weftcheck/OperationKind" (90 : Nat) ({ cls := "com/example/weftcheck/weftcheck/OperationKind", name := "declares", desc := "()Z" } : Jvm.MethodName)).before a0 Z = true := hw _ (List.mem_of_getElem? (i := 47) rfl)
theorem wk48 {Z : State} {a0 : Array Value} (hw : ∀ d ∈ tables_1, d.before a0 Z = true) : (Jvm.Cond.declares ({ cls := "com/example/weftcheck/weftcheck/OperationKind", name := "declares", desc := "()Z" } : Jvm.MethodName)).before a0 Z = true := hw _ (List.mem_of_getElem? (i := 48) rfl)
theorem wk49 {Z : State} {a0 : Array Value} (hw : ∀ d ∈ tables_1, d.before a0 Z = true) : (Jvm.Cond.instanceMethod ({ cls := "com/example/weftcheck/weftcheck/OperationKind", name := "declares", desc := "()Z" } : Jvm.MethodName)).before a0 Z = true := hw _ (List.mem_of_getElem? (i := 49) rfl)
theorem wk50 {Z : State} {a0 : Array Value} (hw : ∀ d ∈ tables_1, d.before a0 Z = true) : (Jvm.Cond.selects "com/example/weftcheck/weftcheck/OperationKind" ({ cls := "com/example/weftcheck/weftcheck/OperationKind", name := "declares", desc := "()Z" } : Jvm.MethodName) ({ cls := "com/example/weftcheck/weftcheck/OperationKind", name := "declares", desc := "()Z" } : Jvm.MethodName)).before a0 Z = true := hw _ (List.mem_of_getElem? (i := 50) rfl)
theorem wk51 {Z : State} {a0 : Array Value} (hw : ∀ d ∈ tables_1, d.before a0 Z = true) : (Jvm.Cond.code ({ cls := "com/example/weftcheck/weftcheck/OperationKind", name := "declares", desc := "()Z" } : Jvm.MethodName) prog_29_method_5_code (1 : Nat) (Option.some Jvm.ClassFile.FieldType.boolean)).before a0 Z = true := hw _ (List.mem_of_getElem? (i := 51) rfl)
theorem wk52 {Z : State} {a0 : Array Value} (hw : ∀ d ∈ tables_1, d.before a0 Z = true) : (Jvm.Cond.fieldLink "com/example/weftcheck/weftcheck/OperationKind" (3 : Nat) "com/example/weftcheck/weftcheck/OperationKind" "MAP" "Lcom/example/weftcheck/weftcheck/OperationKind;").before a0 Z = true := hw _ (List.mem_of_getElem? (i := 52) rfl)
theorem wk53 {Z : State} {a0 : Array Value} (hw : ∀ d ∈ tables_1, d.before a0 Z = true) : (Jvm.Cond.fieldLink "com/example/weftcheck/weftcheck/OperationKind" (7 : Nat) "com/example/weftcheck/weftcheck/OperationKind" "PREDICATE" "Lcom/example/weftcheck/weftcheck/OperationKind;").before a0 Z = true := hw _ (List.mem_of_getElem? (i := 53) rfl)
theorem wk54 {Z : State} {a0 : Array Value} (hw : ∀ d ∈ tables_1, d.before a0 Z = true) : (Jvm.Cond.fieldLink "com/example/weftcheck/weftcheck/OperationKind" (10 : Nat) "com/example/weftcheck/weftcheck/OperationKind" "ISOLATION" "Lcom/example/weftcheck/weftcheck/OperationKind;").before a0 Z = true := hw _ (List.mem_of_getElem? (i := 54) rfl)
theorem wk55 {Z : State} {a0 : Array Value} (hw : ∀ d ∈ tables_1, d.before a0 Z = true) : (Jvm.Cond.methodLink "com/example/weftcheck/weftcheck/OperationKind" (93 : Nat) ({ cls := "com/example/weftcheck/weftcheck/OperationKind", name := "endsTransaction", desc := "()Z" } : Jvm.MethodName)).before a0 Z = true := hw _ (List.mem_of_getElem? (i := 55) rfl)
theorem wk56 {Z : State} {a0 : Array Value} (hw : ∀ d ∈ tables_1, d.before a0 Z = true) : (Jvm.Cond.declares ({ cls := "com/example/weftcheck/weftcheck/OperationKind", name := "endsTransaction", desc := "()Z" } : Jvm.MethodName)).before a0 Z = true := hw _ (List.mem_of_getElem? (i := 56) rfl)
theorem wk57 {Z : State} {a0 : Array Value} (hw : ∀ d ∈ tables_1, d.before a0 Z = true) : (Jvm.Cond.instanceMethod ({ cls := "com/example/weftcheck/weftcheck/OperationKind", name := "endsTransaction", desc := "()Z" } : Jvm.MethodName)).before a0 Z = true := hw _ (List.mem_of_getElem? (i := 57) rfl)
theorem wk58 {Z : State} {a0 : Array Value} (hw : ∀ d ∈ tables_1, d.before a0 Z = true) : (Jvm.Cond.selects "com/example/weftcheck/weftcheck/OperationKind" ({ cls := "com/example/weftcheck/weftcheck/OperationKind", name := "endsTransaction", desc := "()Z" } : Jvm.MethodName) ({ cls := "com/example/weftcheck/weftcheck/OperationKind", name := "endsTransaction", desc := "()Z" } : Jvm.MethodName)).before a0 Z = true := hw _ (List.mem_of_getElem? (i := 58) rfl)
theorem wk59 {Z : State} {a0 : Array Value} (hw : ∀ d ∈ tables_1, d.before a0 Z = true) : (Jvm.Cond.code ({ cls := "com/example/weftcheck/weftcheck/OperationKind", name := "endsTransaction", desc := "()Z" } : Jvm.MethodName) prog_29_method_6_code (1 : Nat) (Option.some Jvm.ClassFile.FieldType.boolean)).before a0 Z = true := hw _ (List.mem_of_getElem? (i := 59) rfl)
theorem wk60 {Z : State} {a0 : Array Value} (hw : ∀ d ∈ tables_1, d.before a0 Z = true) : (Jvm.Cond.fieldLink "com/example/weftcheck/weftcheck/OperationKind" (37 : Nat) "com/example/weftcheck/weftcheck/OperationKind" "COMMIT" "Lcom/example/weftcheck/weftcheck/OperationKind;").before a0 Z = true := hw _ (List.mem_of_getElem? (i := 60) rfl)
theorem wk61 {Z : State} {a0 : Array Value} (hw : ∀ d ∈ tables_1, d.before a0 Z = true) : (Jvm.Cond.fieldLink "com/example/weftcheck/weftcheck/OperationKind" (40 : Nat) "com/example/weftcheck/weftcheck/OperationKind" "ABORT" "Lcom/example/weftcheck/weftcheck/OperationKind;").before a0 Z = true := hw _ (List.mem_of_getElem? (i := 61) rfl)
def Wd (Z : State) (w : Nat → Addr) : Prop := Sta Z Z.heap "com/example/weftcheck/weftcheck/OperationKind" "MAP" "Lcom/example/weftcheck/weftcheck/OperationKind;" (.ref (w 0)) ∧ Exa Z Z.heap (w 0) "com/example/weftcheck/weftcheck/OperationKind" ∧ Sta Z Z.heap "com/example/weftcheck/weftcheck/OperationKind" "PREDICATE" "Lcom/example/weftcheck/weftcheck/OperationKind;" (.ref (w 1)) ∧ Exa Z Z.heap (w 1) "com/example/weftcheck/weftcheck/OperationKind" ∧ Sta Z Z.heap "com/example/weftcheck/weftcheck/OperationKind" "ISOLATION" "Lcom/example/weftcheck/weftcheck/OperationKind;" (.ref (w 2)) ∧ Exa Z Z.heap (w 2) "com/example/weftcheck/weftcheck/OperationKind" ∧ Sta Z Z.heap "com/example/weftcheck/weftcheck/OperationKind" "READ" "Lcom/example/weftcheck/weftcheck/OperationKind;" (.ref (w 3)) ∧ Exa Z Z.heap (w 3) "com/example/weftcheck/weftcheck/OperationKind" ∧ Sta Z Z.heap "com/example/weftcheck/weftcheck/OperationKind" "WRITE" "Lcom/example/weftcheck/weftcheck/OperationKind;" (.ref (w 4)) ∧ Exa Z Z.heap (w 4) "com/example/weftcheck/weftcheck/OperationKind" ∧ Sta Z Z.heap "com/example/weftcheck/weftcheck/OperationKind" "READ_WRITE" "Lcom/example/weftcheck/weftcheck/OperationKind;" (.ref (w 5)) ∧ Exa Z Z.heap (w 5) "com/example/weftcheck/weftcheck/OperationKind" ∧ Sta Z Z.heap "com/example/weftcheck/weftcheck/OperationKind" "INSERT" "Lcom/example/weftcheck/weftcheck/OperationKind;" (.ref (w 6)) ∧ Exa Z Z.heap (w 6) "com/example/weftcheck/weftcheck/OperationKind" ∧ Sta Z Z.heap "com/example/weftcheck/weftcheck/OperationKind" "DELETE" "Lcom/example/weftcheck/weftcheck/OperationKind;" (.ref (w 7)) ∧ Exa Z Z.heap (w 7) "com/example/weftcheck/weftcheck/OperationKind" ∧ Sta Z Z.heap "com/example/weftcheck/weftcheck/OperationKind" "PREDICATE_READ" "Lcom/example/weftcheck/weftcheck/OperationKind;" (.ref (w 8)) ∧ Exa Z Z.heap (w 8) "com/example/weftcheck/weftcheck/OperationKind" ∧ Sta Z Z.heap "com/example/weftcheck/weftcheck/OperationKind" "SQL_STATEMENT" "Lcom/example/weftcheck/weftcheck/OperationKind;" (.ref (w 9)) ∧ Exa Z Z.heap (w 9) "com/example/weftcheck/weftcheck/OperationKind" ∧ Sta Z Z.heap "com/example/weftcheck/weftcheck/OperationKind" "SQL_QUERY" "Lcom/example/weftcheck/weftcheck/OperationKind;" (.ref (w 10)) ∧ Exa Z Z.heap (w 10) "com/example/weftcheck/weftcheck/OperationKind" ∧ Sta Z Z.heap "com/example/weftcheck/weftcheck/OperationKind" "COMMIT" "Lcom/example/weftcheck/weftcheck/OperationKind;" (.ref (w 11)) ∧ Exa Z Z.heap (w 11) "com/example/weftcheck/weftcheck/OperationKind" ∧ Sta Z Z.heap "com/example/weftcheck/weftcheck/OperationKind" "ABORT" "Lcom/example/weftcheck/weftcheck/OperationKind;" (.ref (w 12)) ∧ Exa Z Z.heap (w 12) "com/example/weftcheck/weftcheck/OperationKind" ∧ Fld Z Z.heap (w 0) "java/lang/Enum" "ordinal" "I" (.int (0 : Int32)) ∧ Fld Z Z.heap (w 3) "java/lang/Enum" "ordinal" "I" (.int (3 : Int32)) ∧ Fld Z Z.heap (w 4) "java/lang/Enum" "ordinal" "I" (.int (4 : Int32)) ∧ Fld Z Z.heap (w 5) "java/lang/Enum" "ordinal" "I" (.int (5 : Int32)) ∧ Fld Z Z.heap (w 6) "java/lang/Enum" "ordinal" "I" (.int (6 : Int32)) ∧ Fld Z Z.heap (w 7) "java/lang/Enum" "ordinal" "I" (.int (7 : Int32)) ∧ Fld Z Z.heap (w 1) "java/lang/Enum" "ordinal" "I" (.int (1 : Int32)) ∧ Fld Z Z.heap (w 2) "java/lang/Enum" "ordinal" "I" (.int (2 : Int32)) ∧ Fld Z Z.heap (w 11) "java/lang/Enum" "ordinal" "I" (.int (11 : Int32)) ∧ Fld Z Z.heap (w 12) "java/lang/Enum" "ordinal" "I" (.int (12 : Int32)) ∧ Fld Z Z.heap (w 9) "java/lang/Enum" "ordinal" "I" (.int (9 : Int32)) ∧ Fld Z Z.heap (w 8) "java/lang/Enum" "ordinal" "I" (.int (8 : Int32)) ∧ Fld Z Z.heap (w 10) "java/lang/Enum" "ordinal" "I" (.int (10 : Int32)) ∧ True
theorem wd0 {Z : State} {w : Nat → Addr} (hW : Wd Z w) : Sta Z Z.heap "com/example/weftcheck/weftcheck/OperationKind" "MAP" "Lcom/example/weftcheck/weftcheck/OperationKind;" (.ref (w 0)) := hW.1
theorem wd1 {Z : State} {w : Nat → Addr} (hW : Wd Z w) : Exa Z Z.heap (w 0) "com/example/weftcheck/weftcheck/OperationKind" := hW.2.1
theorem wd2 {Z : State} {w : Nat → Addr} (hW : Wd Z w) : Sta Z Z.heap "com/example/weftcheck/weftcheck/OperationKind" "PREDICATE" "Lcom/example/weftcheck/weftcheck/OperationKind;" (.ref (w 1)) := hW.2.2.1
theorem wd3 {Z : State} {w : Nat → Addr} (hW : Wd Z w) : Exa Z Z.heap (w 1) "com/example/weftcheck/weftcheck/OperationKind" := hW.2.2.2.1
theorem wd4 {Z : State} {w : Nat → Addr} (hW : Wd Z w) : Sta Z Z.heap "com/example/weftcheck/weftcheck/OperationKind" "ISOLATION" "Lcom/example/weftcheck/weftcheck/OperationKind;" (.ref (w 2)) := hW.2.2.2.2.1
theorem wd5 {Z : State} {w : Nat → Addr} (hW : Wd Z w) : Exa Z Z.heap (w 2) "com/example/weftcheck/weftcheck/OperationKind" := hW.2.2.2.2.2.1
theorem wd6 {Z : State} {w : Nat → Addr} (hW : Wd Z w) : Sta Z Z.heap "com/example/weftcheck/weftcheck/OperationKind" "READ" "Lcom/example/weftcheck/weftcheck/OperationKind;" (.ref (w 3)) := hW.2.2.2.2.2.2.1
theorem wd7 {Z : State} {w : Nat → Addr} (hW : Wd Z w) : Exa Z Z.heap (w 3) "com/example/weftcheck/weftcheck/OperationKind" := hW.2.2.2.2.2.2.2.1
theorem wd8 {Z : State} {w : Nat → Addr} (hW : Wd Z w) : Sta Z Z.heap "com/example/weftcheck/weftcheck/OperationKind" "WRITE" "Lcom/example/weftcheck/weftcheck/OperationKind;" (.ref (w 4)) := hW.2.2.2.2.2.2.2.2.1
theorem wd9 {Z : State} {w : Nat → Addr} (hW : Wd Z w) : Exa Z Z.heap (w 4) "com/example/weftcheck/weftcheck/OperationKind" := hW.2.2.2.2.2.2.2.2.2.1
theorem wd10 {Z : State} {w : Nat → Addr} (hW : Wd Z w) : Sta Z Z.heap "com/example/weftcheck/weftcheck/OperationKind" "READ_WRITE" "Lcom/example/weftcheck/weftcheck/OperationKind;" (.ref (w 5)) := hW.2.2.2.2.2.2.2.2.2.2.1
theorem wd11 {Z : State} {w : Nat → Addr} (hW : Wd Z w) : Exa Z Z.heap (w 5) "com/example/weftcheck/weftcheck/OperationKind" := hW.2.2.2.2.2.2.2.2.2.2.2.1
theorem wd12 {Z : State} {w : Nat → Addr} (hW : Wd Z w) : Sta Z Z.heap "com/example/weftcheck/weftcheck/OperationKind" "INSERT" "Lcom/example/weftcheck/weftcheck/OperationKind;" (.ref (w 6)) := hW.2.2.2.2.2.2.2.2.2.2.2.2.1
theorem wd13 {Z : State} {w : Nat → Addr} (hW : Wd Z w) : Exa Z Z.heap (w 6) "com/example/weftcheck/weftcheck/OperationKind" := hW.2.2.2.2.2.2.2.2.2.2.2.2.2.1
theorem wd14 {Z : State} {w : Nat → Addr} (hW : Wd Z w) : Sta Z Z.heap "com/example/weftcheck/weftcheck/OperationKind" "DELETE" "Lcom/example/weftcheck/weftcheck/OperationKind;" (.ref (w 7)) := hW.2.2.2.2.2.2.2.2.2.2.2.2.2.2.1
theorem wd15 {Z : State} {w : Nat → Addr} (hW : Wd Z w) : Exa Z Z.heap (w 7) "com/example/weftcheck/weftcheck/OperationKind" := hW.2.2.2.2.2.2.2.2.2.2.2.2.2.2.2.1
theorem wd16 {Z : State} {w : Nat → Addr} (hW : Wd Z w) : Sta Z Z.heap "com/example/weftcheck/weftcheck/OperationKind" "PREDICATE_READ" "Lcom/example/weftcheck/weftcheck/OperationKind;" (.ref (w 8)) := hW.2.2.2.2.2.2.2.2.2.2.2.2.2.2.2.2.1
theorem wd17 {Z : State} {w : Nat → Addr} (hW : Wd Z w) : Exa Z Z.heap (w 8) "com/example/weftcheck/weftcheck/OperationKind" := hW.2.2.2.2.2.2.2.2.2.2.2.2.2.2.2.2.2.1
theorem wd18 {Z : State} {w : Nat → Addr} (hW : Wd Z w) : Sta Z Z.heap "com/example/weftcheck/weftcheck/OperationKind" "SQL_STATEMENT" "Lcom/example/weftcheck/weftcheck/OperationKind;" (.ref (w 9)) := hW.2.2.2.2.2.2.2.2.2.2.2.2.2.2.2.2.2.2.1
theorem wd19 {Z : State} {w : Nat → Addr} (hW : Wd Z w) : Exa Z Z.heap (w 9) "com/example/weftcheck/weftcheck/OperationKind" := hW.2.2.2.2.2.2.2.2.2.2.2.2.2.2.2.2.2.2.2.1
theorem wd20 {Z : State} {w : Nat → Addr} (hW : Wd Z w) : Sta Z Z.heap "com/example/weftcheck/weftcheck/OperationKind" "SQL_QUERY" "Lcom/example/weftcheck/weftcheck/OperationKind;" (.ref (w 10)) := hW.2.2.2.2.2.2.2.2.2.2.2.2.2.2.2.2.2.2.2.2.1
theorem wd21 {Z : State} {w : Nat → Addr} (hW : Wd Z w) : Exa Z Z.heap (w 10) "com/example/weftcheck/weftcheck/OperationKind" := hW.2.2.2.2.2.2.2.2.2.2.2.2.2.2.2.2.2.2.2.2.2.1
theorem wd22 {Z : State} {w : Nat → Addr} (hW : Wd Z w) : Sta Z Z.heap "com/example/weftcheck/weftcheck/OperationKind" "COMMIT" "Lcom/example/weftcheck/weftcheck/OperationKind;" (.ref (w 11)) := hW.2.2.2.2.2.2.2.2.2.2.2.2.2.2.2.2.2.2.2.2.2.2.1
theorem wd23 {Z : State} {w : Nat → Addr} (hW : Wd Z w) : Exa Z Z.heap (w 11) "com/example/weftcheck/weftcheck/OperationKind" := hW.2.2.2.2.2.2.2.2.2.2.2.2.2.2.2.2.2.2.2.2.2.2.2.1
theorem wd24 {Z : State} {w : Nat → Addr} (hW : Wd Z w) : Sta Z Z.heap "com/example/weftcheck/weftcheck/OperationKind" "ABORT" "Lcom/example/weftcheck/weftcheck/OperationKind;" (.ref (w 12)) := hW.2.2.2.2.2.2.2.2.2.2.2.2.2.2.2.2.2.2.2.2.2.2.2.2.1
theorem wd25 {Z : State} {w : Nat → Addr} (hW : Wd Z w) : Exa Z Z.heap (w 12) "com/example/weftcheck/weftcheck/OperationKind" := hW.2.2.2.2.2.2.2.2.2.2.2.2.2.2.2.2.2.2.2.2.2.2.2.2.2.1
theorem wd26 {Z : State} {w : Nat → Addr} (hW : Wd Z w) : Fld Z Z.heap (w 0) "java/lang/Enum" "ordinal" "I" (.int (0 : Int32)) := hW.2.2.2.2.2.2.2.2.2.2.2.2.2.2.2.2.2.2.2.2.2.2.2.2.2.2.1
theorem wd27 {Z : State} {w : Nat → Addr} (hW : Wd Z w) : Fld Z Z.heap (w 3) "java/lang/Enum" "ordinal" "I" (.int (3 : Int32)) := hW.2.2.2.2.2.2.2.2.2.2.2.2.2.2.2.2.2.2.2.2.2.2.2.2.2.2.2.1
theorem wd28 {Z : State} {w : Nat → Addr} (hW : Wd Z w) : Fld Z Z.heap (w 4) "java/lang/Enum" "ordinal" "I" (.int (4 : Int32)) := hW.2.2.2.2.2.2.2.2.2.2.2.2.2.2.2.2.2.2.2.2.2.2.2.2.2.2.2.2.1
theorem wd29 {Z : State} {w : Nat → Addr} (hW : Wd Z w) : Fld Z Z.heap (w 5) "java/lang/Enum" "ordinal" "I" (.int (5 : Int32)) := hW.2.2.2.2.2.2.2.2.2.2.2.2.2.2.2.2.2.2.2.2.2.2.2.2.2.2.2.2.2.1
theorem wd30 {Z : State} {w : Nat → Addr} (hW : Wd Z w) : Fld Z Z.heap (w 6) "java/lang/Enum" "ordinal" "I" (.int (6 : Int32)) := hW.2.2.2.2.2.2.2.2.2.2.2.2.2.2.2.2.2.2.2.2.2.2.2.2.2.2.2.2.2.2.1
theorem wd31 {Z : State} {w : Nat → Addr} (hW : Wd Z w) : Fld Z Z.heap (w 7) "java/lang/Enum" "ordinal" "I" (.int (7 : Int32)) := hW.2.2.2.2.2.2.2.2.2.2.2.2.2.2.2.2.2.2.2.2.2.2.2.2.2.2.2.2.2.2.2.1
theorem wd32 {Z : State} {w : Nat → Addr} (hW : Wd Z w) : Fld Z Z.heap (w 1) "java/lang/Enum" "ordinal" "I" (.int (1 : Int32)) := hW.2.2.2.2.2.2.2.2.2.2.2.2.2.2.2.2.2.2.2.2.2.2.2.2.2.2.2.2.2.2.2.2.1
theorem wd33 {Z : State} {w : Nat → Addr} (hW : Wd Z w) : Fld Z Z.heap (w 2) "java/lang/Enum" "ordinal" "I" (.int (2 : Int32)) := hW.2.2.2.2.2.2.2.2.2.2.2.2.2.2.2.2.2.2.2.2.2.2.2.2.2.2.2.2.2.2.2.2.2.1
theorem wd34 {Z : State} {w : Nat → Addr} (hW : Wd Z w) : Fld Z Z.heap (w 11) "java/lang/Enum" "ordinal" "I" (.int (11 : Int32)) := hW.2.2.2.2.2.2.2.2.2.2.2.2.2.2.2.2.2.2.2.2.2.2.2.2.2.2.2.2.2.2.2.2.2.2.1
theorem wd35 {Z : State} {w : Nat → Addr} (hW : Wd Z w) : Fld Z Z.heap (w 12) "java/lang/Enum" "ordinal" "I" (.int (12 : Int32)) := hW.2.2.2.2.2.2.2.2.2.2.2.2.2.2.2.2.2.2.2.2.2.2.2.2.2.2.2.2.2.2.2.2.2.2.2.1
theorem wd36 {Z : State} {w : Nat → Addr} (hW : Wd Z w) : Fld Z Z.heap (w 9) "java/lang/Enum" "ordinal" "I" (.int (9 : Int32)) := hW.2.2.2.2.2.2.2.2.2.2.2.2.2.2.2.2.2.2.2.2.2.2.2.2.2.2.2.2.2.2.2.2.2.2.2.2.1
theorem wd37 {Z : State} {w : Nat → Addr} (hW : Wd Z w) : Fld Z Z.heap (w 8) "java/lang/Enum" "ordinal" "I" (.int (8 : Int32)) := hW.2.2.2.2.2.2.2.2.2.2.2.2.2.2.2.2.2.2.2.2.2.2.2.2.2.2.2.2.2.2.2.2.2.2.2.2.2.1
theorem wd38 {Z : State} {w : Nat → Addr} (hW : Wd Z w) : Fld Z Z.heap (w 10) "java/lang/Enum" "ordinal" "I" (.int (10 : Int32)) := hW.2.2.2.2.2.2.2.2.2.2.2.2.2.2.2.2.2.2.2.2.2.2.2.2.2.2.2.2.2.2.2.2.2.2.2.2.2.2.1
theorem d1_0 : decode prog_29_method_7_code 0 = .ok (.aload_n 0, 1) := by decide +kernel
theorem d1_1 : decode prog_29_method_7_code 1 = .ok (.getstatic 13, 3) := by decide +kernel
theorem d1_4 : decode prog_29_method_7_code 4 = .ok (.if_acmp .eq 31, 3) := by decide +kernel
theorem d1_7 : decode prog_29_method_7_code 7 = .ok (.aload_n 0, 1) := by decide +kernel
theorem d1_8 : decode prog_29_method_7_code 8 = .ok (.getstatic 16, 3) := by decide +kernel
theorem d1_11 : decode prog_29_method_7_code 11 = .ok (.if_acmp .eq 24, 3) := by decide +kernel
theorem d1_14 : decode prog_29_method_7_code 14 = .ok (.aload_n 0, 1) := by decide +kernel
theorem d1_15 : decode prog_29_method_7_code 15 = .ok (.getstatic 19, 3) := by decide +kernel
theorem d1_18 : decode prog_29_method_7_code 18 = .ok (.if_acmp .eq 17, 3) := by decide +kernel
theorem d1_21 : decode prog_29_method_7_code 21 = .ok (.aload_n 0, 1) := by decide +kernel
theorem d1_22 : decode prog_29_method_7_code 22 = .ok (.getstatic 22, 3) := by decide +kernel
theorem d1_25 : decode prog_29_method_7_code 25 = .ok (.if_acmp .eq 10, 3) := by decide +kernel
theorem d1_28 : decode prog_29_method_7_code 28 = .ok (.aload_n 0, 1) := by decide +kernel
theorem d1_29 : decode prog_29_method_7_code 29 = .ok (.getstatic 25, 3) := by decide +kernel
theorem d1_32 : decode prog_29_method_7_code 32 = .ok (.if_acmp .ne 7, 3) := by decide +kernel
theorem d1_39 : decode prog_29_method_7_code 39 = .ok (.iconst 0, 1) := by decide +kernel
theorem d1_40 : decode prog_29_method_7_code 40 = .ok (.ireturn, 1) := by decide +kernel
theorem ef_1_1 (m : MethodId) (w : Nat → Addr) : entryFrame m #[(.ref (w 0))] 1 = mkF m 0 #[.val (.ref (w 0))] [] := by first | (simp [entryFrame, mkF, argsToLocals, Value.category]; done) | rfl
theorem pnc_0 : plainName "com/example/weftcheck/weftcheck/OperationKind" = true := by first | (simp [plainName, overriddenIn]; done) | decide +kernel
def Q1_1 (Z : State) (w : Nat → Addr) (h0 : Heap) (n0 : Nat) (v : Option Value) (h : Heap) (L : List Loc) : Prop := v = some (.int (0 : Int32)) ∧ Fr n0 L ∧ h = h0
set_option maxRecDepth 65536 in
set_option maxHeartbeats 40000000 in
theorem rm1_1 (l : Launch) (Z : State) (a0 : Array Value) (hw : ∀ d ∈ tables_1, d.before a0 Z = true) (w : Nat → Addr) (hW : Wd Z w) (ws : List Jvm.Cond) (h0 : Heap) (n0 : Nat) (O0 : Old Z n0 h0) :
    MetFree l ym0 (head1 (Jvm.Cond.code ym0 prog_29_method_7_code 1 (some .boolean) :: ws) ({ frames := 0, cells := 0, slots := 0, locals := 0 } : Room)) (fun a U => a = #[(.ref (w 0))] ∧ Z.Warmed39 U.vm ∧ U.heap = h0) (fun _ _ _ _ _ => True) (fun _ U o U' => ∃ v L, o = .returned v ∧ Q1_1 Z w h0 n0 v U'.heap L ∧ FrameEnd U o U' L ({ frames := 0, cells := 0, slots := 0, locals := 0 } : Room).cells ({ frames := 0, cells := 0, slots := 0, locals := 0 } : Room).slots) := by
  refine MetFree.of_bodySF (plainFor_of_name pnc_0) hisR ?_
  intro p e s m args below meth c s₁ Bd hml0 hP hK
  obtain ⟨rfl, hZ, hh⟩ := hP
  have hx := Bd.exec
  have hby := Bd.bytes
  have hml : c.maxLocals = 1 := hml0
  have hown : s.vm.findClass "com/example/weftcheck/weftcheck/OperationKind" = some m.cls := findClass_of_methodNamed Bd.named
  have hnm := (name_of_methodNamed Bd.named Bd.method).1
  have X0 : Stand p l e ({ frames := 0, cells := 0, slots := 0, locals := 0 } : Room) s m #[(.ref (w 0))] below meth c s₁ [] 0 0 := Stand.of_body Bd
  have e0 : s₁.heap = h0 := by rw [← hh, Bd.state]; rfl
  have N0 := Fr.nil n0
  skip
  have pre0 : ∀ t, Steps p.tables e below (s₁.setTop (mkF m 0 #[.val (.ref (w 0))] [])) t → Steps p.tables e below (s₁.setTop (entryFrame m #[(.ref (w 0))] 1)) t := fun t k => castTop (ef_1_1 m w) k
  obtain ⟨T1, X1, e1, st1⟩ := getS2 X0 hx hZ hown (host := "") (Or.inl (wk37 hw)) Via.refl e0 ((wd6 hW).ext O0.2) (g := (mkF m 1 #[.val (.ref (w 0))] [(.ref (w 0))])) rfl (hb hby d1_1)
  obtain ⟨T2, X2, e2, st2⟩ := getS2 X1 hx hZ hown (host := "") (Or.inl (wk38 hw)) Via.refl e1 ((wd8 hW).ext O0.2) (g := (mkF m 8 #[.val (.ref (w 0))] [(.ref (w 0))])) rfl (hb hby d1_8)
  obtain ⟨T3, X3, e3, st3⟩ := getS2 X2 hx hZ hown (host := "") (Or.inl (wk39 hw)) Via.refl e2 ((wd10 hW).ext O0.2) (g := (mkF m 15 #[.val (.ref (w 0))] [(.ref (w 0))])) rfl (hb hby d1_15)
  obtain ⟨T4, X4, e4, st4⟩ := getS2 X3 hx hZ hown (host := "") (Or.inl (wk40 hw)) Via.refl e3 ((wd12 hW).ext O0.2) (g := (mkF m 22 #[.val (.ref (w 0))] [(.ref (w 0))])) rfl (hb hby d1_22)
  obtain ⟨T5, X5, e5, st5⟩ := getS2 X4 hx hZ hown (host := "") (Or.inl (wk41 hw)) Via.refl e4 ((wd14 hW).ext O0.2) (g := (mkF m 29 #[.val (.ref (w 0))] [(.ref (w 0))])) rfl (hb hby d1_29)
  obtain ⟨fs, hr, hrun, hended, hWm, hsame⟩ := X5.leave (v := some (.int (0 : Int32))) (fun h => by rw [Bd.returns] at h; cases h)
  refine ⟨_, _, pre0 _ ?_, hrun, hended, _, _, rfl, ?_, ⟨_, rfl⟩, hWm, hsame.mono (by decide) (by decide)⟩
  · show Steps p.tables e below (s₁.setTop (mkF m 0 #[.val (.ref (w 0))] [])) _
    refine sA X0 hx hby d1_0 rfl rfl ?_
    refine st1 _ ?_
    refine Jvm.RoadKit.acmp (g := (mkF m 4 #[.val (.ref (w 0))] [(.ref (w 3)), (.ref (w 0))])) X1 hx rfl rfl rfl (pc0 := 4) (pc' := 7) (same := false) rfl (hb hby d1_4) rfl (decide_eq_false fun q => (Fld.ne (wd26 hW) (wd27 hW) (by decide)) (Value.ref.inj q)) (by decide) (by decide) ?_
    refine sA X1 hx hby d1_7 rfl rfl ?_
    refine st2 _ ?_
    refine Jvm.RoadKit.acmp (g := (mkF m 11 #[.val (.ref (w 0))] [(.ref (w 4)), (.ref (w 0))])) X2 hx rfl rfl rfl (pc0 := 11) (pc' := 14) (same := false) rfl (hb hby d1_11) rfl (decide_eq_false fun q => (Fld.ne (wd26 hW) (wd28 hW) (by decide)) (Value.ref.inj q)) (by decide) (by decide) ?_
    refine sA X2 hx hby d1_14 rfl rfl ?_
    refine st3 _ ?_
    refine Jvm.RoadKit.acmp (g := (mkF m 18 #[.val (.ref (w 0))] [(.ref (w 5)), (.ref (w 0))])) X3 hx rfl rfl rfl (pc0 := 18) (pc' := 21) (same := false) rfl (hb hby d1_18) rfl (decide_eq_false fun q => (Fld.ne (wd26 hW) (wd29 hW) (by decide)) (Value.ref.inj q)) (by decide) (by decide) ?_
    refine sA X3 hx hby d1_21 rfl rfl ?_
    refine st4 _ ?_
    refine Jvm.RoadKit.acmp (g := (mkF m 25 #[.val (.ref (w 0))] [(.ref (w 6)), (.ref (w 0))])) X4 hx rfl rfl rfl (pc0 := 25) (pc' := 28) (same := false) rfl (hb hby d1_25) rfl (decide_eq_false fun q => (Fld.ne (wd26 hW) (wd30 hW) (by decide)) (Value.ref.inj q)) (by decide) (by decide) ?_
    refine sA X4 hx hby d1_28 rfl rfl ?_
    refine st5 _ ?_
    refine Jvm.RoadKit.acmp (g := (mkF m 32 #[.val (.ref (w 0))] [(.ref (w 7)), (.ref (w 0))])) X5 hx rfl rfl rfl (pc0 := 32) (pc' := 39) (same := false) rfl (hb hby d1_32) rfl (decide_eq_false fun q => (Fld.ne (wd26 hW) (wd31 hW) (by decide)) (Value.ref.inj q)) (by decide) (by decide) ?_
    refine sc X5 hx hby d1_39 ?_
    exact retN X5 hx (t := .boolean) Bd.returns (by simp) (hb hby d1_40) hr
  · show Q1_1 Z w h0 n0 _ T5.heap _
    rw [e5]
    exact ⟨rfl, N0, rfl⟩
theorem pds_0 : parseMethodDescriptor "()Z" = some ⟨[], some .boolean⟩ := by decide +kernel
theorem ef_1_2 (m : MethodId) (w : Nat → Addr) : entryFrame m #[(.ref (w 1))] 1 = mkF m 0 #[.val (.ref (w 1))] [] := by first | (simp [entryFrame, mkF, argsToLocals, Value.category]; done) | rfl
def Q1_2 (Z : State) (w : Nat → Addr) (h0 : Heap) (n0 : Nat) (v : Option Value) (h : Heap) (L : List Loc) : Prop := v = some (.int (0 : Int32)) ∧ Fr n0 L ∧ h = h0
set_option maxRecDepth 65536 in
set_option maxHeartbeats 40000000 in
theorem rm1_2 (l : Launch) (Z : State) (a0 : Array Value) (hw : ∀ d ∈ tables_1, d.before a0 Z = true) (w : Nat → Addr) (hW : Wd Z w) (ws : List Jvm.Cond) (h0 : Heap) (n0 : Nat) (O0 : Old Z n0 h0) :
    MetFree l ym0 (head1 (Jvm.Cond.code ym0 prog_29_method_7_code 1 (some .boolean) :: ws) ({ frames := 0, cells := 0, slots := 0, locals := 0 } : Room)) (fun a U => a = #[(.ref (w 1))] ∧ Z.Warmed39 U.vm ∧ U.heap = h0) (fun _ _ _ _ _ => True) (fun _ U o U' => ∃ v L, o = .returned v ∧ Q1_2 Z w h0 n0 v U'.heap L ∧ FrameEnd U o U' L ({ frames := 0, cells := 0, slots := 0, locals := 0 } : Room).cells ({ frames := 0, cells := 0, slots := 0, locals := 0 } : Room).slots) := by
  refine MetFree.of_bodySF (plainFor_of_name pnc_0) hisR ?_
  intro p e s m args below meth c s₁ Bd hml0 hP hK
  obtain ⟨rfl, hZ, hh⟩ := hP
  have hx := Bd.exec
  have hby := Bd.bytes
  have hml : c.maxLocals = 1 := hml0
  have hown : s.vm.findClass "com/example/weftcheck/weftcheck/OperationKind" = some m.cls := findClass_of_methodNamed Bd.named
  have hnm := (name_of_methodNamed Bd.named Bd.method).1
  have X0 : Stand p l e ({ frames := 0, cells := 0, slots := 0, locals := 0 } : Room) s m #[(.ref (w 1))] below meth c s₁ [] 0 0 := Stand.of_body Bd
  have e0 : s₁.heap = h0 := by rw [← hh, Bd.state]; rfl
  have N0 := Fr.nil n0
  skip
  have pre0 : ∀ t, Steps p.tables e below (s₁.setTop (mkF m 0 #[.val (.ref (w 1))] [])) t → Steps p.tables e below (s₁.setTop (entryFrame m #[(.ref (w 1))] 1)) t := fun t k => castTop (ef_1_2 m w) k
  obtain ⟨T1, X1, e1, st1⟩ := getS2 X0 hx hZ hown (host := "") (Or.inl (wk37 hw)) Via.refl e0 ((wd6 hW).ext O0.2) (g := (mkF m 1 #[.val (.ref (w 1))] [(.ref (w 1))])) rfl (hb hby d1_1)
  obtain ⟨T2, X2, e2, st2⟩ := getS2 X1 hx hZ hown (host := "") (Or.inl (wk38 hw)) Via.refl e1 ((wd8 hW).ext O0.2) (g := (mkF m 8 #[.val (.ref (w 1))] [(.ref (w 1))])) rfl (hb hby d1_8)
  obtain ⟨T3, X3, e3, st3⟩ := getS2 X2 hx hZ hown (host := "") (Or.inl (wk39 hw)) Via.refl e2 ((wd10 hW).ext O0.2) (g := (mkF m 15 #[.val (.ref (w 1))] [(.ref (w 1))])) rfl (hb hby d1_15)
  obtain ⟨T4, X4, e4, st4⟩ := getS2 X3 hx hZ hown (host := "") (Or.inl (wk40 hw)) Via.refl e3 ((wd12 hW).ext O0.2) (g := (mkF m 22 #[.val (.ref (w 1))] [(.ref (w 1))])) rfl (hb hby d1_22)
  obtain ⟨T5, X5, e5, st5⟩ := getS2 X4 hx hZ hown (host := "") (Or.inl (wk41 hw)) Via.refl e4 ((wd14 hW).ext O0.2) (g := (mkF m 29 #[.val (.ref (w 1))] [(.ref (w 1))])) rfl (hb hby d1_29)
  obtain ⟨fs, hr, hrun, hended, hWm, hsame⟩ := X5.leave (v := some (.int (0 : Int32))) (fun h => by rw [Bd.returns] at h; cases h)
  refine ⟨_, _, pre0 _ ?_, hrun, hended, _, _, rfl, ?_, ⟨_, rfl⟩, hWm, hsame.mono (by decide) (by decide)⟩
  · show Steps p.tables e below (s₁.setTop (mkF m 0 #[.val (.ref (w 1))] [])) _
    refine sA X0 hx hby d1_0 rfl rfl ?_
    refine st1 _ ?_
    refine Jvm.RoadKit.acmp (g := (mkF m 4 #[.val (.ref (w 1))] [(.ref (w 3)), (.ref (w 1))])) X1 hx rfl rfl rfl (pc0 := 4) (pc' := 7) (same := false) rfl (hb hby d1_4) rfl (decide_eq_false fun q => (Fld.ne (wd32 hW) (wd27 hW) (by decide)) (Value.ref.inj q)) (by decide) (by decide) ?_
    refine sA X1 hx hby d1_7 rfl rfl ?_
    refine st2 _ ?_
    refine Jvm.RoadKit.acmp (g := (mkF m 11 #[.val (.ref (w 1))] [(.ref (w 4)), (.ref (w 1))])) X2 hx rfl rfl rfl (pc0 := 11) (pc' := 14) (same := false) rfl (hb hby d1_11) rfl (decide_eq_false fun q => (Fld.ne (wd32 hW) (wd28 hW) (by decide)) (Value.ref.inj q)) (by decide) (by decide) ?_
    refine sA X2 hx hby d1_14 rfl rfl ?_
    refine st3 _ ?_
    refine Jvm.RoadKit.acmp (g := (mkF m 18 #[.val (.ref (w 1))] [(.ref (w 5)), (.ref (w 1))])) X3 hx rfl rfl rfl (pc0 := 18) (pc' := 21) (same := false) rfl (hb hby d1_18) rfl (decide_eq_false fun q => (Fld.ne (wd32 hW) (wd29 hW) (by decide)) (Value.ref.inj q)) (by decide) (by decide) ?_
    refine sA X3 hx hby d1_21 rfl rfl ?_
    refine st4 _ ?_
    refine Jvm.RoadKit.acmp (g := (mkF m 25 #[.val (.ref (w 1))] [(.ref (w 6)), (.ref (w 1))])) X4 hx rfl rfl rfl (pc0 := 25) (pc' := 28) (same := false) rfl (hb hby d1_25) rfl (decide_eq_false fun q => (Fld.ne (wd32 hW) (wd30 hW) (by decide)) (Value.ref.inj q)) (by decide) (by decide) ?_
    refine sA X4 hx hby d1_28 rfl rfl ?_
    refine st5 _ ?_
    refine Jvm.RoadKit.acmp (g := (mkF m 32 #[.val (.ref (w 1))] [(.ref (w 7)), (.ref (w 1))])) X5 hx rfl rfl rfl (pc0 := 32) (pc' := 39) (same := false) rfl (hb hby d1_32) rfl (decide_eq_false fun q => (Fld.ne (wd32 hW) (wd31 hW) (by decide)) (Value.ref.inj q)) (by decide) (by decide) ?_
    refine sc X5 hx hby d1_39 ?_
    exact retN X5 hx (t := .boolean) Bd.returns (by simp) (hb hby d1_40) hr
  · show Q1_2 Z w h0 n0 _ T5.heap _
    rw [e5]
    exact ⟨rfl, N0, rfl⟩
theorem ef_1_3 (m : MethodId) (w : Nat → Addr) : entryFrame m #[(.ref (w 2))] 1 = mkF m 0 #[.val (.ref (w 2))] [] := by first | (simp [entryFrame, mkF, argsToLocals, Value.category]; done) | rfl
def Q1_3 (Z : State) (w : Nat → Addr) (h0 : Heap) (n0 : Nat) (v : Option Value) (h : Heap) (L : List Loc) : Prop := v = some (.int (0 : Int32)) ∧ Fr n0 L ∧ h = h0
set_option maxRecDepth 65536 in
set_option maxHeartbeats 40000000 in
theorem rm1_3 (l : Launch) (Z : State) (a0 : Array Value) (hw : ∀ d ∈ tables_1, d.before a0 Z = true) (w : Nat → Addr) (hW : Wd Z w) (ws : List Jvm.Cond) (h0 : Heap) (n0 : Nat) (O0 : Old Z n0 h0) :
    MetFree l ym0 (head1 (Jvm.Cond.code ym0 prog_29_method_7_code 1 (some .boolean) :: ws) ({ frames := 0, cells := 0, slots := 0, locals := 0 } : Room)) (fun a U => a = #[(.ref (w 2))] ∧ Z.Warmed39 U.vm ∧ U.heap = h0) (fun _ _ _ _ _ => True) (fun _ U o U' => ∃ v L, o = .returned v ∧ Q1_3 Z w h0 n0 v U'.heap L ∧ FrameEnd U o U' L ({ frames := 0, cells := 0, slots := 0, locals := 0 } : Room).cells ({ frames := 0, cells := 0, slots := 0, locals := 0 } : Room).slots) := by
  refine MetFree.of_bodySF (plainFor_of_name pnc_0) hisR ?_
  intro p e s m args below meth c s₁ Bd hml0 hP hK
  obtain ⟨rfl, hZ, hh⟩ := hP
  have hx := Bd.exec
  have hby := Bd.bytes
  have hml : c.maxLocals = 1 := hml0
  have hown : s.vm.findClass "com/example/weftcheck/weftcheck/OperationKind" = some m.cls := findClass_of_methodNamed Bd.named
  have hnm := (name_of_methodNamed Bd.named Bd.method).1
  have X0 : Stand p l e ({ frames := 0, cells := 0, slots := 0, locals := 0 } : Room) s m #[(.ref (w 2))] below meth c s₁ [] 0 0 := Stand.of_body Bd
  have e0 : s₁.heap = h0 := by rw [← hh, Bd.state]; rfl
  have N0 := Fr.nil n0
  skip
  have pre0 : ∀ t, Steps p.tables e below (s₁.setTop (mkF m 0 #[.val (.ref (w 2))] [])) t → Steps p.tables e below (s₁.setTop (entryFrame m #[(.ref (w 2))] 1)) t := fun t k => castTop (ef_1_3 m w) k
  obtain ⟨T1, X1, e1, st1⟩ := getS2 X0 hx hZ hown (host := "") (Or.inl (wk37 hw)) Via.refl e0 ((wd6 hW).ext O0.2) (g := (mkF m 1 #[.val (.ref (w 2))] [(.ref (w 2))])) rfl (hb hby d1_1)
  obtain ⟨T2, X2, e2, st2⟩ := getS2 X1 hx hZ hown (host := "") (Or.inl (wk38 hw)) Via.refl e1 ((wd8 hW).ext O0.2) (g := (mkF m 8 #[.val (.ref (w 2))] [(.ref (w 2))])) rfl (hb hby d1_8)
  obtain ⟨T3, X3, e3, st3⟩ := getS2 X2 hx hZ hown (host := "") (Or.inl (wk39 hw)) Via.refl e2 ((wd10 hW).ext O0.2) (g := (mkF m 15 #[.val (.ref (w 2))] [(.ref (w 2))])) rfl (hb hby d1_15)
  obtain ⟨T4, X4, e4, st4⟩ := getS2 X3 hx hZ hown (host := "") (Or.inl (wk40 hw)) Via.refl e3 ((wd12 hW).ext O0.2) (g := (mkF m 22 #[.val (.ref (w 2))] [(.ref (w 2))])) rfl (hb hby d1_22)
  obtain ⟨T5, X5, e5, st5⟩ := getS2 X4 hx hZ hown (host := "") (Or.inl (wk41 hw)) Via.refl e4 ((wd14 hW).ext O0.2) (g := (mkF m 29 #[.val (.ref (w 2))] [(.ref (w 2))])) rfl (hb hby d1_29)
  obtain ⟨fs, hr, hrun, hended, hWm, hsame⟩ := X5.leave (v := some (.int (0 : Int32))) (fun h => by rw [Bd.returns] at h; cases h)
  refine ⟨_, _, pre0 _ ?_, hrun, hended, _, _, rfl, ?_, ⟨_, rfl⟩, hWm, hsame.mono (by decide) (by decide)⟩
  · show Steps p.tables e below (s₁.setTop (mkF m 0 #[.val (.ref (w 2))] [])) _
    refine sA X0 hx hby d1_0 rfl rfl ?_
    refine st1 _ ?_
    refine Jvm.RoadKit.acmp (g := (mkF m 4 #[.val (.ref (w 2))] [(.ref (w 3)), (.ref (w 2))])) X1 hx rfl rfl rfl (pc0 := 4) (pc' := 7) (same := false) rfl (hb hby d1_4) rfl (decide_eq_false fun q => (Fld.ne (wd33 hW) (wd27 hW) (by decide)) (Value.ref.inj q)) (by decide) (by decide) ?_
    refine sA X1 hx hby d1_7 rfl rfl ?_
    refine st2 _ ?_
    refine Jvm.RoadKit.acmp (g := (mkF m 11 #[.val (.ref (w 2))] [(.ref (w 4)), (.ref (w 2))])) X2 hx rfl rfl rfl (pc0 := 11) (pc' := 14) (same := false) rfl (hb hby d1_11) rfl (decide_eq_false fun q => (Fld.ne (wd33 hW) (wd28 hW) (by decide)) (Value.ref.inj q)) (by decide) (by decide) ?_
    refine sA X2 hx hby d1_14 rfl rfl ?_
    refine st3 _ ?_
    refine Jvm.RoadKit.acmp (g := (mkF m 18 #[.val (.ref (w 2))] [(.ref (w 5)), (.ref (w 2))])) X3 hx rfl rfl rfl (pc0 := 18) (pc' := 21) (same := false) rfl (hb hby d1_18) rfl (decide_eq_false fun q => (Fld.ne (wd33 hW) (wd29 hW) (by decide)) (Value.ref.inj q)) (by decide) (by decide) ?_
    refine sA X3 hx hby d1_21 rfl rfl ?_
    refine st4 _ ?_
    refine Jvm.RoadKit.acmp (g := (mkF m 25 #[.val (.ref (w 2))] [(.ref (w 6)), (.ref (w 2))])) X4 hx rfl rfl rfl (pc0 := 25) (pc' := 28) (same := false) rfl (hb hby d1_25) rfl (decide_eq_false fun q => (Fld.ne (wd33 hW) (wd30 hW) (by decide)) (Value.ref.inj q)) (by decide) (by decide) ?_
    refine sA X4 hx hby d1_28 rfl rfl ?_
    refine st5 _ ?_
    refine Jvm.RoadKit.acmp (g := (mkF m 32 #[.val (.ref (w 2))] [(.ref (w 7)), (.ref (w 2))])) X5 hx rfl rfl rfl (pc0 := 32) (pc' := 39) (same := false) rfl (hb hby d1_32) rfl (decide_eq_false fun q => (Fld.ne (wd33 hW) (wd31 hW) (by decide)) (Value.ref.inj q)) (by decide) (by decide) ?_
    refine sc X5 hx hby d1_39 ?_
    exact retN X5 hx (t := .boolean) Bd.returns (by simp) (hb hby d1_40) hr
  · show Q1_3 Z w h0 n0 _ T5.heap _
    rw [e5]
    exact ⟨rfl, N0, rfl⟩
theorem d1_35 : decode prog_29_method_7_code 35 = .ok (.iconst 1, 1) := by decide +kernel
theorem d1_36 : decode prog_29_method_7_code 36 = .ok (.goto 4, 3) := by decide +kernel
theorem ef_1_4 (m : MethodId) (w : Nat → Addr) : entryFrame m #[(.ref (w 3))] 1 = mkF m 0 #[.val (.ref (w 3))] [] := by first | (simp [entryFrame, mkF, argsToLocals, Value.category]; done) | rfl
def Q1_4 (Z : State) (w : Nat → Addr) (h0 : Heap) (n0 : Nat) (v : Option Value) (h : Heap) (L : List Loc) : Prop := v = some (.int (1 : Int32)) ∧ Fr n0 L ∧ h = h0
set_option maxRecDepth 65536 in
set_option maxHeartbeats 40000000 in
theorem rm1_4 (l : Launch) (Z : State) (a0 : Array Value) (hw : ∀ d ∈ tables_1, d.before a0 Z = true) (w : Nat → Addr) (hW : Wd Z w) (ws : List Jvm.Cond) (h0 : Heap) (n0 : Nat) (O0 : Old Z n0 h0) :
    MetFree l ym0 (head1 (Jvm.Cond.code ym0 prog_29_method_7_code 1 (some .boolean) :: ws) ({ frames := 0, cells := 0, slots := 0, locals := 0 } : Room)) (fun a U => a = #[(.ref (w 3))] ∧ Z.Warmed39 U.vm ∧ U.heap = h0) (fun _ _ _ _ _ => True) (fun _ U o U' => ∃ v L, o = .returned v ∧ Q1_4 Z w h0 n0 v U'.heap L ∧ FrameEnd U o U' L ({ frames := 0, cells := 0, slots := 0, locals := 0 } : Room).cells ({ frames := 0, cells := 0, slots := 0, locals := 0 } : Room).slots) := by
  refine MetFree.of_bodySF (plainFor_of_name pnc_0) hisR ?_
  intro p e s m args below meth c s₁ Bd hml0 hP hK
  obtain ⟨rfl, hZ, hh⟩ := hP
  have hx := Bd.exec
  have hby := Bd.bytes
  have hml : c.maxLocals = 1 := hml0
  have hown : s.vm.findClass "com/example/weftcheck/weftcheck/OperationKind" = some m.cls := findClass_of_methodNamed Bd.named
  have hnm := (name_of_methodNamed Bd.named Bd.method).1
  have X0 : Stand p l e ({ frames := 0, cells := 0, slots := 0, locals := 0 } : Room) s m #[(.ref (w 3))] below meth c s₁ [] 0 0 := Stand.of_body Bd
  have e0 : s₁.heap = h0 := by rw [← hh, Bd.state]; rfl
  have N0 := Fr.nil n0
  skip
  have pre0 : ∀ t, Steps p.tables e below (s₁.setTop (mkF m 0 #[.val (.ref (w 3))] [])) t → Steps p.tables e below (s₁.setTop (entryFrame m #[(.ref (w 3))] 1)) t := fun t k => castTop (ef_1_4 m w) k
  obtain ⟨T1, X1, e1, st1⟩ := getS2 X0 hx hZ hown (host := "") (Or.inl (wk37 hw)) Via.refl e0 ((wd6 hW).ext O0.2) (g := (mkF m 1 #[.val (.ref (w 3))] [(.ref (w 3))])) rfl (hb hby d1_1)
  obtain ⟨fs, hr, hrun, hended, hWm, hsame⟩ := X1.leave (v := some (.int (1 : Int32))) (fun h => by rw [Bd.returns] at h; cases h)
  refine ⟨_, _, pre0 _ ?_, hrun, hended, _, _, rfl, ?_, ⟨_, rfl⟩, hWm, hsame.mono (by decide) (by decide)⟩
  · show Steps p.tables e below (s₁.setTop (mkF m 0 #[.val (.ref (w 3))] [])) _
    refine sA X0 hx hby d1_0 rfl rfl ?_
    refine st1 _ ?_
    refine Jvm.RoadKit.acmp (g := (mkF m 4 #[.val (.ref (w 3))] [(.ref (w 3)), (.ref (w 3))])) X1 hx rfl rfl rfl (pc0 := 4) (pc' := 35) (same := true) rfl (hb hby d1_4) rfl (decide_eq_true rfl) (by decide) (by decide) ?_
    refine sc X1 hx hby d1_35 ?_
    refine sg (pc := 36) (pc' := 40) X1 hx hby d1_36 (by decide) (by decide) ?_
    exact retN X1 hx (t := .boolean) Bd.returns (by simp) (hb hby d1_40) hr
  · show Q1_4 Z w h0 n0 _ T1.heap _
    rw [e1]
    exact ⟨rfl, N0, rfl⟩
theorem d2_0 : decode prog_29_method_12_code 0 = .ok (.aload_n 0, 1) := by decide +kernel
theorem d2_1 : decode prog_29_method_12_code 1 = .ok (.invokevirtual 90, 3) := by decide +kernel
theorem d3_0 : decode prog_29_method_5_code 0 = .ok (.aload_n 0, 1) := by decide +kernel
theorem d3_1 : decode prog_29_method_5_code 1 = .ok (.getstatic 3, 3) := by decide +kernel
theorem d3_4 : decode prog_29_method_5_code 4 = .ok (.if_acmp .eq 10, 3) := by decide +kernel
theorem d3_7 : decode prog_29_method_5_code 7 = .ok (.aload_n 0, 1) := by decide +kernel
theorem d3_8 : decode prog_29_method_5_code 8 = .ok (.getstatic 7, 3) := by decide +kernel
theorem d3_11 : decode prog_29_method_5_code 11 = .ok (.if_acmp .ne 7, 3) := by decide +kernel
theorem d3_18 : decode prog_29_method_5_code 18 = .ok (.iconst 0, 1) := by decide +kernel
theorem d3_19 : decode prog_29_method_5_code 19 = .ok (.ireturn, 1) := by decide +kernel
theorem ef_3_5 (m : MethodId) (w : Nat → Addr) : entryFrame m #[(.ref (w 3))] 1 = mkF m 0 #[.val (.ref (w 3))] [] := by first | (simp [entryFrame, mkF, argsToLocals, Value.category]; done) | rfl
def Q3_5 (Z : State) (w : Nat → Addr) (h0 : Heap) (n0 : Nat) (v : Option Value) (h : Heap) (L : List Loc) : Prop := v = some (.int (0 : Int32)) ∧ Fr n0 L ∧ h = h0
set_option maxRecDepth 65536 in
set_option maxHeartbeats 40000000 in
theorem rm3_5 (l : Launch) (Z : State) (a0 : Array Value) (hw : ∀ d ∈ tables_1, d.before a0 Z = true) (w : Nat → Addr) (hW : Wd Z w) (ws : List Jvm.Cond) (h0 : Heap) (n0 : Nat) (O0 : Old Z n0 h0) :
    MetFree l ym1 (head1 (Jvm.Cond.code ym1 prog_29_method_5_code 1 (some .boolean) :: ws) ({ frames := 0, cells := 0, slots := 0, locals := 0 } : Room)) (fun a U => a = #[(.ref (w 3))] ∧ Z.Warmed39 U.vm ∧ U.heap = h0) (fun _ _ _ _ _ => True) (fun _ U o U' => ∃ v L, o = .returned v ∧ Q3_5 Z w h0 n0 v U'.heap L ∧ FrameEnd U o U' L ({ frames := 0, cells := 0, slots := 0, locals := 0 } : Room).cells ({ frames := 0, cells := 0, slots := 0, locals := 0 } : Room).slots) := by
  refine MetFree.of_bodySF (plainFor_of_name pnc_0) hisR ?_
  intro p e s m args below meth c s₁ Bd hml0 hP hK
  obtain ⟨rfl, hZ, hh⟩ := hP
  have hx := Bd.exec
  have hby := Bd.bytes
  have hml : c.maxLocals = 1 := hml0
  have hown : s.vm.findClass "com/example/weftcheck/weftcheck/OperationKind" = some m.cls := findClass_of_methodNamed Bd.named
  have hnm := (name_of_methodNamed Bd.named Bd.method).1
  have X0 : Stand p l e ({ frames := 0, cells := 0, slots := 0, locals := 0 } : Room) s m #[(.ref (w 3))] below meth c s₁ [] 0 0 := Stand.of_body Bd
  have e0 : s₁.heap = h0 := by rw [← hh, Bd.state]; rfl
  have N0 := Fr.nil n0
  skip
  have pre0 : ∀ t, Steps p.tables e below (s₁.setTop (mkF m 0 #[.val (.ref (w 3))] [])) t → Steps p.tables e below (s₁.setTop (entryFrame m #[(.ref (w 3))] 1)) t := fun t k => castTop (ef_3_5 m w) k
  obtain ⟨T1, X1, e1, st1⟩ := getS2 X0 hx hZ hown (host := "") (Or.inl (wk52 hw)) Via.refl e0 ((wd0 hW).ext O0.2) (g := (mkF m 1 #[.val (.ref (w 3))] [(.ref (w 3))])) rfl (hb hby d3_1)
  obtain ⟨T2, X2, e2, st2⟩ := getS2 X1 hx hZ hown (host := "") (Or.inl (wk53 hw)) Via.refl e1 ((wd2 hW).ext O0.2) (g := (mkF m 8 #[.val (.ref (w 3))] [(.ref (w 3))])) rfl (hb hby d3_8)
  obtain ⟨fs, hr, hrun, hended, hWm, hsame⟩ := X2.leave (v := some (.int (0 : Int32))) (fun h => by rw [Bd.returns] at h; cases h)
  refine ⟨_, _, pre0 _ ?_, hrun, hended, _, _, rfl, ?_, ⟨_, rfl⟩, hWm, hsame.mono (by decide) (by decide)⟩
  · show Steps p.tables e below (s₁.setTop (mkF m 0 #[.val (.ref (w 3))] [])) _
    refine sA X0 hx hby d3_0 rfl rfl ?_
    refine st1 _ ?_
    refine Jvm.RoadKit.acmp (g := (mkF m 4 #[.val (.ref (w 3))] [(.ref (w 0)), (.ref (w 3))])) X1 hx rfl rfl rfl (pc0 := 4) (pc' := 7) (same := false) rfl (hb hby d3_4) rfl (decide_eq_false fun q => (Fld.ne (wd27 hW) (wd26 hW) (by decide)) (Value.ref.inj q)) (by decide) (by decide) ?_
    refine sA X1 hx hby d3_7 rfl rfl ?_
    refine st2 _ ?_
    refine Jvm.RoadKit.acmp (g := (mkF m 11 #[.val (.ref (w 3))] [(.ref (w 1)), (.ref (w 3))])) X2 hx rfl rfl rfl (pc0 := 11) (pc' := 18) (same := false) rfl (hb hby d3_11) rfl (decide_eq_false fun q => (Fld.ne (wd27 hW) (wd32 hW) (by decide)) (Value.ref.inj q)) (by decide) (by decide) ?_
    refine sc X2 hx hby d3_18 ?_
    exact retN X2 hx (t := .boolean) Bd.returns (by simp) (hb hby d3_19) hr
  · show Q3_5 Z w h0 n0 _ T2.heap _
    rw [e2]
    exact ⟨rfl, N0, rfl⟩
theorem d2_4 : decode prog_29_method_12_code 4 = .ok (.ifCond .ne 21, 3) := by decide +kernel
theorem d2_7 : decode prog_29_method_12_code 7 = .ok (.aload_n 0, 1) := by decide +kernel
theorem d2_8 : decode prog_29_method_12_code 8 = .ok (.getstatic 10, 3) := by decide +kernel
theorem d2_11 : decode prog_29_method_12_code 11 = .ok (.if_acmp .eq 14, 3) := by decide +kernel
theorem d2_14 : decode prog_29_method_12_code 14 = .ok (.aload_n 0, 1) := by decide +kernel
theorem d2_15 : decode prog_29_method_12_code 15 = .ok (.invokevirtual 93, 3) := by decide +kernel
theorem d4_0 : decode prog_29_method_6_code 0 = .ok (.aload_n 0, 1) := by decide +kernel
theorem d4_1 : decode prog_29_method_6_code 1 = .ok (.getstatic 37, 3) := by decide +kernel
theorem d4_4 : decode prog_29_method_6_code 4 = .ok (.if_acmp .eq 10, 3) := by decide +kernel
theorem d4_7 : decode prog_29_method_6_code 7 = .ok (.aload_n 0, 1) := by decide +kernel
theorem d4_8 : decode prog_29_method_6_code 8 = .ok (.getstatic 40, 3) := by decide +kernel
theorem d4_11 : decode prog_29_method_6_code 11 = .ok (.if_acmp .ne 7, 3) := by decide +kernel
theorem d4_18 : decode prog_29_method_6_code 18 = .ok (.iconst 0, 1) := by decide +kernel
theorem d4_19 : decode prog_29_method_6_code 19 = .ok (.ireturn, 1) := by decide +kernel
theorem ef_4_6 (m : MethodId) (w : Nat → Addr) : entryFrame m #[(.ref (w 3))] 1 = mkF m 0 #[.val (.ref (w 3))] [] := by first | (simp [entryFrame, mkF, argsToLocals, Value.category]; done) | rfl
def Q4_6 (Z : State) (w : Nat → Addr) (h0 : Heap) (n0 : Nat) (v : Option Value) (h : Heap) (L : List Loc) : Prop := v = some (.int (0 : Int32)) ∧ Fr n0 L ∧ h = h0
set_option maxRecDepth 65536 in
set_option maxHeartbeats 40000000 in
theorem rm4_6 (l : Launch) (Z : State) (a0 : Array Value) (hw : ∀ d ∈ tables_1, d.before a0 Z = true) (w : Nat → Addr) (hW : Wd Z w) (ws : List Jvm.Cond) (h0 : Heap) (n0 : Nat) (O0 : Old Z n0 h0) :
    MetFree l ym2 (head1 (Jvm.Cond.code ym2 prog_29_method_6_code 1 (some .boolean) :: ws) ({ frames := 0, cells := 0, slots := 0, locals := 0 } : Room)) (fun a U => a = #[(.ref (w 3))] ∧ Z.Warmed39 U.vm ∧ U.heap = h0) (fun _ _ _ _ _ => True) (fun _ U o U' => ∃ v L, o = .returned v ∧ Q4_6 Z w h0 n0 v U'.heap L ∧ FrameEnd U o U' L ({ frames := 0, cells := 0, slots := 0, locals := 0 } : Room).cells ({ frames := 0, cells := 0, slots := 0, locals := 0 } : Room).slots) := by
  refine MetFree.of_bodySF (plainFor_of_name pnc_0) hisR ?_
  intro p e s m args below meth c s₁ Bd hml0 hP hK
  obtain ⟨rfl, hZ, hh⟩ := hP
  have hx := Bd.exec
  have hby := Bd.bytes
  have hml : c.maxLocals = 1 := hml0
  have hown : s.vm.findClass "com/example/weftcheck/weftcheck/OperationKind" = some m.cls := findClass_of_methodNamed Bd.named
  have hnm := (name_of_methodNamed Bd.named Bd.method).1
  have X0 : Stand p l e ({ frames := 0, cells := 0, slots := 0, locals := 0 } : Room) s m #[(.ref (w 3))] below meth c s₁ [] 0 0 := Stand.of_body Bd
  have e0 : s₁.heap = h0 := by rw [← hh, Bd.state]; rfl
  have N0 := Fr.nil n0
  skip
  have pre0 : ∀ t, Steps p.tables e below (s₁.setTop (mkF m 0 #[.val (.ref (w 3))] [])) t → Steps p.tables e below (s₁.setTop (entryFrame m #[(.ref (w 3))] 1)) t := fun t k => castTop (ef_4_6 m w) k
  obtain ⟨T1, X1, e1, st1⟩ := getS2 X0 hx hZ hown (host := "") (Or.inl (wk60 hw)) Via.refl e0 ((wd22 hW).ext O0.2) (g := (mkF m 1 #[.val (.ref (w 3))] [(.ref (w 3))])) rfl (hb hby d4_1)
  obtain ⟨T2, X2, e2, st2⟩ := getS2 X1 hx hZ hown (host := "") (Or.inl (wk61 hw)) Via.refl e1 ((wd24 hW).ext O0.2) (g := (mkF m 8 #[.val (.ref (w 3))] [(.ref (w 3))])) rfl (hb hby d4_8)
  obtain ⟨fs, hr, hrun, hended, hWm, hsame⟩ := X2.leave (v := some (.int (0 : Int32))) (fun h => by rw [Bd.returns] at h; cases h)
  refine ⟨_, _, pre0 _ ?_, hrun, hended, _, _, rfl, ?_, ⟨_, rfl⟩, hWm, hsame.mono (by decide) (by decide)⟩
  · show Steps p.tables e below (s₁.setTop (mkF m 0 #[.val (.ref (w 3))] [])) _
    refine sA X0 hx hby d4_0 rfl rfl ?_
    refine st1 _ ?_
    refine Jvm.RoadKit.acmp (g := (mkF m 4 #[.val (.ref (w 3))] [(.ref (w 11)), (.ref (w 3))])) X1 hx rfl rfl rfl (pc0 := 4) (pc' := 7) (same := false) rfl (hb hby d4_4) rfl (decide_eq_false fun q => (Fld.ne (wd27 hW) (wd34 hW) (by decide)) (Value.ref.inj q)) (by decide) (by decide) ?_
    refine sA X1 hx hby d4_7 rfl rfl ?_
    refine st2 _ ?_
    refine Jvm.RoadKit.acmp (g := (mkF m 11 #[.val (.ref (w 3))] [(.ref (w 12)), (.ref (w 3))])) X2 hx rfl rfl rfl (pc0 := 11) (pc' := 18) (same := false) rfl (hb hby d4_11) rfl (decide_eq_false fun q => (Fld.ne (wd27 hW) (wd35 hW) (by decide)) (Value.ref.inj q)) (by decide) (by decide) ?_
    refine sc X2 hx hby d4_18 ?_
    exact retN X2 hx (t := .boolean) Bd.returns (by simp) (hb hby d4_19) hr
  · show Q4_6 Z w h0 n0 _ T2.heap _
    rw [e2]
    exact ⟨rfl, N0, rfl⟩
theorem d2_18 : decode prog_29_method_12_code 18 = .ok (.ifCond .ne 7, 3) := by decide +kernel
theorem d2_21 : decode prog_29_method_12_code 21 = .ok (.iconst 1, 1) := by decide +kernel
theorem d2_22 : decode prog_29_method_12_code 22 = .ok (.goto 4, 3) := by decide +kernel
theorem d2_26 : decode prog_29_method_12_code 26 = .ok (.ireturn, 1) := by decide +kernel
theorem ef_2_7 (m : MethodId) (w : Nat → Addr) : entryFrame m #[(.ref (w 3))] 1 = mkF m 0 #[.val (.ref (w 3))] [] := by first | (simp [entryFrame, mkF, argsToLocals, Value.category]; done) | rfl
def Q2_7 (Z : State) (w : Nat → Addr) (h0 : Heap) (n0 : Nat) (v : Option Value) (h : Heap) (L : List Loc) : Prop := v = some (.int (1 : Int32)) ∧ Fr n0 L ∧ h = h0
set_option maxRecDepth 65536 in
set_option maxHeartbeats 40000000 in
theorem rm2_7 (l : Launch) (Z : State) (a0 : Array Value) (hw : ∀ d ∈ tables_1, d.before a0 Z = true) (w : Nat → Addr) (hW : Wd Z w) (ws : List Jvm.Cond) (h0 : Heap) (n0 : Nat) (O0 : Old Z n0 h0) :
    MetFree l ym3 (head1 (Jvm.Cond.code ym3 prog_29_method_12_code 1 (some .boolean) :: ws) ({ frames := 1, cells := 0, slots := 0, locals := 12 } : Room)) (fun a U => a = #[(.ref (w 3))] ∧ Z.Warmed39 U.vm ∧ U.heap = h0) (fun _ _ _ _ _ => True) (fun _ U o U' => ∃ v L, o = .returned v ∧ Q2_7 Z w h0 n0 v U'.heap L ∧ FrameEnd U o U' L ({ frames := 1, cells := 0, slots := 0, locals := 12 } : Room).cells ({ frames := 1, cells := 0, slots := 0, locals := 12 } : Room).slots) := by
  refine MetFree.of_bodySF (plainFor_of_name pnc_0) hisR ?_
  intro p e s m args below meth c s₁ Bd hml0 hP hK
  obtain ⟨rfl, hZ, hh⟩ := hP
  have hx := Bd.exec
  have hby := Bd.bytes
  have hml : c.maxLocals = 1 := hml0
  have hown : s.vm.findClass "com/example/weftcheck/weftcheck/OperationKind" = some m.cls := findClass_of_methodNamed Bd.named
  have hnm := (name_of_methodNamed Bd.named Bd.method).1
  have X0 : Stand p l e ({ frames := 1, cells := 0, slots := 0, locals := 12 } : Room) s m #[(.ref (w 3))] below meth c s₁ [] 0 0 := Stand.of_body Bd
  have e0 : s₁.heap = h0 := by rw [← hh, Bd.state]; rfl
  have N0 := Fr.nil n0
  skip
  have pre0 : ∀ t, Steps p.tables e below (s₁.setTop (mkF m 0 #[.val (.ref (w 3))] [])) t → Steps p.tables e below (s₁.setTop (entryFrame m #[(.ref (w 3))] 1)) t := fun t k => castTop (ef_2_7 m w) k
  obtain ⟨cq1, kq1, q1a, q1b, q1c⟩ := isOf hZ e0 ((wd7 hW).ext O0.2)
  obtain ⟨_, _, ⟨T1, L1, kk1, nn1⟩, -, X1, ⟨Lc1, hQ1, l1, y1, z1⟩, st1⟩ := X0.virtualBack hx (y := ym1) (z := ym1) hown (mvT hZ (wk47 hw)) (mvT hZ (wk48 hw)) (notFace_of_selects (args := #[]) (mvT hZ (wk50 hw))) (mvT hZ (wk50 hw)) (mvT hZ (wk49 hw)) (by decide) (backOf (W := 0) (rm3_5 l Z a0 hw w hW []  h0 n0 O0 ) hZ (wk51 hw) (wk3 hw) (by decide) (by decide)) q1a q1c (g := (mkF m 1 #[.val (.ref (w 3))] [(.ref (w 3))])) rfl (by rw [hml]; rfl) (Steps.refl _) (argsL := []) (rest := []) (lenOf pds_0 rfl) rfl (by show 2 * 0 + _ ≤ _; exact Nat.le_of_eq rfl) (hb hby d2_1) (fun _ _ => ⟨rfl, e0, (by decide : 0 + 0 ≤ _), (by decide : 0 + 0 ≤ _)⟩)
  dsimp only [Pt.U, Pt.locs, Pt.cells, Pt.slots] at X1 l1 y1 z1 st1 hQ1
  rw [l1, y1, z1] at X1
  obtain ⟨rfl, N1q, e1⟩ := hQ1
  have N1 := Fr.app N0 N1q
  obtain ⟨T2, X2, e2, st2⟩ := getS2 X1 hx hZ hown (host := "") (Or.inl (wk54 hw)) Via.refl e1 ((wd4 hW).ext O0.2) (g := (mkF m 8 #[.val (.ref (w 3))] [(.ref (w 3))])) rfl (hb hby d2_8)
  obtain ⟨cq3, kq3, q3a, q3b, q3c⟩ := isOf hZ e2 ((wd7 hW).ext O0.2)
  obtain ⟨_, _, ⟨T3, L3, kk3, nn3⟩, -, X3, ⟨Lc3, hQ3, l3, y3, z3⟩, st3⟩ := X2.virtualBack hx (y := ym2) (z := ym2) hown (mvT hZ (wk55 hw)) (mvT hZ (wk56 hw)) (notFace_of_selects (args := #[]) (mvT hZ (wk58 hw))) (mvT hZ (wk58 hw)) (mvT hZ (wk57 hw)) (by decide) (backOf (W := 0) (rm4_6 l Z a0 hw w hW []  h0 n0 O0 ) hZ (wk59 hw) (wk3 hw) (by decide) (by decide)) q3a q3c (g := (mkF m 15 #[.val (.ref (w 3))] [(.ref (w 3))])) rfl (by rw [hml]; rfl) (Steps.refl _) (argsL := []) (rest := []) (lenOf pds_0 rfl) rfl (by show 2 * 0 + _ ≤ _; exact Nat.le_of_eq rfl) (hb hby d2_15) (fun _ _ => ⟨rfl, e2, (by decide : 0 + 0 ≤ _), (by decide : 0 + 0 ≤ _)⟩)
  dsimp only [Pt.U, Pt.locs, Pt.cells, Pt.slots] at X3 l3 y3 z3 st3 hQ3
  rw [l3, y3, z3] at X3
  obtain ⟨rfl, N3q, e3⟩ := hQ3
  have N3 := Fr.app N1 N3q
  obtain ⟨fs, hr, hrun, hended, hWm, hsame⟩ := X3.leave (v := some (.int (1 : Int32))) (fun h => by rw [Bd.returns] at h; cases h)
  refine ⟨_, _, pre0 _ ?_, hrun, hended, _, _, rfl, ?_, ⟨_, rfl⟩, hWm, hsame.mono (by decide) (by decide)⟩
  · show Steps p.tables e below (s₁.setTop (mkF m 0 #[.val (.ref (w 3))] [])) _
    refine sA X0 hx hby d2_0 rfl rfl ?_
    refine st1.trans ?_
    refine sN X1 hx hby d2_4 (by decide) ?_
    refine sA X1 hx hby d2_7 rfl rfl ?_
    refine st2 _ ?_
    refine Jvm.RoadKit.acmp (g := (mkF m 11 #[.val (.ref (w 3))] [(.ref (w 2)), (.ref (w 3))])) X2 hx rfl rfl rfl (pc0 := 11) (pc' := 14) (same := false) rfl (hb hby d2_11) rfl (decide_eq_false fun q => (Fld.ne (wd27 hW) (wd33 hW) (by decide)) (Value.ref.inj q)) (by decide) (by decide) ?_
    refine sA X2 hx hby d2_14 rfl rfl ?_
    refine st3.trans ?_
    refine sN X3 hx hby d2_18 (by decide) ?_
    refine sc X3 hx hby d2_21 ?_
    refine sg (pc := 22) (pc' := 26) X3 hx hby d2_22 (by decide) (by decide) ?_
    exact retN X3 hx (t := .boolean) Bd.returns (by simp) (hb hby d2_26) hr
  · show Q2_7 Z w h0 n0 _ T3.heap _
    rw [e3]
    exact ⟨rfl, N3, rfl⟩
theorem ef_1_8 (m : MethodId) (w : Nat → Addr) : entryFrame m #[(.ref (w 4))] 1 = mkF m 0 #[.val (.ref (w 4))] [] := by first | (simp [entryFrame, mkF, argsToLocals, Value.category]; done) | rfl
def Q1_8 (Z : State) (w : Nat → Addr) (h0 : Heap) (n0 : Nat) (v : Option Value) (h : Heap) (L : List Loc) : Prop := v = some (.int (1 : Int32)) ∧ Fr n0 L ∧ h = h0
set_option maxRecDepth 65536 in
set_option maxHeartbeats 40000000 in
theorem rm1_8 (l : Launch) (Z : State) (a0 : Array Value) (hw : ∀ d ∈ tables_1, d.before a0 Z = true) (w : Nat → Addr) (hW : Wd Z w) (ws : List Jvm.Cond) (h0 : Heap) (n0 : Nat) (O0 : Old Z n0 h0) :
    MetFree l ym0 (head1 (Jvm.Cond.code ym0 prog_29_method_7_code 1 (some .boolean) :: ws) ({ frames := 0, cells := 0, slots := 0, locals := 0 } : Room)) (fun a U => a = #[(.ref (w 4))] ∧ Z.Warmed39 U.vm ∧ U.heap = h0) (fun _ _ _ _ _ => True) (fun _ U o U' => ∃ v L, o = .returned v ∧ Q1_8 Z w h0 n0 v U'.heap L ∧ FrameEnd U o U' L ({ frames := 0, cells := 0, slots := 0, locals := 0 } : Room).cells ({ frames := 0, cells := 0, slots := 0, locals := 0 } : Room).slots) := by
  refine MetFree.of_bodySF (plainFor_of_name pnc_0) hisR ?_
  intro p e s m args below meth c s₁ Bd hml0 hP hK
  obtain ⟨rfl, hZ, hh⟩ := hP
  have hx := Bd.exec
  have hby := Bd.bytes
  have hml : c.maxLocals = 1 := hml0
  have hown : s.vm.findClass "com/example/weftcheck/weftcheck/OperationKind" = some m.cls := findClass_of_methodNamed Bd.named
  have hnm := (name_of_methodNamed Bd.named Bd.method).1
  have X0 : Stand p l e ({ frames := 0, cells := 0, slots := 0, locals := 0 } : Room) s m #[(.ref (w 4))] below meth c s₁ [] 0 0 := Stand.of_body Bd
  have e0 : s₁.heap = h0 := by rw [← hh, Bd.state]; rfl
  have N0 := Fr.nil n0
  skip
  have pre0 : ∀ t, Steps p.tables e below (s₁.setTop (mkF m 0 #[.val (.ref (w 4))] [])) t → Steps p.tables e below (s₁.setTop (entryFrame m #[(.ref (w 4))] 1)) t := fun t k => castTop (ef_1_8 m w) k
  obtain ⟨T1, X1, e1, st1⟩ := getS2 X0 hx hZ hown (host := "") (Or.inl (wk37 hw)) Via.refl e0 ((wd6 hW).ext O0.2) (g := (mkF m 1 #[.val (.ref (w 4))] [(.ref (w 4))])) rfl (hb hby d1_1)
  obtain ⟨T2, X2, e2, st2⟩ := getS2 X1 hx hZ hown (host := "") (Or.inl (wk38 hw)) Via.refl e1 ((wd8 hW).ext O0.2) (g := (mkF m 8 #[.val (.ref (w 4))] [(.ref (w 4))])) rfl (hb hby d1_8)
  obtain ⟨fs, hr, hrun, hended, hWm, hsame⟩ := X2.leave (v := some (.int (1 : Int32))) (fun h => by rw [Bd.returns] at h; cases h)
  refine ⟨_, _, pre0 _ ?_, hrun, hended, _, _, rfl, ?_, ⟨_, rfl⟩, hWm, hsame.mono (by decide) (by decide)⟩
  · show Steps p.tables e below (s₁.setTop (mkF m 0 #[.val (.ref (w 4))] [])) _
    refine sA X0 hx hby d1_0 rfl rfl ?_
    refine st1 _ ?_
    refine Jvm.RoadKit.acmp (g := (mkF m 4 #[.val (.ref (w 4))] [(.ref (w 3)), (.ref (w 4))])) X1 hx rfl rfl rfl (pc0 := 4) (pc' := 7) (same := false) rfl (hb hby d1_4) rfl (decide_eq_false fun q => (Fld.ne (wd28 hW) (wd27 hW) (by decide)) (Value.ref.inj q)) (by decide) (by decide) ?_
    refine sA X1 hx hby d1_7 rfl rfl ?_
    refine st2 _ ?_
    refine Jvm.RoadKit.acmp (g := (mkF m 11 #[.val (.ref (w 4))] [(.ref (w 4)), (.ref (w 4))])) X2 hx rfl rfl rfl (pc0 := 11) (pc' := 35) (same := true) rfl (hb hby d1_11) rfl (decide_eq_true rfl) (by decide) (by decide) ?_
    refine sc X2 hx hby d1_35 ?_
    refine sg (pc := 36) (pc' := 40) X2 hx hby d1_36 (by decide) (by decide) ?_
    exact retN X2 hx (t := .boolean) Bd.returns (by simp) (hb hby d1_40) hr
  · show Q1_8 Z w h0 n0 _ T2.heap _
    rw [e2]
    exact ⟨rfl, N0, rfl⟩
theorem ef_3_9 (m : MethodId) (w : Nat → Addr) : entryFrame m #[(.ref (w 4))] 1 = mkF m 0 #[.val (.ref (w 4))] [] := by first | (simp [entryFrame, mkF, argsToLocals, Value.category]; done) | rfl
def Q3_9 (Z : State) (w : Nat → Addr) (h0 : Heap) (n0 : Nat) (v : Option Value) (h : Heap) (L : List Loc) : Prop := v = some (.int (0 : Int32)) ∧ Fr n0 L ∧ h = h0
set_option maxRecDepth 65536 in
set_option maxHeartbeats 40000000 in
theorem rm3_9 (l : Launch) (Z : State) (a0 : Array Value) (hw : ∀ d ∈ tables_1, d.before a0 Z = true) (w : Nat → Addr) (hW : Wd Z w) (ws : List Jvm.Cond) (h0 : Heap) (n0 : Nat) (O0 : Old Z n0 h0) :
    MetFree l ym1 (head1 (Jvm.Cond.code ym1 prog_29_method_5_code 1 (some .boolean) :: ws) ({ frames := 0, cells := 0, slots := 0, locals := 0 } : Room)) (fun a U => a = #[(.ref (w 4))] ∧ Z.Warmed39 U.vm ∧ U.heap = h0) (fun _ _ _ _ _ => True) (fun _ U o U' => ∃ v L, o = .returned v ∧ Q3_9 Z w h0 n0 v U'.heap L ∧ FrameEnd U o U' L ({ frames := 0, cells := 0, slots := 0, locals := 0 } : Room).cells ({ frames := 0, cells := 0, slots := 0, locals := 0 } : Room).slots) := by
  refine MetFree.of_bodySF (plainFor_of_name pnc_0) hisR ?_
  intro p e s m args below meth c s₁ Bd hml0 hP hK
  obtain ⟨rfl, hZ, hh⟩ := hP
  have hx := Bd.exec
  have hby := Bd.bytes
  have hml : c.maxLocals = 1 := hml0
  have hown : s.vm.findClass "com/example/weftcheck/weftcheck/OperationKind" = some m.cls := findClass_of_methodNamed Bd.named
  have hnm := (name_of_methodNamed Bd.named Bd.method).1
  have X0 : Stand p l e ({ frames := 0, cells := 0, slots := 0, locals := 0 } : Room) s m #[(.ref (w 4))] below meth c s₁ [] 0 0 := Stand.of_body Bd
  have e0 : s₁.heap = h0 := by rw [← hh, Bd.state]; rfl
  have N0 := Fr.nil n0
  skip
  have pre0 : ∀ t, Steps p.tables e below (s₁.setTop (mkF m 0 #[.val (.ref (w 4))] [])) t → Steps p.tables e below (s₁.setTop (entryFrame m #[(.ref (w 4))] 1)) t := fun t k => castTop (ef_3_9 m w) k
  obtain ⟨T1, X1, e1, st1⟩ := getS2 X0 hx hZ hown (host := "") (Or.inl (wk52 hw)) Via.refl e0 ((wd0 hW).ext O0.2) (g := (mkF m 1 #[.val (.ref (w 4))] [(.ref (w 4))])) rfl (hb hby d3_1)
  obtain ⟨T2, X2, e2, st2⟩ := getS2 X1 hx hZ hown (host := "") (Or.inl (wk53 hw)) Via.refl e1 ((wd2 hW).ext O0.2) (g := (mkF m 8 #[.val (.ref (w 4))] [(.ref (w 4))])) rfl (hb hby d3_8)
  obtain ⟨fs, hr, hrun, hended, hWm, hsame⟩ := X2.leave (v := some (.int (0 : Int32))) (fun h => by rw [Bd.returns] at h; cases h)
  refine ⟨_, _, pre0 _ ?_, hrun, hended, _, _, rfl, ?_, ⟨_, rfl⟩, hWm, hsame.mono (by decide) (by decide)⟩
  · show Steps p.tables e below (s₁.setTop (mkF m 0 #[.val (.ref (w 4))] [])) _
    refine sA X0 hx hby d3_0 rfl rfl ?_
    refine st1 _ ?_
    refine Jvm.RoadKit.acmp (g := (mkF m 4 #[.val (.ref (w 4))] [(.ref (w 0)), (.ref (w 4))])) X1 hx rfl rfl rfl (pc0 := 4) (pc' := 7) (same := false) rfl (hb hby d3_4) rfl (decide_eq_false fun q => (Fld.ne (wd28 hW) (wd26 hW) (by decide)) (Value.ref.inj q)) (by decide) (by decide) ?_
    refine sA X1 hx hby d3_7 rfl rfl ?_
    refine st2 _ ?_
    refine Jvm.RoadKit.acmp (g := (mkF m 11 #[.val (.ref (w 4))] [(.ref (w 1)), (.ref (w 4))])) X2 hx rfl rfl rfl (pc0 := 11) (pc' := 18) (same := false) rfl (hb hby d3_11) rfl (decide_eq_false fun q => (Fld.ne (wd28 hW) (wd32 hW) (by decide)) (Value.ref.inj q)) (by decide) (by decide) ?_
    refine sc X2 hx hby d3_18 ?_
    exact retN X2 hx (t := .boolean) Bd.returns (by simp) (hb hby d3_19) hr
  · show Q3_9 Z w h0 n0 _ T2.heap _
    rw [e2]
    exact ⟨rfl, N0, rfl⟩
theorem ef_4_10 (m : MethodId) (w : Nat → Addr) : entryFrame m #[(.ref (w 4))] 1 = mkF m 0 #[.val (.ref (w 4))] [] := by first | (simp [entryFrame, mkF, argsToLocals, Value.category]; done) | rfl
def Q4_10 (Z : State) (w : Nat → Addr) (h0 : Heap) (n0 : Nat) (v : Option Value) (h : Heap) (L : List Loc) : Prop := v = some (.int (0 : Int32)) ∧ Fr n0 L ∧ h = h0
set_option maxRecDepth 65536 in
set_option maxHeartbeats 40000000 in
theorem rm4_10 (l : Launch) (Z : State) (a0 : Array Value) (hw : ∀ d ∈ tables_1, d.before a0 Z = true) (w : Nat → Addr) (hW : Wd Z w) (ws : List Jvm.Cond) (h0 : Heap) (n0 : Nat) (O0 : Old Z n0 h0) :
    MetFree l ym2 (head1 (Jvm.Cond.code ym2 prog_29_method_6_code 1 (some .boolean) :: ws) ({ frames := 0, cells := 0, slots := 0, locals := 0 } : Room)) (fun a U => a = #[(.ref (w 4))] ∧ Z.Warmed39 U.vm ∧ U.heap = h0) (fun _ _ _ _ _ => True) (fun _ U o U' => ∃ v L, o = .returned v ∧ Q4_10 Z w h0 n0 v U'.heap L ∧ FrameEnd U o U' L ({ frames := 0, cells := 0, slots := 0, locals := 0 } : Room).cells ({ frames := 0, cells := 0, slots := 0, locals := 0 } : Room).slots) := by
  refine MetFree.of_bodySF (plainFor_of_name pnc_0) hisR ?_
  intro p e s m args below meth c s₁ Bd hml0 hP hK
  obtain ⟨rfl, hZ, hh⟩ := hP
  have hx := Bd.exec
  have hby := Bd.bytes
  have hml : c.maxLocals = 1 := hml0
  have hown : s.vm.findClass "com/example/weftcheck/weftcheck/OperationKind" = some m.cls := findClass_of_methodNamed Bd.named
  have hnm := (name_of_methodNamed Bd.named Bd.method).1
  have X0 : Stand p l e ({ frames := 0, cells := 0, slots := 0, locals := 0 } : Room) s m #[(.ref (w 4))] below meth c s₁ [] 0 0 := Stand.of_body Bd
  have e0 : s₁.heap = h0 := by rw [← hh, Bd.state]; rfl
  have N0 := Fr.nil n0
  skip
  have pre0 : ∀ t, Steps p.tables e below (s₁.setTop (mkF m 0 #[.val (.ref (w 4))] [])) t → Steps p.tables e below (s₁.setTop (entryFrame m #[(.ref (w 4))] 1)) t := fun t k => castTop (ef_4_10 m w) k
  obtain ⟨T1, X1, e1, st1⟩ := getS2 X0 hx hZ hown (host := "") (Or.inl (wk60 hw)) Via.refl e0 ((wd22 hW).ext O0.2) (g := (mkF m 1 #[.val (.ref (w 4))] [(.ref (w 4))])) rfl (hb hby d4_1)
  obtain ⟨T2, X2, e2, st2⟩ := getS2 X1 hx hZ hown (host := "") (Or.inl (wk61 hw)) Via.refl e1 ((wd24 hW).ext O0.2) (g := (mkF m 8 #[.val (.ref (w 4))] [(.ref (w 4))])) rfl (hb hby d4_8)
  obtain ⟨fs, hr, hrun, hended, hWm, hsame⟩ := X2.leave (v := some (.int (0 : Int32))) (fun h => by rw [Bd.returns] at h; cases h)
  refine ⟨_, _, pre0 _ ?_, hrun, hended, _, _, rfl, ?_, ⟨_, rfl⟩, hWm, hsame.mono (by decide) (by decide)⟩
  · show Steps p.tables e below (s₁.setTop (mkF m 0 #[.val (.ref (w 4))] [])) _
    refine sA X0 hx hby d4_0 rfl rfl ?_
    refine st1 _ ?_
    refine Jvm.RoadKit.acmp (g := (mkF m 4 #[.val (.ref (w 4))] [(.ref (w 11)), (.ref (w 4))])) X1 hx rfl rfl rfl (pc0 := 4) (pc' := 7) (same := false) rfl (hb hby d4_4) rfl (decide_eq_false fun q => (Fld.ne (wd28 hW) (wd34 hW) (by decide)) (Value.ref.inj q)) (by decide) (by decide) ?_
    refine sA X1 hx hby d4_7 rfl rfl ?_
    refine st2 _ ?_
    refine Jvm.RoadKit.acmp (g := (mkF m 11 #[.val (.ref (w 4))] [(.ref (w 12)), (.ref (w 4))])) X2 hx rfl rfl rfl (pc0 := 11) (pc' := 18) (same := false) rfl (hb hby d4_11) rfl (decide_eq_false fun q => (Fld.ne (wd28 hW) (wd35 hW) (by decide)) (Value.ref.inj q)) (by decide) (by decide) ?_
    refine sc X2 hx hby d4_18 ?_
    exact retN X2 hx (t := .boolean) Bd.returns (by simp) (hb hby d4_19) hr
  · show Q4_10 Z w h0 n0 _ T2.heap _
    rw [e2]
    exact ⟨rfl, N0, rfl⟩
theorem ef_2_11 (m : MethodId) (w : Nat → Addr) : entryFrame m #[(.ref (w 4))] 1 = mkF m 0 #[.val (.ref (w 4))] [] := by first | (simp [entryFrame, mkF, argsToLocals, Value.category]; done) | rfl
def Q2_11 (Z : State) (w : Nat → Addr) (h0 : Heap) (n0 : Nat) (v : Option Value) (h : Heap) (L : List Loc) : Prop := v = some (.int (1 : Int32)) ∧ Fr n0 L ∧ h = h0
set_option maxRecDepth 65536 in
set_option maxHeartbeats 40000000 in
theorem rm2_11 (l : Launch) (Z : State) (a0 : Array Value) (hw : ∀ d ∈ tables_1, d.before a0 Z = true) (w : Nat → Addr) (hW : Wd Z w) (ws : List Jvm.Cond) (h0 : Heap) (n0 : Nat) (O0 : Old Z n0 h0) :
    MetFree l ym3 (head1 (Jvm.Cond.code ym3 prog_29_method_12_code 1 (some .boolean) :: ws) ({ frames := 1, cells := 0, slots := 0, locals := 12 } : Room)) (fun a U => a = #[(.ref (w 4))] ∧ Z.Warmed39 U.vm ∧ U.heap = h0) (fun _ _ _ _ _ => True) (fun _ U o U' => ∃ v L, o = .returned v ∧ Q2_11 Z w h0 n0 v U'.heap L ∧ FrameEnd U o U' L ({ frames := 1, cells := 0, slots := 0, locals := 12 } : Room).cells ({ frames := 1, cells := 0, slots := 0, locals := 12 } : Room).slots) := by
  refine MetFree.of_bodySF (plainFor_of_name pnc_0) hisR ?_
  intro p e s m args below meth c s₁ Bd hml0 hP hK
  obtain ⟨rfl, hZ, hh⟩ := hP
  have hx := Bd.exec
  have hby := Bd.bytes
  have hml : c.maxLocals = 1 := hml0
  have hown : s.vm.findClass "com/example/weftcheck/weftcheck/OperationKind" = some m.cls := findClass_of_methodNamed Bd.named
  have hnm := (name_of_methodNamed Bd.named Bd.method).1
  have X0 : Stand p l e ({ frames := 1, cells := 0, slots := 0, locals := 12 } : Room) s m #[(.ref (w 4))] below meth c s₁ [] 0 0 := Stand.of_body Bd
  have e0 : s₁.heap = h0 := by rw [← hh, Bd.state]; rfl
  have N0 := Fr.nil n0
  skip
  have pre0 : ∀ t, Steps p.tables e below (s₁.setTop (mkF m 0 #[.val (.ref (w 4))] [])) t → Steps p.tables e below (s₁.setTop (entryFrame m #[(.ref (w 4))] 1)) t := fun t k => castTop (ef_2_11 m w) k
  obtain ⟨cq1, kq1, q1a, q1b, q1c⟩ := isOf hZ e0 ((wd9 hW).ext O0.2)
  obtain ⟨_, _, ⟨T1, L1, kk1, nn1⟩, -, X1, ⟨Lc1, hQ1, l1, y1, z1⟩, st1⟩ := X0.virtualBack hx (y := ym1) (z := ym1) hown (mvT hZ (wk47 hw)) (mvT hZ (wk48 hw)) (notFace_of_selects (args := #[]) (mvT hZ (wk50 hw))) (mvT hZ (wk50 hw)) (mvT hZ (wk49 hw)) (by decide) (backOf (W := 0) (rm3_9 l Z a0 hw w hW []  h0 n0 O0 ) hZ (wk51 hw) (wk3 hw) (by decide) (by decide)) q1a q1c (g := (mkF m 1 #[.val (.ref (w 4))] [(.ref (w 4))])) rfl (by rw [hml]; rfl) (Steps.refl _) (argsL := []) (rest := []) (lenOf pds_0 rfl) rfl (by show 2 * 0 + _ ≤ _; exact Nat.le_of_eq rfl) (hb hby d2_1) (fun _ _ => ⟨rfl, e0, (by decide : 0 + 0 ≤ _), (by decide : 0 + 0 ≤ _)⟩)
  dsimp only [Pt.U, Pt.locs, Pt.cells, Pt.slots] at X1 l1 y1 z1 st1 hQ1
  rw [l1, y1, z1] at X1
  obtain ⟨rfl, N1q, e1⟩ := hQ1
  have N1 := Fr.app N0 N1q
  obtain ⟨T2, X2, e2, st2⟩ := getS2 X1 hx hZ hown (host := "") (Or.inl (wk54 hw)) Via.refl e1 ((wd4 hW).ext O0.2) (g := (mkF m 8 #[.val (.ref (w 4))] [(.ref (w 4))])) rfl (hb hby d2_8)
  obtain ⟨cq3, kq3, q3a, q3b, q3c⟩ := isOf hZ e2 ((wd9 hW).ext O0.2)
  obtain ⟨_, _, ⟨T3, L3, kk3, nn3⟩, -, X3, ⟨Lc3, hQ3, l3, y3, z3⟩, st3⟩ := X2.virtualBack hx (y := ym2) (z := ym2) hown (mvT hZ (wk55 hw)) (mvT hZ (wk56 hw)) (notFace_of_selects (args := #[]) (mvT hZ (wk58 hw))) (mvT hZ (wk58 hw)) (mvT hZ (wk57 hw)) (by decide) (backOf (W := 0) (rm4_10 l Z a0 hw w hW []  h0 n0 O0 ) hZ (wk59 hw) (wk3 hw) (by decide) (by decide)) q3a q3c (g := (mkF m 15 #[.val (.ref (w 4))] [(.ref (w 4))])) rfl (by rw [hml]; rfl) (Steps.refl _) (argsL := []) (rest := []) (lenOf pds_0 rfl) rfl (by show 2 * 0 + _ ≤ _; exact Nat.le_of_eq rfl) (hb hby d2_15) (fun _ _ => ⟨rfl, e2, (by decide : 0 + 0 ≤ _), (by decide : 0 + 0 ≤ _)⟩)
  dsimp only [Pt.U, Pt.locs, Pt.cells, Pt.slots] at X3 l3 y3 z3 st3 hQ3
  rw [l3, y3, z3] at X3
  obtain ⟨rfl, N3q, e3⟩ := hQ3
  have N3 := Fr.app N1 N3q
  obtain ⟨fs, hr, hrun, hended, hWm, hsame⟩ := X3.leave (v := some (.int (1 : Int32))) (fun h => by rw [Bd.returns] at h; cases h)
  refine ⟨_, _, pre0 _ ?_, hrun, hended, _, _, rfl, ?_, ⟨_, rfl⟩, hWm, hsame.mono (by decide) (by decide)⟩
  · show Steps p.tables e below (s₁.setTop (mkF m 0 #[.val (.ref (w 4))] [])) _
    refine sA X0 hx hby d2_0 rfl rfl ?_
    refine st1.trans ?_
    refine sN X1 hx hby d2_4 (by decide) ?_
    refine sA X1 hx hby d2_7 rfl rfl ?_
    refine st2 _ ?_
    refine Jvm.RoadKit.acmp (g := (mkF m 11 #[.val (.ref (w 4))] [(.ref (w 2)), (.ref (w 4))])) X2 hx rfl rfl rfl (pc0 := 11) (pc' := 14) (same := false) rfl (hb hby d2_11) rfl (decide_eq_false fun q => (Fld.ne (wd28 hW) (wd33 hW) (by decide)) (Value.ref.inj q)) (by decide) (by decide) ?_
    refine sA X2 hx hby d2_14 rfl rfl ?_
    refine st3.trans ?_
    refine sN X3 hx hby d2_18 (by decide) ?_
    refine sc X3 hx hby d2_21 ?_
    refine sg (pc := 22) (pc' := 26) X3 hx hby d2_22 (by decide) (by decide) ?_
    exact retN X3 hx (t := .boolean) Bd.returns (by simp) (hb hby d2_26) hr
  · show Q2_11 Z w h0 n0 _ T3.heap _
    rw [e3]
    exact ⟨rfl, N3, rfl⟩
theorem ef_1_12 (m : MethodId) (w : Nat → Addr) : entryFrame m #[(.ref (w 5))] 1 = mkF m 0 #[.val (.ref (w 5))] [] := by first | (simp [entryFrame, mkF, argsToLocals, Value.category]; done) | rfl
def Q1_12 (Z : State) (w : Nat → Addr) (h0 : Heap) (n0 : Nat) (v : Option Value) (h : Heap) (L : List Loc) : Prop := v = some (.int (1 : Int32)) ∧ Fr n0 L ∧ h = h0
set_option maxRecDepth 65536 in
set_option maxHeartbeats 40000000 in
theorem rm1_12 (l : Launch) (Z : State) (a0 : Array Value) (hw : ∀ d ∈ tables_1, d.before a0 Z = true) (w : Nat → Addr) (hW : Wd Z w) (ws : List Jvm.Cond) (h0 : Heap) (n0 : Nat) (O0 : Old Z n0 h0) :
    MetFree l ym0 (head1 (Jvm.Cond.code ym0 prog_29_method_7_code 1 (some .boolean) :: ws) ({ frames := 0, cells := 0, slots := 0, locals := 0 } : Room)) (fun a U => a = #[(.ref (w 5))] ∧ Z.Warmed39 U.vm ∧ U.heap = h0) (fun _ _ _ _ _ => True) (fun _ U o U' => ∃ v L, o = .returned v ∧ Q1_12 Z w h0 n0 v U'.heap L ∧ FrameEnd U o U' L ({ frames := 0, cells := 0, slots := 0, locals := 0 } : Room).cells ({ frames := 0, cells := 0, slots := 0, locals := 0 } : Room).slots) := by
  refine MetFree.of_bodySF (plainFor_of_name pnc_0) hisR ?_
  intro p e s m args below meth c s₁ Bd hml0 hP hK
  obtain ⟨rfl, hZ, hh⟩ := hP
  have hx := Bd.exec
  have hby := Bd.bytes
  have hml : c.maxLocals = 1 := hml0
  have hown : s.vm.findClass "com/example/weftcheck/weftcheck/OperationKind" = some m.cls := findClass_of_methodNamed Bd.named
  have hnm := (name_of_methodNamed Bd.named Bd.method).1
  have X0 : Stand p l e ({ frames := 0, cells := 0, slots := 0, locals := 0 } : Room) s m #[(.ref (w 5))] below meth c s₁ [] 0 0 := Stand.of_body Bd
  have e0 : s₁.heap = h0 := by rw [← hh, Bd.state]; rfl
  have N0 := Fr.nil n0
  skip
  have pre0 : ∀ t, Steps p.tables e below (s₁.setTop (mkF m 0 #[.val (.ref (w 5))] [])) t → Steps p.tables e below (s₁.setTop (entryFrame m #[(.ref (w 5))] 1)) t := fun t k => castTop (ef_1_12 m w) k
  obtain ⟨T1, X1, e1, st1⟩ := getS2 X0 hx hZ hown (host := "") (Or.inl (wk37 hw)) Via.refl e0 ((wd6 hW).ext O0.2) (g := (mkF m 1 #[.val (.ref (w 5))] [(.ref (w 5))])) rfl (hb hby d1_1)
  obtain ⟨T2, X2, e2, st2⟩ := getS2 X1 hx hZ hown (host := "") (Or.inl (wk38 hw)) Via.refl e1 ((wd8 hW).ext O0.2) (g := (mkF m 8 #[.val (.ref (w 5))] [(.ref (w 5))])) rfl (hb hby d1_8)
  obtain ⟨T3, X3, e3, st3⟩ := getS2 X2 hx hZ hown (host := "") (Or.inl (wk39 hw)) Via.refl e2 ((wd10 hW).ext O0.2) (g := (mkF m 15 #[.val (.ref (w 5))] [(.ref (w 5))])) rfl (hb hby d1_15)
  obtain ⟨fs, hr, hrun, hended, hWm, hsame⟩ := X3.leave (v := some (.int (1 : Int32))) (fun h => by rw [Bd.returns] at h; cases h)
  refine ⟨_, _, pre0 _ ?_, hrun, hended, _, _, rfl, ?_, ⟨_, rfl⟩, hWm, hsame.mono (by decide) (by decide)⟩
  · show Steps p.tables e below (s₁.setTop (mkF m 0 #[.val (.ref (w 5))] [])) _
    refine sA X0 hx hby d1_0 rfl rfl ?_
    refine st1 _ ?_
    refine Jvm.RoadKit.acmp (g := (mkF m 4 #[.val (.ref (w 5))] [(.ref (w 3)), (.ref (w 5))])) X1 hx rfl rfl rfl (pc0 := 4) (pc' := 7) (same := false) rfl (hb hby d1_4) rfl (decide_eq_false fun q => (Fld.ne (wd29 hW) (wd27 hW) (by decide)) (Value.ref.inj q)) (by decide) (by decide) ?_
    refine sA X1 hx hby d1_7 rfl rfl ?_
    refine st2 _ ?_
    refine Jvm.RoadKit.acmp (g := (mkF m 11 #[.val (.ref (w 5))] [(.ref (w 4)), (.ref (w 5))])) X2 hx rfl rfl rfl (pc0 := 11) (pc' := 14) (same := false) rfl (hb hby d1_11) rfl (decide_eq_false fun q => (Fld.ne (wd29 hW) (wd28 hW) (by decide)) (Value.ref.inj q)) (by decide) (by decide) ?_
    refine sA X2 hx hby d1_14 rfl rfl ?_
    refine st3 _ ?_
    refine Jvm.RoadKit.acmp (g := (mkF m 18 #[.val (.ref (w 5))] [(.ref (w 5)), (.ref (w 5))])) X3 hx rfl rfl rfl (pc0 := 18) (pc' := 35) (same := true) rfl (hb hby d1_18) rfl (decide_eq_true rfl) (by decide) (by decide) ?_
    refine sc X3 hx hby d1_35 ?_
    refine sg (pc := 36) (pc' := 40) X3 hx hby d1_36 (by decide) (by decide) ?_
    exact retN X3 hx (t := .boolean) Bd.returns (by simp) (hb hby d1_40) hr
  · show Q1_12 Z w h0 n0 _ T3.heap _
    rw [e3]
    exact ⟨rfl, N0, rfl⟩
theorem ef_3_13 (m : MethodId) (w : Nat → Addr) : entryFrame m #[(.ref (w 5))] 1 = mkF m 0 #[.val (.ref (w 5))] [] := by first | (simp [entryFrame, mkF, argsToLocals, Value.category]; done) | rfl
def Q3_13 (Z : State) (w : Nat → Addr) (h0 : Heap) (n0 : Nat) (v : Option Value) (h : Heap) (L : List Loc) : Prop := v = some (.int (0 : Int32)) ∧ Fr n0 L ∧ h = h0
set_option maxRecDepth 65536 in
set_option maxHeartbeats 40000000 in
theorem rm3_13 (l : Launch) (Z : State) (a0 : Array Value) (hw : ∀ d ∈ tables_1, d.before a0 Z = true) (w : Nat → Addr) (hW : Wd Z w) (ws : List Jvm.Cond) (h0 : Heap) (n0 : Nat) (O0 : Old Z n0 h0) :
    MetFree l ym1 (head1 (Jvm.Cond.code ym1 prog_29_method_5_code 1 (some .boolean) :: ws) ({ frames := 0, cells := 0, slots := 0, locals := 0 } : Room)) (fun a U => a = #[(.ref (w 5))] ∧ Z.Warmed39 U.vm ∧ U.heap = h0) (fun _ _ _ _ _ => True) (fun _ U o U' => ∃ v L, o = .returned v ∧ Q3_13 Z w h0 n0 v U'.heap L ∧ FrameEnd U o U' L ({ frames := 0, cells := 0, slots := 0, locals := 0 } : Room).cells ({ frames := 0, cells := 0, slots := 0, locals := 0 } : Room).slots) := by
  refine MetFree.of_bodySF (plainFor_of_name pnc_0) hisR ?_
  intro p e s m args below meth c s₁ Bd hml0 hP hK
  obtain ⟨rfl, hZ, hh⟩ := hP
  have hx := Bd.exec
  have hby := Bd.bytes
  have hml : c.maxLocals = 1 := hml0
  have hown : s.vm.findClass "com/example/weftcheck/weftcheck/OperationKind" = some m.cls := findClass_of_methodNamed Bd.named
  have hnm := (name_of_methodNamed Bd.named Bd.method).1
  have X0 : Stand p l e ({ frames := 0, cells := 0, slots := 0, locals := 0 } : Room) s m #[(.ref (w 5))] below meth c s₁ [] 0 0 := Stand.of_body Bd
  have e0 : s₁.heap = h0 := by rw [← hh, Bd.state]; rfl
  have N0 := Fr.nil n0
  skip
  have pre0 : ∀ t, Steps p.tables e below (s₁.setTop (mkF m 0 #[.val (.ref (w 5))] [])) t → Steps p.tables e below (s₁.setTop (entryFrame m #[(.ref (w 5))] 1)) t := fun t k => castTop (ef_3_13 m w) k
  obtain ⟨T1, X1, e1, st1⟩ := getS2 X0 hx hZ hown (host := "") (Or.inl (wk52 hw)) Via.refl e0 ((wd0 hW).ext O0.2) (g := (mkF m 1 #[.val (.ref (w 5))] [(.ref (w 5))])) rfl (hb hby d3_1)
  obtain ⟨T2, X2, e2, st2⟩ := getS2 X1 hx hZ hown (host := "") (Or.inl (wk53 hw)) Via.refl e1 ((wd2 hW).ext O0.2) (g := (mkF m 8 #[.val (.ref (w 5))] [(.ref (w 5))])) rfl (hb hby d3_8)
  obtain ⟨fs, hr, hrun, hended, hWm, hsame⟩ := X2.leave (v := some (.int (0 : Int32))) (fun h => by rw [Bd.returns] at h; cases h)
  refine ⟨_, _, pre0 _ ?_, hrun, hended, _, _, rfl, ?_, ⟨_, rfl⟩, hWm, hsame.mono (by decide) (by decide)⟩
  · show Steps p.tables e below (s₁.setTop (mkF m 0 #[.val (.ref (w 5))] [])) _
    refine sA X0 hx hby d3_0 rfl rfl ?_
    refine st1 _ ?_
    refine Jvm.RoadKit.acmp (g := (mkF m 4 #[.val (.ref (w 5))] [(.ref (w 0)), (.ref (w 5))])) X1 hx rfl rfl rfl (pc0 := 4) (pc' := 7) (same := false) rfl (hb hby d3_4) rfl (decide_eq_false fun q => (Fld.ne (wd29 hW) (wd26 hW) (by decide)) (Value.ref.inj q)) (by decide) (by decide) ?_
    refine sA X1 hx hby d3_7 rfl rfl ?_
    refine st2 _ ?_
    refine Jvm.RoadKit.acmp (g := (mkF m 11 #[.val (.ref (w 5))] [(.ref (w 1)), (.ref (w 5))])) X2 hx rfl rfl rfl (pc0 := 11) (pc' := 18) (same := false) rfl (hb hby d3_11) rfl (decide_eq_false fun q => (Fld.ne (wd29 hW) (wd32 hW) (by decide)) (Value.ref.inj q)) (by decide) (by decide) ?_
    refine sc X2 hx hby d3_18 ?_
    exact retN X2 hx (t := .boolean) Bd.returns (by simp) (hb hby d3_19) hr
  · show Q3_13 Z w h0 n0 _ T2.heap _
    rw [e2]
    exact ⟨rfl, N0, rfl⟩
theorem ef_4_14 (m : MethodId) (w : Nat → Addr) : entryFrame m #[(.ref (w 5))] 1 = mkF m 0 #[.val (.ref (w 5))] [] := by first | (simp [entryFrame, mkF, argsToLocals, Value.category]; done) | rfl
def Q4_14 (Z : State) (w : Nat → Addr) (h0 : Heap) (n0 : Nat) (v : Option Value) (h : Heap) (L : List Loc) : Prop := v = some (.int (0 : Int32)) ∧ Fr n0 L ∧ h = h0
set_option maxRecDepth 65536 in
set_option maxHeartbeats 40000000 in
theorem rm4_14 (l : Launch) (Z : State) (a0 : Array Value) (hw : ∀ d ∈ tables_1, d.before a0 Z = true) (w : Nat → Addr) (hW : Wd Z w) (ws : List Jvm.Cond) (h0 : Heap) (n0 : Nat) (O0 : Old Z n0 h0) :
    MetFree l ym2 (head1 (Jvm.Cond.code ym2 prog_29_method_6_code 1 (some .boolean) :: ws) ({ frames := 0, cells := 0, slots := 0, locals := 0 } : Room)) (fun a U => a = #[(.ref (w 5))] ∧ Z.Warmed39 U.vm ∧ U.heap = h0) (fun _ _ _ _ _ => True) (fun _ U o U' => ∃ v L, o = .returned v ∧ Q4_14 Z w h0 n0 v U'.heap L ∧ FrameEnd U o U' L ({ frames := 0, cells := 0, slots := 0, locals := 0 } : Room).cells ({ frames := 0, cells := 0, slots := 0, locals := 0 } : Room).slots) := by
  refine MetFree.of_bodySF (plainFor_of_name pnc_0) hisR ?_
  intro p e s m args below meth c s₁ Bd hml0 hP hK
  obtain ⟨rfl, hZ, hh⟩ := hP
  have hx := Bd.exec
  have hby := Bd.bytes
  have hml : c.maxLocals = 1 := hml0
  have hown : s.vm.findClass "com/example/weftcheck/weftcheck/OperationKind" = some m.cls := findClass_of_methodNamed Bd.named
  have hnm := (name_of_methodNamed Bd.named Bd.method).1
  have X0 : Stand p l e ({ frames := 0, cells := 0, slots := 0, locals := 0 } : Room) s m #[(.ref (w 5))] below meth c s₁ [] 0 0 := Stand.of_body Bd
  have e0 : s₁.heap = h0 := by rw [← hh, Bd.state]; rfl
  have N0 := Fr.nil n0
  skip
  have pre0 : ∀ t, Steps p.tables e below (s₁.setTop (mkF m 0 #[.val (.ref (w 5))] [])) t → Steps p.tables e below (s₁.setTop (entryFrame m #[(.ref (w 5))] 1)) t := fun t k => castTop (ef_4_14 m w) k
  obtain ⟨T1, X1, e1, st1⟩ := getS2 X0 hx hZ hown (host := "") (Or.inl (wk60 hw)) Via.refl e0 ((wd22 hW).ext O0.2) (g := (mkF m 1 #[.val (.ref (w 5))] [(.ref (w 5))])) rfl (hb hby d4_1)
  obtain ⟨T2, X2, e2, st2⟩ := getS2 X1 hx hZ hown (host := "") (Or.inl (wk61 hw)) Via.refl e1 ((wd24 hW).ext O0.2) (g := (mkF m 8 #[.val (.ref (w 5))] [(.ref (w 5))])) rfl (hb hby d4_8)
  obtain ⟨fs, hr, hrun, hended, hWm, hsame⟩ := X2.leave (v := some (.int (0 : Int32))) (fun h => by rw [Bd.returns] at h; cases h)
  refine ⟨_, _, pre0 _ ?_, hrun, hended, _, _, rfl, ?_, ⟨_, rfl⟩, hWm, hsame.mono (by decide) (by decide)⟩
  · show Steps p.tables e below (s₁.setTop (mkF m 0 #[.val (.ref (w 5))] [])) _
    refine sA X0 hx hby d4_0 rfl rfl ?_
    refine st1 _ ?_
    refine Jvm.RoadKit.acmp (g := (mkF m 4 #[.val (.ref (w 5))] [(.ref (w 11)), (.ref (w 5))])) X1 hx rfl rfl rfl (pc0 := 4) (pc' := 7) (same := false) rfl (hb hby d4_4) rfl (decide_eq_false fun q => (Fld.ne (wd29 hW) (wd34 hW) (by decide)) (Value.ref.inj q)) (by decide) (by decide) ?_
    refine sA X1 hx hby d4_7 rfl rfl ?_
    refine st2 _ ?_
    refine Jvm.RoadKit.acmp (g := (mkF m 11 #[.val (.ref (w 5))] [(.ref (w 12)), (.ref (w 5))])) X2 hx rfl rfl rfl (pc0 := 11) (pc' := 18) (same := false) rfl (hb hby d4_11) rfl (decide_eq_false fun q => (Fld.ne (wd29 hW) (wd35 hW) (by decide)) (Value.ref.inj q)) (by decide) (by decide) ?_
    refine sc X2 hx hby d4_18 ?_
    exact retN X2 hx (t := .boolean) Bd.returns (by simp) (hb hby d4_19) hr
  · show Q4_14 Z w h0 n0 _ T2.heap _
    rw [e2]
    exact ⟨rfl, N0, rfl⟩
theorem ef_2_15 (m : MethodId) (w : Nat → Addr) : entryFrame m #[(.ref (w 5))] 1 = mkF m 0 #[.val (.ref (w 5))] [] := by first | (simp [entryFrame, mkF, argsToLocals, Value.category]; done) | rfl
def Q2_15 (Z : State) (w : Nat → Addr) (h0 : Heap) (n0 : Nat) (v : Option Value) (h : Heap) (L : List Loc) : Prop := v = some (.int (1 : Int32)) ∧ Fr n0 L ∧ h = h0
set_option maxRecDepth 65536 in
set_option maxHeartbeats 40000000 in
theorem rm2_15 (l : Launch) (Z : State) (a0 : Array Value) (hw : ∀ d ∈ tables_1, d.before a0 Z = true) (w : Nat → Addr) (hW : Wd Z w) (ws : List Jvm.Cond) (h0 : Heap) (n0 : Nat) (O0 : Old Z n0 h0) :
    MetFree l ym3 (head1 (Jvm.Cond.code ym3 prog_29_method_12_code 1 (some .boolean) :: ws) ({ frames := 1, cells := 0, slots := 0, locals := 12 } : Room)) (fun a U => a = #[(.ref (w 5))] ∧ Z.Warmed39 U.vm ∧ U.heap = h0) (fun _ _ _ _ _ => True) (fun _ U o U' => ∃ v L, o = .returned v ∧ Q2_15 Z w h0 n0 v U'.heap L ∧ FrameEnd U o U' L ({ frames := 1, cells := 0, slots := 0, locals := 12 } : Room).cells ({ frames := 1, cells := 0, slots := 0, locals := 12 } : Room).slots) := by
  refine MetFree.of_bodySF (plainFor_of_name pnc_0) hisR ?_
  intro p e s m args below meth c s₁ Bd hml0 hP hK
  obtain ⟨rfl, hZ, hh⟩ := hP
  have hx := Bd.exec
  have hby := Bd.bytes
  have hml : c.maxLocals = 1 := hml0
  have hown : s.vm.findClass "com/example/weftcheck/weftcheck/OperationKind" = some m.cls := findClass_of_methodNamed Bd.named
  have hnm := (name_of_methodNamed Bd.named Bd.method).1
  have X0 : Stand p l e ({ frames := 1, cells := 0, slots := 0, locals := 12 } : Room) s m #[(.ref (w 5))] below meth c s₁ [] 0 0 := Stand.of_body Bd
  have e0 : s₁.heap = h0 := by rw [← hh, Bd.state]; rfl
  have N0 := Fr.nil n0
  skip
  have pre0 : ∀ t, Steps p.tables e below (s₁.setTop (mkF m 0 #[.val (.ref (w 5))] [])) t → Steps p.tables e below (s₁.setTop (entryFrame m #[(.ref (w 5))] 1)) t := fun t k => castTop (ef_2_15 m w) k
  obtain ⟨cq1, kq1, q1a, q1b, q1c⟩ := isOf hZ e0 ((wd11 hW).ext O0.2)
  obtain ⟨_, _, ⟨T1, L1, kk1, nn1⟩, -, X1, ⟨Lc1, hQ1, l1, y1, z1⟩, st1⟩ := X0.virtualBack hx (y := ym1) (z := ym1) hown (mvT hZ (wk47 hw)) (mvT hZ (wk48 hw)) (notFace_of_selects (args := #[]) (mvT hZ (wk50 hw))) (mvT hZ (wk50 hw)) (mvT hZ (wk49 hw)) (by decide) (backOf (W := 0) (rm3_13 l Z a0 hw w hW []  h0 n0 O0 ) hZ (wk51 hw) (wk3 hw) (by decide) (by decide)) q1a q1c (g := (mkF m 1 #[.val (.ref (w 5))] [(.ref (w 5))])) rfl (by rw [hml]; rfl) (Steps.refl _) (argsL := []) (rest := []) (lenOf pds_0 rfl) rfl (by show 2 * 0 + _ ≤ _; exact Nat.le_of_eq rfl) (hb hby d2_1) (fun _ _ => ⟨rfl, e0, (by decide : 0 + 0 ≤ _), (by decide : 0 + 0 ≤ _)⟩)
  dsimp only [Pt.U, Pt.locs, Pt.cells, Pt.slots] at X1 l1 y1 z1 st1 hQ1
  rw [l1, y1, z1] at X1
  obtain ⟨rfl, N1q, e1⟩ := hQ1
  have N1 := Fr.app N0 N1q
  obtain ⟨T2, X2, e2, st2⟩ := getS2 X1 hx hZ hown (host := "") (Or.inl (wk54 hw)) Via.refl e1 ((wd4 hW).ext O0.2) (g := (mkF m 8 #[.val (.ref (w 5))] [(.ref (w 5))])) rfl (hb hby d2_8)
  obtain ⟨cq3, kq3, q3a, q3b, q3c⟩ := isOf hZ e2 ((wd11 hW).ext O0.2)
  obtain ⟨_, _, ⟨T3, L3, kk3, nn3⟩, -, X3, ⟨Lc3, hQ3, l3, y3, z3⟩, st3⟩ := X2.virtualBack hx (y := ym2) (z := ym2) hown (mvT hZ (wk55 hw)) (mvT hZ (wk56 hw)) (notFace_of_selects (args := #[]) (mvT hZ (wk58 hw))) (mvT hZ (wk58 hw)) (mvT hZ (wk57 hw)) (by decide) (backOf (W := 0) (rm4_14 l Z a0 hw w hW []  h0 n0 O0 ) hZ (wk59 hw) (wk3 hw) (by decide) (by decide)) q3a q3c (g := (mkF m 15 #[.val (.ref (w 5))] [(.ref (w 5))])) rfl (by rw [hml]; rfl) (Steps.refl _) (argsL := []) (rest := []) (lenOf pds_0 rfl) rfl (by show 2 * 0 + _ ≤ _; exact Nat.le_of_eq rfl) (hb hby d2_15) (fun _ _ => ⟨rfl, e2, (by decide : 0 + 0 ≤ _), (by decide : 0 + 0 ≤ _)⟩)
  dsimp only [Pt.U, Pt.locs, Pt.cells, Pt.slots] at X3 l3 y3 z3 st3 hQ3
  rw [l3, y3, z3] at X3
  obtain ⟨rfl, N3q, e3⟩ := hQ3
  have N3 := Fr.app N1 N3q
  obtain ⟨fs, hr, hrun, hended, hWm, hsame⟩ := X3.leave (v := some (.int (1 : Int32))) (fun h => by rw [Bd.returns] at h; cases h)
  refine ⟨_, _, pre0 _ ?_, hrun, hended, _, _, rfl, ?_, ⟨_, rfl⟩, hWm, hsame.mono (by decide) (by decide)⟩
  · show Steps p.tables e below (s₁.setTop (mkF m 0 #[.val (.ref (w 5))] [])) _
    refine sA X0 hx hby d2_0 rfl rfl ?_
    refine st1.trans ?_
    refine sN X1 hx hby d2_4 (by decide) ?_
    refine sA X1 hx hby d2_7 rfl rfl ?_
    refine st2 _ ?_
    refine Jvm.RoadKit.acmp (g := (mkF m 11 #[.val (.ref (w 5))] [(.ref (w 2)), (.ref (w 5))])) X2 hx rfl rfl rfl (pc0 := 11) (pc' := 14) (same := false) rfl (hb hby d2_11) rfl (decide_eq_false fun q => (Fld.ne (wd29 hW) (wd33 hW) (by decide)) (Value.ref.inj q)) (by decide) (by decide) ?_
    refine sA X2 hx hby d2_14 rfl rfl ?_
    refine st3.trans ?_
    refine sN X3 hx hby d2_18 (by decide) ?_
    refine sc X3 hx hby d2_21 ?_
    refine sg (pc := 22) (pc' := 26) X3 hx hby d2_22 (by decide) (by decide) ?_
    exact retN X3 hx (t := .boolean) Bd.returns (by simp) (hb hby d2_26) hr
  · show Q2_15 Z w h0 n0 _ T3.heap _
    rw [e3]
    exact ⟨rfl, N3, rfl⟩
theorem ef_1_16 (m : MethodId) (w : Nat → Addr) : entryFrame m #[(.ref (w 6))] 1 = mkF m 0 #[.val (.ref (w 6))] [] := by first | (simp [entryFrame, mkF, argsToLocals, Value.category]; done) | rfl
def Q1_16 (Z : State) (w : Nat → Addr) (h0 : Heap) (n0 : Nat) (v : Option Value) (h : Heap) (L : List Loc) : Prop := v = some (.int (1 : Int32)) ∧ Fr n0 L ∧ h = h0
set_option maxRecDepth 65536 in
set_option maxHeartbeats 40000000 in
theorem rm1_16 (l : Launch) (Z : State) (a0 : Array Value) (hw : ∀ d ∈ tables_1, d.before a0 Z = true) (w : Nat → Addr) (hW : Wd Z w) (ws : List Jvm.Cond) (h0 : Heap) (n0 : Nat) (O0 : Old Z n0 h0) :
    MetFree l ym0 (head1 (Jvm.Cond.code ym0 prog_29_method_7_code 1 (some .boolean) :: ws) ({ frames := 0, cells := 0, slots := 0, locals := 0 } : Room)) (fun a U => a = #[(.ref (w 6))] ∧ Z.Warmed39 U.vm ∧ U.heap = h0) (fun _ _ _ _ _ => True) (fun _ U o U' => ∃ v L, o = .returned v ∧ Q1_16 Z w h0 n0 v U'.heap L ∧ FrameEnd U o U' L ({ frames := 0, cells := 0, slots := 0, locals := 0 } : Room).cells ({ frames := 0, cells := 0, slots := 0, locals := 0 } : Room).slots) := by
  refine MetFree.of_bodySF (plainFor_of_name pnc_0) hisR ?_
  intro p e s m args below meth c s₁ Bd hml0 hP hK
  obtain ⟨rfl, hZ, hh⟩ := hP
  have hx := Bd.exec
  have hby := Bd.bytes
  have hml : c.maxLocals = 1 := hml0
  have hown : s.vm.findClass "com/example/weftcheck/weftcheck/OperationKind" = some m.cls := findClass_of_methodNamed Bd.named
  have hnm := (name_of_methodNamed Bd.named Bd.method).1
  have X0 : Stand p l e ({ frames := 0, cells := 0, slots := 0, locals := 0 } : Room) s m #[(.ref (w 6))] below meth c s₁ [] 0 0 := Stand.of_body Bd
  have e0 : s₁.heap = h0 := by rw [← hh, Bd.state]; rfl
  have N0 := Fr.nil n0
  skip
  have pre0 : ∀ t, Steps p.tables e below (s₁.setTop (mkF m 0 #[.val (.ref (w 6))] [])) t → Steps p.tables e below (s₁.setTop (entryFrame m #[(.ref (w 6))] 1)) t := fun t k => castTop (ef_1_16 m w) k
  obtain ⟨T1, X1, e1, st1⟩ := getS2 X0 hx hZ hown (host := "") (Or.inl (wk37 hw)) Via.refl e0 ((wd6 hW).ext O0.2) (g := (mkF m 1 #[.val (.ref (w 6))] [(.ref (w 6))])) rfl (hb hby d1_1)
  obtain ⟨T2, X2, e2, st2⟩ := getS2 X1 hx hZ hown (host := "") (Or.inl (wk38 hw)) Via.refl e1 ((wd8 hW).ext O0.2) (g := (mkF m 8 #[.val (.ref (w 6))] [(.ref (w 6))])) rfl (hb hby d1_8)
  obtain ⟨T3, X3, e3, st3⟩ := getS2 X2 hx hZ hown (host := "") (Or.inl (wk39 hw)) Via.refl e2 ((wd10 hW).ext O0.2) (g := (mkF m 15 #[.val (.ref (w 6))] [(.ref (w 6))])) rfl (hb hby d1_15)
  obtain ⟨T4, X4, e4, st4⟩ := getS2 X3 hx hZ hown (host := "") (Or.inl (wk40 hw)) Via.refl e3 ((wd12 hW).ext O0.2) (g := (mkF m 22 #[.val (.ref (w 6))] [(.ref (w 6))])) rfl (hb hby d1_22)
  obtain ⟨fs, hr, hrun, hended, hWm, hsame⟩ := X4.leave (v := some (.int (1 : Int32))) (fun h => by rw [Bd.returns] at h; cases h)
  refine ⟨_, _, pre0 _ ?_, hrun, hended, _, _, rfl, ?_, ⟨_, rfl⟩, hWm, hsame.mono (by decide) (by decide)⟩
  · show Steps p.tables e below (s₁.setTop (mkF m 0 #[.val (.ref (w 6))] [])) _
    refine sA X0 hx hby d1_0 rfl rfl ?_
    refine st1 _ ?_
    refine Jvm.RoadKit.acmp (g := (mkF m 4 #[.val (.ref (w 6))] [(.ref (w 3)), (.ref (w 6))])) X1 hx rfl rfl rfl (pc0 := 4) (pc' := 7) (same := false) rfl (hb hby d1_4) rfl (decide_eq_false fun q => (Fld.ne (wd30 hW) (wd27 hW) (by decide)) (Value.ref.inj q)) (by decide) (by decide) ?_
    refine sA X1 hx hby d1_7 rfl rfl ?_
    refine st2 _ ?_
    refine Jvm.RoadKit.acmp (g := (mkF m 11 #[.val (.ref (w 6))] [(.ref (w 4)), (.ref (w 6))])) X2 hx rfl rfl rfl (pc0 := 11) (pc' := 14) (same := false) rfl (hb hby d1_11) rfl (decide_eq_false fun q => (Fld.ne (wd30 hW) (wd28 hW) (by decide)) (Value.ref.inj q)) (by decide) (by decide) ?_
    refine sA X2 hx hby d1_14 rfl rfl ?_
    refine st3 _ ?_
    refine Jvm.RoadKit.acmp (g := (mkF m 18 #[.val (.ref (w 6))] [(.ref (w 5)), (.ref (w 6))])) X3 hx rfl rfl rfl (pc0 := 18) (pc' := 21) (same := false) rfl (hb hby d1_18) rfl (decide_eq_false fun q => (Fld.ne (wd30 hW) (wd29 hW) (by decide)) (Value.ref.inj q)) (by decide) (by decide) ?_
    refine sA X3 hx hby d1_21 rfl rfl ?_
    refine st4 _ ?_
    refine Jvm.RoadKit.acmp (g := (mkF m 25 #[.val (.ref (w 6))] [(.ref (w 6)), (.ref (w 6))])) X4 hx rfl rfl rfl (pc0 := 25) (pc' := 35) (same := true) rfl (hb hby d1_25) rfl (decide_eq_true rfl) (by decide) (by decide) ?_
    refine sc X4 hx hby d1_35 ?_
    refine sg (pc := 36) (pc' := 40) X4 hx hby d1_36 (by decide) (by decide) ?_
    exact retN X4 hx (t := .boolean) Bd.returns (by simp) (hb hby d1_40) hr
  · show Q1_16 Z w h0 n0 _ T4.heap _
    rw [e4]
    exact ⟨rfl, N0, rfl⟩
theorem ef_3_17 (m : MethodId) (w : Nat → Addr) : entryFrame m #[(.ref (w 6))] 1 = mkF m 0 #[.val (.ref (w 6))] [] := by first | (simp [entryFrame, mkF, argsToLocals, Value.category]; done) | rfl
def Q3_17 (Z : State) (w : Nat → Addr) (h0 : Heap) (n0 : Nat) (v : Option Value) (h : Heap) (L : List Loc) : Prop := v = some (.int (0 : Int32)) ∧ Fr n0 L ∧ h = h0
set_option maxRecDepth 65536 in
set_option maxHeartbeats 40000000 in
theorem rm3_17 (l : Launch) (Z : State) (a0 : Array Value) (hw : ∀ d ∈ tables_1, d.before a0 Z = true) (w : Nat → Addr) (hW : Wd Z w) (ws : List Jvm.Cond) (h0 : Heap) (n0 : Nat) (O0 : Old Z n0 h0) :
    MetFree l ym1 (head1 (Jvm.Cond.code ym1 prog_29_method_5_code 1 (some .boolean) :: ws) ({ frames := 0, cells := 0, slots := 0, locals := 0 } : Room)) (fun a U => a = #[(.ref (w 6))] ∧ Z.Warmed39 U.vm ∧ U.heap = h0) (fun _ _ _ _ _ => True) (fun _ U o U' => ∃ v L, o = .returned v ∧ Q3_17 Z w h0 n0 v U'.heap L ∧ FrameEnd U o U' L ({ frames := 0, cells := 0, slots := 0, locals := 0 } : Room).cells ({ frames := 0, cells := 0, slots := 0, locals := 0 } : Room).slots) := by
  refine MetFree.of_bodySF (plainFor_of_name pnc_0) hisR ?_
  intro p e s m args below meth c s₁ Bd hml0 hP hK
  obtain ⟨rfl, hZ, hh⟩ := hP
  have hx := Bd.exec
  have hby := Bd.bytes
  have hml : c.maxLocals = 1 := hml0
  have hown : s.vm.findClass "com/example/weftcheck/weftcheck/OperationKind" = some m.cls := findClass_of_methodNamed Bd.named
  have hnm := (name_of_methodNamed Bd.named Bd.method).1
  have X0 : Stand p l e ({ frames := 0, cells := 0, slots := 0, locals := 0 } : Room) s m #[(.ref (w 6))] below meth c s₁ [] 0 0 := Stand.of_body Bd
  have e0 : s₁.heap = h0 := by rw [← hh, Bd.state]; rfl
  have N0 := Fr.nil n0
  skip
  have pre0 : ∀ t, Steps p.tables e below (s₁.setTop (mkF m 0 #[.val (.ref (w 6))] [])) t → Steps p.tables e below (s₁.setTop (entryFrame m #[(.ref (w 6))] 1)) t := fun t k => castTop (ef_3_17 m w) k
  obtain ⟨T1, X1, e1, st1⟩ := getS2 X0 hx hZ hown (host := "") (Or.inl (wk52 hw)) Via.refl e0 ((wd0 hW).ext O0.2) (g := (mkF m 1 #[.val (.ref (w 6))] [(.ref (w 6))])) rfl (hb hby d3_1)
  obtain ⟨T2, X2, e2, st2⟩ := getS2 X1 hx hZ hown (host := "") (Or.inl (wk53 hw)) Via.refl e1 ((wd2 hW).ext O0.2) (g := (mkF m 8 #[.val (.ref (w 6))] [(.ref (w 6))])) rfl (hb hby d3_8)
  obtain ⟨fs, hr, hrun, hended, hWm, hsame⟩ := X2.leave (v := some (.int (0 : Int32))) (fun h => by rw [Bd.returns] at h; cases h)
  refine ⟨_, _, pre0 _ ?_, hrun, hended, _, _, rfl, ?_, ⟨_, rfl⟩, hWm, hsame.mono (by decide) (by decide)⟩
  · show Steps p.tables e below (s₁.setTop (mkF m 0 #[.val (.ref (w 6))] [])) _
    refine sA X0 hx hby d3_0 rfl rfl ?_
    refine st1 _ ?_
    refine Jvm.RoadKit.acmp (g := (mkF m 4 #[.val (.ref (w 6))] [(.ref (w 0)), (.ref (w 6))])) X1 hx rfl rfl rfl (pc0 := 4) (pc' := 7) (same := false) rfl (hb hby d3_4) rfl (decide_eq_false fun q => (Fld.ne (wd30 hW) (wd26 hW) (by decide)) (Value.ref.inj q)) (by decide) (by decide) ?_
    refine sA X1 hx hby d3_7 rfl rfl ?_
    refine st2 _ ?_
    refine Jvm.RoadKit.acmp (g := (mkF m 11 #[.val (.ref (w 6))] [(.ref (w 1)), (.ref (w 6))])) X2 hx rfl rfl rfl (pc0 := 11) (pc' := 18) (same := false) rfl (hb hby d3_11) rfl (decide_eq_false fun q => (Fld.ne (wd30 hW) (wd32 hW) (by decide)) (Value.ref.inj q)) (by decide) (by decide) ?_
    refine sc X2 hx hby d3_18 ?_
    exact retN X2 hx (t := .boolean) Bd.returns (by simp) (hb hby d3_19) hr
  · show Q3_17 Z w h0 n0 _ T2.heap _
    rw [e2]
    exact ⟨rfl, N0, rfl⟩
theorem ef_4_18 (m : MethodId) (w : Nat → Addr) : entryFrame m #[(.ref (w 6))] 1 = mkF m 0 #[.val (.ref (w 6))] [] := by first | (simp [entryFrame, mkF, argsToLocals, Value.category]; done) | rfl
def Q4_18 (Z : State) (w : Nat → Addr) (h0 : Heap) (n0 : Nat) (v : Option Value) (h : Heap) (L : List Loc) : Prop := v = some (.int (0 : Int32)) ∧ Fr n0 L ∧ h = h0
set_option maxRecDepth 65536 in
set_option maxHeartbeats 40000000 in
theorem rm4_18 (l : Launch) (Z : State) (a0 : Array Value) (hw : ∀ d ∈ tables_1, d.before a0 Z = true) (w : Nat → Addr) (hW : Wd Z w) (ws : List Jvm.Cond) (h0 : Heap) (n0 : Nat) (O0 : Old Z n0 h0) :
    MetFree l ym2 (head1 (Jvm.Cond.code ym2 prog_29_method_6_code 1 (some .boolean) :: ws) ({ frames := 0, cells := 0, slots := 0, locals := 0 } : Room)) (fun a U => a = #[(.ref (w 6))] ∧ Z.Warmed39 U.vm ∧ U.heap = h0) (fun _ _ _ _ _ => True) (fun _ U o U' => ∃ v L, o = .returned v ∧ Q4_18 Z w h0 n0 v U'.heap L ∧ FrameEnd U o U' L ({ frames := 0, cells := 0, slots := 0, locals := 0 } : Room).cells ({ frames := 0, cells := 0, slots := 0, locals := 0 } : Room).slots) := by
  refine MetFree.of_bodySF (plainFor_of_name pnc_0) hisR ?_
  intro p e s m args below meth c s₁ Bd hml0 hP hK
  obtain ⟨rfl, hZ, hh⟩ := hP
  have hx := Bd.exec
  have hby := Bd.bytes
  have hml : c.maxLocals = 1 := hml0
  have hown : s.vm.findClass "com/example/weftcheck/weftcheck/OperationKind" = some m.cls := findClass_of_methodNamed Bd.named
  have hnm := (name_of_methodNamed Bd.named Bd.method).1
  have X0 : Stand p l e ({ frames := 0, cells := 0, slots := 0, locals := 0 } : Room) s m #[(.ref (w 6))] below meth c s₁ [] 0 0 := Stand.of_body Bd
  have e0 : s₁.heap = h0 := by rw [← hh, Bd.state]; rfl
  have N0 := Fr.nil n0
  skip
  have pre0 : ∀ t, Steps p.tables e below (s₁.setTop (mkF m 0 #[.val (.ref (w 6))] [])) t → Steps p.tables e below (s₁.setTop (entryFrame m #[(.ref (w 6))] 1)) t := fun t k => castTop (ef_4_18 m w) k
  obtain ⟨T1, X1, e1, st1⟩ := getS2 X0 hx hZ hown (host := "") (Or.inl (wk60 hw)) Via.refl e0 ((wd22 hW).ext O0.2) (g := (mkF m 1 #[.val (.ref (w 6))] [(.ref (w 6))])) rfl (hb hby d4_1)
  obtain ⟨T2, X2, e2, st2⟩ := getS2 X1 hx hZ hown (host := "") (Or.inl (wk61 hw)) Via.refl e1 ((wd24 hW).ext O0.2) (g := (mkF m 8 #[.val (.ref (w 6))] [(.ref (w 6))])) rfl (hb hby d4_8)
  obtain ⟨fs, hr, hrun, hended, hWm, hsame⟩ := X2.leave (v := some (.int (0 : Int32))) (fun h => by rw [Bd.returns] at h; cases h)
  refine ⟨_, _, pre0 _ ?_, hrun, hended, _, _, rfl, ?_, ⟨_, rfl⟩, hWm, hsame.mono (by decide) (by decide)⟩
  · show Steps p.tables e below (s₁.setTop (mkF m 0 #[.val (.ref (w 6))] [])) _
    refine sA X0 hx hby d4_0 rfl rfl ?_
    refine st1 _ ?_
    refine Jvm.RoadKit.acmp (g := (mkF m 4 #[.val (.ref (w 6))] [(.ref (w 11)), (.ref (w 6))])) X1 hx rfl rfl rfl (pc0 := 4) (pc' := 7) (same := false) rfl (hb hby d4_4) rfl (decide_eq_false fun q => (Fld.ne (wd30 hW) (wd34 hW) (by decide)) (Value.ref.inj q)) (by decide) (by decide) ?_
    refine sA X1 hx hby d4_7 rfl rfl ?_
    refine st2 _ ?_
    refine Jvm.RoadKit.acmp (g := (mkF m 11 #[.val (.ref (w 6))] [(.ref (w 12)), (.ref (w 6))])) X2 hx rfl rfl rfl (pc0 := 11) (pc' := 18) (same := false) rfl (hb hby d4_11) rfl (decide_eq_false fun q => (Fld.ne (wd30 hW) (wd35 hW) (by decide)) (Value.ref.inj q)) (by decide) (by decide) ?_
    refine sc X2 hx hby d4_18 ?_
    exact retN X2 hx (t := .boolean) Bd.returns (by simp) (hb hby d4_19) hr
  · show Q4_18 Z w h0 n0 _ T2.heap _
    rw [e2]
    exact ⟨rfl, N0, rfl⟩
theorem ef_2_19 (m : MethodId) (w : Nat → Addr) : entryFrame m #[(.ref (w 6))] 1 = mkF m 0 #[.val (.ref (w 6))] [] := by first | (simp [entryFrame, mkF, argsToLocals, Value.category]; done) | rfl
def Q2_19 (Z : State) (w : Nat → Addr) (h0 : Heap) (n0 : Nat) (v : Option Value) (h : Heap) (L : List Loc) : Prop := v = some (.int (1 : Int32)) ∧ Fr n0 L ∧ h = h0
set_option maxRecDepth 65536 in
set_option maxHeartbeats 40000000 in
theorem rm2_19 (l : Launch) (Z : State) (a0 : Array Value) (hw : ∀ d ∈ tables_1, d.before a0 Z = true) (w : Nat → Addr) (hW : Wd Z w) (ws : List Jvm.Cond) (h0 : Heap) (n0 : Nat) (O0 : Old Z n0 h0) :
    MetFree l ym3 (head1 (Jvm.Cond.code ym3 prog_29_method_12_code 1 (some .boolean) :: ws) ({ frames := 1, cells := 0, slots := 0, locals := 12 } : Room)) (fun a U => a = #[(.ref (w 6))] ∧ Z.Warmed39 U.vm ∧ U.heap = h0) (fun _ _ _ _ _ => True) (fun _ U o U' => ∃ v L, o = .returned v ∧ Q2_19 Z w h0 n0 v U'.heap L ∧ FrameEnd U o U' L ({ frames := 1, cells := 0, slots := 0, locals := 12 } : Room).cells ({ frames := 1, cells := 0, slots := 0, locals := 12 } : Room).slots) := by
  refine MetFree.of_bodySF (plainFor_of_name pnc_0) hisR ?_
  intro p e s m args below meth c s₁ Bd hml0 hP hK
  obtain ⟨rfl, hZ, hh⟩ := hP
  have hx := Bd.exec
  have hby := Bd.bytes
  have hml : c.maxLocals = 1 := hml0
  have hown : s.vm.findClass "com/example/weftcheck/weftcheck/OperationKind" = some m.cls := findClass_of_methodNamed Bd.named
  have hnm := (name_of_methodNamed Bd.named Bd.method).1
  have X0 : Stand p l e ({ frames := 1, cells := 0, slots := 0, locals := 12 } : Room) s m #[(.ref (w 6))] below meth c s₁ [] 0 0 := Stand.of_body Bd
  have e0 : s₁.heap = h0 := by rw [← hh, Bd.state]; rfl
  have N0 := Fr.nil n0
  skip
  have pre0 : ∀ t, Steps p.tables e below (s₁.setTop (mkF m 0 #[.val (.ref (w 6))] [])) t → Steps p.tables e below (s₁.setTop (entryFrame m #[(.ref (w 6))] 1)) t := fun t k => castTop (ef_2_19 m w) k
  obtain ⟨cq1, kq1, q1a, q1b, q1c⟩ := isOf hZ e0 ((wd13 hW).ext O0.2)
  obtain ⟨_, _, ⟨T1, L1, kk1, nn1⟩, -, X1, ⟨Lc1, hQ1, l1, y1, z1⟩, st1⟩ := X0.virtualBack hx (y := ym1) (z := ym1) hown (mvT hZ (wk47 hw)) (mvT hZ (wk48 hw)) (notFace_of_selects (args := #[]) (mvT hZ (wk50 hw))) (mvT hZ (wk50 hw)) (mvT hZ (wk49 hw)) (by decide) (backOf (W := 0) (rm3_17 l Z a0 hw w hW []  h0 n0 O0 ) hZ (wk51 hw) (wk3 hw) (by decide) (by decide)) q1a q1c (g := (mkF m 1 #[.val (.ref (w 6))] [(.ref (w 6))])) rfl (by rw [hml]; rfl) (Steps.refl _) (argsL := []) (rest := []) (lenOf pds_0 rfl) rfl (by show 2 * 0 + _ ≤ _; exact Nat.le_of_eq rfl) (hb hby d2_1) (fun _ _ => ⟨rfl, e0, (by decide : 0 + 0 ≤ _), (by decide : 0 + 0 ≤ _)⟩)
  dsimp only [Pt.U, Pt.locs, Pt.cells, Pt.slots] at X1 l1 y1 z1 st1 hQ1
  rw [l1, y1, z1] at X1
  obtain ⟨rfl, N1q, e1⟩ := hQ1
  have N1 := Fr.app N0 N1q
  obtain ⟨T2, X2, e2, st2⟩ := getS2 X1 hx hZ hown (host := "") (Or.inl (wk54 hw)) Via.refl e1 ((wd4 hW).ext O0.2) (g := (mkF m 8 #[.val (.ref (w 6))] [(.ref (w 6))])) rfl (hb hby d2_8)
  obtain ⟨cq3, kq3, q3a, q3b, q3c⟩ := isOf hZ e2 ((wd13 hW).ext O0.2)
  obtain ⟨_, _, ⟨T3, L3, kk3, nn3⟩, -, X3, ⟨Lc3, hQ3, l3, y3, z3⟩, st3⟩ := X2.virtualBack hx (y := ym2) (z := ym2) hown (mvT hZ (wk55 hw)) (mvT hZ (wk56 hw)) (notFace_of_selects (args := #[]) (mvT hZ (wk58 hw))) (mvT hZ (wk58 hw)) (mvT hZ (wk57 hw)) (by decide) (backOf (W := 0) (rm4_18 l Z a0 hw w hW []  h0 n0 O0 ) hZ (wk59 hw) (wk3 hw) (by decide) (by decide)) q3a q3c (g := (mkF m 15 #[.val (.ref (w 6))] [(.ref (w 6))])) rfl (by rw [hml]; rfl) (Steps.refl _) (argsL := []) (rest := []) (lenOf pds_0 rfl) rfl (by show 2 * 0 + _ ≤ _; exact Nat.le_of_eq rfl) (hb hby d2_15) (fun _ _ => ⟨rfl, e2, (by decide : 0 + 0 ≤ _), (by decide : 0 + 0 ≤ _)⟩)
  dsimp only [Pt.U, Pt.locs, Pt.cells, Pt.slots] at X3 l3 y3 z3 st3 hQ3
  rw [l3, y3, z3] at X3
  obtain ⟨rfl, N3q, e3⟩ := hQ3
  have N3 := Fr.app N1 N3q
  obtain ⟨fs, hr, hrun, hended, hWm, hsame⟩ := X3.leave (v := some (.int (1 : Int32))) (fun h => by rw [Bd.returns] at h; cases h)
  refine ⟨_, _, pre0 _ ?_, hrun, hended, _, _, rfl, ?_, ⟨_, rfl⟩, hWm, hsame.mono (by decide) (by decide)⟩
  · show Steps p.tables e below (s₁.setTop (mkF m 0 #[.val (.ref (w 6))] [])) _
    refine sA X0 hx hby d2_0 rfl rfl ?_
    refine st1.trans ?_
    refine sN X1 hx hby d2_4 (by decide) ?_
    refine sA X1 hx hby d2_7 rfl rfl ?_
    refine st2 _ ?_
    refine Jvm.RoadKit.acmp (g := (mkF m 11 #[.val (.ref (w 6))] [(.ref (w 2)), (.ref (w 6))])) X2 hx rfl rfl rfl (pc0 := 11) (pc' := 14) (same := false) rfl (hb hby d2_11) rfl (decide_eq_false fun q => (Fld.ne (wd30 hW) (wd33 hW) (by decide)) (Value.ref.inj q)) (by decide) (by decide) ?_
    refine sA X2 hx hby d2_14 rfl rfl ?_
    refine st3.trans ?_
    refine sN X3 hx hby d2_18 (by decide) ?_
    refine sc X3 hx hby d2_21 ?_
    refine sg (pc := 22) (pc' := 26) X3 hx hby d2_22 (by decide) (by decide) ?_
    exact retN X3 hx (t := .boolean) Bd.returns (by simp) (hb hby d2_26) hr
  · show Q2_19 Z w h0 n0 _ T3.heap _
    rw [e3]
    exact ⟨rfl, N3, rfl⟩
theorem ef_1_20 (m : MethodId) (w : Nat → Addr) : entryFrame m #[(.ref (w 7))] 1 = mkF m 0 #[.val (.ref (w 7))] [] := by first | (simp [entryFrame, mkF, argsToLocals, Value.category]; done) | rfl
def Q1_20 (Z : State) (w : Nat → Addr) (h0 : Heap) (n0 : Nat) (v : Option Value) (h : Heap) (L : List Loc) : Prop := v = some (.int (1 : Int32)) ∧ Fr n0 L ∧ h = h0
set_option maxRecDepth 65536 in
set_option maxHeartbeats 40000000 in
theorem rm1_20 (l : Launch) (Z : State) (a0 : Array Value) (hw : ∀ d ∈ tables_1, d.before a0 Z = true) (w : Nat → Addr) (hW : Wd Z w) (ws : List Jvm.Cond) (h0 : Heap) (n0 : Nat) (O0 : Old Z n0 h0) :
    MetFree l ym0 (head1 (Jvm.Cond.code ym0 prog_29_method_7_code 1 (some .boolean) :: ws) ({ frames := 0, cells := 0, slots := 0, locals := 0 } : Room)) (fun a U => a = #[(.ref (w 7))] ∧ Z.Warmed39 U.vm ∧ U.heap = h0) (fun _ _ _ _ _ => True) (fun _ U o U' => ∃ v L, o = .returned v ∧ Q1_20 Z w h0 n0 v U'.heap L ∧ FrameEnd U o U' L ({ frames := 0, cells := 0, slots := 0, locals := 0 } : Room).cells ({ frames := 0, cells := 0, slots := 0, locals := 0 } : Room).slots) := by
  refine MetFree.of_bodySF (plainFor_of_name pnc_0) hisR ?_
  intro p e s m args below meth c s₁ Bd hml0 hP hK
  obtain ⟨rfl, hZ, hh⟩ := hP
  have hx := Bd.exec
  have hby := Bd.bytes
  have hml : c.maxLocals = 1 := hml0
  have hown : s.vm.findClass "com/example/weftcheck/weftcheck/OperationKind" = some m.cls := findClass_of_methodNamed Bd.named
  have hnm := (name_of_methodNamed Bd.named Bd.method).1
  have X0 : Stand p l e ({ frames := 0, cells := 0, slots := 0, locals := 0 } : Room) s m #[(.ref (w 7))] below meth c s₁ [] 0 0 := Stand.of_body Bd
  have e0 : s₁.heap = h0 := by rw [← hh, Bd.state]; rfl
  have N0 := Fr.nil n0
  skip
  have pre0 : ∀ t, Steps p.tables e below (s₁.setTop (mkF m 0 #[.val (.ref (w 7))] [])) t → Steps p.tables e below (s₁.setTop (entryFrame m #[(.ref (w 7))] 1)) t := fun t k => castTop (ef_1_20 m w) k
  obtain ⟨T1, X1, e1, st1⟩ := getS2 X0 hx hZ hown (host := "") (Or.inl (wk37 hw)) Via.refl e0 ((wd6 hW).ext O0.2) (g := (mkF m 1 #[.val (.ref (w 7))] [(.ref (w 7))])) rfl (hb hby d1_1)
  obtain ⟨T2, X2, e2, st2⟩ := getS2 X1 hx hZ hown (host := "") (Or.inl (wk38 hw)) Via.refl e1 ((wd8 hW).ext O0.2) (g := (mkF m 8 #[.val (.ref (w 7))] [(.ref (w 7))])) rfl (hb hby d1_8)
  obtain ⟨T3, X3, e3, st3⟩ := getS2 X2 hx hZ hown (host := "") (Or.inl (wk39 hw)) Via.refl e2 ((wd10 hW).ext O0.2) (g := (mkF m 15 #[.val (.ref (w 7))] [(.ref (w 7))])) rfl (hb hby d1_15)
  obtain ⟨T4, X4, e4, st4⟩ := getS2 X3 hx hZ hown (host := "") (Or.inl (wk40 hw)) Via.refl e3 ((wd12 hW).ext O0.2) (g := (mkF m 22 #[.val (.ref (w 7))] [(.ref (w 7))])) rfl (hb hby d1_22)
  obtain ⟨T5, X5, e5, st5⟩ := getS2 X4 hx hZ hown (host := "") (Or.inl (wk41 hw)) Via.refl e4 ((wd14 hW).ext O0.2) (g := (mkF m 29 #[.val (.ref (w 7))] [(.ref (w 7))])) rfl (hb hby d1_29)
  obtain ⟨fs, hr, hrun, hended, hWm, hsame⟩ := X5.leave (v := some (.int (1 : Int32))) (fun h => by rw [Bd.returns] at h; cases h)
  refine ⟨_, _, pre0 _ ?_, hrun, hended, _, _, rfl, ?_, ⟨_, rfl⟩, hWm, hsame.mono (by decide) (by decide)⟩
  · show Steps p.tables e below (s₁.setTop (mkF m 0 #[.val (.ref (w 7))] [])) _
    refine sA X0 hx hby d1_0 rfl rfl ?_
    refine st1 _ ?_
    refine Jvm.RoadKit.acmp (g := (mkF m 4 #[.val (.ref (w 7))] [(.ref (w 3)), (.ref (w 7))])) X1 hx rfl rfl rfl (pc0 := 4) (pc' := 7) (same := false) rfl (hb hby d1_4) rfl (decide_eq_false fun q => (Fld.ne (wd31 hW) (wd27 hW) (by decide)) (Value.ref.inj q)) (by decide) (by decide) ?_
    refine sA X1 hx hby d1_7 rfl rfl ?_
    refine st2 _ ?_
    refine Jvm.RoadKit.acmp (g := (mkF m 11 #[.val (.ref (w 7))] [(.ref (w 4)), (.ref (w 7))])) X2 hx rfl rfl rfl (pc0 := 11) (pc' := 14) (same := false) rfl (hb hby d1_11) rfl (decide_eq_false fun q => (Fld.ne (wd31 hW) (wd28 hW) (by decide)) (Value.ref.inj q)) (by decide) (by decide) ?_
    refine sA X2 hx hby d1_14 rfl rfl ?_
    refine st3 _ ?_
    refine Jvm.RoadKit.acmp (g := (mkF m 18 #[.val (.ref (w 7))] [(.ref (w 5)), (.ref (w 7))])) X3 hx rfl rfl rfl (pc0 := 18) (pc' := 21) (same := false) rfl (hb hby d1_18) rfl (decide_eq_false fun q => (Fld.ne (wd31 hW) (wd29 hW) (by decide)) (Value.ref.inj q)) (by decide) (by decide) ?_
    refine sA X3 hx hby d1_21 rfl rfl ?_
    refine st4 _ ?_
    refine Jvm.RoadKit.acmp (g := (mkF m 25 #[.val (.ref (w 7))] [(.ref (w 6)), (.ref (w 7))])) X4 hx rfl rfl rfl (pc0 := 25) (pc' := 28) (same := false) rfl (hb hby d1_25) rfl (decide_eq_false fun q => (Fld.ne (wd31 hW) (wd30 hW) (by decide)) (Value.ref.inj q)) (by decide) (by decide) ?_
    refine sA X4 hx hby d1_28 rfl rfl ?_
    refine st5 _ ?_
    refine Jvm.RoadKit.acmp (g := (mkF m 32 #[.val (.ref (w 7))] [(.ref (w 7)), (.ref (w 7))])) X5 hx rfl rfl rfl (pc0 := 32) (pc' := 35) (same := true) rfl (hb hby d1_32) rfl (decide_eq_true rfl) (by decide) (by decide) ?_
    refine sc X5 hx hby d1_35 ?_
    refine sg (pc := 36) (pc' := 40) X5 hx hby d1_36 (by decide) (by decide) ?_
    exact retN X5 hx (t := .boolean) Bd.returns (by simp) (hb hby d1_40) hr
  · show Q1_20 Z w h0 n0 _ T5.heap _
    rw [e5]
    exact ⟨rfl, N0, rfl⟩
theorem ef_3_21 (m : MethodId) (w : Nat → Addr) : entryFrame m #[(.ref (w 7))] 1 = mkF m 0 #[.val (.ref (w 7))] [] := by first | (simp [entryFrame, mkF, argsToLocals, Value.category]; done) | rfl
def Q3_21 (Z : State) (w : Nat → Addr) (h0 : Heap) (n0 : Nat) (v : Option Value) (h : Heap) (L : List Loc) : Prop := v = some (.int (0 : Int32)) ∧ Fr n0 L ∧ h = h0
set_option maxRecDepth 65536 in
set_option maxHeartbeats 40000000 in
theorem rm3_21 (l : Launch) (Z : State) (a0 : Array Value) (hw : ∀ d ∈ tables_1, d.before a0 Z = true) (w : Nat → Addr) (hW : Wd Z w) (ws : List Jvm.Cond) (h0 : Heap) (n0 : Nat) (O0 : Old Z n0 h0) :
    MetFree l ym1 (head1 (Jvm.Cond.code ym1 prog_29_method_5_code 1 (some .boolean) :: ws) ({ frames := 0, cells := 0, slots := 0, locals := 0 } : Room)) (fun a U => a = #[(.ref (w 7))] ∧ Z.Warmed39 U.vm ∧ U.heap = h0) (fun _ _ _ _ _ => True) (fun _ U o U' => ∃ v L, o = .returned v ∧ Q3_21 Z w h0 n0 v U'.heap L ∧ FrameEnd U o U' L ({ frames := 0, cells := 0, slots := 0, locals := 0 } : Room).cells ({ frames := 0, cells := 0, slots := 0, locals := 0 } : Room).slots) := by
  refine MetFree.of_bodySF (plainFor_of_name pnc_0) hisR ?_
  intro p e s m args below meth c s₁ Bd hml0 hP hK
  obtain ⟨rfl, hZ, hh⟩ := hP
  have hx := Bd.exec
  have hby := Bd.bytes
  have hml : c.maxLocals = 1 := hml0
  have hown : s.vm.findClass "com/example/weftcheck/weftcheck/OperationKind" = some m.cls := findClass_of_methodNamed Bd.named
  have hnm := (name_of_methodNamed Bd.named Bd.method).1
  have X0 : Stand p l e ({ frames := 0, cells := 0, slots := 0, locals := 0 } : Room) s m #[(.ref (w 7))] below meth c s₁ [] 0 0 := Stand.of_body Bd
  have e0 : s₁.heap = h0 := by rw [← hh, Bd.state]; rfl
  have N0 := Fr.nil n0
  skip
  have pre0 : ∀ t, Steps p.tables e below (s₁.setTop (mkF m 0 #[.val (.ref (w 7))] [])) t → Steps p.tables e below (s₁.setTop (entryFrame m #[(.ref (w 7))] 1)) t := fun t k => castTop (ef_3_21 m w) k
  obtain ⟨T1, X1, e1, st1⟩ := getS2 X0 hx hZ hown (host := "") (Or.inl (wk52 hw)) Via.refl e0 ((wd0 hW).ext O0.2) (g := (mkF m 1 #[.val (.ref (w 7))] [(.ref (w 7))])) rfl (hb hby d3_1)
  obtain ⟨T2, X2, e2, st2⟩ := getS2 X1 hx hZ hown (host := "") (Or.inl (wk53 hw)) Via.refl e1 ((wd2 hW).ext O0.2) (g := (mkF m 8 #[.val (.ref (w 7))] [(.ref (w 7))])) rfl (hb hby d3_8)
  obtain ⟨fs, hr, hrun, hended, hWm, hsame⟩ := X2.leave (v := some (.int (0 : Int32))) (fun h => by rw [Bd.returns] at h; cases h)
  refine ⟨_, _, pre0 _ ?_, hrun, hended, _, _, rfl, ?_, ⟨_, rfl⟩, hWm, hsame.mono (by decide) (by decide)⟩
  · show Steps p.tables e below (s₁.setTop (mkF m 0 #[.val (.ref (w 7))] [])) _
    refine sA X0 hx hby d3_0 rfl rfl ?_
    refine st1 _ ?_
    refine Jvm.RoadKit.acmp (g := (mkF m 4 #[.val (.ref (w 7))] [(.ref (w 0)), (.ref (w 7))])) X1 hx rfl rfl rfl (pc0 := 4) (pc' := 7) (same := false) rfl (hb hby d3_4) rfl (decide_eq_false fun q => (Fld.ne (wd31 hW) (wd26 hW) (by decide)) (Value.ref.inj q)) (by decide) (by decide) ?_
    refine sA X1 hx hby d3_7 rfl rfl ?_
    refine st2 _ ?_
    refine Jvm.RoadKit.acmp (g := (mkF m 11 #[.val (.ref (w 7))] [(.ref (w 1)), (.ref (w 7))])) X2 hx rfl rfl rfl (pc0 := 11) (pc' := 18) (same := false) rfl (hb hby d3_11) rfl (decide_eq_false fun q => (Fld.ne (wd31 hW) (wd32 hW) (by decide)) (Value.ref.inj q)) (by decide) (by decide) ?_
    refine sc X2 hx hby d3_18 ?_
    exact retN X2 hx (t := .boolean) Bd.returns (by simp) (hb hby d3_19) hr
  · show Q3_21 Z w h0 n0 _ T2.heap _
    rw [e2]
    exact ⟨rfl, N0, rfl⟩
theorem ef_4_22 (m : MethodId) (w : Nat → Addr) : entryFrame m #[(.ref (w 7))] 1 = mkF m 0 #[.val (.ref (w 7))] [] := by first | (simp [entryFrame, mkF, argsToLocals, Value.category]; done) | rfl
def Q4_22 (Z : State) (w : Nat → Addr) (h0 : Heap) (n0 : Nat) (v : Option Value) (h : Heap) (L : List Loc) : Prop := v = some (.int (0 : Int32)) ∧ Fr n0 L ∧ h = h0
set_option maxRecDepth 65536 in
set_option maxHeartbeats 40000000 in
theorem rm4_22 (l : Launch) (Z : State) (a0 : Array Value) (hw : ∀ d ∈ tables_1, d.before a0 Z = true) (w : Nat → Addr) (hW : Wd Z w) (ws : List Jvm.Cond) (h0 : Heap) (n0 : Nat) (O0 : Old Z n0 h0) :
    MetFree l ym2 (head1 (Jvm.Cond.code ym2 prog_29_method_6_code 1 (some .boolean) :: ws) ({ frames := 0, cells := 0, slots := 0, locals := 0 } : Room)) (fun a U => a = #[(.ref (w 7))] ∧ Z.Warmed39 U.vm ∧ U.heap = h0) (fun _ _ _ _ _ => True) (fun _ U o U' => ∃ v L, o = .returned v ∧ Q4_22 Z w h0 n0 v U'.heap L ∧ FrameEnd U o U' L ({ frames := 0, cells := 0, slots := 0, locals := 0 } : Room).cells ({ frames := 0, cells := 0, slots := 0, locals := 0 } : Room).slots) := by
  refine MetFree.of_bodySF (plainFor_of_name pnc_0) hisR ?_
  intro p e s m args below meth c s₁ Bd hml0 hP hK
  obtain ⟨rfl, hZ, hh⟩ := hP
  have hx := Bd.exec
  have hby := Bd.bytes
  have hml : c.maxLocals = 1 := hml0
  have hown : s.vm.findClass "com/example/weftcheck/weftcheck/OperationKind" = some m.cls := findClass_of_methodNamed Bd.named
  have hnm := (name_of_methodNamed Bd.named Bd.method).1
  have X0 : Stand p l e ({ frames := 0, cells := 0, slots := 0, locals := 0 } : Room) s m #[(.ref (w 7))] below meth c s₁ [] 0 0 := Stand.of_body Bd
  have e0 : s₁.heap = h0 := by rw [← hh, Bd.state]; rfl
  have N0 := Fr.nil n0
  skip
  have pre0 : ∀ t, Steps p.tables e below (s₁.setTop (mkF m 0 #[.val (.ref (w 7))] [])) t → Steps p.tables e below (s₁.setTop (entryFrame m #[(.ref (w 7))] 1)) t := fun t k => castTop (ef_4_22 m w) k
  obtain ⟨T1, X1, e1, st1⟩ := getS2 X0 hx hZ hown (host := "") (Or.inl (wk60 hw)) Via.refl e0 ((wd22 hW).ext O0.2) (g := (mkF m 1 #[.val (.ref (w 7))] [(.ref (w 7))])) rfl (hb hby d4_1)
  obtain ⟨T2, X2, e2, st2⟩ := getS2 X1 hx hZ hown (host := "") (Or.inl (wk61 hw)) Via.refl e1 ((wd24 hW).ext O0.2) (g := (mkF m 8 #[.val (.ref (w 7))] [(.ref (w 7))])) rfl (hb hby d4_8)
  obtain ⟨fs, hr, hrun, hended, hWm, hsame⟩ := X2.leave (v := some (.int (0 : Int32))) (fun h => by rw [Bd.returns] at h; cases h)
  refine ⟨_, _, pre0 _ ?_, hrun, hended, _, _, rfl, ?_, ⟨_, rfl⟩, hWm, hsame.mono (by decide) (by decide)⟩
  · show Steps p.tables e below (s₁.setTop (mkF m 0 #[.val (.ref (w 7))] [])) _
    refine sA X0 hx hby d4_0 rfl rfl ?_
    refine st1 _ ?_
    refine Jvm.RoadKit.acmp (g := (mkF m 4 #[.val (.ref (w 7))] [(.ref (w 11)), (.ref (w 7))])) X1 hx rfl rfl rfl (pc0 := 4) (pc' := 7) (same := false) rfl (hb hby d4_4) rfl (decide_eq_false fun q => (Fld.ne (wd31 hW) (wd34 hW) (by decide)) (Value.ref.inj q)) (by decide) (by decide) ?_
    refine sA X1 hx hby d4_7 rfl rfl ?_
    refine st2 _ ?_
    refine Jvm.RoadKit.acmp (g := (mkF m 11 #[.val (.ref (w 7))] [(.ref (w 12)), (.ref (w 7))])) X2 hx rfl rfl rfl (pc0 := 11) (pc' := 18) (same := false) rfl (hb hby d4_11) rfl (decide_eq_false fun q => (Fld.ne (wd31 hW) (wd35 hW) (by decide)) (Value.ref.inj q)) (by decide) (by decide) ?_
    refine sc X2 hx hby d4_18 ?_
    exact retN X2 hx (t := .boolean) Bd.returns (by simp) (hb hby d4_19) hr
  · show Q4_22 Z w h0 n0 _ T2.heap _
    rw [e2]
    exact ⟨rfl, N0, rfl⟩
theorem ef_2_23 (m : MethodId) (w : Nat → Addr) : entryFrame m #[(.ref (w 7))] 1 = mkF m 0 #[.val (.ref (w 7))] [] := by first | (simp [entryFrame, mkF, argsToLocals, Value.category]; done) | rfl
def Q2_23 (Z : State) (w : Nat → Addr) (h0 : Heap) (n0 : Nat) (v : Option Value) (h : Heap) (L : List Loc) : Prop := v = some (.int (1 : Int32)) ∧ Fr n0 L ∧ h = h0
set_option maxRecDepth 65536 in
set_option maxHeartbeats 40000000 in
theorem rm2_23 (l : Launch) (Z : State) (a0 : Array Value) (hw : ∀ d ∈ tables_1, d.before a0 Z = true) (w : Nat → Addr) (hW : Wd Z w) (ws : List Jvm.Cond) (h0 : Heap) (n0 : Nat) (O0 : Old Z n0 h0) :
    MetFree l ym3 (head1 (Jvm.Cond.code ym3 prog_29_method_12_code 1 (some .boolean) :: ws) ({ frames := 1, cells := 0, slots := 0, locals := 12 } : Room)) (fun a U => a = #[(.ref (w 7))] ∧ Z.Warmed39 U.vm ∧ U.heap = h0) (fun _ _ _ _ _ => True) (fun _ U o U' => ∃ v L, o = .returned v ∧ Q2_23 Z w h0 n0 v U'.heap L ∧ FrameEnd U o U' L ({ frames := 1, cells := 0, slots := 0, locals := 12 } : Room).cells ({ frames := 1, cells := 0, slots := 0, locals := 12 } : Room).slots) := by
  refine MetFree.of_bodySF (plainFor_of_name pnc_0) hisR ?_
  intro p e s m args below meth c s₁ Bd hml0 hP hK
  obtain ⟨rfl, hZ, hh⟩ := hP
  have hx := Bd.exec
  have hby := Bd.bytes
  have hml : c.maxLocals = 1 := hml0
  have hown : s.vm.findClass "com/example/weftcheck/weftcheck/OperationKind" = some m.cls := findClass_of_methodNamed Bd.named
  have hnm := (name_of_methodNamed Bd.named Bd.method).1
  have X0 : Stand p l e ({ frames := 1, cells := 0, slots := 0, locals := 12 } : Room) s m #[(.ref (w 7))] below meth c s₁ [] 0 0 := Stand.of_body Bd
  have e0 : s₁.heap = h0 := by rw [← hh, Bd.state]; rfl
  have N0 := Fr.nil n0
  skip
  have pre0 : ∀ t, Steps p.tables e below (s₁.setTop (mkF m 0 #[.val (.ref (w 7))] [])) t → Steps p.tables e below (s₁.setTop (entryFrame m #[(.ref (w 7))] 1)) t := fun t k => castTop (ef_2_23 m w) k
  obtain ⟨cq1, kq1, q1a, q1b, q1c⟩ := isOf hZ e0 ((wd15 hW).ext O0.2)
  obtain ⟨_, _, ⟨T1, L1, kk1, nn1⟩, -, X1, ⟨Lc1, hQ1, l1, y1, z1⟩, st1⟩ := X0.virtualBack hx (y := ym1) (z := ym1) hown (mvT hZ (wk47 hw)) (mvT hZ (wk48 hw)) (notFace_of_selects (args := #[]) (mvT hZ (wk50 hw))) (mvT hZ (wk50 hw)) (mvT hZ (wk49 hw)) (by decide) (backOf (W := 0) (rm3_21 l Z a0 hw w hW []  h0 n0 O0 ) hZ (wk51 hw) (wk3 hw) (by decide) (by decide)) q1a q1c (g := (mkF m 1 #[.val (.ref (w 7))] [(.ref (w 7))])) rfl (by rw [hml]; rfl) (Steps.refl _) (argsL := []) (rest := []) (lenOf pds_0 rfl) rfl (by show 2 * 0 + _ ≤ _; exact Nat.le_of_eq rfl) (hb hby d2_1) (fun _ _ => ⟨rfl, e0, (by decide : 0 + 0 ≤ _), (by decide : 0 + 0 ≤ _)⟩)
  dsimp only [Pt.U, Pt.locs, Pt.cells, Pt.slots] at X1 l1 y1 z1 st1 hQ1
  rw [l1, y1, z1] at X1
  obtain ⟨rfl, N1q, e1⟩ := hQ1
  have N1 := Fr.app N0 N1q
  obtain ⟨T2, X2, e2, st2⟩ := getS2 X1 hx hZ hown (host := "") (Or.inl (wk54 hw)) Via.refl e1 ((wd4 hW).ext O0.2) (g := (mkF m 8 #[.val (.ref (w 7))] [(.ref (w 7))])) rfl (hb hby d2_8)
  obtain ⟨cq3, kq3, q3a, q3b, q3c⟩ := isOf hZ e2 ((wd15 hW).ext O0.2)
  obtain ⟨_, _, ⟨T3, L3, kk3, nn3⟩, -, X3, ⟨Lc3, hQ3, l3, y3, z3⟩, st3⟩ := X2.virtualBack hx (y := ym2) (z := ym2) hown (mvT hZ (wk55 hw)) (mvT hZ (wk56 hw)) (notFace_of_selects (args := #[]) (mvT hZ (wk58 hw))) (mvT hZ (wk58 hw)) (mvT hZ (wk57 hw)) (by decide) (backOf (W := 0) (rm4_22 l Z a0 hw w hW []  h0 n0 O0 ) hZ (wk59 hw) (wk3 hw) (by decide) (by decide)) q3a q3c (g := (mkF m 15 #[.val (.ref (w 7))] [(.ref (w 7))])) rfl (by rw [hml]; rfl) (Steps.refl _) (argsL := []) (rest := []) (lenOf pds_0 rfl) rfl (by show 2 * 0 + _ ≤ _; exact Nat.le_of_eq rfl) (hb hby d2_15) (fun _ _ => ⟨rfl, e2, (by decide : 0 + 0 ≤ _), (by decide : 0 + 0 ≤ _)⟩)
  dsimp only [Pt.U, Pt.locs, Pt.cells, Pt.slots] at X3 l3 y3 z3 st3 hQ3
  rw [l3, y3, z3] at X3
  obtain ⟨rfl, N3q, e3⟩ := hQ3
  have N3 := Fr.app N1 N3q
  obtain ⟨fs, hr, hrun, hended, hWm, hsame⟩ := X3.leave (v := some (.int (1 : Int32))) (fun h => by rw [Bd.returns] at h; cases h)
  refine ⟨_, _, pre0 _ ?_, hrun, hended, _, _, rfl, ?_, ⟨_, rfl⟩, hWm, hsame.mono (by decide) (by decide)⟩
  · show Steps p.tables e below (s₁.setTop (mkF m 0 #[.val (.ref (w 7))] [])) _
    refine sA X0 hx hby d2_0 rfl rfl ?_
    refine st1.trans ?_
    refine sN X1 hx hby d2_4 (by decide) ?_
    refine sA X1 hx hby d2_7 rfl rfl ?_
    refine st2 _ ?_
    refine Jvm.RoadKit.acmp (g := (mkF m 11 #[.val (.ref (w 7))] [(.ref (w 2)), (.ref (w 7))])) X2 hx rfl rfl rfl (pc0 := 11) (pc' := 14) (same := false) rfl (hb hby d2_11) rfl (decide_eq_false fun q => (Fld.ne (wd31 hW) (wd33 hW) (by decide)) (Value.ref.inj q)) (by decide) (by decide) ?_
    refine sA X2 hx hby d2_14 rfl rfl ?_
    refine st3.trans ?_
    refine sN X3 hx hby d2_18 (by decide) ?_
    refine sc X3 hx hby d2_21 ?_
    refine sg (pc := 22) (pc' := 26) X3 hx hby d2_22 (by decide) (by decide) ?_
    exact retN X3 hx (t := .boolean) Bd.returns (by simp) (hb hby d2_26) hr
  · show Q2_23 Z w h0 n0 _ T3.heap _
    rw [e3]
    exact ⟨rfl, N3, rfl⟩
theorem ef_1_24 (m : MethodId) (w : Nat → Addr) : entryFrame m #[(.ref (w 8))] 1 = mkF m 0 #[.val (.ref (w 8))] [] := by first | (simp [entryFrame, mkF, argsToLocals, Value.category]; done) | rfl
def Q1_24 (Z : State) (w : Nat → Addr) (h0 : Heap) (n0 : Nat) (v : Option Value) (h : Heap) (L : List Loc) : Prop := v = some (.int (0 : Int32)) ∧ Fr n0 L ∧ h = h0
set_option maxRecDepth 65536 in
set_option maxHeartbeats 40000000 in
theorem rm1_24 (l : Launch) (Z : State) (a0 : Array Value) (hw : ∀ d ∈ tables_1, d.before a0 Z = true) (w : Nat → Addr) (hW : Wd Z w) (ws : List Jvm.Cond) (h0 : Heap) (n0 : Nat) (O0 : Old Z n0 h0) :
    MetFree l ym0 (head1 (Jvm.Cond.code ym0 prog_29_method_7_code 1 (some .boolean) :: ws) ({ frames := 0, cells := 0, slots := 0, locals := 0 } : Room)) (fun a U => a = #[(.ref (w 8))] ∧ Z.Warmed39 U.vm ∧ U.heap = h0) (fun _ _ _ _ _ => True) (fun _ U o U' => ∃ v L, o = .returned v ∧ Q1_24 Z w h0 n0 v U'.heap L ∧ FrameEnd U o U' L ({ frames := 0, cells := 0, slots := 0, locals := 0 } : Room).cells ({ frames := 0, cells := 0, slots := 0, locals := 0 } : Room).slots) := by
  refine MetFree.of_bodySF (plainFor_of_name pnc_0) hisR ?_
  intro p e s m args below meth c s₁ Bd hml0 hP hK
  obtain ⟨rfl, hZ, hh⟩ := hP
  have hx := Bd.exec
  have hby := Bd.bytes
  have hml : c.maxLocals = 1 := hml0
  have hown : s.vm.findClass "com/example/weftcheck/weftcheck/OperationKind" = some m.cls := findClass_of_methodNamed Bd.named
  have hnm := (name_of_methodNamed Bd.named Bd.method).1
  have X0 : Stand p l e ({ frames := 0, cells := 0, slots := 0, locals := 0 } : Room) s m #[(.ref (w 8))] below meth c s₁ [] 0 0 := Stand.of_body Bd
  have e0 : s₁.heap = h0 := by rw [← hh, Bd.state]; rfl
  have N0 := Fr.nil n0
  skip
  have pre0 : ∀ t, Steps p.tables e below (s₁.setTop (mkF m 0 #[.val (.ref (w 8))] [])) t → Steps p.tables e below (s₁.setTop (entryFrame m #[(.ref (w 8))] 1)) t := fun t k => castTop (ef_1_24 m w) k
  obtain ⟨T1, X1, e1, st1⟩ := getS2 X0 hx hZ hown (host := "") (Or.inl (wk37 hw)) Via.refl e0 ((wd6 hW).ext O0.2) (g := (mkF m 1 #[.val (.ref (w 8))] [(.ref (w 8))])) rfl (hb hby d1_1)
  obtain ⟨T2, X2, e2, st2⟩ := getS2 X1 hx hZ hown (host := "") (Or.inl (wk38 hw)) Via.refl e1 ((wd8 hW).ext O0.2) (g := (mkF m 8 #[.val (.ref (w 8))] [(.ref (w 8))])) rfl (hb hby d1_8)
  obtain ⟨T3, X3, e3, st3⟩ := getS2 X2 hx hZ hown (host := "") (Or.inl (wk39 hw)) Via.refl e2 ((wd10 hW).ext O0.2) (g := (mkF m 15 #[.val (.ref (w 8))] [(.ref (w 8))])) rfl (hb hby d1_15)
  obtain ⟨T4, X4, e4, st4⟩ := getS2 X3 hx hZ hown (host := "") (Or.inl (wk40 hw)) Via.refl e3 ((wd12 hW).ext O0.2) (g := (mkF m 22 #[.val (.ref (w 8))] [(.ref (w 8))])) rfl (hb hby d1_22)
  obtain ⟨T5, X5, e5, st5⟩ := getS2 X4 hx hZ hown (host := "") (Or.inl (wk41 hw)) Via.refl e4 ((wd14 hW).ext O0.2) (g := (mkF m 29 #[.val (.ref (w 8))] [(.ref (w 8))])) rfl (hb hby d1_29)
  obtain ⟨fs, hr, hrun, hended, hWm, hsame⟩ := X5.leave (v := some (.int (0 : Int32))) (fun h => by rw [Bd.returns] at h; cases h)
  refine ⟨_, _, pre0 _ ?_, hrun, hended, _, _, rfl, ?_, ⟨_, rfl⟩, hWm, hsame.mono (by decide) (by decide)⟩
  · show Steps p.tables e below (s₁.setTop (mkF m 0 #[.val (.ref (w 8))] [])) _
    refine sA X0 hx hby d1_0 rfl rfl ?_
    refine st1 _ ?_
    refine Jvm.RoadKit.acmp (g := (mkF m 4 #[.val (.ref (w 8))] [(.ref (w 3)), (.ref (w 8))])) X1 hx rfl rfl rfl (pc0 := 4) (pc' := 7) (same := false) rfl (hb hby d1_4) rfl (decide_eq_false fun q => (Fld.ne (wd37 hW) (wd27 hW) (by decide)) (Value.ref.inj q)) (by decide) (by decide) ?_
    refine sA X1 hx hby d1_7 rfl rfl ?_
    refine st2 _ ?_
    refine Jvm.RoadKit.acmp (g := (mkF m 11 #[.val (.ref (w 8))] [(.ref (w 4)), (.ref (w 8))])) X2 hx rfl rfl rfl (pc0 := 11) (pc' := 14) (same := false) rfl (hb hby d1_11) rfl (decide_eq_false fun q => (Fld.ne (wd37 hW) (wd28 hW) (by decide)) (Value.ref.inj q)) (by decide) (by decide) ?_
    refine sA X2 hx hby d1_14 rfl rfl ?_
    refine st3 _ ?_
    refine Jvm.RoadKit.acmp (g := (mkF m 18 #[.val (.ref (w 8))] [(.ref (w 5)), (.ref (w 8))])) X3 hx rfl rfl rfl (pc0 := 18) (pc' := 21) (same := false) rfl (hb hby d1_18) rfl (decide_eq_false fun q => (Fld.ne (wd37 hW) (wd29 hW) (by decide)) (Value.ref.inj q)) (by decide) (by decide) ?_
    refine sA X3 hx hby d1_21 rfl rfl ?_
    refine st4 _ ?_
    refine Jvm.RoadKit.acmp (g := (mkF m 25 #[.val (.ref (w 8))] [(.ref (w 6)), (.ref (w 8))])) X4 hx rfl rfl rfl (pc0 := 25) (pc' := 28) (same := false) rfl (hb hby d1_25) rfl (decide_eq_false fun q => (Fld.ne (wd37 hW) (wd30 hW) (by decide)) (Value.ref.inj q)) (by decide) (by decide) ?_
    refine sA X4 hx hby d1_28 rfl rfl ?_
    refine st5 _ ?_
    refine Jvm.RoadKit.acmp (g := (mkF m 32 #[.val (.ref (w 8))] [(.ref (w 7)), (.ref (w 8))])) X5 hx rfl rfl rfl (pc0 := 32) (pc' := 39) (same := false) rfl (hb hby d1_32) rfl (decide_eq_false fun q => (Fld.ne (wd37 hW) (wd31 hW) (by decide)) (Value.ref.inj q)) (by decide) (by decide) ?_
    refine sc X5 hx hby d1_39 ?_
    exact retN X5 hx (t := .boolean) Bd.returns (by simp) (hb hby d1_40) hr
  · show Q1_24 Z w h0 n0 _ T5.heap _
    rw [e5]
    exact ⟨rfl, N0, rfl⟩
theorem ef_1_25 (m : MethodId) (w : Nat → Addr) : entryFrame m #[(.ref (w 9))] 1 = mkF m 0 #[.val (.ref (w 9))] [] := by first | (simp [entryFrame, mkF, argsToLocals, Value.category]; done) | rfl
def Q1_25 (Z : State) (w : Nat → Addr) (h0 : Heap) (n0 : Nat) (v : Option Value) (h : Heap) (L : List Loc) : Prop := v = some (.int (0 : Int32)) ∧ Fr n0 L ∧ h = h0
set_option maxRecDepth 65536 in
set_option maxHeartbeats 40000000 in
theorem rm1_25 (l : Launch) (Z : State) (a0 : Array Value) (hw : ∀ d ∈ tables_1, d.before a0 Z = true) (w : Nat → Addr) (hW : Wd Z w) (ws : List Jvm.Cond) (h0 : Heap) (n0 : Nat) (O0 : Old Z n0 h0) :
    MetFree l ym0 (head1 (Jvm.Cond.code ym0 prog_29_method_7_code 1 (some .boolean) :: ws) ({ frames := 0, cells := 0, slots := 0, locals := 0 } : Room)) (fun a U => a = #[(.ref (w 9))] ∧ Z.Warmed39 U.vm ∧ U.heap = h0) (fun _ _ _ _ _ => True) (fun _ U o U' => ∃ v L, o = .returned v ∧ Q1_25 Z w h0 n0 v U'.heap L ∧ FrameEnd U o U' L ({ frames := 0, cells := 0, slots := 0, locals := 0 } : Room).cells ({ frames := 0, cells := 0, slots := 0, locals := 0 } : Room).slots) := by
  refine MetFree.of_bodySF (plainFor_of_name pnc_0) hisR ?_
  intro p e s m args below meth c s₁ Bd hml0 hP hK
  obtain ⟨rfl, hZ, hh⟩ := hP
  have hx := Bd.exec
  have hby := Bd.bytes
  have hml : c.maxLocals = 1 := hml0
  have hown : s.vm.findClass "com/example/weftcheck/weftcheck/OperationKind" = some m.cls := findClass_of_methodNamed Bd.named
  have hnm := (name_of_methodNamed Bd.named Bd.method).1
  have X0 : Stand p l e ({ frames := 0, cells := 0, slots := 0, locals := 0 } : Room) s m #[(.ref (w 9))] below meth c s₁ [] 0 0 := Stand.of_body Bd
  have e0 : s₁.heap = h0 := by rw [← hh, Bd.state]; rfl
  have N0 := Fr.nil n0
  skip
  have pre0 : ∀ t, Steps p.tables e below (s₁.setTop (mkF m 0 #[.val (.ref (w 9))] [])) t → Steps p.tables e below (s₁.setTop (entryFrame m #[(.ref (w 9))] 1)) t := fun t k => castTop (ef_1_25 m w) k
  obtain ⟨T1, X1, e1, st1⟩ := getS2 X0 hx hZ hown (host := "") (Or.inl (wk37 hw)) Via.refl e0 ((wd6 hW).ext O0.2) (g := (mkF m 1 #[.val (.ref (w 9))] [(.ref (w 9))])) rfl (hb hby d1_1)
  obtain ⟨T2, X2, e2, st2⟩ := getS2 X1 hx hZ hown (host := "") (Or.inl (wk38 hw)) Via.refl e1 ((wd8 hW).ext O0.2) (g := (mkF m 8 #[.val (.ref (w 9))] [(.ref (w 9))])) rfl (hb hby d1_8)
  obtain ⟨T3, X3, e3, st3⟩ := getS2 X2 hx hZ hown (host := "") (Or.inl (wk39 hw)) Via.refl e2 ((wd10 hW).ext O0.2) (g := (mkF m 15 #[.val (.ref (w 9))] [(.ref (w 9))])) rfl (hb hby d1_15)
  obtain ⟨T4, X4, e4, st4⟩ := getS2 X3 hx hZ hown (host := "") (Or.inl (wk40 hw)) Via.refl e3 ((wd12 hW).ext O0.2) (g := (mkF m 22 #[.val (.ref (w 9))] [(.ref (w 9))])) rfl (hb hby d1_22)
  obtain ⟨T5, X5, e5, st5⟩ := getS2 X4 hx hZ hown (host := "") (Or.inl (wk41 hw)) Via.refl e4 ((wd14 hW).ext O0.2) (g := (mkF m 29 #[.val (.ref (w 9))] [(.ref (w 9))])) rfl (hb hby d1_29)
  obtain ⟨fs, hr, hrun, hended, hWm, hsame⟩ := X5.leave (v := some (.int (0 : Int32))) (fun h => by rw [Bd.returns] at h; cases h)
  refine ⟨_, _, pre0 _ ?_, hrun, hended, _, _, rfl, ?_, ⟨_, rfl⟩, hWm, hsame.mono (by decide) (by decide)⟩
  · show Steps p.tables e below (s₁.setTop (mkF m 0 #[.val (.ref (w 9))] [])) _
    refine sA X0 hx hby d1_0 rfl rfl ?_
    refine st1 _ ?_
    refine Jvm.RoadKit.acmp (g := (mkF m 4 #[.val (.ref (w 9))] [(.ref (w 3)), (.ref (w 9))])) X1 hx rfl rfl rfl (pc0 := 4) (pc' := 7) (same := false) rfl (hb hby d1_4) rfl (decide_eq_false fun q => (Fld.ne (wd36 hW) (wd27 hW) (by decide)) (Value.ref.inj q)) (by decide) (by decide) ?_
    refine sA X1 hx hby d1_7 rfl rfl ?_
    refine st2 _ ?_
    refine Jvm.RoadKit.acmp (g := (mkF m 11 #[.val (.ref (w 9))] [(.ref (w 4)), (.ref (w 9))])) X2 hx rfl rfl rfl (pc0 := 11) (pc' := 14) (same := false) rfl (hb hby d1_11) rfl (decide_eq_false fun q => (Fld.ne (wd36 hW) (wd28 hW) (by decide)) (Value.ref.inj q)) (by decide) (by decide) ?_
    refine sA X2 hx hby d1_14 rfl rfl ?_
    refine st3 _ ?_
    refine Jvm.RoadKit.acmp (g := (mkF m 18 #[.val (.ref (w 9))] [(.ref (w 5)), (.ref (w 9))])) X3 hx rfl rfl rfl (pc0 := 18) (pc' := 21) (same := false) rfl (hb hby d1_18) rfl (decide_eq_false fun q => (Fld.ne (wd36 hW) (wd29 hW) (by decide)) (Value.ref.inj q)) (by decide) (by decide) ?_
    refine sA X3 hx hby d1_21 rfl rfl ?_
    refine st4 _ ?_
    refine Jvm.RoadKit.acmp (g := (mkF m 25 #[.val (.ref (w 9))] [(.ref (w 6)), (.ref (w 9))])) X4 hx rfl rfl rfl (pc0 := 25) (pc' := 28) (same := false) rfl (hb hby d1_25) rfl (decide_eq_false fun q => (Fld.ne (wd36 hW) (wd30 hW) (by decide)) (Value.ref.inj q)) (by decide) (by decide) ?_
    refine sA X4 hx hby d1_28 rfl rfl ?_
    refine st5 _ ?_
    refine Jvm.RoadKit.acmp (g := (mkF m 32 #[.val (.ref (w 9))] [(.ref (w 7)), (.ref (w 9))])) X5 hx rfl rfl rfl (pc0 := 32) (pc' := 39) (same := false) rfl (hb hby d1_32) rfl (decide_eq_false fun q => (Fld.ne (wd36 hW) (wd31 hW) (by decide)) (Value.ref.inj q)) (by decide) (by decide) ?_
    refine sc X5 hx hby d1_39 ?_
    exact retN X5 hx (t := .boolean) Bd.returns (by simp) (hb hby d1_40) hr
  · show Q1_25 Z w h0 n0 _ T5.heap _
    rw [e5]
    exact ⟨rfl, N0, rfl⟩
theorem ef_1_26 (m : MethodId) (w : Nat → Addr) : entryFrame m #[(.ref (w 10))] 1 = mkF m 0 #[.val (.ref (w 10))] [] := by first | (simp [entryFrame, mkF, argsToLocals, Value.category]; done) | rfl
def Q1_26 (Z : State) (w : Nat → Addr) (h0 : Heap) (n0 : Nat) (v : Option Value) (h : Heap) (L : List Loc) : Prop := v = some (.int (0 : Int32)) ∧ Fr n0 L ∧ h = h0
set_option maxRecDepth 65536 in
set_option maxHeartbeats 40000000 in
theorem rm1_26 (l : Launch) (Z : State) (a0 : Array Value) (hw : ∀ d ∈ tables_1, d.before a0 Z = true) (w : Nat → Addr) (hW : Wd Z w) (ws : List Jvm.Cond) (h0 : Heap) (n0 : Nat) (O0 : Old Z n0 h0) :
    MetFree l ym0 (head1 (Jvm.Cond.code ym0 prog_29_method_7_code 1 (some .boolean) :: ws) ({ frames := 0, cells := 0, slots := 0, locals := 0 } : Room)) (fun a U => a = #[(.ref (w 10))] ∧ Z.Warmed39 U.vm ∧ U.heap = h0) (fun _ _ _ _ _ => True) (fun _ U o U' => ∃ v L, o = .returned v ∧ Q1_26 Z w h0 n0 v U'.heap L ∧ FrameEnd U o U' L ({ frames := 0, cells := 0, slots := 0, locals := 0 } : Room).cells ({ frames := 0, cells := 0, slots := 0, locals := 0 } : Room).slots) := by
  refine MetFree.of_bodySF (plainFor_of_name pnc_0) hisR ?_
  intro p e s m args below meth c s₁ Bd hml0 hP hK
  obtain ⟨rfl, hZ, hh⟩ := hP
  have hx := Bd.exec
  have hby := Bd.bytes
  have hml : c.maxLocals = 1 := hml0
  have hown : s.vm.findClass "com/example/weftcheck/weftcheck/OperationKind" = some m.cls := findClass_of_methodNamed Bd.named
  have hnm := (name_of_methodNamed Bd.named Bd.method).1
  have X0 : Stand p l e ({ frames := 0, cells := 0, slots := 0, locals := 0 } : Room) s m #[(.ref (w 10))] below meth c s₁ [] 0 0 := Stand.of_body Bd
  have e0 : s₁.heap = h0 := by rw [← hh, Bd.state]; rfl
  have N0 := Fr.nil n0
  skip
  have pre0 : ∀ t, Steps p.tables e below (s₁.setTop (mkF m 0 #[.val (.ref (w 10))] [])) t → Steps p.tables e below (s₁.setTop (entryFrame m #[(.ref (w 10))] 1)) t := fun t k => castTop (ef_1_26 m w) k
  obtain ⟨T1, X1, e1, st1⟩ := getS2 X0 hx hZ hown (host := "") (Or.inl (wk37 hw)) Via.refl e0 ((wd6 hW).ext O0.2) (g := (mkF m 1 #[.val (.ref (w 10))] [(.ref (w 10))])) rfl (hb hby d1_1)
  obtain ⟨T2, X2, e2, st2⟩ := getS2 X1 hx hZ hown (host := "") (Or.inl (wk38 hw)) Via.refl e1 ((wd8 hW).ext O0.2) (g := (mkF m 8 #[.val (.ref (w 10))] [(.ref (w 10))])) rfl (hb hby d1_8)
  obtain ⟨T3, X3, e3, st3⟩ := getS2 X2 hx hZ hown (host := "") (Or.inl (wk39 hw)) Via.refl e2 ((wd10 hW).ext O0.2) (g := (mkF m 15 #[.val (.ref (w 10))] [(.ref (w 10))])) rfl (hb hby d1_15)
  obtain ⟨T4, X4, e4, st4⟩ := getS2 X3 hx hZ hown (host := "") (Or.inl (wk40 hw)) Via.refl e3 ((wd12 hW).ext O0.2) (g := (mkF m 22 #[.val (.ref (w 10))] [(.ref (w 10))])) rfl (hb hby d1_22)
  obtain ⟨T5, X5, e5, st5⟩ := getS2 X4 hx hZ hown (host := "") (Or.inl (wk41 hw)) Via.refl e4 ((wd14 hW).ext O0.2) (g := (mkF m 29 #[.val (.ref (w 10))] [(.ref (w 10))])) rfl (hb hby d1_29)
  obtain ⟨fs, hr, hrun, hended, hWm, hsame⟩ := X5.leave (v := some (.int (0 : Int32))) (fun h => by rw [Bd.returns] at h; cases h)
  refine ⟨_, _, pre0 _ ?_, hrun, hended, _, _, rfl, ?_, ⟨_, rfl⟩, hWm, hsame.mono (by decide) (by decide)⟩
  · show Steps p.tables e below (s₁.setTop (mkF m 0 #[.val (.ref (w 10))] [])) _
    refine sA X0 hx hby d1_0 rfl rfl ?_
    refine st1 _ ?_
    refine Jvm.RoadKit.acmp (g := (mkF m 4 #[.val (.ref (w 10))] [(.ref (w 3)), (.ref (w 10))])) X1 hx rfl rfl rfl (pc0 := 4) (pc' := 7) (same := false) rfl (hb hby d1_4) rfl (decide_eq_false fun q => (Fld.ne (wd38 hW) (wd27 hW) (by decide)) (Value.ref.inj q)) (by decide) (by decide) ?_
    refine sA X1 hx hby d1_7 rfl rfl ?_
    refine st2 _ ?_
    refine Jvm.RoadKit.acmp (g := (mkF m 11 #[.val (.ref (w 10))] [(.ref (w 4)), (.ref (w 10))])) X2 hx rfl rfl rfl (pc0 := 11) (pc' := 14) (same := false) rfl (hb hby d1_11) rfl (decide_eq_false fun q => (Fld.ne (wd38 hW) (wd28 hW) (by decide)) (Value.ref.inj q)) (by decide) (by decide) ?_
    refine sA X2 hx hby d1_14 rfl rfl ?_
    refine st3 _ ?_
    refine Jvm.RoadKit.acmp (g := (mkF m 18 #[.val (.ref (w 10))] [(.ref (w 5)), (.ref (w 10))])) X3 hx rfl rfl rfl (pc0 := 18) (pc' := 21) (same := false) rfl (hb hby d1_18) rfl (decide_eq_false fun q => (Fld.ne (wd38 hW) (wd29 hW) (by decide)) (Value.ref.inj q)) (by decide) (by decide) ?_
    refine sA X3 hx hby d1_21 rfl rfl ?_
    refine st4 _ ?_
    refine Jvm.RoadKit.acmp (g := (mkF m 25 #[.val (.ref (w 10))] [(.ref (w 6)), (.ref (w 10))])) X4 hx rfl rfl rfl (pc0 := 25) (pc' := 28) (same := false) rfl (hb hby d1_25) rfl (decide_eq_false fun q => (Fld.ne (wd38 hW) (wd30 hW) (by decide)) (Value.ref.inj q)) (by decide) (by decide) ?_
    refine sA X4 hx hby d1_28 rfl rfl ?_
    refine st5 _ ?_
    refine Jvm.RoadKit.acmp (g := (mkF m 32 #[.val (.ref (w 10))] [(.ref (w 7)), (.ref (w 10))])) X5 hx rfl rfl rfl (pc0 := 32) (pc' := 39) (same := false) rfl (hb hby d1_32) rfl (decide_eq_false fun q => (Fld.ne (wd38 hW) (wd31 hW) (by decide)) (Value.ref.inj q)) (by decide) (by decide) ?_
    refine sc X5 hx hby d1_39 ?_
    exact retN X5 hx (t := .boolean) Bd.returns (by simp) (hb hby d1_40) hr
  · show Q1_26 Z w h0 n0 _ T5.heap _
    rw [e5]
    exact ⟨rfl, N0, rfl⟩
theorem ef_1_27 (m : MethodId) (w : Nat → Addr) : entryFrame m #[(.ref (w 11))] 1 = mkF m 0 #[.val (.ref (w 11))] [] := by first | (simp [entryFrame, mkF, argsToLocals, Value.category]; done) | rfl
def Q1_27 (Z : State) (w : Nat → Addr) (h0 : Heap) (n0 : Nat) (v : Option Value) (h : Heap) (L : List Loc) : Prop := v = some (.int (0 : Int32)) ∧ Fr n0 L ∧ h = h0
set_option maxRecDepth 65536 in
set_option maxHeartbeats 40000000 in
theorem rm1_27 (l : Launch) (Z : State) (a0 : Array Value) (hw : ∀ d ∈ tables_1, d.before a0 Z = true) (w : Nat → Addr) (hW : Wd Z w) (ws : List Jvm.Cond) (h0 : Heap) (n0 : Nat) (O0 : Old Z n0 h0) :
    MetFree l ym0 (head1 (Jvm.Cond.code ym0 prog_29_method_7_code 1 (some .boolean) :: ws) ({ frames := 0, cells := 0, slots := 0, locals := 0 } : Room)) (fun a U => a = #[(.ref (w 11))] ∧ Z.Warmed39 U.vm ∧ U.heap = h0) (fun _ _ _ _ _ => True) (fun _ U o U' => ∃ v L, o = .returned v ∧ Q1_27 Z w h0 n0 v U'.heap L ∧ FrameEnd U o U' L ({ frames := 0, cells := 0, slots := 0, locals := 0 } : Room).cells ({ frames := 0, cells := 0, slots := 0, locals := 0 } : Room).slots) := by
  refine MetFree.of_bodySF (plainFor_of_name pnc_0) hisR ?_
  intro p e s m args below meth c s₁ Bd hml0 hP hK
  obtain ⟨rfl, hZ, hh⟩ := hP
  have hx := Bd.exec
  have hby := Bd.bytes
  have hml : c.maxLocals = 1 := hml0
  have hown : s.vm.findClass "com/example/weftcheck/weftcheck/OperationKind" = some m.cls := findClass_of_methodNamed Bd.named
  have hnm := (name_of_methodNamed Bd.named Bd.method).1
  have X0 : Stand p l e ({ frames := 0, cells := 0, slots := 0, locals := 0 } : Room) s m #[(.ref (w 11))] below meth c s₁ [] 0 0 := Stand.of_body Bd
  have e0 : s₁.heap = h0 := by rw [← hh, Bd.state]; rfl
  have N0 := Fr.nil n0
  skip
  have pre0 : ∀ t, Steps p.tables e below (s₁.setTop (mkF m 0 #[.val (.ref (w 11))] [])) t → Steps p.tables e below (s₁.setTop (entryFrame m #[(.ref (w 11))] 1)) t := fun t k => castTop (ef_1_27 m w) k
  obtain ⟨T1, X1, e1, st1⟩ := getS2 X0 hx hZ hown (host := "") (Or.inl (wk37 hw)) Via.refl e0 ((wd6 hW).ext O0.2) (g := (mkF m 1 #[.val (.ref (w 11))] [(.ref (w 11))])) rfl (hb hby d1_1)
  obtain ⟨T2, X2, e2, st2⟩ := getS2 X1 hx hZ hown (host := "") (Or.inl (wk38 hw)) Via.refl e1 ((wd8 hW).ext O0.2) (g := (mkF m 8 #[.val (.ref (w 11))] [(.ref (w 11))])) rfl (hb hby d1_8)
  obtain ⟨T3, X3, e3, st3⟩ := getS2 X2 hx hZ hown (host := "") (Or.inl (wk39 hw)) Via.refl e2 ((wd10 hW).ext O0.2) (g := (mkF m 15 #[.val (.ref (w 11))] [(.ref (w 11))])) rfl (hb hby d1_15)
  obtain ⟨T4, X4, e4, st4⟩ := getS2 X3 hx hZ hown (host := "") (Or.inl (wk40 hw)) Via.refl e3 ((wd12 hW).ext O0.2) (g := (mkF m 22 #[.val (.ref (w 11))] [(.ref (w 11))])) rfl (hb hby d1_22)
  obtain ⟨T5, X5, e5, st5⟩ := getS2 X4 hx hZ hown (host := "") (Or.inl (wk41 hw)) Via.refl e4 ((wd14 hW).ext O0.2) (g := (mkF m 29 #[.val (.ref (w 11))] [(.ref (w 11))])) rfl (hb hby d1_29)
  obtain ⟨fs, hr, hrun, hended, hWm, hsame⟩ := X5.leave (v := some (.int (0 : Int32))) (fun h => by rw [Bd.returns] at h; cases h)
  refine ⟨_, _, pre0 _ ?_, hrun, hended, _, _, rfl, ?_, ⟨_, rfl⟩, hWm, hsame.mono (by decide) (by decide)⟩
  · show Steps p.tables e below (s₁.setTop (mkF m 0 #[.val (.ref (w 11))] [])) _
    refine sA X0 hx hby d1_0 rfl rfl ?_
    refine st1 _ ?_
    refine Jvm.RoadKit.acmp (g := (mkF m 4 #[.val (.ref (w 11))] [(.ref (w 3)), (.ref (w 11))])) X1 hx rfl rfl rfl (pc0 := 4) (pc' := 7) (same := false) rfl (hb hby d1_4) rfl (decide_eq_false fun q => (Fld.ne (wd34 hW) (wd27 hW) (by decide)) (Value.ref.inj q)) (by decide) (by decide) ?_
    refine sA X1 hx hby d1_7 rfl rfl ?_
    refine st2 _ ?_
    refine Jvm.RoadKit.acmp (g := (mkF m 11 #[.val (.ref (w 11))] [(.ref (w 4)), (.ref (w 11))])) X2 hx rfl rfl rfl (pc0 := 11) (pc' := 14) (same := false) rfl (hb hby d1_11) rfl (decide_eq_false fun q => (Fld.ne (wd34 hW) (wd28 hW) (by decide)) (Value.ref.inj q)) (by decide) (by decide) ?_
    refine sA X2 hx hby d1_14 rfl rfl ?_
    refine st3 _ ?_
    refine Jvm.RoadKit.acmp (g := (mkF m 18 #[.val (.ref (w 11))] [(.ref (w 5)), (.ref (w 11))])) X3 hx rfl rfl rfl (pc0 := 18) (pc' := 21) (same := false) rfl (hb hby d1_18) rfl (decide_eq_false fun q => (Fld.ne (wd34 hW) (wd29 hW) (by decide)) (Value.ref.inj q)) (by decide) (by decide) ?_
    refine sA X3 hx hby d1_21 rfl rfl ?_
    refine st4 _ ?_
    refine Jvm.RoadKit.acmp (g := (mkF m 25 #[.val (.ref (w 11))] [(.ref (w 6)), (.ref (w 11))])) X4 hx rfl rfl rfl (pc0 := 25) (pc' := 28) (same := false) rfl (hb hby d1_25) rfl (decide_eq_false fun q => (Fld.ne (wd34 hW) (wd30 hW) (by decide)) (Value.ref.inj q)) (by decide) (by decide) ?_
    refine sA X4 hx hby d1_28 rfl rfl ?_
    refine st5 _ ?_
    refine Jvm.RoadKit.acmp (g := (mkF m 32 #[.val (.ref (w 11))] [(.ref (w 7)), (.ref (w 11))])) X5 hx rfl rfl rfl (pc0 := 32) (pc' := 39) (same := false) rfl (hb hby d1_32) rfl (decide_eq_false fun q => (Fld.ne (wd34 hW) (wd31 hW) (by decide)) (Value.ref.inj q)) (by decide) (by decide) ?_
    refine sc X5 hx hby d1_39 ?_
    exact retN X5 hx (t := .boolean) Bd.returns (by simp) (hb hby d1_40) hr
  · show Q1_27 Z w h0 n0 _ T5.heap _
    rw [e5]
    exact ⟨rfl, N0, rfl⟩
theorem ef_1_28 (m : MethodId) (w : Nat → Addr) : entryFrame m #[(.ref (w 12))] 1 = mkF m 0 #[.val (.ref (w 12))] [] := by first | (simp [entryFrame, mkF, argsToLocals, Value.category]; done) | rfl
def Q1_28 (Z : State) (w : Nat → Addr) (h0 : Heap) (n0 : Nat) (v : Option Value) (h : Heap) (L : List Loc) : Prop := v = some (.int (0 : Int32)) ∧ Fr n0 L ∧ h = h0
set_option maxRecDepth 65536 in
set_option maxHeartbeats 40000000 in
theorem rm1_28 (l : Launch) (Z : State) (a0 : Array Value) (hw : ∀ d ∈ tables_1, d.before a0 Z = true) (w : Nat → Addr) (hW : Wd Z w) (ws : List Jvm.Cond) (h0 : Heap) (n0 : Nat) (O0 : Old Z n0 h0) :
    MetFree l ym0 (head1 (Jvm.Cond.code ym0 prog_29_method_7_code 1 (some .boolean) :: ws) ({ frames := 0, cells := 0, slots := 0, locals := 0 } : Room)) (fun a U => a = #[(.ref (w 12))] ∧ Z.Warmed39 U.vm ∧ U.heap = h0) (fun _ _ _ _ _ => True) (fun _ U o U' => ∃ v L, o = .returned v ∧ Q1_28 Z w h0 n0 v U'.heap L ∧ FrameEnd U o U' L ({ frames := 0, cells := 0, slots := 0, locals := 0 } : Room).cells ({ frames := 0, cells := 0, slots := 0, locals := 0 } : Room).slots) := by
  refine MetFree.of_bodySF (plainFor_of_name pnc_0) hisR ?_
  intro p e s m args below meth c s₁ Bd hml0 hP hK
  obtain ⟨rfl, hZ, hh⟩ := hP
  have hx := Bd.exec
  have hby := Bd.bytes
  have hml : c.maxLocals = 1 := hml0
  have hown : s.vm.findClass "com/example/weftcheck/weftcheck/OperationKind" = some m.cls := findClass_of_methodNamed Bd.named
  have hnm := (name_of_methodNamed Bd.named Bd.method).1
  have X0 : Stand p l e ({ frames := 0, cells := 0, slots := 0, locals := 0 } : Room) s m #[(.ref (w 12))] below meth c s₁ [] 0 0 := Stand.of_body Bd
  have e0 : s₁.heap = h0 := by rw [← hh, Bd.state]; rfl
  have N0 := Fr.nil n0
  skip
  have pre0 : ∀ t, Steps p.tables e below (s₁.setTop (mkF m 0 #[.val (.ref (w 12))] [])) t → Steps p.tables e below (s₁.setTop (entryFrame m #[(.ref (w 12))] 1)) t := fun t k => castTop (ef_1_28 m w) k
  obtain ⟨T1, X1, e1, st1⟩ := getS2 X0 hx hZ hown (host := "") (Or.inl (wk37 hw)) Via.refl e0 ((wd6 hW).ext O0.2) (g := (mkF m 1 #[.val (.ref (w 12))] [(.ref (w 12))])) rfl (hb hby d1_1)
  obtain ⟨T2, X2, e2, st2⟩ := getS2 X1 hx hZ hown (host := "") (Or.inl (wk38 hw)) Via.refl e1 ((wd8 hW).ext O0.2) (g := (mkF m 8 #[.val (.ref (w 12))] [(.ref (w 12))])) rfl (hb hby d1_8)
  obtain ⟨T3, X3, e3, st3⟩ := getS2 X2 hx hZ hown (host := "") (Or.inl (wk39 hw)) Via.refl e2 ((wd10 hW).ext O0.2) (g := (mkF m 15 #[.val (.ref (w 12))] [(.ref (w 12))])) rfl (hb hby d1_15)
  obtain ⟨T4, X4, e4, st4⟩ := getS2 X3 hx hZ hown (host := "") (Or.inl (wk40 hw)) Via.refl e3 ((wd12 hW).ext O0.2) (g := (mkF m 22 #[.val (.ref (w 12))] [(.ref (w 12))])) rfl (hb hby d1_22)
  obtain ⟨T5, X5, e5, st5⟩ := getS2 X4 hx hZ hown (host := "") (Or.inl (wk41 hw)) Via.refl e4 ((wd14 hW).ext O0.2) (g := (mkF m 29 #[.val (.ref (w 12))] [(.ref (w 12))])) rfl (hb hby d1_29)
  obtain ⟨fs, hr, hrun, hended, hWm, hsame⟩ := X5.leave (v := some (.int (0 : Int32))) (fun h => by rw [Bd.returns] at h; cases h)
  refine ⟨_, _, pre0 _ ?_, hrun, hended, _, _, rfl, ?_, ⟨_, rfl⟩, hWm, hsame.mono (by decide) (by decide)⟩
  · show Steps p.tables e below (s₁.setTop (mkF m 0 #[.val (.ref (w 12))] [])) _
    refine sA X0 hx hby d1_0 rfl rfl ?_
    refine st1 _ ?_
    refine Jvm.RoadKit.acmp (g := (mkF m 4 #[.val (.ref (w 12))] [(.ref (w 3)), (.ref (w 12))])) X1 hx rfl rfl rfl (pc0 := 4) (pc' := 7) (same := false) rfl (hb hby d1_4) rfl (decide_eq_false fun q => (Fld.ne (wd35 hW) (wd27 hW) (by decide)) (Value.ref.inj q)) (by decide) (by decide) ?_
    refine sA X1 hx hby d1_7 rfl rfl ?_
    refine st2 _ ?_
    refine Jvm.RoadKit.acmp (g := (mkF m 11 #[.val (.ref (w 12))] [(.ref (w 4)), (.ref (w 12))])) X2 hx rfl rfl rfl (pc0 := 11) (pc' := 14) (same := false) rfl (hb hby d1_11) rfl (decide_eq_false fun q => (Fld.ne (wd35 hW) (wd28 hW) (by decide)) (Value.ref.inj q)) (by decide) (by decide) ?_
    refine sA X2 hx hby d1_14 rfl rfl ?_
    refine st3 _ ?_
    refine Jvm.RoadKit.acmp (g := (mkF m 18 #[.val (.ref (w 12))] [(.ref (w 5)), (.ref (w 12))])) X3 hx rfl rfl rfl (pc0 := 18) (pc' := 21) (same := false) rfl (hb hby d1_18) rfl (decide_eq_false fun q => (Fld.ne (wd35 hW) (wd29 hW) (by decide)) (Value.ref.inj q)) (by decide) (by decide) ?_
    refine sA X3 hx hby d1_21 rfl rfl ?_
    refine st4 _ ?_
    refine Jvm.RoadKit.acmp (g := (mkF m 25 #[.val (.ref (w 12))] [(.ref (w 6)), (.ref (w 12))])) X4 hx rfl rfl rfl (pc0 := 25) (pc' := 28) (same := false) rfl (hb hby d1_25) rfl (decide_eq_false fun q => (Fld.ne (wd35 hW) (wd30 hW) (by decide)) (Value.ref.inj q)) (by decide) (by decide) ?_
    refine sA X4 hx hby d1_28 rfl rfl ?_
    refine st5 _ ?_
    refine Jvm.RoadKit.acmp (g := (mkF m 32 #[.val (.ref (w 12))] [(.ref (w 7)), (.ref (w 12))])) X5 hx rfl rfl rfl (pc0 := 32) (pc' := 39) (same := false) rfl (hb hby d1_32) rfl (decide_eq_false fun q => (Fld.ne (wd35 hW) (wd31 hW) (by decide)) (Value.ref.inj q)) (by decide) (by decide) ?_
    refine sc X5 hx hby d1_39 ?_
    exact retN X5 hx (t := .boolean) Bd.returns (by simp) (hb hby d1_40) hr
  · show Q1_28 Z w h0 n0 _ T5.heap _
    rw [e5]
    exact ⟨rfl, N0, rfl⟩
theorem ef_0_29 (m : MethodId) (p0 : Int32) : entryFrame m #[(.int p0)] maxLocals = mkF m 0 #[.val (.int p0), .unset, .unset, .unset, .unset, .unset] [] := by first | (simp [entryFrame, mkF, argsToLocals, Value.category, maxLocals]; done) | rfl
theorem pnc_1 : plainName "com/example/weftcheck/weftcheck/OperationKindUsesRowPinLaw" = true := by first | (simp [plainName, overriddenIn]; done) | decide +kernel
def Q0 (n0 : Nat) (v : Option Value) (h : Heap) (L : List Loc) : Prop := v = some (.int (1 : Int32)) ∧ Fr n0 L
set_option maxRecDepth 65536 in
set_option maxHeartbeats 400000000 in
theorem rm0 (l : Launch) (Z : State) (a0 : Array Value) (hw : ∀ d ∈ tables_1, d.before a0 Z = true) (w : Nat → Addr) (hW : Wd Z w) (ws : List Jvm.Cond) (p0 : Int32) (h0 : Heap) (n0 : Nat) (O0 : Old Z n0 h0) :
    MetFree l x (head1 (Jvm.Cond.code x code maxLocals ret :: ws) room_1) (fun a U => a = #[(.int p0)] ∧ Z.Warmed39 U.vm ∧ U.heap = h0) (fun _ _ _ _ _ => True) (fun _ U o U' => ∃ v L, o = .returned v ∧ Q0 n0 v U'.heap L ∧ FrameEnd U o U' L room_1.cells room_1.slots) := by
  refine MetFree.of_bodySF (plainFor_of_name pnc_1) hisR ?_
  intro p e s m args below meth c s₁ Bd hml0 hP hK
  obtain ⟨rfl, hZ, hh⟩ := hP
  have hx := Bd.exec
  have hby := Bd.bytes
  have hml : c.maxLocals = 6 := hml0
  have hown : s.vm.findClass "com/example/weftcheck/weftcheck/OperationKindUsesRowPinLaw" = some m.cls := findClass_of_methodNamed Bd.named
  have hnm := (name_of_methodNamed Bd.named Bd.method).1
  have X0 : Stand p l e room_1 s m #[(.int p0)] below meth c s₁ [] 0 0 := Stand.of_body Bd
  have e0 : s₁.heap = h0 := by rw [← hh, Bd.state]; rfl
  have N0 := Fr.nil n0
  let La : Array Slot := #[.val (.int p0), .unset, .unset, .unset, .unset, .unset]
  have pre0 : ∀ t, Steps p.tables e below (s₁.setTop (mkF m 0 #[.val (.int p0), .unset, .unset, .unset, .unset, .unset] [])) t → Steps p.tables e below (s₁.setTop (entryFrame m #[(.int p0)] maxLocals)) t := fun t k => castTop (ef_0_29 m p0) k
  obtain ⟨T1, h1, k1, X1, e1, E1, A1, Ov1, st1⟩ := newR X0 hx hZ hown (wk0 hw) (wk1 hw) e0 (g := (mkF m 2 La [(.int (13 : Int32))])) rfl (hb hby at_2) rfl (by decide) (cap := 13) (by decide) (by decide) (by decide) (by decide)
  obtain ⟨b1, g1⟩ : ∃ z, z = h0.size := ⟨_, rfl⟩
  rw [← g1] at A1 st1
  have gg1 : n0 ≤ b1 := by rw [← O0.1, g1]; exact O0.2.1
  have O2 := O0.ext E1
  have V1 : Arv Z h1 b1 k1 (.object "com/example/weftcheck/weftcheck/OperationKind") (13 : Int32) [.null, .null, .null, .null, .null, .null, .null, .null, .null, .null, .null, .null, .null] .null := own_pad (dv := .null) (Arv.new A1 (by decide)) 13 _ rfl
  obtain ⟨T3, X3, e3, st3⟩ := getS2 X1 hx hZ hown (host := "") (Or.inl (wk2 hw)) Via.refl e1 ((wd0 hW).ext O2.2) (g := (mkF m 7 La [(.int (0 : Int32)), (.ref b1), (.ref b1)])) rfl (hb hby at_7)
  obtain ⟨cl4, Ar4, cw4, S4, Nn4, Hs4, G4⟩ := id (V1)
  have hin4 : ¬ ((0 : Int32) < 0 ∨ cl4.slots.size ≤ ((0 : Int32)).toNatClampNeg) := inb_of S4 ⟨by decide, by decide⟩
  obtain ⟨T4, h4, X4, e4, W4, st4⟩ := stR X3 hx hZ e3 Ar4 (j := (0 : Int32)) hin4 rfl (Sto.ofV Ar4 cw4 Ov1 (Ins.self ((wd1 hW).ext O2.2))) (g := (mkF m 10 La [(.ref (w 0)), (.int (0 : Int32)), (.ref b1), (.ref b1)])) rfl rfl (hb hby at_10)
  have V4 : Arv Z h4 b1 k1 (.object "com/example/weftcheck/weftcheck/OperationKind") (13 : Int32) [(.ref (w 0)), .null, .null, .null, .null, .null, .null, .null, .null, .null, .null, .null, .null] .null := own_set Ar4 cw4 S4 Nn4 Hs4 G4 rfl W4 0 rfl (Nat.le_of_ble_eq_true rfl) (.ref (w 0)) rfl _ rfl
  have N4 := Fr.snoc X4 N0 gg1
  have O5 := O2.wr W4 gg1
  obtain ⟨T6, X6, e6, st6⟩ := getS2 X4 hx hZ hown (host := "") (Or.inl (wk6 hw)) Via.refl e4 ((wd2 hW).ext O5.2) (g := (mkF m 13 La [(.int (1 : Int32)), (.ref b1), (.ref b1)])) rfl (hb hby at_13)
  obtain ⟨cl7, Ar7, cw7, S7, Nn7, Hs7, G7⟩ := id (V4)
  have hin7 : ¬ ((1 : Int32) < 0 ∨ cl7.slots.size ≤ ((1 : Int32)).toNatClampNeg) := inb_of S7 ⟨by decide, by decide⟩
  obtain ⟨T7, h7, X7, e7, W7, st7⟩ := stR X6 hx hZ e6 Ar7 (j := (1 : Int32)) hin7 rfl (Sto.ofV Ar7 cw7 Ov1 (Ins.self ((wd3 hW).ext O5.2))) (g := (mkF m 16 La [(.ref (w 1)), (.int (1 : Int32)), (.ref b1), (.ref b1)])) rfl rfl (hb hby at_16)
  have V7 : Arv Z h7 b1 k1 (.object "com/example/weftcheck/weftcheck/OperationKind") (13 : Int32) [(.ref (w 0)), (.ref (w 1)), .null, .null, .null, .null, .null, .null, .null, .null, .null, .null, .null] .null := own_set Ar7 cw7 S7 Nn7 Hs7 G7 rfl W7 1 rfl (Nat.le_of_ble_eq_true rfl) (.ref (w 1)) rfl _ rfl
  have N7 := Fr.snoc X7 N4 gg1
  have O8 := O5.wr W7 gg1
  obtain ⟨T9, X9, e9, st9⟩ := getS2 X7 hx hZ hown (host := "") (Or.inl (wk8 hw)) Via.refl e7 ((wd4 hW).ext O8.2) (g := (mkF m 19 La [(.int (2 : Int32)), (.ref b1), (.ref b1)])) rfl (hb hby at_19)
  obtain ⟨cl10, Ar10, cw10, S10, Nn10, Hs10, G10⟩ := id (V7)
  have hin10 : ¬ ((2 : Int32) < 0 ∨ cl10.slots.size ≤ ((2 : Int32)).toNatClampNeg) := inb_of S10 ⟨by decide, by decide⟩
  obtain ⟨T10, h10, X10, e10, W10, st10⟩ := stR X9 hx hZ e9 Ar10 (j := (2 : Int32)) hin10 rfl (Sto.ofV Ar10 cw10 Ov1 (Ins.self ((wd5 hW).ext O8.2))) (g := (mkF m 22 La [(.ref (w 2)), (.int (2 : Int32)), (.ref b1), (.ref b1)])) rfl rfl (hb hby at_22)
  have V10 : Arv Z h10 b1 k1 (.object "com/example/weftcheck/weftcheck/OperationKind") (13 : Int32) [(.ref (w 0)), (.ref (w 1)), (.ref (w 2)), .null, .null, .null, .null, .null, .null, .null, .null, .null, .null] .null := own_set Ar10 cw10 S10 Nn10 Hs10 G10 rfl W10 2 rfl (Nat.le_of_ble_eq_true rfl) (.ref (w 2)) rfl _ rfl
  have N10 := Fr.snoc X10 N7 gg1
  have O11 := O8.wr W10 gg1
  obtain ⟨T12, X12, e12, st12⟩ := getS2 X10 hx hZ hown (host := "") (Or.inl (wk10 hw)) Via.refl e10 ((wd6 hW).ext O11.2) (g := (mkF m 25 La [(.int (3 : Int32)), (.ref b1), (.ref b1)])) rfl (hb hby at_25)
  obtain ⟨cl13, Ar13, cw13, S13, Nn13, Hs13, G13⟩ := id (V10)
  have hin13 : ¬ ((3 : Int32) < 0 ∨ cl13.slots.size ≤ ((3 : Int32)).toNatClampNeg) := inb_of S13 ⟨by decide, by decide⟩
  obtain ⟨T13, h13, X13, e13, W13, st13⟩ := stR X12 hx hZ e12 Ar13 (j := (3 : Int32)) hin13 rfl (Sto.ofV Ar13 cw13 Ov1 (Ins.self ((wd7 hW).ext O11.2))) (g := (mkF m 28 La [(.ref (w 3)), (.int (3 : Int32)), (.ref b1), (.ref b1)])) rfl rfl (hb hby at_28)
  have V13 : Arv Z h13 b1 k1 (.object "com/example/weftcheck/weftcheck/OperationKind") (13 : Int32) [(.ref (w 0)), (.ref (w 1)), (.ref (w 2)), (.ref (w 3)), .null, .null, .null, .null, .null, .null, .null, .null, .null] .null := own_set Ar13 cw13 S13 Nn13 Hs13 G13 rfl W13 3 rfl (Nat.le_of_ble_eq_true rfl) (.ref (w 3)) rfl _ rfl
  have N13 := Fr.snoc X13 N10 gg1
  have O14 := O11.wr W13 gg1
  obtain ⟨T15, X15, e15, st15⟩ := getS2 X13 hx hZ hown (host := "") (Or.inl (wk12 hw)) Via.refl e13 ((wd8 hW).ext O14.2) (g := (mkF m 31 La [(.int (4 : Int32)), (.ref b1), (.ref b1)])) rfl (hb hby at_31)
  obtain ⟨cl16, Ar16, cw16, S16, Nn16, Hs16, G16⟩ := id (V13)
  have hin16 : ¬ ((4 : Int32) < 0 ∨ cl16.slots.size ≤ ((4 : Int32)).toNatClampNeg) := inb_of S16 ⟨by decide, by decide⟩
  obtain ⟨T16, h16, X16, e16, W16, st16⟩ := stR X15 hx hZ e15 Ar16 (j := (4 : Int32)) hin16 rfl (Sto.ofV Ar16 cw16 Ov1 (Ins.self ((wd9 hW).ext O14.2))) (g := (mkF m 34 La [(.ref (w 4)), (.int (4 : Int32)), (.ref b1), (.ref b1)])) rfl rfl (hb hby at_34)
  have V16 : Arv Z h16 b1 k1 (.object "com/example/weftcheck/weftcheck/OperationKind") (13 : Int32) [(.ref (w 0)), (.ref (w 1)), (.ref (w 2)), (.ref (w 3)), (.ref (w 4)), .null, .null, .null, .null, .null, .null, .null, .null] .null := own_set Ar16 cw16 S16 Nn16 Hs16 G16 rfl W16 4 rfl (Nat.le_of_ble_eq_true rfl) (.ref (w 4)) rfl _ rfl
  have N16 := Fr.snoc X16 N13 gg1
  have O17 := O14.wr W16 gg1
  obtain ⟨T18, X18, e18, st18⟩ := getS2 X16 hx hZ hown (host := "") (Or.inl (wk14 hw)) Via.refl e16 ((wd10 hW).ext O17.2) (g := (mkF m 37 La [(.int (5 : Int32)), (.ref b1), (.ref b1)])) rfl (hb hby at_37)
  obtain ⟨cl19, Ar19, cw19, S19, Nn19, Hs19, G19⟩ := id (V16)
  have hin19 : ¬ ((5 : Int32) < 0 ∨ cl19.slots.size ≤ ((5 : Int32)).toNatClampNeg) := inb_of S19 ⟨by decide, by decide⟩
  obtain ⟨T19, h19, X19, e19, W19, st19⟩ := stR X18 hx hZ e18 Ar19 (j := (5 : Int32)) hin19 rfl (Sto.ofV Ar19 cw19 Ov1 (Ins.self ((wd11 hW).ext O17.2))) (g := (mkF m 40 La [(.ref (w 5)), (.int (5 : Int32)), (.ref b1), (.ref b1)])) rfl rfl (hb hby at_40)
  have V19 : Arv Z h19 b1 k1 (.object "com/example/weftcheck/weftcheck/OperationKind") (13 : Int32) [(.ref (w 0)), (.ref (w 1)), (.ref (w 2)), (.ref (w 3)), (.ref (w 4)), (.ref (w 5)), .null, .null, .null, .null, .null, .null, .null] .null := own_set Ar19 cw19 S19 Nn19 Hs19 G19 rfl W19 5 rfl (Nat.le_of_ble_eq_true rfl) (.ref (w 5)) rfl _ rfl
  have N19 := Fr.snoc X19 N16 gg1
  have O20 := O17.wr W19 gg1
  obtain ⟨T21, X21, e21, st21⟩ := getS2 X19 hx hZ hown (host := "") (Or.inl (wk16 hw)) Via.refl e19 ((wd12 hW).ext O20.2) (g := (mkF m 44 La [(.int (6 : Int32)), (.ref b1), (.ref b1)])) rfl (hb hby at_44)
  obtain ⟨cl22, Ar22, cw22, S22, Nn22, Hs22, G22⟩ := id (V19)
  have hin22 : ¬ ((6 : Int32) < 0 ∨ cl22.slots.size ≤ ((6 : Int32)).toNatClampNeg) := inb_of S22 ⟨by decide, by decide⟩
  obtain ⟨T22, h22, X22, e22, W22, st22⟩ := stR X21 hx hZ e21 Ar22 (j := (6 : Int32)) hin22 rfl (Sto.ofV Ar22 cw22 Ov1 (Ins.self ((wd13 hW).ext O20.2))) (g := (mkF m 47 La [(.ref (w 6)), (.int (6 : Int32)), (.ref b1), (.ref b1)])) rfl rfl (hb hby at_47)
  have V22 : Arv Z h22 b1 k1 (.object "com/example/weftcheck/weftcheck/OperationKind") (13 : Int32) [(.ref (w 0)), (.ref (w 1)), (.ref (w 2)), (.ref (w 3)), (.ref (w 4)), (.ref (w 5)), (.ref (w 6)), .null, .null, .null, .null, .null, .null] .null := own_set Ar22 cw22 S22 Nn22 Hs22 G22 rfl W22 6 rfl (Nat.le_of_ble_eq_true rfl) (.ref (w 6)) rfl _ rfl
  have N22 := Fr.snoc X22 N19 gg1
  have O23 := O20.wr W22 gg1
  obtain ⟨T24, X24, e24, st24⟩ := getS2 X22 hx hZ hown (host := "") (Or.inl (wk18 hw)) Via.refl e22 ((wd14 hW).ext O23.2) (g := (mkF m 51 La [(.int (7 : Int32)), (.ref b1), (.ref b1)])) rfl (hb hby at_51)
  obtain ⟨cl25, Ar25, cw25, S25, Nn25, Hs25, G25⟩ := id (V22)
  have hin25 : ¬ ((7 : Int32) < 0 ∨ cl25.slots.size ≤ ((7 : Int32)).toNatClampNeg) := inb_of S25 ⟨by decide, by decide⟩
  obtain ⟨T25, h25, X25, e25, W25, st25⟩ := stR X24 hx hZ e24 Ar25 (j := (7 : Int32)) hin25 rfl (Sto.ofV Ar25 cw25 Ov1 (Ins.self ((wd15 hW).ext O23.2))) (g := (mkF m 54 La [(.ref (w 7)), (.int (7 : Int32)), (.ref b1), (.ref b1)])) rfl rfl (hb hby at_54)
  have V25 : Arv Z h25 b1 k1 (.object "com/example/weftcheck/weftcheck/OperationKind") (13 : Int32) [(.ref (w 0)), (.ref (w 1)), (.ref (w 2)), (.ref (w 3)), (.ref (w 4)), (.ref (w 5)), (.ref (w 6)), (.ref (w 7)), .null, .null, .null, .null, .null] .null := own_set Ar25 cw25 S25 Nn25 Hs25 G25 rfl W25 7 rfl (Nat.le_of_ble_eq_true rfl) (.ref (w 7)) rfl _ rfl
  have N25 := Fr.snoc X25 N22 gg1
  have O26 := O23.wr W25 gg1
  obtain ⟨T27, X27, e27, st27⟩ := getS2 X25 hx hZ hown (host := "") (Or.inl (wk20 hw)) Via.refl e25 ((wd16 hW).ext O26.2) (g := (mkF m 58 La [(.int (8 : Int32)), (.ref b1), (.ref b1)])) rfl (hb hby at_58)
  obtain ⟨cl28, Ar28, cw28, S28, Nn28, Hs28, G28⟩ := id (V25)
  have hin28 : ¬ ((8 : Int32) < 0 ∨ cl28.slots.size ≤ ((8 : Int32)).toNatClampNeg) := inb_of S28 ⟨by decide, by decide⟩
  obtain ⟨T28, h28, X28, e28, W28, st28⟩ := stR X27 hx hZ e27 Ar28 (j := (8 : Int32)) hin28 rfl (Sto.ofV Ar28 cw28 Ov1 (Ins.self ((wd17 hW).ext O26.2))) (g := (mkF m 61 La [(.ref (w 8)), (.int (8 : Int32)), (.ref b1), (.ref b1)])) rfl rfl (hb hby at_61)
  have V28 : Arv Z h28 b1 k1 (.object "com/example/weftcheck/weftcheck/OperationKind") (13 : Int32) [(.ref (w 0)), (.ref (w 1)), (.ref (w 2)), (.ref (w 3)), (.ref (w 4)), (.ref (w 5)), (.ref (w 6)), (.ref (w 7)), (.ref (w 8)), .null, .null, .null, .null] .null := own_set Ar28 cw28 S28 Nn28 Hs28 G28 rfl W28 8 rfl (Nat.le_of_ble_eq_true rfl) (.ref (w 8)) rfl _ rfl
  have N28 := Fr.snoc X28 N25 gg1
  have O29 := O26.wr W28 gg1
  obtain ⟨T30, X30, e30, st30⟩ := getS2 X28 hx hZ hown (host := "") (Or.inl (wk22 hw)) Via.refl e28 ((wd18 hW).ext O29.2) (g := (mkF m 65 La [(.int (9 : Int32)), (.ref b1), (.ref b1)])) rfl (hb hby at_65)
  obtain ⟨cl31, Ar31, cw31, S31, Nn31, Hs31, G31⟩ := id (V28)
  have hin31 : ¬ ((9 : Int32) < 0 ∨ cl31.slots.size ≤ ((9 : Int32)).toNatClampNeg) := inb_of S31 ⟨by decide, by decide⟩
  obtain ⟨T31, h31, X31, e31, W31, st31⟩ := stR X30 hx hZ e30 Ar31 (j := (9 : Int32)) hin31 rfl (Sto.ofV Ar31 cw31 Ov1 (Ins.self ((wd19 hW).ext O29.2))) (g := (mkF m 68 La [(.ref (w 9)), (.int (9 : Int32)), (.ref b1), (.ref b1)])) rfl rfl (hb hby at_68)
  have V31 : Arv Z h31 b1 k1 (.object "com/example/weftcheck/weftcheck/OperationKind") (13 : Int32) [(.ref (w 0)), (.ref (w 1)), (.ref (w 2)), (.ref (w 3)), (.ref (w 4)), (.ref (w 5)), (.ref (w 6)), (.ref (w 7)), (.ref (w 8)), (.ref (w 9)), .null, .null, .null] .null := own_set Ar31 cw31 S31 Nn31 Hs31 G31 rfl W31 9 rfl (Nat.le_of_ble_eq_true rfl) (.ref (w 9)) rfl _ rfl
  have N31 := Fr.snoc X31 N28 gg1
  have O32 := O29.wr W31 gg1
  obtain ⟨T33, X33, e33, st33⟩ := getS2 X31 hx hZ hown (host := "") (Or.inl (wk24 hw)) Via.refl e31 ((wd20 hW).ext O32.2) (g := (mkF m 72 La [(.int (10 : Int32)), (.ref b1), (.ref b1)])) rfl (hb hby at_72)
  obtain ⟨cl34, Ar34, cw34, S34, Nn34, Hs34, G34⟩ := id (V31)
  have hin34 : ¬ ((10 : Int32) < 0 ∨ cl34.slots.size ≤ ((10 : Int32)).toNatClampNeg) := inb_of S34 ⟨by decide, by decide⟩
  obtain ⟨T34, h34, X34, e34, W34, st34⟩ := stR X33 hx hZ e33 Ar34 (j := (10 : Int32)) hin34 rfl (Sto.ofV Ar34 cw34 Ov1 (Ins.self ((wd21 hW).ext O32.2))) (g := (mkF m 75 La [(.ref (w 10)), (.int (10 : Int32)), (.ref b1), (.ref b1)])) rfl rfl (hb hby at_75)
  have V34 : Arv Z h34 b1 k1 (.object "com/example/weftcheck/weftcheck/OperationKind") (13 : Int32) [(.ref (w 0)), (.ref (w 1)), (.ref (w 2)), (.ref (w 3)), (.ref (w 4)), (.ref (w 5)), (.ref (w 6)), (.ref (w 7)), (.ref (w 8)), (.ref (w 9)), (.ref (w 10)), .null, .null] .null := own_set Ar34 cw34 S34 Nn34 Hs34 G34 rfl W34 10 rfl (Nat.le_of_ble_eq_true rfl) (.ref (w 10)) rfl _ rfl
  have N34 := Fr.snoc X34 N31 gg1
  have O35 := O32.wr W34 gg1
  obtain ⟨T36, X36, e36, st36⟩ := getS2 X34 hx hZ hown (host := "") (Or.inl (wk26 hw)) Via.refl e34 ((wd22 hW).ext O35.2) (g := (mkF m 79 La [(.int (11 : Int32)), (.ref b1), (.ref b1)])) rfl (hb hby at_79)
  obtain ⟨cl37, Ar37, cw37, S37, Nn37, Hs37, G37⟩ := id (V34)
  have hin37 : ¬ ((11 : Int32) < 0 ∨ cl37.slots.size ≤ ((11 : Int32)).toNatClampNeg) := inb_of S37 ⟨by decide, by decide⟩
  obtain ⟨T37, h37, X37, e37, W37, st37⟩ := stR X36 hx hZ e36 Ar37 (j := (11 : Int32)) hin37 rfl (Sto.ofV Ar37 cw37 Ov1 (Ins.self ((wd23 hW).ext O35.2))) (g := (mkF m 82 La [(.ref (w 11)), (.int (11 : Int32)), (.ref b1), (.ref b1)])) rfl rfl (hb hby at_82)
  have V37 : Arv Z h37 b1 k1 (.object "com/example/weftcheck/weftcheck/OperationKind") (13 : Int32) [(.ref (w 0)), (.ref (w 1)), (.ref (w 2)), (.ref (w 3)), (.ref (w 4)), (.ref (w 5)), (.ref (w 6)), (.ref (w 7)), (.ref (w 8)), (.ref (w 9)), (.ref (w 10)), (.ref (w 11)), .null] .null := own_set Ar37 cw37 S37 Nn37 Hs37 G37 rfl W37 11 rfl (Nat.le_of_ble_eq_true rfl) (.ref (w 11)) rfl _ rfl
  have N37 := Fr.snoc X37 N34 gg1
  have O38 := O35.wr W37 gg1
  obtain ⟨T39, X39, e39, st39⟩ := getS2 X37 hx hZ hown (host := "") (Or.inl (wk28 hw)) Via.refl e37 ((wd24 hW).ext O38.2) (g := (mkF m 86 La [(.int (12 : Int32)), (.ref b1), (.ref b1)])) rfl (hb hby at_86)
  obtain ⟨cl40, Ar40, cw40, S40, Nn40, Hs40, G40⟩ := id (V37)
  have hin40 : ¬ ((12 : Int32) < 0 ∨ cl40.slots.size ≤ ((12 : Int32)).toNatClampNeg) := inb_of S40 ⟨by decide, by decide⟩
  obtain ⟨T40, h40, X40, e40, W40, st40⟩ := stR X39 hx hZ e39 Ar40 (j := (12 : Int32)) hin40 rfl (Sto.ofV Ar40 cw40 Ov1 (Ins.self ((wd25 hW).ext O38.2))) (g := (mkF m 89 La [(.ref (w 12)), (.int (12 : Int32)), (.ref b1), (.ref b1)])) rfl rfl (hb hby at_89)
  have V40 : Arv Z h40 b1 k1 (.object "com/example/weftcheck/weftcheck/OperationKind") (13 : Int32) [(.ref (w 0)), (.ref (w 1)), (.ref (w 2)), (.ref (w 3)), (.ref (w 4)), (.ref (w 5)), (.ref (w 6)), (.ref (w 7)), (.ref (w 8)), (.ref (w 9)), (.ref (w 10)), (.ref (w 11)), (.ref (w 12))] .null := own_set Ar40 cw40 S40 Nn40 Hs40 G40 rfl W40 12 rfl (Nat.le_of_ble_eq_true rfl) (.ref (w 12)) rfl _ rfl
  have N40 := Fr.snoc X40 N37 gg1
  have O41 := O38.wr W40 gg1
  let Lb42 : Array Slot := #[.val (.int p0), .val (.ref b1), .unset, .unset, .unset, .unset]
  obtain ⟨T43, h43, k43, X43, e43, E43, A43, st43⟩ := newP (aty := .boolean) X40 hx hZ (wk30 hw) e40 (g := (mkF m 93 Lb42 [(.int (13 : Int32))])) rfl (hb hby at_93) rfl (by decide) (cap := 13) (by decide) (by decide) (by decide) (by decide)
  obtain ⟨b43, g43⟩ : ∃ z, z = h40.size := ⟨_, rfl⟩
  rw [← g43] at A43 st43
  have gg43 : n0 ≤ b43 := by rw [← O41.1, g43]; exact O41.2.1
  have O44 := O41.ext E43
  have V43 : Arv Z h43 b43 k43 .boolean (13 : Int32) [(.int (0 : Int32)), (.int (0 : Int32)), (.int (0 : Int32)), (.int (0 : Int32)), (.int (0 : Int32)), (.int (0 : Int32)), (.int (0 : Int32)), (.int (0 : Int32)), (.int (0 : Int32)), (.int (0 : Int32)), (.int (0 : Int32)), (.int (0 : Int32)), (.int (0 : Int32))] (.int (0 : Int32)) := own_pad (dv := (.int (0 : Int32))) (Arv.new A43 (by decide)) 13 _ rfl
  obtain ⟨cl45, Ar45, cw45, S45, Nn45, Hs45, G45⟩ := id (V43)
  have hin45 : ¬ ((0 : Int32) < 0 ∨ cl45.slots.size ≤ ((0 : Int32)).toNatClampNeg) := inb_of S45 ⟨by decide, by decide⟩
  obtain ⟨T45, h45, X45, e45, W45, st45⟩ := stZ X43 hx hZ e43 Ar45 (j := (0 : Int32)) hin45 (g := (mkF m 98 Lb42 [(.int (0 : Int32)), (.int (0 : Int32)), (.ref b43), (.ref b43)])) rfl rfl (hb hby at_98)
  have V45 : Arv Z h45 b43 k43 .boolean (13 : Int32) [(.int (0 : Int32)), (.int (0 : Int32)), (.int (0 : Int32)), (.int (0 : Int32)), (.int (0 : Int32)), (.int (0 : Int32)), (.int (0 : Int32)), (.int (0 : Int32)), (.int (0 : Int32)), (.int (0 : Int32)), (.int (0 : Int32)), (.int (0 : Int32)), (.int (0 : Int32))] (.int (0 : Int32)) := own_set Ar45 cw45 S45 Nn45 Hs45 G45 (fits_nar_bool _) W45 0 rfl (Nat.le_of_ble_eq_true rfl) (.int (0 : Int32)) (congrArg Value.int (by decide)) _ rfl
  have N45 := Fr.snoc X45 N40 gg43
  have O46 := O44.wr W45 gg43
  obtain ⟨cl47, Ar47, cw47, S47, Nn47, Hs47, G47⟩ := id (V45)
  have hin47 : ¬ ((1 : Int32) < 0 ∨ cl47.slots.size ≤ ((1 : Int32)).toNatClampNeg) := inb_of S47 ⟨by decide, by decide⟩
  obtain ⟨T47, h47, X47, e47, W47, st47⟩ := stZ X45 hx hZ e45 Ar47 (j := (1 : Int32)) hin47 (g := (mkF m 102 Lb42 [(.int (0 : Int32)), (.int (1 : Int32)), (.ref b43), (.ref b43)])) rfl rfl (hb hby at_102)
  have V47 : Arv Z h47 b43 k43 .boolean (13 : Int32) [(.int (0 : Int32)), (.int (0 : Int32)), (.int (0 : Int32)), (.int (0 : Int32)), (.int (0 : Int32)), (.int (0 : Int32)), (.int (0 : Int32)), (.int (0 : Int32)), (.int (0 : Int32)), (.int (0 : Int32)), (.int (0 : Int32)), (.int (0 : Int32)), (.int (0 : Int32))] (.int (0 : Int32)) := own_set Ar47 cw47 S47 Nn47 Hs47 G47 (fits_nar_bool _) W47 1 rfl (Nat.le_of_ble_eq_true rfl) (.int (0 : Int32)) (congrArg Value.int (by decide)) _ rfl
  have N47 := Fr.snoc X47 N45 gg43
  have O48 := O46.wr W47 gg43
  obtain ⟨cl49, Ar49, cw49, S49, Nn49, Hs49, G49⟩ := id (V47)
  have hin49 : ¬ ((2 : Int32) < 0 ∨ cl49.slots.size ≤ ((2 : Int32)).toNatClampNeg) := inb_of S49 ⟨by decide, by decide⟩
  obtain ⟨T49, h49, X49, e49, W49, st49⟩ := stZ X47 hx hZ e47 Ar49 (j := (2 : Int32)) hin49 (g := (mkF m 106 Lb42 [(.int (0 : Int32)), (.int (2 : Int32)), (.ref b43), (.ref b43)])) rfl rfl (hb hby at_106)
  have V49 : Arv Z h49 b43 k43 .boolean (13 : Int32) [(.int (0 : Int32)), (.int (0 : Int32)), (.int (0 : Int32)), (.int (0 : Int32)), (.int (0 : Int32)), (.int (0 : Int32)), (.int (0 : Int32)), (.int (0 : Int32)), (.int (0 : Int32)), (.int (0 : Int32)), (.int (0 : Int32)), (.int (0 : Int32)), (.int (0 : Int32))] (.int (0 : Int32)) := own_set Ar49 cw49 S49 Nn49 Hs49 G49 (fits_nar_bool _) W49 2 rfl (Nat.le_of_ble_eq_true rfl) (.int (0 : Int32)) (congrArg Value.int (by decide)) _ rfl
  have N49 := Fr.snoc X49 N47 gg43
  have O50 := O48.wr W49 gg43
  obtain ⟨cl51, Ar51, cw51, S51, Nn51, Hs51, G51⟩ := id (V49)
  have hin51 : ¬ ((3 : Int32) < 0 ∨ cl51.slots.size ≤ ((3 : Int32)).toNatClampNeg) := inb_of S51 ⟨by decide, by decide⟩
  obtain ⟨T51, h51, X51, e51, W51, st51⟩ := stZ X49 hx hZ e49 Ar51 (j := (3 : Int32)) hin51 (g := (mkF m 110 Lb42 [(.int (1 : Int32)), (.int (3 : Int32)), (.ref b43), (.ref b43)])) rfl rfl (hb hby at_110)
  have V51 : Arv Z h51 b43 k43 .boolean (13 : Int32) [(.int (0 : Int32)), (.int (0 : Int32)), (.int (0 : Int32)), (.int (1 : Int32)), (.int (0 : Int32)), (.int (0 : Int32)), (.int (0 : Int32)), (.int (0 : Int32)), (.int (0 : Int32)), (.int (0 : Int32)), (.int (0 : Int32)), (.int (0 : Int32)), (.int (0 : Int32))] (.int (0 : Int32)) := own_set Ar51 cw51 S51 Nn51 Hs51 G51 (fits_nar_bool _) W51 3 rfl (Nat.le_of_ble_eq_true rfl) (.int (1 : Int32)) (congrArg Value.int (by decide)) _ rfl
  have N51 := Fr.snoc X51 N49 gg43
  have O52 := O50.wr W51 gg43
  obtain ⟨cl53, Ar53, cw53, S53, Nn53, Hs53, G53⟩ := id (V51)
  have hin53 : ¬ ((4 : Int32) < 0 ∨ cl53.slots.size ≤ ((4 : Int32)).toNatClampNeg) := inb_of S53 ⟨by decide, by decide⟩
  obtain ⟨T53, h53, X53, e53, W53, st53⟩ := stZ X51 hx hZ e51 Ar53 (j := (4 : Int32)) hin53 (g := (mkF m 114 Lb42 [(.int (1 : Int32)), (.int (4 : Int32)), (.ref b43), (.ref b43)])) rfl rfl (hb hby at_114)
  have V53 : Arv Z h53 b43 k43 .boolean (13 : Int32) [(.int (0 : Int32)), (.int (0 : Int32)), (.int (0 : Int32)), (.int (1 : Int32)), (.int (1 : Int32)), (.int (0 : Int32)), (.int (0 : Int32)), (.int (0 : Int32)), (.int (0 : Int32)), (.int (0 : Int32)), (.int (0 : Int32)), (.int (0 : Int32)), (.int (0 : Int32))] (.int (0 : Int32)) := own_set Ar53 cw53 S53 Nn53 Hs53 G53 (fits_nar_bool _) W53 4 rfl (Nat.le_of_ble_eq_true rfl) (.int (1 : Int32)) (congrArg Value.int (by decide)) _ rfl
  have N53 := Fr.snoc X53 N51 gg43
  have O54 := O52.wr W53 gg43
  obtain ⟨cl55, Ar55, cw55, S55, Nn55, Hs55, G55⟩ := id (V53)
  have hin55 : ¬ ((5 : Int32) < 0 ∨ cl55.slots.size ≤ ((5 : Int32)).toNatClampNeg) := inb_of S55 ⟨by decide, by decide⟩
  obtain ⟨T55, h55, X55, e55, W55, st55⟩ := stZ X53 hx hZ e53 Ar55 (j := (5 : Int32)) hin55 (g := (mkF m 118 Lb42 [(.int (1 : Int32)), (.int (5 : Int32)), (.ref b43), (.ref b43)])) rfl rfl (hb hby at_118)
  have V55 : Arv Z h55 b43 k43 .boolean (13 : Int32) [(.int (0 : Int32)), (.int (0 : Int32)), (.int (0 : Int32)), (.int (1 : Int32)), (.int (1 : Int32)), (.int (1 : Int32)), (.int (0 : Int32)), (.int (0 : Int32)), (.int (0 : Int32)), (.int (0 : Int32)), (.int (0 : Int32)), (.int (0 : Int32)), (.int (0 : Int32))] (.int (0 : Int32)) := own_set Ar55 cw55 S55 Nn55 Hs55 G55 (fits_nar_bool _) W55 5 rfl (Nat.le_of_ble_eq_true rfl) (.int (1 : Int32)) (congrArg Value.int (by decide)) _ rfl
  have N55 := Fr.snoc X55 N53 gg43
  have O56 := O54.wr W55 gg43
  obtain ⟨cl57, Ar57, cw57, S57, Nn57, Hs57, G57⟩ := id (V55)
  have hin57 : ¬ ((6 : Int32) < 0 ∨ cl57.slots.size ≤ ((6 : Int32)).toNatClampNeg) := inb_of S57 ⟨by decide, by decide⟩
  obtain ⟨T57, h57, X57, e57, W57, st57⟩ := stZ X55 hx hZ e55 Ar57 (j := (6 : Int32)) hin57 (g := (mkF m 123 Lb42 [(.int (1 : Int32)), (.int (6 : Int32)), (.ref b43), (.ref b43)])) rfl rfl (hb hby at_123)
  have V57 : Arv Z h57 b43 k43 .boolean (13 : Int32) [(.int (0 : Int32)), (.int (0 : Int32)), (.int (0 : Int32)), (.int (1 : Int32)), (.int (1 : Int32)), (.int (1 : Int32)), (.int (1 : Int32)), (.int (0 : Int32)), (.int (0 : Int32)), (.int (0 : Int32)), (.int (0 : Int32)), (.int (0 : Int32)), (.int (0 : Int32))] (.int (0 : Int32)) := own_set Ar57 cw57 S57 Nn57 Hs57 G57 (fits_nar_bool _) W57 6 rfl (Nat.le_of_ble_eq_true rfl) (.int (1 : Int32)) (congrArg Value.int (by decide)) _ rfl
  have N57 := Fr.snoc X57 N55 gg43
  have O58 := O56.wr W57 gg43
  obtain ⟨cl59, Ar59, cw59, S59, Nn59, Hs59, G59⟩ := id (V57)
  have hin59 : ¬ ((7 : Int32) < 0 ∨ cl59.slots.size ≤ ((7 : Int32)).toNatClampNeg) := inb_of S59 ⟨by decide, by decide⟩
  obtain ⟨T59, h59, X59, e59, W59, st59⟩ := stZ X57 hx hZ e57 Ar59 (j := (7 : Int32)) hin59 (g := (mkF m 128 Lb42 [(.int (1 : Int32)), (.int (7 : Int32)), (.ref b43), (.ref b43)])) rfl rfl (hb hby at_128)
  have V59 : Arv Z h59 b43 k43 .boolean (13 : Int32) [(.int (0 : Int32)), (.int (0 : Int32)), (.int (0 : Int32)), (.int (1 : Int32)), (.int (1 : Int32)), (.int (1 : Int32)), (.int (1 : Int32)), (.int (1 : Int32)), (.int (0 : Int32)), (.int (0 : Int32)), (.int (0 : Int32)), (.int (0 : Int32)), (.int (0 : Int32))] (.int (0 : Int32)) := own_set Ar59 cw59 S59 Nn59 Hs59 G59 (fits_nar_bool _) W59 7 rfl (Nat.le_of_ble_eq_true rfl) (.int (1 : Int32)) (congrArg Value.int (by decide)) _ rfl
  have N59 := Fr.snoc X59 N57 gg43
  have O60 := O58.wr W59 gg43
  obtain ⟨cl61, Ar61, cw61, S61, Nn61, Hs61, G61⟩ := id (V59)
  have hin61 : ¬ ((8 : Int32) < 0 ∨ cl61.slots.size ≤ ((8 : Int32)).toNatClampNeg) := inb_of S61 ⟨by decide, by decide⟩
  obtain ⟨T61, h61, X61, e61, W61, st61⟩ := stZ X59 hx hZ e59 Ar61 (j := (8 : Int32)) hin61 (g := (mkF m 133 Lb42 [(.int (0 : Int32)), (.int (8 : Int32)), (.ref b43), (.ref b43)])) rfl rfl (hb hby at_133)
  have V61 : Arv Z h61 b43 k43 .boolean (13 : Int32) [(.int (0 : Int32)), (.int (0 : Int32)), (.int (0 : Int32)), (.int (1 : Int32)), (.int (1 : Int32)), (.int (1 : Int32)), (.int (1 : Int32)), (.int (1 : Int32)), (.int (0 : Int32)), (.int (0 : Int32)), (.int (0 : Int32)), (.int (0 : Int32)), (.int (0 : Int32))] (.int (0 : Int32)) := own_set Ar61 cw61 S61 Nn61 Hs61 G61 (fits_nar_bool _) W61 8 rfl (Nat.le_of_ble_eq_true rfl) (.int (0 : Int32)) (congrArg Value.int (by decide)) _ rfl
  have N61 := Fr.snoc X61 N59 gg43
  have O62 := O60.wr W61 gg43
  obtain ⟨cl63, Ar63, cw63, S63, Nn63, Hs63, G63⟩ := id (V61)
  have hin63 : ¬ ((9 : Int32) < 0 ∨ cl63.slots.size ≤ ((9 : Int32)).toNatClampNeg) := inb_of S63 ⟨by decide, by decide⟩
  obtain ⟨T63, h63, X63, e63, W63, st63⟩ := stZ X61 hx hZ e61 Ar63 (j := (9 : Int32)) hin63 (g := (mkF m 138 Lb42 [(.int (0 : Int32)), (.int (9 : Int32)), (.ref b43), (.ref b43)])) rfl rfl (hb hby at_138)
  have V63 : Arv Z h63 b43 k43 .boolean (13 : Int32) [(.int (0 : Int32)), (.int (0 : Int32)), (.int (0 : Int32)), (.int (1 : Int32)), (.int (1 : Int32)), (.int (1 : Int32)), (.int (1 : Int32)), (.int (1 : Int32)), (.int (0 : Int32)), (.int (0 : Int32)), (.int (0 : Int32)), (.int (0 : Int32)), (.int (0 : Int32))] (.int (0 : Int32)) := own_set Ar63 cw63 S63 Nn63 Hs63 G63 (fits_nar_bool _) W63 9 rfl (Nat.le_of_ble_eq_true rfl) (.int (0 : Int32)) (congrArg Value.int (by decide)) _ rfl
  have N63 := Fr.snoc X63 N61 gg43
  have O64 := O62.wr W63 gg43
  obtain ⟨cl65, Ar65, cw65, S65, Nn65, Hs65, G65⟩ := id (V63)
  have hin65 : ¬ ((10 : Int32) < 0 ∨ cl65.slots.size ≤ ((10 : Int32)).toNatClampNeg) := inb_of S65 ⟨by decide, by decide⟩
  obtain ⟨T65, h65, X65, e65, W65, st65⟩ := stZ X63 hx hZ e63 Ar65 (j := (10 : Int32)) hin65 (g := (mkF m 143 Lb42 [(.int (0 : Int32)), (.int (10 : Int32)), (.ref b43), (.ref b43)])) rfl rfl (hb hby at_143)
  have V65 : Arv Z h65 b43 k43 .boolean (13 : Int32) [(.int (0 : Int32)), (.int (0 : Int32)), (.int (0 : Int32)), (.int (1 : Int32)), (.int (1 : Int32)), (.int (1 : Int32)), (.int (1 : Int32)), (.int (1 : Int32)), (.int (0 : Int32)), (.int (0 : Int32)), (.int (0 : Int32)), (.int (0 : Int32)), (.int (0 : Int32))] (.int (0 : Int32)) := own_set Ar65 cw65 S65 Nn65 Hs65 G65 (fits_nar_bool _) W65 10 rfl (Nat.le_of_ble_eq_true rfl) (.int (0 : Int32)) (congrArg Value.int (by decide)) _ rfl
  have N65 := Fr.snoc X65 N63 gg43
  have O66 := O64.wr W65 gg43
  obtain ⟨cl67, Ar67, cw67, S67, Nn67, Hs67, G67⟩ := id (V65)
  have hin67 : ¬ ((11 : Int32) < 0 ∨ cl67.slots.size ≤ ((11 : Int32)).toNatClampNeg) := inb_of S67 ⟨by decide, by decide⟩
  obtain ⟨T67, h67, X67, e67, W67, st67⟩ := stZ X65 hx hZ e65 Ar67 (j := (11 : Int32)) hin67 (g := (mkF m 148 Lb42 [(.int (0 : Int32)), (.int (11 : Int32)), (.ref b43), (.ref b43)])) rfl rfl (hb hby at_148)
  have V67 : Arv Z h67 b43 k43 .boolean (13 : Int32) [(.int (0 : Int32)), (.int (0 : Int32)), (.int (0 : Int32)), (.int (1 : Int32)), (.int (1 : Int32)), (.int (1 : Int32)), (.int (1 : Int32)), (.int (1 : Int32)), (.int (0 : Int32)), (.int (0 : Int32)), (.int (0 : Int32)), (.int (0 : Int32)), (.int (0 : Int32))] (.int (0 : Int32)) := own_set Ar67 cw67 S67 Nn67 Hs67 G67 (fits_nar_bool _) W67 11 rfl (Nat.le_of_ble_eq_true rfl) (.int (0 : Int32)) (congrArg Value.int (by decide)) _ rfl
  have N67 := Fr.snoc X67 N65 gg43
  have O68 := O66.wr W67 gg43
  obtain ⟨cl69, Ar69, cw69, S69, Nn69, Hs69, G69⟩ := id (V67)
  have hin69 : ¬ ((12 : Int32) < 0 ∨ cl69.slots.size ≤ ((12 : Int32)).toNatClampNeg) := inb_of S69 ⟨by decide, by decide⟩
  obtain ⟨T69, h69, X69, e69, W69, st69⟩ := stZ X67 hx hZ e67 Ar69 (j := (12 : Int32)) hin69 (g := (mkF m 153 Lb42 [(.int (0 : Int32)), (.int (12 : Int32)), (.ref b43), (.ref b43)])) rfl rfl (hb hby at_153)
  have V69 : Arv Z h69 b43 k43 .boolean (13 : Int32) [(.int (0 : Int32)), (.int (0 : Int32)), (.int (0 : Int32)), (.int (1 : Int32)), (.int (1 : Int32)), (.int (1 : Int32)), (.int (1 : Int32)), (.int (1 : Int32)), (.int (0 : Int32)), (.int (0 : Int32)), (.int (0 : Int32)), (.int (0 : Int32)), (.int (0 : Int32))] (.int (0 : Int32)) := own_set Ar69 cw69 S69 Nn69 Hs69 G69 (fits_nar_bool _) W69 12 rfl (Nat.le_of_ble_eq_true rfl) (.int (0 : Int32)) (congrArg Value.int (by decide)) _ rfl
  have N69 := Fr.snoc X69 N67 gg43
  have O70 := O68.wr W69 gg43
  let Lb71 : Array Slot := #[.val (.int p0), .val (.ref b1), .val (.ref b43), .unset, .unset, .unset]
  let Lb72 : Array Slot := #[.val (.int p0), .val (.ref b1), .val (.ref b43), .val (.int ((p0 &&& (2147483647 : Int32)) % (13 : Int32))), .unset, .unset]
  have pre73 : ∀ t, Steps p.tables e below (T69.setTop (mkF m 165 #[.val (.int p0), .val (.ref b1), .val (.ref b43), .val (.int ((p0 &&& (2147483647 : Int32)) % (13 : Int32))), .unset, .unset] [(.int ((p0 &&& (2147483647 : Int32)) % (13 : Int32))), (.ref b1)])) t → Steps p.tables e below (s₁.setTop (entryFrame m #[(.int p0)] maxLocals)) t := fun t k => pre0 t (by
   show Steps p.tables e below (s₁.setTop (mkF m 0 La [])) _
   refine XS.bipush X0.here hx rfl (hb hby at_0) ?_
   refine st1 _ ?_
   refine XS.dup X1.here hx rfl (hb hby at_5) rfl rfl ?_
   refine sc X1 hx hby at_6 ?_
   refine st3 _ ?_
   refine st4 _ ?_
   refine XS.dup X4.here hx rfl (hb hby at_11) rfl rfl ?_
   refine sc X4 hx hby at_12 ?_
   refine st6 _ ?_
   refine st7 _ ?_
   refine XS.dup X7.here hx rfl (hb hby at_17) rfl rfl ?_
   refine sc X7 hx hby at_18 ?_
   refine st9 _ ?_
   refine st10 _ ?_
   refine XS.dup X10.here hx rfl (hb hby at_23) rfl rfl ?_
   refine sc X10 hx hby at_24 ?_
   refine st12 _ ?_
   refine st13 _ ?_
   refine XS.dup X13.here hx rfl (hb hby at_29) rfl rfl ?_
   refine sc X13 hx hby at_30 ?_
   refine st15 _ ?_
   refine st16 _ ?_
   refine XS.dup X16.here hx rfl (hb hby at_35) rfl rfl ?_
   refine sc X16 hx hby at_36 ?_
   refine st18 _ ?_
   refine st19 _ ?_
   refine XS.dup X19.here hx rfl (hb hby at_41) rfl rfl ?_
   refine XS.bipush X19.here hx rfl (hb hby at_42) ?_
   refine st21 _ ?_
   refine st22 _ ?_
   refine XS.dup X22.here hx rfl (hb hby at_48) rfl rfl ?_
   refine XS.bipush X22.here hx rfl (hb hby at_49) ?_
   refine st24 _ ?_
   refine st25 _ ?_
   refine XS.dup X25.here hx rfl (hb hby at_55) rfl rfl ?_
   refine XS.bipush X25.here hx rfl (hb hby at_56) ?_
   refine st27 _ ?_
   refine st28 _ ?_
   refine XS.dup X28.here hx rfl (hb hby at_62) rfl rfl ?_
   refine XS.bipush X28.here hx rfl (hb hby at_63) ?_
   refine st30 _ ?_
   refine st31 _ ?_
   refine XS.dup X31.here hx rfl (hb hby at_69) rfl rfl ?_
   refine XS.bipush X31.here hx rfl (hb hby at_70) ?_
   refine st33 _ ?_
   refine st34 _ ?_
   refine XS.dup X34.here hx rfl (hb hby at_76) rfl rfl ?_
   refine XS.bipush X34.here hx rfl (hb hby at_77) ?_
   refine st36 _ ?_
   refine st37 _ ?_
   refine XS.dup X37.here hx rfl (hb hby at_83) rfl rfl ?_
   refine XS.bipush X37.here hx rfl (hb hby at_84) ?_
   refine st39 _ ?_
   refine st40 _ ?_
   refine XS.astoreN X40.here hx rfl (hb hby at_90) rfl rfl (l' := Lb42) rfl ?_
   refine XS.bipush X40.here hx rfl (hb hby at_91) ?_
   refine st43 _ ?_
   refine XS.dup X43.here hx rfl (hb hby at_95) rfl rfl ?_
   refine sc X43 hx hby at_96 ?_
   refine sc X43 hx hby at_97 ?_
   refine st45 _ ?_
   refine XS.dup X45.here hx rfl (hb hby at_99) rfl rfl ?_
   refine sc X45 hx hby at_100 ?_
   refine sc X45 hx hby at_101 ?_
   refine st47 _ ?_
   refine XS.dup X47.here hx rfl (hb hby at_103) rfl rfl ?_
   refine sc X47 hx hby at_104 ?_
   refine sc X47 hx hby at_105 ?_
   refine st49 _ ?_
   refine XS.dup X49.here hx rfl (hb hby at_107) rfl rfl ?_
   refine sc X49 hx hby at_108 ?_
   refine sc X49 hx hby at_109 ?_
   refine st51 _ ?_
   refine XS.dup X51.here hx rfl (hb hby at_111) rfl rfl ?_
   refine sc X51 hx hby at_112 ?_
   refine sc X51 hx hby at_113 ?_
   refine st53 _ ?_
   refine XS.dup X53.here hx rfl (hb hby at_115) rfl rfl ?_
   refine sc X53 hx hby at_116 ?_
   refine sc X53 hx hby at_117 ?_
   refine st55 _ ?_
   refine XS.dup X55.here hx rfl (hb hby at_119) rfl rfl ?_
   refine XS.bipush X55.here hx rfl (hb hby at_120) ?_
   refine sc X55 hx hby at_122 ?_
   refine st57 _ ?_
   refine XS.dup X57.here hx rfl (hb hby at_124) rfl rfl ?_
   refine XS.bipush X57.here hx rfl (hb hby at_125) ?_
   refine sc X57 hx hby at_127 ?_
   refine st59 _ ?_
   refine XS.dup X59.here hx rfl (hb hby at_129) rfl rfl ?_
   refine XS.bipush X59.here hx rfl (hb hby at_130) ?_
   refine sc X59 hx hby at_132 ?_
   refine st61 _ ?_
   refine XS.dup X61.here hx rfl (hb hby at_134) rfl rfl ?_
   refine XS.bipush X61.here hx rfl (hb hby at_135) ?_
   refine sc X61 hx hby at_137 ?_
   refine st63 _ ?_
   refine XS.dup X63.here hx rfl (hb hby at_139) rfl rfl ?_
   refine XS.bipush X63.here hx rfl (hb hby at_140) ?_
   refine sc X63 hx hby at_142 ?_
   refine st65 _ ?_
   refine XS.dup X65.here hx rfl (hb hby at_144) rfl rfl ?_
   refine XS.bipush X65.here hx rfl (hb hby at_145) ?_
   refine sc X65 hx hby at_147 ?_
   refine st67 _ ?_
   refine XS.dup X67.here hx rfl (hb hby at_149) rfl rfl ?_
   refine XS.bipush X67.here hx rfl (hb hby at_150) ?_
   refine sc X67 hx hby at_152 ?_
   refine st69 _ ?_
   refine XS.astoreN X69.here hx rfl (hb hby at_154) rfl rfl (l' := Lb71) rfl ?_
   refine sI X69 hx hby at_155 rfl ?_
   refine X69.ldcInt hx hown (mvT hZ (wk31 hw)) (g := (mkF m 156 Lb71 [(.int p0)])) rfl (hb hby at_156) _ ?_
   refine XS.iand X69.here hx rfl (hb hby at_158) rfl ?_
   refine XS.bipush X69.here hx rfl (hb hby at_159) ?_
   show Steps p.tables e below (T69.setTop (mkF m 161 Lb71 [(.int (13 : Int32)), (.int (p0 &&& (2147483647 : Int32)))])) _
   refine iremM X69 hx rfl (hb hby at_161) rfl (by decide) ?_
   refine XS.istoreN X69.here hx rfl (hb hby at_162) rfl (l' := Lb72) rfl ?_
   refine sA X69 hx hby at_163 rfl rfl ?_
   refine sI X69 hx hby at_164 rfl ?_
   exact k)
  rcases (own_rem13 p0) with hs74 | hs74 | hs74 | hs74 | hs74 | hs74 | hs74 | hs74 | hs74 | hs74 | hs74 | hs74 | hs74
  ·
   rw [hs74] at pre73
   let Lb75 : Array Slot := #[.val (.int p0), .val (.ref b1), .val (.ref b43), .val (.int (0 : Int32)), .unset, .unset]
   have ne76 : b1 ≠ b43 := (Nat.ne_of_lt (Nat.lt_of_lt_of_le V40.lt (Nat.le_of_eq g43.symm)))
   have t77 := ((((((((((((((V40.ext E43).other W45 ne76).other W47 ne76).other W49 ne76).other W51 ne76).other W53 ne76).other W55 ne76).other W57 ne76).other W59 ne76).other W61 ne76).other W63 ne76).other W65 ne76).other W67 ne76).other W69 ne76)
   obtain ⟨cl78, Ar78, cw78, S78, Nn78, Hs78, G78⟩ := id (t77)
   have hin78 : ¬ ((0 : Int32) < 0 ∨ cl78.slots.size ≤ ((0 : Int32)).toNatClampNeg) := inb_of S78 ⟨by decide, by decide⟩
   let Lb79 : Array Slot := #[.val (.int p0), .val (.ref b1), .val (.ref b43), .val (.int (0 : Int32)), .val (.ref (w 0)), .unset]
   obtain ⟨cq80, kq80, q80a, q80b, q80c⟩ := isOf hZ e69 ((wd1 hW).ext O70.2)
   obtain ⟨_, _, ⟨T80, L80, kk80, nn80⟩, -, X80, ⟨Lc80, hQ80, l80, y80, z80⟩, st80⟩ := X69.virtualBack hx (y := ym0) (z := ym0) hown (mvT hZ (wk32 hw)) (mvT hZ (wk33 hw)) (notFace_of_selects (args := #[]) (mvT hZ (wk35 hw))) (mvT hZ (wk35 hw)) (mvT hZ (wk34 hw)) (by decide) (backOf (W := 0) (rm1_1 l Z a0 hw w hW []  h69 n0 O70 ) hZ (wk36 hw) (wk3 hw) (by decide) (by decide)) q80a q80c (g := (mkF m 170 Lb79 [(.ref (w 0))])) rfl (by rw [hml]; rfl) (Steps.refl _) (argsL := []) (rest := []) (lenOf pds_0 rfl) rfl (by show 2 * 0 + _ ≤ _; exact Nat.le_of_eq rfl) (hb hby at_170) (fun _ _ => ⟨rfl, e69, (by decide : 2 + 0 ≤ _), (by decide : 26 + 0 ≤ _)⟩)
   dsimp only [Pt.U, Pt.locs, Pt.cells, Pt.slots] at X80 l80 y80 z80 st80 hQ80
   rw [l80, y80, z80] at X80
   obtain ⟨rfl, N80q, e80⟩ := hQ80
   have N80 := Fr.app N69 N80q
   let Lb81 : Array Slot := #[.val (.int p0), .val (.ref b1), .val (.ref b43), .val (.int (0 : Int32)), .val (.ref (w 0)), .val (.int (0 : Int32))]
   obtain ⟨cl82, Ar82, cw82, S82, Nn82, Hs82, G82⟩ := id (V69)
   have hin82 : ¬ ((0 : Int32) < 0 ∨ cl82.slots.size ≤ ((0 : Int32)).toNatClampNeg) := inb_of S82 ⟨by decide, by decide⟩
   obtain ⟨fs, hr, hrun, hended, hWm, hsame⟩ := X80.leave (v := some (.int (1 : Int32))) (fun h => by rw [Bd.returns] at h; cases h)
   refine ⟨_, _, pre73 _ ?_, hrun, hended, _, _, rfl, ?_, ⟨_, rfl⟩, hWm, hsame.mono (by decide) (by decide)⟩
   · show Steps p.tables e below (T69.setTop (mkF m 165 Lb75 [(.int (0 : Int32)), (.ref b1)])) _
     refine X69.aaload hx (j := (0 : Int32)) (v := (.ref (w 0))) (by rw [e69]; exact Ar78.1) (State.isArrayOf_alike hZ.alike Ar78.2.1) rfl Ar78.2.2 hin78 (Hs78.at hin78 rfl) (g := (mkF m 165 Lb75 [(.int (0 : Int32)), (.ref b1)])) rfl rfl (hb hby at_165) _ ?_
     refine XS.astore X69.here hx rfl (hb hby at_166) rfl rfl (l' := Lb79) rfl ?_
     refine sa X69 hx hby at_168 rfl rfl ?_
     refine st80.trans ?_
     refine XS.istore X80.here hx rfl (hb hby at_173) rfl (l' := Lb81) rfl ?_
     refine si X80 hx hby at_175 rfl ?_
     refine sA X80 hx hby at_177 rfl rfl ?_
     refine sI X80 hx hby at_178 rfl ?_
     refine X80.baloadBooleans hx (j := (0 : Int32)) (v := (.int (0 : Int32))) (by rw [e80]; exact Ar82.1) (State.isArrayOf_alike hZ.alike Ar82.2.1) Ar82.2.2 hin82 (Hs82.at hin82 rfl) (g := (mkF m 179 Lb81 [(.int (0 : Int32)), (.ref b43), (.int (0 : Int32))])) rfl rfl (hb hby at_179) _ ?_
     show Steps p.tables e below (T80.setTop (mkF m 180 Lb81 [(.int (0 : Int32)), (.int (0 : Int32))])) _
     refine XS.icmpYes X80.here hx rfl (pc0 := 180) (pc' := 185) rfl (hb hby at_180) rfl (by decide) (by decide) (by decide) ?_
     refine si X80 hx hby at_185 rfl ?_
     refine XS.ifYes X80.here hx rfl (pc0 := 187) (pc' := 200) rfl (hb hby at_187) rfl (by decide) (by decide) (by decide) ?_
     refine sc X80 hx hby at_200 ?_
     exact retN X80 hx (t := .boolean) Bd.returns (by simp) (hb hby at_201) hr
   · show Q0 n0 _ T80.heap _
     rw [e80]
     exact ⟨rfl, N80⟩
  ·
   rw [hs74] at pre73
   let Lb83 : Array Slot := #[.val (.int p0), .val (.ref b1), .val (.ref b43), .val (.int (1 : Int32)), .unset, .unset]
   have ne84 : b1 ≠ b43 := (Nat.ne_of_lt (Nat.lt_of_lt_of_le V40.lt (Nat.le_of_eq g43.symm)))
   have t85 := ((((((((((((((V40.ext E43).other W45 ne84).other W47 ne84).other W49 ne84).other W51 ne84).other W53 ne84).other W55 ne84).other W57 ne84).other W59 ne84).other W61 ne84).other W63 ne84).other W65 ne84).other W67 ne84).other W69 ne84)
   obtain ⟨cl86, Ar86, cw86, S86, Nn86, Hs86, G86⟩ := id (t85)
   have hin86 : ¬ ((1 : Int32) < 0 ∨ cl86.slots.size ≤ ((1 : Int32)).toNatClampNeg) := inb_of S86 ⟨by decide, by decide⟩
   let Lb87 : Array Slot := #[.val (.int p0), .val (.ref b1), .val (.ref b43), .val (.int (1 : Int32)), .val (.ref (w 1)), .unset]
   obtain ⟨cq88, kq88, q88a, q88b, q88c⟩ := isOf hZ e69 ((wd3 hW).ext O70.2)
   obtain ⟨_, _, ⟨T88, L88, kk88, nn88⟩, -, X88, ⟨Lc88, hQ88, l88, y88, z88⟩, st88⟩ := X69.virtualBack hx (y := ym0) (z := ym0) hown (mvT hZ (wk32 hw)) (mvT hZ (wk33 hw)) (notFace_of_selects (args := #[]) (mvT hZ (wk35 hw))) (mvT hZ (wk35 hw)) (mvT hZ (wk34 hw)) (by decide) (backOf (W := 0) (rm1_2 l Z a0 hw w hW []  h69 n0 O70 ) hZ (wk36 hw) (wk3 hw) (by decide) (by decide)) q88a q88c (g := (mkF m 170 Lb87 [(.ref (w 1))])) rfl (by rw [hml]; rfl) (Steps.refl _) (argsL := []) (rest := []) (lenOf pds_0 rfl) rfl (by show 2 * 0 + _ ≤ _; exact Nat.le_of_eq rfl) (hb hby at_170) (fun _ _ => ⟨rfl, e69, (by decide : 2 + 0 ≤ _), (by decide : 26 + 0 ≤ _)⟩)
   dsimp only [Pt.U, Pt.locs, Pt.cells, Pt.slots] at X88 l88 y88 z88 st88 hQ88
   rw [l88, y88, z88] at X88
   obtain ⟨rfl, N88q, e88⟩ := hQ88
   have N88 := Fr.app N69 N88q
   let Lb89 : Array Slot := #[.val (.int p0), .val (.ref b1), .val (.ref b43), .val (.int (1 : Int32)), .val (.ref (w 1)), .val (.int (0 : Int32))]
   obtain ⟨cl90, Ar90, cw90, S90, Nn90, Hs90, G90⟩ := id (V69)
   have hin90 : ¬ ((1 : Int32) < 0 ∨ cl90.slots.size ≤ ((1 : Int32)).toNatClampNeg) := inb_of S90 ⟨by decide, by decide⟩
   obtain ⟨fs, hr, hrun, hended, hWm, hsame⟩ := X88.leave (v := some (.int (1 : Int32))) (fun h => by rw [Bd.returns] at h; cases h)
   refine ⟨_, _, pre73 _ ?_, hrun, hended, _, _, rfl, ?_, ⟨_, rfl⟩, hWm, hsame.mono (by decide) (by decide)⟩
   · show Steps p.tables e below (T69.setTop (mkF m 165 Lb83 [(.int (1 : Int32)), (.ref b1)])) _
     refine X69.aaload hx (j := (1 : Int32)) (v := (.ref (w 1))) (by rw [e69]; exact Ar86.1) (State.isArrayOf_alike hZ.alike Ar86.2.1) rfl Ar86.2.2 hin86 (Hs86.at hin86 rfl) (g := (mkF m 165 Lb83 [(.int (1 : Int32)), (.ref b1)])) rfl rfl (hb hby at_165) _ ?_
     refine XS.astore X69.here hx rfl (hb hby at_166) rfl rfl (l' := Lb87) rfl ?_
     refine sa X69 hx hby at_168 rfl rfl ?_
     refine st88.trans ?_
     refine XS.istore X88.here hx rfl (hb hby at_173) rfl (l' := Lb89) rfl ?_
     refine si X88 hx hby at_175 rfl ?_
     refine sA X88 hx hby at_177 rfl rfl ?_
     refine sI X88 hx hby at_178 rfl ?_
     refine X88.baloadBooleans hx (j := (1 : Int32)) (v := (.int (0 : Int32))) (by rw [e88]; exact Ar90.1) (State.isArrayOf_alike hZ.alike Ar90.2.1) Ar90.2.2 hin90 (Hs90.at hin90 rfl) (g := (mkF m 179 Lb89 [(.int (1 : Int32)), (.ref b43), (.int (0 : Int32))])) rfl rfl (hb hby at_179) _ ?_
     show Steps p.tables e below (T88.setTop (mkF m 180 Lb89 [(.int (0 : Int32)), (.int (0 : Int32))])) _
     refine XS.icmpYes X88.here hx rfl (pc0 := 180) (pc' := 185) rfl (hb hby at_180) rfl (by decide) (by decide) (by decide) ?_
     refine si X88 hx hby at_185 rfl ?_
     refine XS.ifYes X88.here hx rfl (pc0 := 187) (pc' := 200) rfl (hb hby at_187) rfl (by decide) (by decide) (by decide) ?_
     refine sc X88 hx hby at_200 ?_
     exact retN X88 hx (t := .boolean) Bd.returns (by simp) (hb hby at_201) hr
   · show Q0 n0 _ T88.heap _
     rw [e88]
     exact ⟨rfl, N88⟩
  ·
   rw [hs74] at pre73
   let Lb91 : Array Slot := #[.val (.int p0), .val (.ref b1), .val (.ref b43), .val (.int (2 : Int32)), .unset, .unset]
   have ne92 : b1 ≠ b43 := (Nat.ne_of_lt (Nat.lt_of_lt_of_le V40.lt (Nat.le_of_eq g43.symm)))
   have t93 := ((((((((((((((V40.ext E43).other W45 ne92).other W47 ne92).other W49 ne92).other W51 ne92).other W53 ne92).other W55 ne92).other W57 ne92).other W59 ne92).other W61 ne92).other W63 ne92).other W65 ne92).other W67 ne92).other W69 ne92)
   obtain ⟨cl94, Ar94, cw94, S94, Nn94, Hs94, G94⟩ := id (t93)
   have hin94 : ¬ ((2 : Int32) < 0 ∨ cl94.slots.size ≤ ((2 : Int32)).toNatClampNeg) := inb_of S94 ⟨by decide, by decide⟩
   let Lb95 : Array Slot := #[.val (.int p0), .val (.ref b1), .val (.ref b43), .val (.int (2 : Int32)), .val (.ref (w 2)), .unset]
   obtain ⟨cq96, kq96, q96a, q96b, q96c⟩ := isOf hZ e69 ((wd5 hW).ext O70.2)
   obtain ⟨_, _, ⟨T96, L96, kk96, nn96⟩, -, X96, ⟨Lc96, hQ96, l96, y96, z96⟩, st96⟩ := X69.virtualBack hx (y := ym0) (z := ym0) hown (mvT hZ (wk32 hw)) (mvT hZ (wk33 hw)) (notFace_of_selects (args := #[]) (mvT hZ (wk35 hw))) (mvT hZ (wk35 hw)) (mvT hZ (wk34 hw)) (by decide) (backOf (W := 0) (rm1_3 l Z a0 hw w hW []  h69 n0 O70 ) hZ (wk36 hw) (wk3 hw) (by decide) (by decide)) q96a q96c (g := (mkF m 170 Lb95 [(.ref (w 2))])) rfl (by rw [hml]; rfl) (Steps.refl _) (argsL := []) (rest := []) (lenOf pds_0 rfl) rfl (by show 2 * 0 + _ ≤ _; exact Nat.le_of_eq rfl) (hb hby at_170) (fun _ _ => ⟨rfl, e69, (by decide : 2 + 0 ≤ _), (by decide : 26 + 0 ≤ _)⟩)
   dsimp only [Pt.U, Pt.locs, Pt.cells, Pt.slots] at X96 l96 y96 z96 st96 hQ96
   rw [l96, y96, z96] at X96
   obtain ⟨rfl, N96q, e96⟩ := hQ96
   have N96 := Fr.app N69 N96q
   let Lb97 : Array Slot := #[.val (.int p0), .val (.ref b1), .val (.ref b43), .val (.int (2 : Int32)), .val (.ref (w 2)), .val (.int (0 : Int32))]
   obtain ⟨cl98, Ar98, cw98, S98, Nn98, Hs98, G98⟩ := id (V69)
   have hin98 : ¬ ((2 : Int32) < 0 ∨ cl98.slots.size ≤ ((2 : Int32)).toNatClampNeg) := inb_of S98 ⟨by decide, by decide⟩
   obtain ⟨fs, hr, hrun, hended, hWm, hsame⟩ := X96.leave (v := some (.int (1 : Int32))) (fun h => by rw [Bd.returns] at h; cases h)
   refine ⟨_, _, pre73 _ ?_, hrun, hended, _, _, rfl, ?_, ⟨_, rfl⟩, hWm, hsame.mono (by decide) (by decide)⟩
   · show Steps p.tables e below (T69.setTop (mkF m 165 Lb91 [(.int (2 : Int32)), (.ref b1)])) _
     refine X69.aaload hx (j := (2 : Int32)) (v := (.ref (w 2))) (by rw [e69]; exact Ar94.1) (State.isArrayOf_alike hZ.alike Ar94.2.1) rfl Ar94.2.2 hin94 (Hs94.at hin94 rfl) (g := (mkF m 165 Lb91 [(.int (2 : Int32)), (.ref b1)])) rfl rfl (hb hby at_165) _ ?_
     refine XS.astore X69.here hx rfl (hb hby at_166) rfl rfl (l' := Lb95) rfl ?_
     refine sa X69 hx hby at_168 rfl rfl ?_
     refine st96.trans ?_
     refine XS.istore X96.here hx rfl (hb hby at_173) rfl (l' := Lb97) rfl ?_
     refine si X96 hx hby at_175 rfl ?_
     refine sA X96 hx hby at_177 rfl rfl ?_
     refine sI X96 hx hby at_178 rfl ?_
     refine X96.baloadBooleans hx (j := (2 : Int32)) (v := (.int (0 : Int32))) (by rw [e96]; exact Ar98.1) (State.isArrayOf_alike hZ.alike Ar98.2.1) Ar98.2.2 hin98 (Hs98.at hin98 rfl) (g := (mkF m 179 Lb97 [(.int (2 : Int32)), (.ref b43), (.int (0 : Int32))])) rfl rfl (hb hby at_179) _ ?_
     show Steps p.tables e below (T96.setTop (mkF m 180 Lb97 [(.int (0 : Int32)), (.int (0 : Int32))])) _
     refine XS.icmpYes X96.here hx rfl (pc0 := 180) (pc' := 185) rfl (hb hby at_180) rfl (by decide) (by decide) (by decide) ?_
     refine si X96 hx hby at_185 rfl ?_
     refine XS.ifYes X96.here hx rfl (pc0 := 187) (pc' := 200) rfl (hb hby at_187) rfl (by decide) (by decide) (by decide) ?_
     refine sc X96 hx hby at_200 ?_
     exact retN X96 hx (t := .boolean) Bd.returns (by simp) (hb hby at_201) hr
   · show Q0 n0 _ T96.heap _
     rw [e96]
     exact ⟨rfl, N96⟩
  ·
   rw [hs74] at pre73
   let Lb99 : Array Slot := #[.val (.int p0), .val (.ref b1), .val (.ref b43), .val (.int (3 : Int32)), .unset, .unset]
   have ne100 : b1 ≠ b43 := (Nat.ne_of_lt (Nat.lt_of_lt_of_le V40.lt (Nat.le_of_eq g43.symm)))
   have t101 := ((((((((((((((V40.ext E43).other W45 ne100).other W47 ne100).other W49 ne100).other W51 ne100).other W53 ne100).other W55 ne100).other W57 ne100).other W59 ne100).other W61 ne100).other W63 ne100).other W65 ne100).other W67 ne100).other W69 ne100)
   obtain ⟨cl102, Ar102, cw102, S102, Nn102, Hs102, G102⟩ := id (t101)
   have hin102 : ¬ ((3 : Int32) < 0 ∨ cl102.slots.size ≤ ((3 : Int32)).toNatClampNeg) := inb_of S102 ⟨by decide, by decide⟩
   let Lb103 : Array Slot := #[.val (.int p0), .val (.ref b1), .val (.ref b43), .val (.int (3 : Int32)), .val (.ref (w 3)), .unset]
   obtain ⟨cq104, kq104, q104a, q104b, q104c⟩ := isOf hZ e69 ((wd7 hW).ext O70.2)
   obtain ⟨_, _, ⟨T104, L104, kk104, nn104⟩, -, X104, ⟨Lc104, hQ104, l104, y104, z104⟩, st104⟩ := X69.virtualBack hx (y := ym0) (z := ym0) hown (mvT hZ (wk32 hw)) (mvT hZ (wk33 hw)) (notFace_of_selects (args := #[]) (mvT hZ (wk35 hw))) (mvT hZ (wk35 hw)) (mvT hZ (wk34 hw)) (by decide) (backOf (W := 0) (rm1_4 l Z a0 hw w hW []  h69 n0 O70 ) hZ (wk36 hw) (wk3 hw) (by decide) (by decide)) q104a q104c (g := (mkF m 170 Lb103 [(.ref (w 3))])) rfl (by rw [hml]; rfl) (Steps.refl _) (argsL := []) (rest := []) (lenOf pds_0 rfl) rfl (by show 2 * 0 + _ ≤ _; exact Nat.le_of_eq rfl) (hb hby at_170) (fun _ _ => ⟨rfl, e69, (by decide : 2 + 0 ≤ _), (by decide : 26 + 0 ≤ _)⟩)
   dsimp only [Pt.U, Pt.locs, Pt.cells, Pt.slots] at X104 l104 y104 z104 st104 hQ104
   rw [l104, y104, z104] at X104
   obtain ⟨rfl, N104q, e104⟩ := hQ104
   have N104 := Fr.app N69 N104q
   let Lb105 : Array Slot := #[.val (.int p0), .val (.ref b1), .val (.ref b43), .val (.int (3 : Int32)), .val (.ref (w 3)), .val (.int (1 : Int32))]
   obtain ⟨cl106, Ar106, cw106, S106, Nn106, Hs106, G106⟩ := id (V69)
   have hin106 : ¬ ((3 : Int32) < 0 ∨ cl106.slots.size ≤ ((3 : Int32)).toNatClampNeg) := inb_of S106 ⟨by decide, by decide⟩
   obtain ⟨cq107, kq107, q107a, q107b, q107c⟩ := isOf hZ e104 ((wd7 hW).ext O70.2)
   obtain ⟨_, _, ⟨T107, L107, kk107, nn107⟩, -, X107, ⟨Lc107, hQ107, l107, y107, z107⟩, st107⟩ := X104.virtualBack hx (y := ym3) (z := ym3) hown (mvT hZ (wk42 hw)) (mvT hZ (wk43 hw)) (notFace_of_selects (args := #[]) (mvT hZ (wk45 hw))) (mvT hZ (wk45 hw)) (mvT hZ (wk44 hw)) (by decide) (backOf (W := 0) (rm2_7 l Z a0 hw w hW []  h69 n0 O70 ) hZ (wk46 hw) (wk3 hw) (by decide) (by decide)) q107a q107c (g := (mkF m 192 Lb105 [(.ref (w 3))])) rfl (by rw [hml]; rfl) (Steps.refl _) (argsL := []) (rest := []) (lenOf pds_0 rfl) rfl (by show 2 * 0 + _ ≤ _; exact Nat.le_of_eq rfl) (hb hby at_192) (fun _ _ => ⟨rfl, e104, (by decide : 2 + 0 ≤ _), (by decide : 26 + 0 ≤ _)⟩)
   dsimp only [Pt.U, Pt.locs, Pt.cells, Pt.slots] at X107 l107 y107 z107 st107 hQ107
   rw [l107, y107, z107] at X107
   obtain ⟨rfl, N107q, e107⟩ := hQ107
   have N107 := Fr.app N104 N107q
   obtain ⟨fs, hr, hrun, hended, hWm, hsame⟩ := X107.leave (v := some (.int (1 : Int32))) (fun h => by rw [Bd.returns] at h; cases h)
   refine ⟨_, _, pre73 _ ?_, hrun, hended, _, _, rfl, ?_, ⟨_, rfl⟩, hWm, hsame.mono (by decide) (by decide)⟩
   · show Steps p.tables e below (T69.setTop (mkF m 165 Lb99 [(.int (3 : Int32)), (.ref b1)])) _
     refine X69.aaload hx (j := (3 : Int32)) (v := (.ref (w 3))) (by rw [e69]; exact Ar102.1) (State.isArrayOf_alike hZ.alike Ar102.2.1) rfl Ar102.2.2 hin102 (Hs102.at hin102 rfl) (g := (mkF m 165 Lb99 [(.int (3 : Int32)), (.ref b1)])) rfl rfl (hb hby at_165) _ ?_
     refine XS.astore X69.here hx rfl (hb hby at_166) rfl rfl (l' := Lb103) rfl ?_
     refine sa X69 hx hby at_168 rfl rfl ?_
     refine st104.trans ?_
     refine XS.istore X104.here hx rfl (hb hby at_173) rfl (l' := Lb105) rfl ?_
     refine si X104 hx hby at_175 rfl ?_
     refine sA X104 hx hby at_177 rfl rfl ?_
     refine sI X104 hx hby at_178 rfl ?_
     refine X104.baloadBooleans hx (j := (3 : Int32)) (v := (.int (1 : Int32))) (by rw [e104]; exact Ar106.1) (State.isArrayOf_alike hZ.alike Ar106.2.1) Ar106.2.2 hin106 (Hs106.at hin106 rfl) (g := (mkF m 179 Lb105 [(.int (3 : Int32)), (.ref b43), (.int (1 : Int32))])) rfl rfl (hb hby at_179) _ ?_
     show Steps p.tables e below (T104.setTop (mkF m 180 Lb105 [(.int (1 : Int32)), (.int (1 : Int32))])) _
     refine XS.icmpYes X104.here hx rfl (pc0 := 180) (pc' := 185) rfl (hb hby at_180) rfl (by decide) (by decide) (by decide) ?_
     refine si X104 hx hby at_185 rfl ?_
     refine sN X104 hx hby at_187 (by decide) ?_
     refine sa X104 hx hby at_190 rfl rfl ?_
     refine st107.trans ?_
     refine XS.ifYes X107.here hx rfl (pc0 := 195) (pc' := 200) rfl (hb hby at_195) rfl (by decide) (by decide) (by decide) ?_
     refine sc X107 hx hby at_200 ?_
     exact retN X107 hx (t := .boolean) Bd.returns (by simp) (hb hby at_201) hr
   · show Q0 n0 _ T107.heap _
     rw [e107]
     exact ⟨rfl, N107⟩
  ·
   rw [hs74] at pre73
   let Lb108 : Array Slot := #[.val (.int p0), .val (.ref b1), .val (.ref b43), .val (.int (4 : Int32)), .unset, .unset]
   have ne109 : b1 ≠ b43 := (Nat.ne_of_lt (Nat.lt_of_lt_of_le V40.lt (Nat.le_of_eq g43.symm)))
   have t110 := ((((((((((((((V40.ext E43).other W45 ne109).other W47 ne109).other W49 ne109).other W51 ne109).other W53 ne109).other W55 ne109).other W57 ne109).other W59 ne109).other W61 ne109).other W63 ne109).other W65 ne109).other W67 ne109).other W69 ne109)
   obtain ⟨cl111, Ar111, cw111, S111, Nn111, Hs111, G111⟩ := id (t110)
   have hin111 : ¬ ((4 : Int32) < 0 ∨ cl111.slots.size ≤ ((4 : Int32)).toNatClampNeg) := inb_of S111 ⟨by decide, by decide⟩
   let Lb112 : Array Slot := #[.val (.int p0), .val (.ref b1), .val (.ref b43), .val (.int (4 : Int32)), .val (.ref (w 4)), .unset]
   obtain ⟨cq113, kq113, q113a, q113b, q113c⟩ := isOf hZ e69 ((wd9 hW).ext O70.2)
   obtain ⟨_, _, ⟨T113, L113, kk113, nn113⟩, -, X113, ⟨Lc113, hQ113, l113, y113, z113⟩, st113⟩ := X69.virtualBack hx (y := ym0) (z := ym0) hown (mvT hZ (wk32 hw)) (mvT hZ (wk33 hw)) (notFace_of_selects (args := #[]) (mvT hZ (wk35 hw))) (mvT hZ (wk35 hw)) (mvT hZ (wk34 hw)) (by decide) (backOf (W := 0) (rm1_8 l Z a0 hw w hW []  h69 n0 O70 ) hZ (wk36 hw) (wk3 hw) (by decide) (by decide)) q113a q113c (g := (mkF m 170 Lb112 [(.ref (w 4))])) rfl (by rw [hml]; rfl) (Steps.refl _) (argsL := []) (rest := []) (lenOf pds_0 rfl) rfl (by show 2 * 0 + _ ≤ _; exact Nat.le_of_eq rfl) (hb hby at_170) (fun _ _ => ⟨rfl, e69, (by decide : 2 + 0 ≤ _), (by decide : 26 + 0 ≤ _)⟩)
   dsimp only [Pt.U, Pt.locs, Pt.cells, Pt.slots] at X113 l113 y113 z113 st113 hQ113
   rw [l113, y113, z113] at X113
   obtain ⟨rfl, N113q, e113⟩ := hQ113
   have N113 := Fr.app N69 N113q
   let Lb114 : Array Slot := #[.val (.int p0), .val (.ref b1), .val (.ref b43), .val (.int (4 : Int32)), .val (.ref (w 4)), .val (.int (1 : Int32))]
   obtain ⟨cl115, Ar115, cw115, S115, Nn115, Hs115, G115⟩ := id (V69)
   have hin115 : ¬ ((4 : Int32) < 0 ∨ cl115.slots.size ≤ ((4 : Int32)).toNatClampNeg) := inb_of S115 ⟨by decide, by decide⟩
   obtain ⟨cq116, kq116, q116a, q116b, q116c⟩ := isOf hZ e113 ((wd9 hW).ext O70.2)
   obtain ⟨_, _, ⟨T116, L116, kk116, nn116⟩, -, X116, ⟨Lc116, hQ116, l116, y116, z116⟩, st116⟩ := X113.virtualBack hx (y := ym3) (z := ym3) hown (mvT hZ (wk42 hw)) (mvT hZ (wk43 hw)) (notFace_of_selects (args := #[]) (mvT hZ (wk45 hw))) (mvT hZ (wk45 hw)) (mvT hZ (wk44 hw)) (by decide) (backOf (W := 0) (rm2_11 l Z a0 hw w hW []  h69 n0 O70 ) hZ (wk46 hw) (wk3 hw) (by decide) (by decide)) q116a q116c (g := (mkF m 192 Lb114 [(.ref (w 4))])) rfl (by rw [hml]; rfl) (Steps.refl _) (argsL := []) (rest := []) (lenOf pds_0 rfl) rfl (by show 2 * 0 + _ ≤ _; exact Nat.le_of_eq rfl) (hb hby at_192) (fun _ _ => ⟨rfl, e113, (by decide : 2 + 0 ≤ _), (by decide : 26 + 0 ≤ _)⟩)
   dsimp only [Pt.U, Pt.locs, Pt.cells, Pt.slots] at X116 l116 y116 z116 st116 hQ116
   rw [l116, y116, z116] at X116
   obtain ⟨rfl, N116q, e116⟩ := hQ116
   have N116 := Fr.app N113 N116q
   obtain ⟨fs, hr, hrun, hended, hWm, hsame⟩ := X116.leave (v := some (.int (1 : Int32))) (fun h => by rw [Bd.returns] at h; cases h)
   refine ⟨_, _, pre73 _ ?_, hrun, hended, _, _, rfl, ?_, ⟨_, rfl⟩, hWm, hsame.mono (by decide) (by decide)⟩
   · show Steps p.tables e below (T69.setTop (mkF m 165 Lb108 [(.int (4 : Int32)), (.ref b1)])) _
     refine X69.aaload hx (j := (4 : Int32)) (v := (.ref (w 4))) (by rw [e69]; exact Ar111.1) (State.isArrayOf_alike hZ.alike Ar111.2.1) rfl Ar111.2.2 hin111 (Hs111.at hin111 rfl) (g := (mkF m 165 Lb108 [(.int (4 : Int32)), (.ref b1)])) rfl rfl (hb hby at_165) _ ?_
     refine XS.astore X69.here hx rfl (hb hby at_166) rfl rfl (l' := Lb112) rfl ?_
     refine sa X69 hx hby at_168 rfl rfl ?_
     refine st113.trans ?_
     refine XS.istore X113.here hx rfl (hb hby at_173) rfl (l' := Lb114) rfl ?_
     refine si X113 hx hby at_175 rfl ?_
     refine sA X113 hx hby at_177 rfl rfl ?_
     refine sI X113 hx hby at_178 rfl ?_
     refine X113.baloadBooleans hx (j := (4 : Int32)) (v := (.int (1 : Int32))) (by rw [e113]; exact Ar115.1) (State.isArrayOf_alike hZ.alike Ar115.2.1) Ar115.2.2 hin115 (Hs115.at hin115 rfl) (g := (mkF m 179 Lb114 [(.int (4 : Int32)), (.ref b43), (.int (1 : Int32))])) rfl rfl (hb hby at_179) _ ?_
     show Steps p.tables e below (T113.setTop (mkF m 180 Lb114 [(.int (1 : Int32)), (.int (1 : Int32))])) _
     refine XS.icmpYes X113.here hx rfl (pc0 := 180) (pc' := 185) rfl (hb hby at_180) rfl (by decide) (by decide) (by decide) ?_
     refine si X113 hx hby at_185 rfl ?_
     refine sN X113 hx hby at_187 (by decide) ?_
     refine sa X113 hx hby at_190 rfl rfl ?_
     refine st116.trans ?_
     refine XS.ifYes X116.here hx rfl (pc0 := 195) (pc' := 200) rfl (hb hby at_195) rfl (by decide) (by decide) (by decide) ?_
     refine sc X116 hx hby at_200 ?_
     exact retN X116 hx (t := .boolean) Bd.returns (by simp) (hb hby at_201) hr
   · show Q0 n0 _ T116.heap _
     rw [e116]
     exact ⟨rfl, N116⟩
  ·
   rw [hs74] at pre73
   let Lb117 : Array Slot := #[.val (.int p0), .val (.ref b1), .val (.ref b43), .val (.int (5 : Int32)), .unset, .unset]
   have ne118 : b1 ≠ b43 := (Nat.ne_of_lt (Nat.lt_of_lt_of_le V40.lt (Nat.le_of_eq g43.symm)))
   have t119 := ((((((((((((((V40.ext E43).other W45 ne118).other W47 ne118).other W49 ne118).other W51 ne118).other W53 ne118).other W55 ne118).other W57 ne118).other W59 ne118).other W61 ne118).other W63 ne118).other W65 ne118).other W67 ne118).other W69 ne118)
   obtain ⟨cl120, Ar120, cw120, S120, Nn120, Hs120, G120⟩ := id (t119)
   have hin120 : ¬ ((5 : Int32) < 0 ∨ cl120.slots.size ≤ ((5 : Int32)).toNatClampNeg) := inb_of S120 ⟨by decide, by decide⟩
   let Lb121 : Array Slot := #[.val (.int p0), .val (.ref b1), .val (.ref b43), .val (.int (5 : Int32)), .val (.ref (w 5)), .unset]
   obtain ⟨cq122, kq122, q122a, q122b, q122c⟩ := isOf hZ e69 ((wd11 hW).ext O70.2)
   obtain ⟨_, _, ⟨T122, L122, kk122, nn122⟩, -, X122, ⟨Lc122, hQ122, l122, y122, z122⟩, st122⟩ := X69.virtualBack hx (y := ym0) (z := ym0) hown (mvT hZ (wk32 hw)) (mvT hZ (wk33 hw)) (notFace_of_selects (args := #[]) (mvT hZ (wk35 hw))) (mvT hZ (wk35 hw)) (mvT hZ (wk34 hw)) (by decide) (backOf (W := 0) (rm1_12 l Z a0 hw w hW []  h69 n0 O70 ) hZ (wk36 hw) (wk3 hw) (by decide) (by decide)) q122a q122c (g := (mkF m 170 Lb121 [(.ref (w 5))])) rfl (by rw [hml]; rfl) (Steps.refl _) (argsL := []) (rest := []) (lenOf pds_0 rfl) rfl (by show 2 * 0 + _ ≤ _; exact Nat.le_of_eq rfl) (hb hby at_170) (fun _ _ => ⟨rfl, e69, (by decide : 2 + 0 ≤ _), (by decide : 26 + 0 ≤ _)⟩)
   dsimp only [Pt.U, Pt.locs, Pt.cells, Pt.slots] at X122 l122 y122 z122 st122 hQ122
   rw [l122, y122, z122] at X122
   obtain ⟨rfl, N122q, e122⟩ := hQ122
   have N122 := Fr.app N69 N122q
   let Lb123 : Array Slot := #[.val (.int p0), .val (.ref b1), .val (.ref b43), .val (.int (5 : Int32)), .val (.ref (w 5)), .val (.int (1 : Int32))]
   obtain ⟨cl124, Ar124, cw124, S124, Nn124, Hs124, G124⟩ := id (V69)
   have hin124 : ¬ ((5 : Int32) < 0 ∨ cl124.slots.size ≤ ((5 : Int32)).toNatClampNeg) := inb_of S124 ⟨by decide, by decide⟩
   obtain ⟨cq125, kq125, q125a, q125b, q125c⟩ := isOf hZ e122 ((wd11 hW).ext O70.2)
   obtain ⟨_, _, ⟨T125, L125, kk125, nn125⟩, -, X125, ⟨Lc125, hQ125, l125, y125, z125⟩, st125⟩ := X122.virtualBack hx (y := ym3) (z := ym3) hown (mvT hZ (wk42 hw)) (mvT hZ (wk43 hw)) (notFace_of_selects (args := #[]) (mvT hZ (wk45 hw))) (mvT hZ (wk45 hw)) (mvT hZ (wk44 hw)) (by decide) (backOf (W := 0) (rm2_15 l Z a0 hw w hW []  h69 n0 O70 ) hZ (wk46 hw) (wk3 hw) (by decide) (by decide)) q125a q125c (g := (mkF m 192 Lb123 [(.ref (w 5))])) rfl (by rw [hml]; rfl) (Steps.refl _) (argsL := []) (rest := []) (lenOf pds_0 rfl) rfl (by show 2 * 0 + _ ≤ _; exact Nat.le_of_eq rfl) (hb hby at_192) (fun _ _ => ⟨rfl, e122, (by decide : 2 + 0 ≤ _), (by decide : 26 + 0 ≤ _)⟩)
   dsimp only [Pt.U, Pt.locs, Pt.cells, Pt.slots] at X125 l125 y125 z125 st125 hQ125
   rw [l125, y125, z125] at X125
   obtain ⟨rfl, N125q, e125⟩ := hQ125
   have N125 := Fr.app N122 N125q
   obtain ⟨fs, hr, hrun, hended, hWm, hsame⟩ := X125.leave (v := some (.int (1 : Int32))) (fun h => by rw [Bd.returns] at h; cases h)
   refine ⟨_, _, pre73 _ ?_, hrun, hended, _, _, rfl, ?_, ⟨_, rfl⟩, hWm, hsame.mono (by decide) (by decide)⟩
   · show Steps p.tables e below (T69.setTop (mkF m 165 Lb117 [(.int (5 : Int32)), (.ref b1)])) _
     refine X69.aaload hx (j := (5 : Int32)) (v := (.ref (w 5))) (by rw [e69]; exact Ar120.1) (State.isArrayOf_alike hZ.alike Ar120.2.1) rfl Ar120.2.2 hin120 (Hs120.at hin120 rfl) (g := (mkF m 165 Lb117 [(.int (5 : Int32)), (.ref b1)])) rfl rfl (hb hby at_165) _ ?_
     refine XS.astore X69.here hx rfl (hb hby at_166) rfl rfl (l' := Lb121) rfl ?_
     refine sa X69 hx hby at_168 rfl rfl ?_
     refine st122.trans ?_
     refine XS.istore X122.here hx rfl (hb hby at_173) rfl (l' := Lb123) rfl ?_
     refine si X122 hx hby at_175 rfl ?_
     refine sA X122 hx hby at_177 rfl rfl ?_
     refine sI X122 hx hby at_178 rfl ?_
     refine X122.baloadBooleans hx (j := (5 : Int32)) (v := (.int (1 : Int32))) (by rw [e122]; exact Ar124.1) (State.isArrayOf_alike hZ.alike Ar124.2.1) Ar124.2.2 hin124 (Hs124.at hin124 rfl) (g := (mkF m 179 Lb123 [(.int (5 : Int32)), (.ref b43), (.int (1 : Int32))])) rfl rfl (hb hby at_179) _ ?_
     show Steps p.tables e below (T122.setTop (mkF m 180 Lb123 [(.int (1 : Int32)), (.int (1 : Int32))])) _
     refine XS.icmpYes X122.here hx rfl (pc0 := 180) (pc' := 185) rfl (hb hby at_180) rfl (by decide) (by decide) (by decide) ?_
     refine si X122 hx hby at_185 rfl ?_
     refine sN X122 hx hby at_187 (by decide) ?_
     refine sa X122 hx hby at_190 rfl rfl ?_
     refine st125.trans ?_
     refine XS.ifYes X125.here hx rfl (pc0 := 195) (pc' := 200) rfl (hb hby at_195) rfl (by decide) (by decide) (by decide) ?_
     refine sc X125 hx hby at_200 ?_
     exact retN X125 hx (t := .boolean) Bd.returns (by simp) (hb hby at_201) hr
   · show Q0 n0 _ T125.heap _
     rw [e125]
     exact ⟨rfl, N125⟩
  ·
   rw [hs74] at pre73
   let Lb126 : Array Slot := #[.val (.int p0), .val (.ref b1), .val (.ref b43), .val (.int (6 : Int32)), .unset, .unset]
   have ne127 : b1 ≠ b43 := (Nat.ne_of_lt (Nat.lt_of_lt_of_le V40.lt (Nat.le_of_eq g43.symm)))
   have t128 := ((((((((((((((V40.ext E43).other W45 ne127).other W47 ne127).other W49 ne127).other W51 ne127).other W53 ne127).other W55 ne127).other W57 ne127).other W59 ne127).other W61 ne127).other W63 ne127).other W65 ne127).other W67 ne127).other W69 ne127)
   obtain ⟨cl129, Ar129, cw129, S129, Nn129, Hs129, G129⟩ := id (t128)
   have hin129 : ¬ ((6 : Int32) < 0 ∨ cl129.slots.size ≤ ((6 : Int32)).toNatClampNeg) := inb_of S129 ⟨by decide, by decide⟩
   let Lb130 : Array Slot := #[.val (.int p0), .val (.ref b1), .val (.ref b43), .val (.int (6 : Int32)), .val (.ref (w 6)), .unset]
   obtain ⟨cq131, kq131, q131a, q131b, q131c⟩ := isOf hZ e69 ((wd13 hW).ext O70.2)
   obtain ⟨_, _, ⟨T131, L131, kk131, nn131⟩, -, X131, ⟨Lc131, hQ131, l131, y131, z131⟩, st131⟩ := X69.virtualBack hx (y := ym0) (z := ym0) hown (mvT hZ (wk32 hw)) (mvT hZ (wk33 hw)) (notFace_of_selects (args := #[]) (mvT hZ (wk35 hw))) (mvT hZ (wk35 hw)) (mvT hZ (wk34 hw)) (by decide) (backOf (W := 0) (rm1_16 l Z a0 hw w hW []  h69 n0 O70 ) hZ (wk36 hw) (wk3 hw) (by decide) (by decide)) q131a q131c (g := (mkF m 170 Lb130 [(.ref (w 6))])) rfl (by rw [hml]; rfl) (Steps.refl _) (argsL := []) (rest := []) (lenOf pds_0 rfl) rfl (by show 2 * 0 + _ ≤ _; exact Nat.le_of_eq rfl) (hb hby at_170) (fun _ _ => ⟨rfl, e69, (by decide : 2 + 0 ≤ _), (by decide : 26 + 0 ≤ _)⟩)
   dsimp only [Pt.U, Pt.locs, Pt.cells, Pt.slots] at X131 l131 y131 z131 st131 hQ131
   rw [l131, y131, z131] at X131
   obtain ⟨rfl, N131q, e131⟩ := hQ131
   have N131 := Fr.app N69 N131q
   let Lb132 : Array Slot := #[.val (.int p0), .val (.ref b1), .val (.ref b43), .val (.int (6 : Int32)), .val (.ref (w 6)), .val (.int (1 : Int32))]
   obtain ⟨cl133, Ar133, cw133, S133, Nn133, Hs133, G133⟩ := id (V69)
   have hin133 : ¬ ((6 : Int32) < 0 ∨ cl133.slots.size ≤ ((6 : Int32)).toNatClampNeg) := inb_of S133 ⟨by decide, by decide⟩
   obtain ⟨cq134, kq134, q134a, q134b, q134c⟩ := isOf hZ e131 ((wd13 hW).ext O70.2)
   obtain ⟨_, _, ⟨T134, L134, kk134, nn134⟩, -, X134, ⟨Lc134, hQ134, l134, y134, z134⟩, st134⟩ := X131.virtualBack hx (y := ym3) (z := ym3) hown (mvT hZ (wk42 hw)) (mvT hZ (wk43 hw)) (notFace_of_selects (args := #[]) (mvT hZ (wk45 hw))) (mvT hZ (wk45 hw)) (mvT hZ (wk44 hw)) (by decide) (backOf (W := 0) (rm2_19 l Z a0 hw w hW []  h69 n0 O70 ) hZ (wk46 hw) (wk3 hw) (by decide) (by decide)) q134a q134c (g := (mkF m 192 Lb132 [(.ref (w 6))])) rfl (by rw [hml]; rfl) (Steps.refl _) (argsL := []) (rest := []) (lenOf pds_0 rfl) rfl (by show 2 * 0 + _ ≤ _; exact Nat.le_of_eq rfl) (hb hby at_192) (fun _ _ => ⟨rfl, e131, (by decide : 2 + 0 ≤ _), (by decide : 26 + 0 ≤ _)⟩)
   dsimp only [Pt.U, Pt.locs, Pt.cells, Pt.slots] at X134 l134 y134 z134 st134 hQ134
   rw [l134, y134, z134] at X134
   obtain ⟨rfl, N134q, e134⟩ := hQ134
   have N134 := Fr.app N131 N134q
   obtain ⟨fs, hr, hrun, hended, hWm, hsame⟩ := X134.leave (v := some (.int (1 : Int32))) (fun h => by rw [Bd.returns] at h; cases h)
   refine ⟨_, _, pre73 _ ?_, hrun, hended, _, _, rfl, ?_, ⟨_, rfl⟩, hWm, hsame.mono (by decide) (by decide)⟩
   · show Steps p.tables e below (T69.setTop (mkF m 165 Lb126 [(.int (6 : Int32)), (.ref b1)])) _
     refine X69.aaload hx (j := (6 : Int32)) (v := (.ref (w 6))) (by rw [e69]; exact Ar129.1) (State.isArrayOf_alike hZ.alike Ar129.2.1) rfl Ar129.2.2 hin129 (Hs129.at hin129 rfl) (g := (mkF m 165 Lb126 [(.int (6 : Int32)), (.ref b1)])) rfl rfl (hb hby at_165) _ ?_
     refine XS.astore X69.here hx rfl (hb hby at_166) rfl rfl (l' := Lb130) rfl ?_
     refine sa X69 hx hby at_168 rfl rfl ?_
     refine st131.trans ?_
     refine XS.istore X131.here hx rfl (hb hby at_173) rfl (l' := Lb132) rfl ?_
     refine si X131 hx hby at_175 rfl ?_
     refine sA X131 hx hby at_177 rfl rfl ?_
     refine sI X131 hx hby at_178 rfl ?_
     refine X131.baloadBooleans hx (j := (6 : Int32)) (v := (.int (1 : Int32))) (by rw [e131]; exact Ar133.1) (State.isArrayOf_alike hZ.alike Ar133.2.1) Ar133.2.2 hin133 (Hs133.at hin133 rfl) (g := (mkF m 179 Lb132 [(.int (6 : Int32)), (.ref b43), (.int (1 : Int32))])) rfl rfl (hb hby at_179) _ ?_
     show Steps p.tables e below (T131.setTop (mkF m 180 Lb132 [(.int (1 : Int32)), (.int (1 : Int32))])) _
     refine XS.icmpYes X131.here hx rfl (pc0 := 180) (pc' := 185) rfl (hb hby at_180) rfl (by decide) (by decide) (by decide) ?_
     refine si X131 hx hby at_185 rfl ?_
     refine sN X131 hx hby at_187 (by decide) ?_
     refine sa X131 hx hby at_190 rfl rfl ?_
     refine st134.trans ?_
     refine XS.ifYes X134.here hx rfl (pc0 := 195) (pc' := 200) rfl (hb hby at_195) rfl (by decide) (by decide) (by decide) ?_
     refine sc X134 hx hby at_200 ?_
     exact retN X134 hx (t := .boolean) Bd.returns (by simp) (hb hby at_201) hr
   · show Q0 n0 _ T134.heap _
     rw [e134]
     exact ⟨rfl, N134⟩
  ·
   rw [hs74] at pre73
   let Lb135 : Array Slot := #[.val (.int p0), .val (.ref b1), .val (.ref b43), .val (.int (7 : Int32)), .unset, .unset]
   have ne136 : b1 ≠ b43 := (Nat.ne_of_lt (Nat.lt_of_lt_of_le V40.lt (Nat.le_of_eq g43.symm)))
   have t137 := ((((((((((((((V40.ext E43).other W45 ne136).other W47 ne136).other W49 ne136).other W51 ne136).other W53 ne136).other W55 ne136).other W57 ne136).other W59 ne136).other W61 ne136).other W63 ne136).other W65 ne136).other W67 ne136).other W69 ne136)
   obtain ⟨cl138, Ar138, cw138, S138, Nn138, Hs138, G138⟩ := id (t137)
   have hin138 : ¬ ((7 : Int32) < 0 ∨ cl138.slots.size ≤ ((7 : Int32)).toNatClampNeg) := inb_of S138 ⟨by decide, by decide⟩
   let Lb139 : Array Slot := #[.val (.int p0), .val (.ref b1), .val (.ref b43), .val (.int (7 : Int32)), .val (.ref (w 7)), .unset]
   obtain ⟨cq140, kq140, q140a, q140b, q140c⟩ := isOf hZ e69 ((wd15 hW).ext O70.2)
   obtain ⟨_, _, ⟨T140, L140, kk140, nn140⟩, -, X140, ⟨Lc140, hQ140, l140, y140, z140⟩, st140⟩ := X69.virtualBack hx (y := ym0) (z := ym0) hown (mvT hZ (wk32 hw)) (mvT hZ (wk33 hw)) (notFace_of_selects (args := #[]) (mvT hZ (wk35 hw))) (mvT hZ (wk35 hw)) (mvT hZ (wk34 hw)) (by decide) (backOf (W := 0) (rm1_20 l Z a0 hw w hW []  h69 n0 O70 ) hZ (wk36 hw) (wk3 hw) (by decide) (by decide)) q140a q140c (g := (mkF m 170 Lb139 [(.ref (w 7))])) rfl (by rw [hml]; rfl) (Steps.refl _) (argsL := []) (rest := []) (lenOf pds_0 rfl) rfl (by show 2 * 0 + _ ≤ _; exact Nat.le_of_eq rfl) (hb hby at_170) (fun _ _ => ⟨rfl, e69, (by decide : 2 + 0 ≤ _), (by decide : 26 + 0 ≤ _)⟩)
   dsimp only [Pt.U, Pt.locs, Pt.cells, Pt.slots] at X140 l140 y140 z140 st140 hQ140
   rw [l140, y140, z140] at X140
   obtain ⟨rfl, N140q, e140⟩ := hQ140
   have N140 := Fr.app N69 N140q
   let Lb141 : Array Slot := #[.val (.int p0), .val (.ref b1), .val (.ref b43), .val (.int (7 : Int32)), .val (.ref (w 7)), .val (.int (1 : Int32))]
   obtain ⟨cl142, Ar142, cw142, S142, Nn142, Hs142, G142⟩ := id (V69)
   have hin142 : ¬ ((7 : Int32) < 0 ∨ cl142.slots.size ≤ ((7 : Int32)).toNatClampNeg) := inb_of S142 ⟨by decide, by decide⟩
   obtain ⟨cq143, kq143, q143a, q143b, q143c⟩ := isOf hZ e140 ((wd15 hW).ext O70.2)
   obtain ⟨_, _, ⟨T143, L143, kk143, nn143⟩, -, X143, ⟨Lc143, hQ143, l143, y143, z143⟩, st143⟩ := X140.virtualBack hx (y := ym3) (z := ym3) hown (mvT hZ (wk42 hw)) (mvT hZ (wk43 hw)) (notFace_of_selects (args := #[]) (mvT hZ (wk45 hw))) (mvT hZ (wk45 hw)) (mvT hZ (wk44 hw)) (by decide) (backOf (W := 0) (rm2_23 l Z a0 hw w hW []  h69 n0 O70 ) hZ (wk46 hw) (wk3 hw) (by decide) (by decide)) q143a q143c (g := (mkF m 192 Lb141 [(.ref (w 7))])) rfl (by rw [hml]; rfl) (Steps.refl _) (argsL := []) (rest := []) (lenOf pds_0 rfl) rfl (by show 2 * 0 + _ ≤ _; exact Nat.le_of_eq rfl) (hb hby at_192) (fun _ _ => ⟨rfl, e140, (by decide : 2 + 0 ≤ _), (by decide : 26 + 0 ≤ _)⟩)
   dsimp only [Pt.U, Pt.locs, Pt.cells, Pt.slots] at X143 l143 y143 z143 st143 hQ143
   rw [l143, y143, z143] at X143
   obtain ⟨rfl, N143q, e143⟩ := hQ143
   have N143 := Fr.app N140 N143q
   obtain ⟨fs, hr, hrun, hended, hWm, hsame⟩ := X143.leave (v := some (.int (1 : Int32))) (fun h => by rw [Bd.returns] at h; cases h)
   refine ⟨_, _, pre73 _ ?_, hrun, hended, _, _, rfl, ?_, ⟨_, rfl⟩, hWm, hsame.mono (by decide) (by decide)⟩
   · show Steps p.tables e below (T69.setTop (mkF m 165 Lb135 [(.int (7 : Int32)), (.ref b1)])) _
     refine X69.aaload hx (j := (7 : Int32)) (v := (.ref (w 7))) (by rw [e69]; exact Ar138.1) (State.isArrayOf_alike hZ.alike Ar138.2.1) rfl Ar138.2.2 hin138 (Hs138.at hin138 rfl) (g := (mkF m 165 Lb135 [(.int (7 : Int32)), (.ref b1)])) rfl rfl (hb hby at_165) _ ?_
     refine XS.astore X69.here hx rfl (hb hby at_166) rfl rfl (l' := Lb139) rfl ?_
     refine sa X69 hx hby at_168 rfl rfl ?_
     refine st140.trans ?_
     refine XS.istore X140.here hx rfl (hb hby at_173) rfl (l' := Lb141) rfl ?_
     refine si X140 hx hby at_175 rfl ?_
     refine sA X140 hx hby at_177 rfl rfl ?_
     refine sI X140 hx hby at_178 rfl ?_
     refine X140.baloadBooleans hx (j := (7 : Int32)) (v := (.int (1 : Int32))) (by rw [e140]; exact Ar142.1) (State.isArrayOf_alike hZ.alike Ar142.2.1) Ar142.2.2 hin142 (Hs142.at hin142 rfl) (g := (mkF m 179 Lb141 [(.int (7 : Int32)), (.ref b43), (.int (1 : Int32))])) rfl rfl (hb hby at_179) _ ?_
     show Steps p.tables e below (T140.setTop (mkF m 180 Lb141 [(.int (1 : Int32)), (.int (1 : Int32))])) _
     refine XS.icmpYes X140.here hx rfl (pc0 := 180) (pc' := 185) rfl (hb hby at_180) rfl (by decide) (by decide) (by decide) ?_
     refine si X140 hx hby at_185 rfl ?_
     refine sN X140 hx hby at_187 (by decide) ?_
     refine sa X140 hx hby at_190 rfl rfl ?_
     refine st143.trans ?_
     refine XS.ifYes X143.here hx rfl (pc0 := 195) (pc' := 200) rfl (hb hby at_195) rfl (by decide) (by decide) (by decide) ?_
     refine sc X143 hx hby at_200 ?_
     exact retN X143 hx (t := .boolean) Bd.returns (by simp) (hb hby at_201) hr
   · show Q0 n0 _ T143.heap _
     rw [e143]
     exact ⟨rfl, N143⟩
  ·
   rw [hs74] at pre73
   let Lb144 : Array Slot := #[.val (.int p0), .val (.ref b1), .val (.ref b43), .val (.int (8 : Int32)), .unset, .unset]
   have ne145 : b1 ≠ b43 := (Nat.ne_of_lt (Nat.lt_of_lt_of_le V40.lt (Nat.le_of_eq g43.symm)))
   have t146 := ((((((((((((((V40.ext E43).other W45 ne145).other W47 ne145).other W49 ne145).other W51 ne145).other W53 ne145).other W55 ne145).other W57 ne145).other W59 ne145).other W61 ne145).other W63 ne145).other W65 ne145).other W67 ne145).other W69 ne145)
   obtain ⟨cl147, Ar147, cw147, S147, Nn147, Hs147, G147⟩ := id (t146)
   have hin147 : ¬ ((8 : Int32) < 0 ∨ cl147.slots.size ≤ ((8 : Int32)).toNatClampNeg) := inb_of S147 ⟨by decide, by decide⟩
   let Lb148 : Array Slot := #[.val (.int p0), .val (.ref b1), .val (.ref b43), .val (.int (8 : Int32)), .val (.ref (w 8)), .unset]
   obtain ⟨cq149, kq149, q149a, q149b, q149c⟩ := isOf hZ e69 ((wd17 hW).ext O70.2)
   obtain ⟨_, _, ⟨T149, L149, kk149, nn149⟩, -, X149, ⟨Lc149, hQ149, l149, y149, z149⟩, st149⟩ := X69.virtualBack hx (y := ym0) (z := ym0) hown (mvT hZ (wk32 hw)) (mvT hZ (wk33 hw)) (notFace_of_selects (args := #[]) (mvT hZ (wk35 hw))) (mvT hZ (wk35 hw)) (mvT hZ (wk34 hw)) (by decide) (backOf (W := 0) (rm1_24 l Z a0 hw w hW []  h69 n0 O70 ) hZ (wk36 hw) (wk3 hw) (by decide) (by decide)) q149a q149c (g := (mkF m 170 Lb148 [(.ref (w 8))])) rfl (by rw [hml]; rfl) (Steps.refl _) (argsL := []) (rest := []) (lenOf pds_0 rfl) rfl (by show 2 * 0 + _ ≤ _; exact Nat.le_of_eq rfl) (hb hby at_170) (fun _ _ => ⟨rfl, e69, (by decide : 2 + 0 ≤ _), (by decide : 26 + 0 ≤ _)⟩)
   dsimp only [Pt.U, Pt.locs, Pt.cells, Pt.slots] at X149 l149 y149 z149 st149 hQ149
   rw [l149, y149, z149] at X149
   obtain ⟨rfl, N149q, e149⟩ := hQ149
   have N149 := Fr.app N69 N149q
   let Lb150 : Array Slot := #[.val (.int p0), .val (.ref b1), .val (.ref b43), .val (.int (8 : Int32)), .val (.ref (w 8)), .val (.int (0 : Int32))]
   obtain ⟨cl151, Ar151, cw151, S151, Nn151, Hs151, G151⟩ := id (V69)
   have hin151 : ¬ ((8 : Int32) < 0 ∨ cl151.slots.size ≤ ((8 : Int32)).toNatClampNeg) := inb_of S151 ⟨by decide, by decide⟩
   obtain ⟨fs, hr, hrun, hended, hWm, hsame⟩ := X149.leave (v := some (.int (1 : Int32))) (fun h => by rw [Bd.returns] at h; cases h)
   refine ⟨_, _, pre73 _ ?_, hrun, hended, _, _, rfl, ?_, ⟨_, rfl⟩, hWm, hsame.mono (by decide) (by decide)⟩
   · show Steps p.tables e below (T69.setTop (mkF m 165 Lb144 [(.int (8 : Int32)), (.ref b1)])) _
     refine X69.aaload hx (j := (8 : Int32)) (v := (.ref (w 8))) (by rw [e69]; exact Ar147.1) (State.isArrayOf_alike hZ.alike Ar147.2.1) rfl Ar147.2.2 hin147 (Hs147.at hin147 rfl) (g := (mkF m 165 Lb144 [(.int (8 : Int32)), (.ref b1)])) rfl rfl (hb hby at_165) _ ?_
     refine XS.astore X69.here hx rfl (hb hby at_166) rfl rfl (l' := Lb148) rfl ?_
     refine sa X69 hx hby at_168 rfl rfl ?_
     refine st149.trans ?_
     refine XS.istore X149.here hx rfl (hb hby at_173) rfl (l' := Lb150) rfl ?_
     refine si X149 hx hby at_175 rfl ?_
     refine sA X149 hx hby at_177 rfl rfl ?_
     refine sI X149 hx hby at_178 rfl ?_
     refine X149.baloadBooleans hx (j := (8 : Int32)) (v := (.int (0 : Int32))) (by rw [e149]; exact Ar151.1) (State.isArrayOf_alike hZ.alike Ar151.2.1) Ar151.2.2 hin151 (Hs151.at hin151 rfl) (g := (mkF m 179 Lb150 [(.int (8 : Int32)), (.ref b43), (.int (0 : Int32))])) rfl rfl (hb hby at_179) _ ?_
     show Steps p.tables e below (T149.setTop (mkF m 180 Lb150 [(.int (0 : Int32)), (.int (0 : Int32))])) _
     refine XS.icmpYes X149.here hx rfl (pc0 := 180) (pc' := 185) rfl (hb hby at_180) rfl (by decide) (by decide) (by decide) ?_
     refine si X149 hx hby at_185 rfl ?_
     refine XS.ifYes X149.here hx rfl (pc0 := 187) (pc' := 200) rfl (hb hby at_187) rfl (by decide) (by decide) (by decide) ?_
     refine sc X149 hx hby at_200 ?_
     exact retN X149 hx (t := .boolean) Bd.returns (by simp) (hb hby at_201) hr
   · show Q0 n0 _ T149.heap _
     rw [e149]
     exact ⟨rfl, N149⟩
  ·
   rw [hs74] at pre73
   let Lb152 : Array Slot := #[.val (.int p0), .val (.ref b1), .val (.ref b43), .val (.int (9 : Int32)), .unset, .unset]
   have ne153 : b1 ≠ b43 := (Nat.ne_of_lt (Nat.lt_of_lt_of_le V40.lt (Nat.le_of_eq g43.symm)))
   have t154 := ((((((((((((((V40.ext E43).other W45 ne153).other W47 ne153).other W49 ne153).other W51 ne153).other W53 ne153).other W55 ne153).other W57 ne153).other W59 ne153).other W61 ne153).other W63 ne153).other W65 ne153).other W67 ne153).other W69 ne153)
   obtain ⟨cl155, Ar155, cw155, S155, Nn155, Hs155, G155⟩ := id (t154)
   have hin155 : ¬ ((9 : Int32) < 0 ∨ cl155.slots.size ≤ ((9 : Int32)).toNatClampNeg) := inb_of S155 ⟨by decide, by decide⟩
   let Lb156 : Array Slot := #[.val (.int p0), .val (.ref b1), .val (.ref b43), .val (.int (9 : Int32)), .val (.ref (w 9)), .unset]
   obtain ⟨cq157, kq157, q157a, q157b, q157c⟩ := isOf hZ e69 ((wd19 hW).ext O70.2)
   obtain ⟨_, _, ⟨T157, L157, kk157, nn157⟩, -, X157, ⟨Lc157, hQ157, l157, y157, z157⟩, st157⟩ := X69.virtualBack hx (y := ym0) (z := ym0) hown (mvT hZ (wk32 hw)) (mvT hZ (wk33 hw)) (notFace_of_selects (args := #[]) (mvT hZ (wk35 hw))) (mvT hZ (wk35 hw)) (mvT hZ (wk34 hw)) (by decide) (backOf (W := 0) (rm1_25 l Z a0 hw w hW []  h69 n0 O70 ) hZ (wk36 hw) (wk3 hw) (by decide) (by decide)) q157a q157c (g := (mkF m 170 Lb156 [(.ref (w 9))])) rfl (by rw [hml]; rfl) (Steps.refl _) (argsL := []) (rest := []) (lenOf pds_0 rfl) rfl (by show 2 * 0 + _ ≤ _; exact Nat.le_of_eq rfl) (hb hby at_170) (fun _ _ => ⟨rfl, e69, (by decide : 2 + 0 ≤ _), (by decide : 26 + 0 ≤ _)⟩)
   dsimp only [Pt.U, Pt.locs, Pt.cells, Pt.slots] at X157 l157 y157 z157 st157 hQ157
   rw [l157, y157, z157] at X157
   obtain ⟨rfl, N157q, e157⟩ := hQ157
   have N157 := Fr.app N69 N157q
   let Lb158 : Array Slot := #[.val (.int p0), .val (.ref b1), .val (.ref b43), .val (.int (9 : Int32)), .val (.ref (w 9)), .val (.int (0 : Int32))]
   obtain ⟨cl159, Ar159, cw159, S159, Nn159, Hs159, G159⟩ := id (V69)
   have hin159 : ¬ ((9 : Int32) < 0 ∨ cl159.slots.size ≤ ((9 : Int32)).toNatClampNeg) := inb_of S159 ⟨by decide, by decide⟩
   obtain ⟨fs, hr, hrun, hended, hWm, hsame⟩ := X157.leave (v := some (.int (1 : Int32))) (fun h => by rw [Bd.returns] at h; cases h)
   refine ⟨_, _, pre73 _ ?_, hrun, hended, _, _, rfl, ?_, ⟨_, rfl⟩, hWm, hsame.mono (by decide) (by decide)⟩
   · show Steps p.tables e below (T69.setTop (mkF m 165 Lb152 [(.int (9 : Int32)), (.ref b1)])) _
     refine X69.aaload hx (j := (9 : Int32)) (v := (.ref (w 9))) (by rw [e69]; exact Ar155.1) (State.isArrayOf_alike hZ.alike Ar155.2.1) rfl Ar155.2.2 hin155 (Hs155.at hin155 rfl) (g := (mkF m 165 Lb152 [(.int (9 : Int32)), (.ref b1)])) rfl rfl (hb hby at_165) _ ?_
     refine XS.astore X69.here hx rfl (hb hby at_166) rfl rfl (l' := Lb156) rfl ?_
     refine sa X69 hx hby at_168 rfl rfl ?_
     refine st157.trans ?_
     refine XS.istore X157.here hx rfl (hb hby at_173) rfl (l' := Lb158) rfl ?_
     refine si X157 hx hby at_175 rfl ?_
     refine sA X157 hx hby at_177 rfl rfl ?_
     refine sI X157 hx hby at_178 rfl ?_
     refine X157.baloadBooleans hx (j := (9 : Int32)) (v := (.int (0 : Int32))) (by rw [e157]; exact Ar159.1) (State.isArrayOf_alike hZ.alike Ar159.2.1) Ar159.2.2 hin159 (Hs159.at hin159 rfl) (g := (mkF m 179 Lb158 [(.int (9 : Int32)), (.ref b43), (.int (0 : Int32))])) rfl rfl (hb hby at_179) _ ?_
     show Steps p.tables e below (T157.setTop (mkF m 180 Lb158 [(.int (0 : Int32)), (.int (0 : Int32))])) _
     refine XS.icmpYes X157.here hx rfl (pc0 := 180) (pc' := 185) rfl (hb hby at_180) rfl (by decide) (by decide) (by decide) ?_
     refine si X157 hx hby at_185 rfl ?_
     refine XS.ifYes X157.here hx rfl (pc0 := 187) (pc' := 200) rfl (hb hby at_187) rfl (by decide) (by decide) (by decide) ?_
     refine sc X157 hx hby at_200 ?_
     exact retN X157 hx (t := .boolean) Bd.returns (by simp) (hb hby at_201) hr
   · show Q0 n0 _ T157.heap _
     rw [e157]
     exact ⟨rfl, N157⟩
  ·
   rw [hs74] at pre73
   let Lb160 : Array Slot := #[.val (.int p0), .val (.ref b1), .val (.ref b43), .val (.int (10 : Int32)), .unset, .unset]
   have ne161 : b1 ≠ b43 := (Nat.ne_of_lt (Nat.lt_of_lt_of_le V40.lt (Nat.le_of_eq g43.symm)))
   have t162 := ((((((((((((((V40.ext E43).other W45 ne161).other W47 ne161).other W49 ne161).other W51 ne161).other W53 ne161).other W55 ne161).other W57 ne161).other W59 ne161).other W61 ne161).other W63 ne161).other W65 ne161).other W67 ne161).other W69 ne161)
   obtain ⟨cl163, Ar163, cw163, S163, Nn163, Hs163, G163⟩ := id (t162)
   have hin163 : ¬ ((10 : Int32) < 0 ∨ cl163.slots.size ≤ ((10 : Int32)).toNatClampNeg) := inb_of S163 ⟨by decide, by decide⟩
   let Lb164 : Array Slot := #[.val (.int p0), .val (.ref b1), .val (.ref b43), .val (.int (10 : Int32)), .val (.ref (w 10)), .unset]
   obtain ⟨cq165, kq165, q165a, q165b, q165c⟩ := isOf hZ e69 ((wd21 hW).ext O70.2)
   obtain ⟨_, _, ⟨T165, L165, kk165, nn165⟩, -, X165, ⟨Lc165, hQ165, l165, y165, z165⟩, st165⟩ := X69.virtualBack hx (y := ym0) (z := ym0) hown (mvT hZ (wk32 hw)) (mvT hZ (wk33 hw)) (notFace_of_selects (args := #[]) (mvT hZ (wk35 hw))) (mvT hZ (wk35 hw)) (mvT hZ (wk34 hw)) (by decide) (backOf (W := 0) (rm1_26 l Z a0 hw w hW []  h69 n0 O70 ) hZ (wk36 hw) (wk3 hw) (by decide) (by decide)) q165a q165c (g := (mkF m 170 Lb164 [(.ref (w 10))])) rfl (by rw [hml]; rfl) (Steps.refl _) (argsL := []) (rest := []) (lenOf pds_0 rfl) rfl (by show 2 * 0 + _ ≤ _; exact Nat.le_of_eq rfl) (hb hby at_170) (fun _ _ => ⟨rfl, e69, (by decide : 2 + 0 ≤ _), (by decide : 26 + 0 ≤ _)⟩)
   dsimp only [Pt.U, Pt.locs, Pt.cells, Pt.slots] at X165 l165 y165 z165 st165 hQ165
   rw [l165, y165, z165] at X165
   obtain ⟨rfl, N165q, e165⟩ := hQ165
   have N165 := Fr.app N69 N165q
   let Lb166 : Array Slot := #[.val (.int p0), .val (.ref b1), .val (.ref b43), .val (.int (10 : Int32)), .val (.ref (w 10)), .val (.int (0 : Int32))]
   obtain ⟨cl167, Ar167, cw167, S167, Nn167, Hs167, G167⟩ := id (V69)
   have hin167 : ¬ ((10 : Int32) < 0 ∨ cl167.slots.size ≤ ((10 : Int32)).toNatClampNeg) := inb_of S167 ⟨by decide, by decide⟩
   obtain ⟨fs, hr, hrun, hended, hWm, hsame⟩ := X165.leave (v := some (.int (1 : Int32))) (fun h => by rw [Bd.returns] at h; cases h)
   refine ⟨_, _, pre73 _ ?_, hrun, hended, _, _, rfl, ?_, ⟨_, rfl⟩, hWm, hsame.mono (by decide) (by decide)⟩
   · show Steps p.tables e below (T69.setTop (mkF m 165 Lb160 [(.int (10 : Int32)), (.ref b1)])) _
     refine X69.aaload hx (j := (10 : Int32)) (v := (.ref (w 10))) (by rw [e69]; exact Ar163.1) (State.isArrayOf_alike hZ.alike Ar163.2.1) rfl Ar163.2.2 hin163 (Hs163.at hin163 rfl) (g := (mkF m 165 Lb160 [(.int (10 : Int32)), (.ref b1)])) rfl rfl (hb hby at_165) _ ?_
     refine XS.astore X69.here hx rfl (hb hby at_166) rfl rfl (l' := Lb164) rfl ?_
     refine sa X69 hx hby at_168 rfl rfl ?_
     refine st165.trans ?_
     refine XS.istore X165.here hx rfl (hb hby at_173) rfl (l' := Lb166) rfl ?_
     refine si X165 hx hby at_175 rfl ?_
     refine sA X165 hx hby at_177 rfl rfl ?_
     refine sI X165 hx hby at_178 rfl ?_
     refine X165.baloadBooleans hx (j := (10 : Int32)) (v := (.int (0 : Int32))) (by rw [e165]; exact Ar167.1) (State.isArrayOf_alike hZ.alike Ar167.2.1) Ar167.2.2 hin167 (Hs167.at hin167 rfl) (g := (mkF m 179 Lb166 [(.int (10 : Int32)), (.ref b43), (.int (0 : Int32))])) rfl rfl (hb hby at_179) _ ?_
     show Steps p.tables e below (T165.setTop (mkF m 180 Lb166 [(.int (0 : Int32)), (.int (0 : Int32))])) _
     refine XS.icmpYes X165.here hx rfl (pc0 := 180) (pc' := 185) rfl (hb hby at_180) rfl (by decide) (by decide) (by decide) ?_
     refine si X165 hx hby at_185 rfl ?_
     refine XS.ifYes X165.here hx rfl (pc0 := 187) (pc' := 200) rfl (hb hby at_187) rfl (by decide) (by decide) (by decide) ?_
     refine sc X165 hx hby at_200 ?_
     exact retN X165 hx (t := .boolean) Bd.returns (by simp) (hb hby at_201) hr
   · show Q0 n0 _ T165.heap _
     rw [e165]
     exact ⟨rfl, N165⟩
  ·
   rw [hs74] at pre73
   let Lb168 : Array Slot := #[.val (.int p0), .val (.ref b1), .val (.ref b43), .val (.int (11 : Int32)), .unset, .unset]
   have ne169 : b1 ≠ b43 := (Nat.ne_of_lt (Nat.lt_of_lt_of_le V40.lt (Nat.le_of_eq g43.symm)))
   have t170 := ((((((((((((((V40.ext E43).other W45 ne169).other W47 ne169).other W49 ne169).other W51 ne169).other W53 ne169).other W55 ne169).other W57 ne169).other W59 ne169).other W61 ne169).other W63 ne169).other W65 ne169).other W67 ne169).other W69 ne169)
   obtain ⟨cl171, Ar171, cw171, S171, Nn171, Hs171, G171⟩ := id (t170)
   have hin171 : ¬ ((11 : Int32) < 0 ∨ cl171.slots.size ≤ ((11 : Int32)).toNatClampNeg) := inb_of S171 ⟨by decide, by decide⟩
   let Lb172 : Array Slot := #[.val (.int p0), .val (.ref b1), .val (.ref b43), .val (.int (11 : Int32)), .val (.ref (w 11)), .unset]
   obtain ⟨cq173, kq173, q173a, q173b, q173c⟩ := isOf hZ e69 ((wd23 hW).ext O70.2)
   obtain ⟨_, _, ⟨T173, L173, kk173, nn173⟩, -, X173, ⟨Lc173, hQ173, l173, y173, z173⟩, st173⟩ := X69.virtualBack hx (y := ym0) (z := ym0) hown (mvT hZ (wk32 hw)) (mvT hZ (wk33 hw)) (notFace_of_selects (args := #[]) (mvT hZ (wk35 hw))) (mvT hZ (wk35 hw)) (mvT hZ (wk34 hw)) (by decide) (backOf (W := 0) (rm1_27 l Z a0 hw w hW []  h69 n0 O70 ) hZ (wk36 hw) (wk3 hw) (by decide) (by decide)) q173a q173c (g := (mkF m 170 Lb172 [(.ref (w 11))])) rfl (by rw [hml]; rfl) (Steps.refl _) (argsL := []) (rest := []) (lenOf pds_0 rfl) rfl (by show 2 * 0 + _ ≤ _; exact Nat.le_of_eq rfl) (hb hby at_170) (fun _ _ => ⟨rfl, e69, (by decide : 2 + 0 ≤ _), (by decide : 26 + 0 ≤ _)⟩)
   dsimp only [Pt.U, Pt.locs, Pt.cells, Pt.slots] at X173 l173 y173 z173 st173 hQ173
   rw [l173, y173, z173] at X173
   obtain ⟨rfl, N173q, e173⟩ := hQ173
   have N173 := Fr.app N69 N173q
   let Lb174 : Array Slot := #[.val (.int p0), .val (.ref b1), .val (.ref b43), .val (.int (11 : Int32)), .val (.ref (w 11)), .val (.int (0 : Int32))]
   obtain ⟨cl175, Ar175, cw175, S175, Nn175, Hs175, G175⟩ := id (V69)
   have hin175 : ¬ ((11 : Int32) < 0 ∨ cl175.slots.size ≤ ((11 : Int32)).toNatClampNeg) := inb_of S175 ⟨by decide, by decide⟩
   obtain ⟨fs, hr, hrun, hended, hWm, hsame⟩ := X173.leave (v := some (.int (1 : Int32))) (fun h => by rw [Bd.returns] at h; cases h)
   refine ⟨_, _, pre73 _ ?_, hrun, hended, _, _, rfl, ?_, ⟨_, rfl⟩, hWm, hsame.mono (by decide) (by decide)⟩
   · show Steps p.tables e below (T69.setTop (mkF m 165 Lb168 [(.int (11 : Int32)), (.ref b1)])) _
     refine X69.aaload hx (j := (11 : Int32)) (v := (.ref (w 11))) (by rw [e69]; exact Ar171.1) (State.isArrayOf_alike hZ.alike Ar171.2.1) rfl Ar171.2.2 hin171 (Hs171.at hin171 rfl) (g := (mkF m 165 Lb168 [(.int (11 : Int32)), (.ref b1)])) rfl rfl (hb hby at_165) _ ?_
     refine XS.astore X69.here hx rfl (hb hby at_166) rfl rfl (l' := Lb172) rfl ?_
     refine sa X69 hx hby at_168 rfl rfl ?_
     refine st173.trans ?_
     refine XS.istore X173.here hx rfl (hb hby at_173) rfl (l' := Lb174) rfl ?_
     refine si X173 hx hby at_175 rfl ?_
     refine sA X173 hx hby at_177 rfl rfl ?_
     refine sI X173 hx hby at_178 rfl ?_
     refine X173.baloadBooleans hx (j := (11 : Int32)) (v := (.int (0 : Int32))) (by rw [e173]; exact Ar175.1) (State.isArrayOf_alike hZ.alike Ar175.2.1) Ar175.2.2 hin175 (Hs175.at hin175 rfl) (g := (mkF m 179 Lb174 [(.int (11 : Int32)), (.ref b43), (.int (0 : Int32))])) rfl rfl (hb hby at_179) _ ?_
     show Steps p.tables e below (T173.setTop (mkF m 180 Lb174 [(.int (0 : Int32)), (.int (0 : Int32))])) _
     refine XS.icmpYes X173.here hx rfl (pc0 := 180) (pc' := 185) rfl (hb hby at_180) rfl (by decide) (by decide) (by decide) ?_
     refine si X173 hx hby at_185 rfl ?_
     refine XS.ifYes X173.here hx rfl (pc0 := 187) (pc' := 200) rfl (hb hby at_187) rfl (by decide) (by decide) (by decide) ?_
     refine sc X173 hx hby at_200 ?_
     exact retN X173 hx (t := .boolean) Bd.returns (by simp) (hb hby at_201) hr
   · show Q0 n0 _ T173.heap _
     rw [e173]
     exact ⟨rfl, N173⟩
  ·
   rw [hs74] at pre73
   let Lb176 : Array Slot := #[.val (.int p0), .val (.ref b1), .val (.ref b43), .val (.int (12 : Int32)), .unset, .unset]
   have ne177 : b1 ≠ b43 := (Nat.ne_of_lt (Nat.lt_of_lt_of_le V40.lt (Nat.le_of_eq g43.symm)))
   have t178 := ((((((((((((((V40.ext E43).other W45 ne177).other W47 ne177).other W49 ne177).other W51 ne177).other W53 ne177).other W55 ne177).other W57 ne177).other W59 ne177).other W61 ne177).other W63 ne177).other W65 ne177).other W67 ne177).other W69 ne177)
   obtain ⟨cl179, Ar179, cw179, S179, Nn179, Hs179, G179⟩ := id (t178)
   have hin179 : ¬ ((12 : Int32) < 0 ∨ cl179.slots.size ≤ ((12 : Int32)).toNatClampNeg) := inb_of S179 ⟨by decide, by decide⟩
   let Lb180 : Array Slot := #[.val (.int p0), .val (.ref b1), .val (.ref b43), .val (.int (12 : Int32)), .val (.ref (w 12)), .unset]
   obtain ⟨cq181, kq181, q181a, q181b, q181c⟩ := isOf hZ e69 ((wd25 hW).ext O70.2)
   obtain ⟨_, _, ⟨T181, L181, kk181, nn181⟩, -, X181, ⟨Lc181, hQ181, l181, y181, z181⟩, st181⟩ := X69.virtualBack hx (y := ym0) (z := ym0) hown (mvT hZ (wk32 hw)) (mvT hZ (wk33 hw)) (notFace_of_selects (args := #[]) (mvT hZ (wk35 hw))) (mvT hZ (wk35 hw)) (mvT hZ (wk34 hw)) (by decide) (backOf (W := 0) (rm1_28 l Z a0 hw w hW []  h69 n0 O70 ) hZ (wk36 hw) (wk3 hw) (by decide) (by decide)) q181a q181c (g := (mkF m 170 Lb180 [(.ref (w 12))])) rfl (by rw [hml]; rfl) (Steps.refl _) (argsL := []) (rest := []) (lenOf pds_0 rfl) rfl (by show 2 * 0 + _ ≤ _; exact Nat.le_of_eq rfl) (hb hby at_170) (fun _ _ => ⟨rfl, e69, (by decide : 2 + 0 ≤ _), (by decide : 26 + 0 ≤ _)⟩)
   dsimp only [Pt.U, Pt.locs, Pt.cells, Pt.slots] at X181 l181 y181 z181 st181 hQ181
   rw [l181, y181, z181] at X181
   obtain ⟨rfl, N181q, e181⟩ := hQ181
   have N181 := Fr.app N69 N181q
   let Lb182 : Array Slot := #[.val (.int p0), .val (.ref b1), .val (.ref b43), .val (.int (12 : Int32)), .val (.ref (w 12)), .val (.int (0 : Int32))]
   obtain ⟨cl183, Ar183, cw183, S183, Nn183, Hs183, G183⟩ := id (V69)
   have hin183 : ¬ ((12 : Int32) < 0 ∨ cl183.slots.size ≤ ((12 : Int32)).toNatClampNeg) := inb_of S183 ⟨by decide, by decide⟩
   obtain ⟨fs, hr, hrun, hended, hWm, hsame⟩ := X181.leave (v := some (.int (1 : Int32))) (fun h => by rw [Bd.returns] at h; cases h)
   refine ⟨_, _, pre73 _ ?_, hrun, hended, _, _, rfl, ?_, ⟨_, rfl⟩, hWm, hsame.mono (by decide) (by decide)⟩
   · show Steps p.tables e below (T69.setTop (mkF m 165 Lb176 [(.int (12 : Int32)), (.ref b1)])) _
     refine X69.aaload hx (j := (12 : Int32)) (v := (.ref (w 12))) (by rw [e69]; exact Ar179.1) (State.isArrayOf_alike hZ.alike Ar179.2.1) rfl Ar179.2.2 hin179 (Hs179.at hin179 rfl) (g := (mkF m 165 Lb176 [(.int (12 : Int32)), (.ref b1)])) rfl rfl (hb hby at_165) _ ?_
     refine XS.astore X69.here hx rfl (hb hby at_166) rfl rfl (l' := Lb180) rfl ?_
     refine sa X69 hx hby at_168 rfl rfl ?_
     refine st181.trans ?_
     refine XS.istore X181.here hx rfl (hb hby at_173) rfl (l' := Lb182) rfl ?_
     refine si X181 hx hby at_175 rfl ?_
     refine sA X181 hx hby at_177 rfl rfl ?_
     refine sI X181 hx hby at_178 rfl ?_
     refine X181.baloadBooleans hx (j := (12 : Int32)) (v := (.int (0 : Int32))) (by rw [e181]; exact Ar183.1) (State.isArrayOf_alike hZ.alike Ar183.2.1) Ar183.2.2 hin183 (Hs183.at hin183 rfl) (g := (mkF m 179 Lb182 [(.int (12 : Int32)), (.ref b43), (.int (0 : Int32))])) rfl rfl (hb hby at_179) _ ?_
     show Steps p.tables e below (T181.setTop (mkF m 180 Lb182 [(.int (0 : Int32)), (.int (0 : Int32))])) _
     refine XS.icmpYes X181.here hx rfl (pc0 := 180) (pc' := 185) rfl (hb hby at_180) rfl (by decide) (by decide) (by decide) ?_
     refine si X181 hx hby at_185 rfl ?_
     refine XS.ifYes X181.here hx rfl (pc0 := 187) (pc' := 200) rfl (hb hby at_187) rfl (by decide) (by decide) (by decide) ?_
     refine sc X181 hx hby at_200 ?_
     exact retN X181 hx (t := .boolean) Bd.returns (by simp) (hb hby at_201) hr
   · show Q0 n0 _ T181.heap _
     rw [e181]
     exact ⟨rfl, N181⟩
set_option maxRecDepth 65536 in
set_option maxHeartbeats 400000000 in
theorem comes_1 {Post : Tables → Env → Array Value → State → Outcome → State → Prop} (hpost : ∀ tb e args s v u, (limb_1_1.after args s (.returned v) u = true ∧ limb_1_2.after args s (.returned v) u = true ∧ True) → FrameEnd s (.returned v) u (Jvm.fieldLocs frame_1_writes args s ++ Jvm.arrayLocs frame_1_arrays args s ++ Jvm.staticLocs frame_1_statics s) 16 128 → Post tb e args s (.returned v) u) :
    ArmFor flags0 classFile x code maxLocals ret World_1 tables_1 room_1 Calls_1 rest_1 Pre_1 Post := by
  intro l hfl _ _ p e ha hc hk s m args below hf hA hF happ hP
  obtain ⟨hcalls, hrest, hpre⟩ := hP
  obtain ⟨-, -, -, hnamed, -, -, -, hat⟩ := (Spec.applies_iff hf).mp happ
  obtain ⟨hg, hn⟩ := and_e (Cond.before_iff.mp (show (Jvm.Cond.and given_1 narrow_1).before args s = true from hpre))
  obtain ⟨ga4, gb4⟩ := and_e hg
  obtain ⟨v0, rfl⟩ : ∃ v0 : Value, args = #[v0] := by
    have hs : args.size = 1 := by simpa [Cond.value, given_1] using ga4
    obtain ⟨L⟩ := args
    match L, hs with
    | [v0], _ => exact ⟨v0, rfl⟩
  have hw := fun d (hd : d ∈ tables_1) => atoms_spec (ws := Jvm.Cond.code x code maxLocals ret :: tables_1) hat d (List.mem_cons_of_mem _ hd)
  have hfit : Fit s := fun {y c} hc i hi => by
    obtain ⟨ha, rfl⟩ := Array.getElem?_eq_some_iff.mp hc
    have q := List.all_eq_true.mp ((Array.all_eq_true_iff_forall_mem.mp hF) _ (Array.getElem_mem ha)) i (List.mem_range.mpr hi)
    simpa [Array.getElem?_eq_getElem hi] using q
  obtain ⟨i0, ei0⟩ := is_v gb4
  obtain rfl : v0 = (.int i0) := Option.some.inj ei0
  obtain ⟨na0, nb0⟩ := and_e hn
  obtain ⟨na1, nb1⟩ := and_e nb0
  obtain ⟨na2, nb2⟩ := and_e nb1
  obtain ⟨na3, nb3⟩ := and_e nb2
  obtain ⟨na4, nb4⟩ := and_e nb3
  obtain ⟨na5, nb5⟩ := and_e nb4
  obtain ⟨na6, nb6⟩ := and_e nb5
  obtain ⟨na7, nb7⟩ := and_e nb6
  obtain ⟨na8, nb8⟩ := and_e nb7
  obtain ⟨na9, nb9⟩ := and_e nb8
  obtain ⟨na10, nb10⟩ := and_e nb9
  obtain ⟨na11, nb11⟩ := and_e nb10
  obtain ⟨na12, nb12⟩ := and_e nb11
  obtain ⟨na13, nb13⟩ := and_e nb12
  obtain ⟨na14, nb14⟩ := and_e nb13
  obtain ⟨na15, nb15⟩ := and_e nb14
  obtain ⟨na16, nb16⟩ := and_e nb15
  obtain ⟨na17, nb17⟩ := and_e nb16
  obtain ⟨na18, nb18⟩ := and_e nb17
  obtain ⟨na19, nb19⟩ := and_e nb18
  obtain ⟨na20, nb20⟩ := and_e nb19
  obtain ⟨na21, nb21⟩ := and_e nb20
  obtain ⟨na22, nb22⟩ := and_e nb21
  obtain ⟨na23, nb23⟩ := and_e nb22
  obtain ⟨na24, nb24⟩ := and_e nb23
  obtain ⟨x0, ev0⟩ := exa_v na0
  obtain ⟨x1, ev1⟩ := exa_v na1
  obtain ⟨x2, ev2⟩ := exa_v na2
  obtain ⟨x3, ev3⟩ := exa_v na3
  obtain ⟨x4, ev4⟩ := exa_v na4
  obtain ⟨x5, ev5⟩ := exa_v na5
  obtain ⟨x6, ev6⟩ := exa_v na6
  obtain ⟨x7, ev7⟩ := exa_v na7
  obtain ⟨x8, ev8⟩ := exa_v na8
  obtain ⟨x9, ev9⟩ := exa_v na9
  obtain ⟨x10, ev10⟩ := exa_v na10
  obtain ⟨x11, ev11⟩ := exa_v na11
  obtain ⟨x12, ev12⟩ := exa_v na12
  have hW : Wd s (fun i => ([x0, x1, x2, x3, x4, x5, x6, x7, x8, x9, x10, x11, x12] : List Addr).getD i 0) := ⟨(Sta.start ev0 (Or.inr ⟨(wk3 hw), (wk4 hw)⟩)), (Exa.start ev0 na0), (Sta.start ev1 (Or.inr ⟨(wk3 hw), (wk7 hw)⟩)), (Exa.start ev1 na1), (Sta.start ev2 (Or.inr ⟨(wk3 hw), (wk9 hw)⟩)), (Exa.start ev2 na2), (Sta.start ev3 (Or.inr ⟨(wk3 hw), (wk11 hw)⟩)), (Exa.start ev3 na3), (Sta.start ev4 (Or.inr ⟨(wk3 hw), (wk13 hw)⟩)), (Exa.start ev4 na4), (Sta.start ev5 (Or.inr ⟨(wk3 hw), (wk15 hw)⟩)), (Exa.start ev5 na5), (Sta.start ev6 (Or.inr ⟨(wk3 hw), (wk17 hw)⟩)), (Exa.start ev6 na6), (Sta.start ev7 (Or.inr ⟨(wk3 hw), (wk19 hw)⟩)), (Exa.start ev7 na7), (Sta.start ev8 (Or.inr ⟨(wk3 hw), (wk21 hw)⟩)), (Exa.start ev8 na8), (Sta.start ev9 (Or.inr ⟨(wk3 hw), (wk23 hw)⟩)), (Exa.start ev9 na9), (Sta.start ev10 (Or.inr ⟨(wk3 hw), (wk25 hw)⟩)), (Exa.start ev10 na10), (Sta.start ev11 (Or.inr ⟨(wk3 hw), (wk27 hw)⟩)), (Exa.start ev11 na11), (Sta.start ev12 (Or.inr ⟨(wk3 hw), (wk29 hw)⟩)), (Exa.start ev12 na12), (own_fldI ev0 na13), (own_fldI ev3 na14), (own_fldI ev4 na15), (own_fldI ev5 na16), (own_fldI ev6 na17), (own_fldI ev7 na18), (own_fldI ev1 na19), (own_fldI ev2 na20), (own_fldI ev11 na21), (own_fldI ev12 na22), (own_fldI ev9 na23), (own_fldI ev8 na24), (own_fldI ev10 nb24), trivial⟩
  obtain ⟨n, o, h1, h2, h3, _, L, rfl, ⟨rfl, N⟩, hq⟩ := rm0 l s _ hw _ hW tables_1 i0 s.heap s.heap.size (Old.start s) p e ha hc hk s m _ below hf ((Spec.applies_iff_loose hf).mp happ).1 ⟨rfl, State.Warmed39.refl s, rfl⟩ trivial
  refine ⟨n, _, h1, h2, h3, hpost _ _ _ _ _ _ ⟨Cond.after_iff.mpr rfl, Cond.after_iff.mpr (eq_i res_at (Term.int_eval (1)) rfl), trivial⟩ ⟨hq.1, hq.2.1, (hq.2.2.sift fun y hy => Or.inr (N y hy)).mono (by decide) (by decide)⟩⟩
theorem main_1_1 : Claimed_1_1 := comes_1 fun _ _ _ _ _ _ h hF => ⟨h.1, hF⟩
theorem main_1_2 : Claimed_1_2 := comes_1 fun _ _ _ _ _ _ h hF => ⟨h.2.1, hF⟩
end Jvm.Pilot.@@N@@
namespace Jvm.Pilot.@@N@@
open Jvm Jvm.ClassFile Sem Op Lib Jvm.Free Jvm.Stand Jvm.Pilot.@@N@@.Jvm.D
/-! MADE BY PROGRAM (witnessworld.py) out of the Statement's table words and the real class files: 15 classes; the members and pool entries that the words name. The judged class is class 1, her method 1. -/
namespace start1
open Jvm.ClassFile
def u (s : String) : CpInfo := .utf8 (stringToUtf16 s)
/-- a pool by its gaps: so many unusable entries, then the entry; so many at the end -/
def gap : Nat → List CpInfo → List CpInfo
  | 0, r => r
  | n + 1, r => .unusable :: gap n r
def poolList (es : List (Nat × CpInfo)) (last : Nat) : List CpInfo := es.foldr (fun e r => gap e.1 (e.2 :: r)) (gap last [])
def pool (es : List (Nat × CpInfo)) (last : Nat) : Array CpInfo := ⟨poolList es last⟩
def fileOf (pool : Array CpInfo) (this : Nat) (attrs : Array Attribute := #[]) (ms : Array MethodInfo := #[]) (fl : Nat := 33) (sup : Nat := 0) (ifs : Array Nat := #[]) (fds : Array FieldInfo := #[]) : ClassFile where
  minorVersion := 0
  majorVersion := 65
  constantPool := pool
  accessFlags := fl
  thisClass := this
  superClass := sup
  interfaces := ifs
  fields := fds
  methods := ms
  attributes := attrs
def plain (name : String) (sup : Option ClassId) : Class where
  name := name
  kind := .ordinary
  loader := none
  accessFlags := 33
  super := sup
  interfaces := #[]
  cf := none
  fields := #[]
  methods := #[]
  instanceTypes := #[]
  staticTypes := #[]
  resolved := #[]
  callSites := []
  init := .initialized
  statics := none
  mirror := none

def pool0 : Array CpInfo := pool [(5, u "<init>"), (0, u "()V"), (1, .class_ 10), (1, u "java/lang/Object")] 113

def k0m0 : Method := { name := "<init>", desc := "()V", sig := { parameters := [], returnType := none }, accessFlags := 1, code := none }
/-- java/lang/Object -/
def k0 : Class := { plain "java/lang/Object" none with
  accessFlags := 33
  interfaces := #[]
  cf := some (fileOf pool0 8 #[] #[{ accessFlags := 1, nameIndex := 5, descriptorIndex := 6, attributes := #[] }] 33 0 #[] #[])
  fields := #[]
  methods := #[k0m0]
  instanceTypes := #[]
  staticTypes := #[]
  resolved := Array.replicate 124 none
  statics := none }

def pool1 : Array CpInfo := pool [(2, .class_ 4), (1, u "java/lang/Object"), (0, u "<init>"), (0, u "()V"), (0, .class_ 8), (0, u "com/example/weftcheck/weftcheck/OperationKind"), (0, .fieldref 7 10), (0, .nameAndType 11 12), (0, u "MAP"), (0, u "Lcom/example/weftcheck/weftcheck/OperationKind;"), (0, .fieldref 7 14), (0, .nameAndType 15 12), (0, u "PREDICATE"), (0, .fieldref 7 17), (0, .nameAndType 18 12), (0, u "ISOLATION"), (0, .fieldref 7 20), (0, .nameAndType 21 12), (0, u "READ"), (0, .fieldref 7 23), (0, .nameAndType 24 12), (0, u "WRITE"), (0, .fieldref 7 26), (0, .nameAndType 27 12), (0, u "READ_WRITE"), (0, .fieldref 7 29), (0, .nameAndType 30 12), (0, u "INSERT"), (0, .fieldref 7 32), (0, .nameAndType 33 12), (0, u "DELETE"), (0, .fieldref 7 35), (0, .nameAndType 36 12), (0, u "PREDICATE_READ"), (0, .fieldref 7 38), (0, .nameAndType 39 12), (0, u "SQL_STATEMENT"), (0, .fieldref 7 41), (0, .nameAndType 42 12), (0, u "SQL_QUERY"), (0, .fieldref 7 44), (0, .nameAndType 45 12), (0, u "COMMIT"), (0, .fieldref 7 47), (0, .nameAndType 48 12), (0, u "ABORT"), (0, .integer 2147483647), (0, .methodref 7 51), (0, .nameAndType 52 53), (0, u "usesRow"), (0, u "()Z"), (0, .methodref 7 55), (0, .nameAndType 56 53), (0, u "accessesRows"), (0, .class_ 58), (0, u "com/example/weftcheck/weftcheck/OperationKindUsesRowPinLaw"), (2, u "law"), (0, u "(I)Z")] 7

def k1m0 : Method := { name := "<init>", desc := "()V", sig := { parameters := [], returnType := none }, accessFlags := 1, code := none }
def k1c1 : Code := { maxStack := 4, maxLocals := 6, code := code, exceptionTable := #[], attributes := #[] }
def k1m1 : Method := { name := "law", desc := "(I)Z", sig := { parameters := [.int], returnType := some .boolean }, accessFlags := 9, code := some k1c1 }
/-- com/example/weftcheck/weftcheck/OperationKindUsesRowPinLaw -/
def k1 : Class := { plain "com/example/weftcheck/weftcheck/OperationKindUsesRowPinLaw" (some 0) with
  accessFlags := 49
  interfaces := #[]
  cf := some (fileOf pool1 57 #[] #[{ accessFlags := 1, nameIndex := 5, descriptorIndex := 6, attributes := #[] }, { accessFlags := 9, nameIndex := 61, descriptorIndex := 62, attributes := #[] }] 49 2 #[] #[])
  fields := #[]
  methods := #[k1m0, k1m1]
  instanceTypes := #[]
  staticTypes := #[]
  resolved := Array.replicate 70 none
  statics := none }

def pool2 : Array CpInfo := pool [(1, .class_ 2), (0, u "java/lang/constant/Constable"), (0, .class_ 4), (0, u "java/lang/Object")] 6

/-- java/lang/constant/Constable -/
def k2 : Class := { plain "java/lang/constant/Constable" (some 0) with
  accessFlags := 1537
  interfaces := #[]
  cf := some (fileOf pool2 1 #[] #[] 1537 3 #[] #[])
  fields := #[]
  methods := #[]
  instanceTypes := #[]
  staticTypes := #[]
  resolved := Array.replicate 11 none
  statics := none }

def pool3 : Array CpInfo := pool [(1, .class_ 2), (0, u "java/lang/Comparable"), (0, .class_ 4), (0, u "java/lang/Object")] 7

/-- java/lang/Comparable -/
def k3 : Class := { plain "java/lang/Comparable" (some 0) with
  accessFlags := 1537
  interfaces := #[]
  cf := some (fileOf pool3 1 #[] #[] 1537 3 #[] #[])
  fields := #[]
  methods := #[]
  instanceTypes := #[]
  staticTypes := #[]
  resolved := Array.replicate 12 none
  statics := none }

def pool4 : Array CpInfo := pool [(1, .class_ 2), (0, u "java/io/Serializable"), (0, .class_ 4), (0, u "java/lang/Object")] 2

/-- java/io/Serializable -/
def k4 : Class := { plain "java/io/Serializable" (some 0) with
  accessFlags := 1537
  interfaces := #[]
  cf := some (fileOf pool4 1 #[] #[] 1537 3 #[] #[])
  fields := #[]
  methods := #[]
  instanceTypes := #[]
  staticTypes := #[]
  resolved := Array.replicate 7 none
  statics := none }

def pool5 : Array CpInfo := pool [(2, .class_ 4), (1, u "java/lang/Enum"), (0, u "name"), (0, u "Ljava/lang/String;"), (2, u "ordinal"), (0, u "I"), (1, .class_ 14), (1, u "java/lang/Object"), (4, u "hash"), (86, .class_ 108), (1, u "java/lang/Enum$EnumDesc"), (2, .class_ 112), (0, u "java/lang/constant/Constable"), (0, .class_ 114), (0, u "java/lang/Comparable"), (0, .class_ 116), (0, u "java/io/Serializable")] 87

/-- java/lang/Enum -/
def k5 : Class := { plain "java/lang/Enum" (some 0) with
  accessFlags := 1057
  interfaces := #[2, 3, 4]
  cf := some (fileOf pool5 2 #[.nestMembers #[106]] #[] 1057 12 #[111, 113, 115] #[{ accessFlags := 18, nameIndex := 5, descriptorIndex := 6, attributes := #[] }, { accessFlags := 18, nameIndex := 9, descriptorIndex := 10, attributes := #[] }, { accessFlags := 2, nameIndex := 19, descriptorIndex := 10, attributes := #[] }])
  fields := #[{ name := "name", type := (.object "java/lang/String"), accessFlags := 18, slot := 0, constantValue := 0 }, { name := "ordinal", type := .int, accessFlags := 18, slot := 1, constantValue := 0 }, { name := "hash", type := .int, accessFlags := 2, slot := 2, constantValue := 0 }]
  methods := #[]
  instanceTypes := #[(.object "java/lang/String"), .int, .int]
  staticTypes := #[]
  resolved := Array.replicate 204 none
  statics := none }

def pool6 : Array CpInfo := pool [(1, .class_ 2), (0, u "com/example/weftcheck/weftcheck/OperationKind"), (0, .fieldref 1 4), (0, .nameAndType 5 6), (0, u "MAP"), (0, u "Lcom/example/weftcheck/weftcheck/OperationKind;"), (0, .fieldref 1 8), (0, .nameAndType 9 6), (0, u "PREDICATE"), (0, .fieldref 1 11), (0, .nameAndType 12 6), (0, u "ISOLATION"), (0, .fieldref 1 14), (0, .nameAndType 15 6), (0, u "READ"), (0, .fieldref 1 17), (0, .nameAndType 18 6), (0, u "WRITE"), (0, .fieldref 1 20), (0, .nameAndType 21 6), (0, u "READ_WRITE"), (0, .fieldref 1 23), (0, .nameAndType 24 6), (0, u "INSERT"), (0, .fieldref 1 26), (0, .nameAndType 27 6), (0, u "DELETE"), (2, u "PREDICATE_READ"), (2, u "SQL_STATEMENT"), (2, u "SQL_QUERY"), (0, .fieldref 1 38), (0, .nameAndType 39 6), (0, u "COMMIT"), (0, .fieldref 1 41), (0, .nameAndType 42 6), (0, u "ABORT"), (2, u "$VALUES"), (0, u "[Lcom/example/weftcheck/weftcheck/OperationKind;"), (6, .class_ 55), (1, u "java/lang/Enum"), (8, u "notatio_"), (0, u "Ljava/lang/String;"), (23, u "()Z"), (0, .methodref 1 91), (0, .nameAndType 92 89), (0, u "declares"), (0, .methodref 1 94), (0, .nameAndType 95 89), (0, u "endsTransaction"), (53, u "usesRow"), (3, u "accessesRows")] 5

def k6c0 : Code := { maxStack := 2, maxLocals := 1, code := prog_29_method_5_code, exceptionTable := #[], attributes := #[] }
def k6m0 : Method := { name := "declares", desc := "()Z", sig := { parameters := [], returnType := some .boolean }, accessFlags := 0, code := some k6c0 }
def k6c1 : Code := { maxStack := 2, maxLocals := 1, code := prog_29_method_6_code, exceptionTable := #[], attributes := #[] }
def k6m1 : Method := { name := "endsTransaction", desc := "()Z", sig := { parameters := [], returnType := some .boolean }, accessFlags := 0, code := some k6c1 }
def k6c2 : Code := { maxStack := 2, maxLocals := 1, code := prog_29_method_7_code, exceptionTable := #[], attributes := #[] }
def k6m2 : Method := { name := "usesRow", desc := "()Z", sig := { parameters := [], returnType := some .boolean }, accessFlags := 0, code := some k6c2 }
def k6c3 : Code := { maxStack := 2, maxLocals := 1, code := prog_29_method_12_code, exceptionTable := #[], attributes := #[] }
def k6m3 : Method := { name := "accessesRows", desc := "()Z", sig := { parameters := [], returnType := some .boolean }, accessFlags := 0, code := some k6c3 }
/-- com/example/weftcheck/weftcheck/OperationKind -/
def k6 : Class := { plain "com/example/weftcheck/weftcheck/OperationKind" (some 5) with
  accessFlags := 16432
  interfaces := #[]
  cf := some (fileOf pool6 1 #[] #[{ accessFlags := 0, nameIndex := 92, descriptorIndex := 89, attributes := #[] }, { accessFlags := 0, nameIndex := 95, descriptorIndex := 89, attributes := #[] }, { accessFlags := 0, nameIndex := 149, descriptorIndex := 89, attributes := #[] }, { accessFlags := 0, nameIndex := 153, descriptorIndex := 89, attributes := #[] }] 16432 53 #[] #[{ accessFlags := 16409, nameIndex := 5, descriptorIndex := 6, attributes := #[] }, { accessFlags := 16409, nameIndex := 9, descriptorIndex := 6, attributes := #[] }, { accessFlags := 16409, nameIndex := 12, descriptorIndex := 6, attributes := #[] }, { accessFlags := 16409, nameIndex := 15, descriptorIndex := 6, attributes := #[] }, { accessFlags := 16409, nameIndex := 18, descriptorIndex := 6, attributes := #[] }, { accessFlags := 16409, nameIndex := 21, descriptorIndex := 6, attributes := #[] }, { accessFlags := 16409, nameIndex := 24, descriptorIndex := 6, attributes := #[] }, { accessFlags := 16409, nameIndex := 27, descriptorIndex := 6, attributes := #[] }, { accessFlags := 16409, nameIndex := 30, descriptorIndex := 6, attributes := #[] }, { accessFlags := 16409, nameIndex := 33, descriptorIndex := 6, attributes := #[] }, { accessFlags := 16409, nameIndex := 36, descriptorIndex := 6, attributes := #[] }, { accessFlags := 16409, nameIndex := 39, descriptorIndex := 6, attributes := #[] }, { accessFlags := 16409, nameIndex := 42, descriptorIndex := 6, attributes := #[] }, { accessFlags := 18, nameIndex := 64, descriptorIndex := 65, attributes := #[] }, { accessFlags := 4122, nameIndex := 45, descriptorIndex := 46, attributes := #[] }])
  fields := #[{ name := "MAP", type := (.object "com/example/weftcheck/weftcheck/OperationKind"), accessFlags := 16409, slot := 0, constantValue := 0 }, { name := "PREDICATE", type := (.object "com/example/weftcheck/weftcheck/OperationKind"), accessFlags := 16409, slot := 1, constantValue := 0 }, { name := "ISOLATION", type := (.object "com/example/weftcheck/weftcheck/OperationKind"), accessFlags := 16409, slot := 2, constantValue := 0 }, { name := "READ", type := (.object "com/example/weftcheck/weftcheck/OperationKind"), accessFlags := 16409, slot := 3, constantValue := 0 }, { name := "WRITE", type := (.object "com/example/weftcheck/weftcheck/OperationKind"), accessFlags := 16409, slot := 4, constantValue := 0 }, { name := "READ_WRITE", type := (.object "com/example/weftcheck/weftcheck/OperationKind"), accessFlags := 16409, slot := 5, constantValue := 0 }, { name := "INSERT", type := (.object "com/example/weftcheck/weftcheck/OperationKind"), accessFlags := 16409, slot := 6, constantValue := 0 }, { name := "DELETE", type := (.object "com/example/weftcheck/weftcheck/OperationKind"), accessFlags := 16409, slot := 7, constantValue := 0 }, { name := "PREDICATE_READ", type := (.object "com/example/weftcheck/weftcheck/OperationKind"), accessFlags := 16409, slot := 8, constantValue := 0 }, { name := "SQL_STATEMENT", type := (.object "com/example/weftcheck/weftcheck/OperationKind"), accessFlags := 16409, slot := 9, constantValue := 0 }, { name := "SQL_QUERY", type := (.object "com/example/weftcheck/weftcheck/OperationKind"), accessFlags := 16409, slot := 10, constantValue := 0 }, { name := "COMMIT", type := (.object "com/example/weftcheck/weftcheck/OperationKind"), accessFlags := 16409, slot := 11, constantValue := 0 }, { name := "ABORT", type := (.object "com/example/weftcheck/weftcheck/OperationKind"), accessFlags := 16409, slot := 12, constantValue := 0 }, { name := "notatio_", type := (.object "java/lang/String"), accessFlags := 18, slot := 3, constantValue := 0 }, { name := "$VALUES", type := (.array (.object "com/example/weftcheck/weftcheck/OperationKind")), accessFlags := 4122, slot := 13, constantValue := 0 }]
  methods := #[k6m0, k6m1, k6m2, k6m3]
  instanceTypes := #[(.object "java/lang/String"), .int, .int, (.object "java/lang/String")]
  staticTypes := #[(.object "com/example/weftcheck/weftcheck/OperationKind"), (.object "com/example/weftcheck/weftcheck/OperationKind"), (.object "com/example/weftcheck/weftcheck/OperationKind"), (.object "com/example/weftcheck/weftcheck/OperationKind"), (.object "com/example/weftcheck/weftcheck/OperationKind"), (.object "com/example/weftcheck/weftcheck/OperationKind"), (.object "com/example/weftcheck/weftcheck/OperationKind"), (.object "com/example/weftcheck/weftcheck/OperationKind"), (.object "com/example/weftcheck/weftcheck/OperationKind"), (.object "com/example/weftcheck/weftcheck/OperationKind"), (.object "com/example/weftcheck/weftcheck/OperationKind"), (.object "com/example/weftcheck/weftcheck/OperationKind"), (.object "com/example/weftcheck/weftcheck/OperationKind"), (.array (.object "com/example/weftcheck/weftcheck/OperationKind"))]
  resolved := Array.replicate 159 none
  statics := some 0 }

def pool7 : Array CpInfo := pool [(1, u "java/lang/Cloneable"), (0, .class_ 1), (0, u "java/lang/Object"), (0, .class_ 3)] 3

/-- java/lang/Cloneable -/
def k7 : Class := { plain "java/lang/Cloneable" (some 0) with
  accessFlags := 1537
  interfaces := #[]
  cf := some (fileOf pool7 2 #[] #[] 1537 4 #[] #[])
  fields := #[]
  methods := #[]
  instanceTypes := #[]
  staticTypes := #[]
  resolved := Array.replicate 8 none
  statics := none }

/-- the primitive boolean -/
def k8 : Class := { plain "boolean" none with kind := .primitive 'Z', accessFlags := 0x411 }
/-- [Z -/
def k9 : Class := { plain "[Z" (some 0) with kind := .array 8 .boolean, interfaces := #[7, 4], accessFlags := 1041 }

/-- the primitive byte -/
def k10 : Class := { plain "byte" none with kind := .primitive 'B', accessFlags := 0x411 }
/-- [B -/
def k11 : Class := { plain "[B" (some 0) with kind := .array 10 .byte, interfaces := #[7, 4], accessFlags := 1041 }

/-- the primitive int -/
def k12 : Class := { plain "int" none with kind := .primitive 'I', accessFlags := 0x411 }
/-- [I -/
def k13 : Class := { plain "[I" (some 0) with kind := .array 12 .int, interfaces := #[7, 4], accessFlags := 1041 }

/-- [Lcom/example/weftcheck/weftcheck/OperationKind; -/
def k14 : Class := { plain "[Lcom/example/weftcheck/weftcheck/OperationKind;" (some 0) with kind := .array 6 (.object "com/example/weftcheck/weftcheck/OperationKind"), interfaces := #[7, 4], accessFlags := 1041 }

def heap : Heap := #[{ cls := 6, slots := #[.ref 1, .ref 2, .ref 3, .ref 4, .ref 5, .ref 6, .ref 7, .ref 8, .ref 9, .ref 10, .ref 11, .ref 12, .ref 13, .null], vm := .statics 6 },
  { cls := 6, slots := #[.null, .int 0, .int 0, .null], vm := .none },
  { cls := 6, slots := #[.null, .int 1, .int 0, .null], vm := .none },
  { cls := 6, slots := #[.null, .int 2, .int 0, .null], vm := .none },
  { cls := 6, slots := #[.null, .int 3, .int 0, .null], vm := .none },
  { cls := 6, slots := #[.null, .int 4, .int 0, .null], vm := .none },
  { cls := 6, slots := #[.null, .int 5, .int 0, .null], vm := .none },
  { cls := 6, slots := #[.null, .int 6, .int 0, .null], vm := .none },
  { cls := 6, slots := #[.null, .int 7, .int 0, .null], vm := .none },
  { cls := 6, slots := #[.null, .int 8, .int 0, .null], vm := .none },
  { cls := 6, slots := #[.null, .int 9, .int 0, .null], vm := .none },
  { cls := 6, slots := #[.null, .int 10, .int 0, .null], vm := .none },
  { cls := 6, slots := #[.null, .int 11, .int 0, .null], vm := .none },
  { cls := 6, slots := #[.null, .int 12, .int 0, .null], vm := .none }]
def classes : Array Class := #[k0, k1, k2, k3, k4, k5, k6, k7, k8, k9, k10, k11, k12, k13, k14]
def interned : List (Array UInt16 × Addr) := []
def slotsUsed : Nat := 66
def theMethod : MethodId := ⟨1, 1⟩
def args0 : Array Value := #[.int 5]
def aboutOver (below : List Frame) : State where
  vm := { classes := classes, interned := interned.toArray }
  heap := heap
  slotsUsed := slotsUsed
  threads := #[{ frames := .invoking theMethod args0 :: below }]
def below0 : List Frame := [.native { method := ⟨0, 0⟩, args := #[] }]
def about1 : State := aboutOver below0
def p0 : Program := .bare "" "" ""
def e0 : Env := launch0.env 0 0 0
theorem w_frames : about1.frames = Frame.invoking theMethod args0 :: below0 := rfl
set_option maxRecDepth 65536 in
theorem w_args : argsFit about1.vm theMethod args0 = true := by decide +kernel
set_option maxRecDepth 65536 in
theorem w_heap : heapFits about1 = true := by decide +kernel
set_option maxRecDepth 65536 in
theorem w_runnable : about1.curStatus? = some .runnable := by decide +kernel
set_option maxRecDepth 65536 in
theorem w_alone : about1.alone = true := by decide +kernel
set_option maxRecDepth 65536 in
theorem w_named : about1.methodNamed? x = some theMethod := by decide +kernel
set_option maxRecDepth 65536 in
theorem w_hears : about1.hears theMethod below0 = true := by decide +kernel
set_option maxRecDepth 65536 in
theorem w_ripe : about1.ripe theMethod args0 below0 = true := by decide +kernel
theorem w_running : about1.status = .running := rfl
set_option maxRecDepth 65536 in
theorem w_room : about1.hasRoom e0.platform room_1 = true :=
  launch0.hasRoom_least _ room_1 (by decide +kernel) (by decide +kernel) (by decide +kernel) (by decide +kernel) (by decide +kernel) (by decide +kernel)
theorem allAtoms_all (ts : List Jvm.Cond) (a : Array Jvm.Value) (st : Jvm.State) : (allAtoms ts).before a st = ts.all (fun c => c.before a st) := by
  induction ts with
  | nil => rfl
  | cons c t ih =>
    show (Jvm.Cond.and c (allAtoms t)).before a st = _
    rw [Jvm.Cond.before_and, ih, List.all_cons]
def words1 : List Jvm.Cond := Jvm.Cond.code x code maxLocals ret :: tables_1
/-- a 'code' word, met by the world's own term for the bytes: nothing is compared byte by byte -/
theorem code_word {y : MethodName} {bytes : ByteArray} {mx : Nat} {rt : Option FieldType} {a : Array Value} {s : State} {m : MethodId} {meth : Method} {c : Code} (h1 : s.methodNamed? y = some m) (h2 : s.vm.method? m = some meth) (h3 : meth.code = some c) (h4 : c.code = bytes)
    (h5 : (c.maxLocals == mx && c.exceptionTable.isEmpty && decide (c.maxStack ≤ mostOperands) && decide (meth.sig.returnType = rt) && !meth.locks && decide (parseMethodDescriptor y.desc = some meth.sig)) = true) : (Jvm.Cond.code y bytes mx rt).before a s = true := by
  simp only [Bool.and_eq_true, beq_iff_eq, Bool.not_eq_true', decide_eq_true_eq] at h5
  obtain ⟨⟨⟨⟨⟨g1, g2⟩, g3⟩, g4⟩, g5⟩, g6⟩ := h5
  simp [Cond.before, Cond.holds, Cond.value, h1, h2, h3, h4, g1, g2, g3, g4, g5, g6]
def isCode : Jvm.Cond → Bool
  | .code _ _ _ _ => true
  | _ => false
theorem all_split {L : List Jvm.Cond} {P : Jvm.Cond → Bool} (h1 : L.all (fun c => isCode c || P c) = true) (h2 : ∀ c ∈ L.filter isCode, P c = true) : L.all P = true := by
  refine List.all_eq_true.mpr fun c hc => ?_
  have h := List.all_eq_true.mp h1 c hc
  rcases Bool.eq_false_or_eq_true (isCode c) with hi | hi
  · exact h2 c (List.mem_filter.mpr ⟨hc, hi⟩)
  · simpa [hi] using h
set_option maxRecDepth 65536 in
theorem w_c0 : (Jvm.Cond.code x code maxLocals ret).before args0 about1 = true := code_word (m := ⟨1, 1⟩) (meth := k1m1) (c := k1c1) (by decide +kernel) rfl rfl rfl (by decide +kernel)
set_option maxRecDepth 65536 in
theorem w_c1 : (Jvm.Cond.code ({ cls := "com/example/weftcheck/weftcheck/OperationKind", name := "usesRow", desc := "()Z" } : Jvm.MethodName) prog_29_method_7_code (1 : Nat) (Option.some Jvm.ClassFile.FieldType.boolean)).before args0 about1 = true := code_word (m := ⟨6, 2⟩) (meth := k6m2) (c := k6c2) (by decide +kernel) rfl rfl rfl (by decide +kernel)
set_option maxRecDepth 65536 in
theorem w_c2 : (Jvm.Cond.code ({ cls := "com/example/weftcheck/weftcheck/OperationKind", name := "accessesRows", desc := "()Z" } : Jvm.MethodName) prog_29_method_12_code (1 : Nat) (Option.some Jvm.ClassFile.FieldType.boolean)).before args0 about1 = true := code_word (m := ⟨6, 3⟩) (meth := k6m3) (c := k6c3) (by decide +kernel) rfl rfl rfl (by decide +kernel)
set_option maxRecDepth 65536 in
theorem w_c3 : (Jvm.Cond.code ({ cls := "com/example/weftcheck/weftcheck/OperationKind", name := "declares", desc := "()Z" } : Jvm.MethodName) prog_29_method_5_code (1 : Nat) (Option.some Jvm.ClassFile.FieldType.boolean)).before args0 about1 = true := code_word (m := ⟨6, 0⟩) (meth := k6m0) (c := k6c0) (by decide +kernel) rfl rfl rfl (by decide +kernel)
set_option maxRecDepth 65536 in
theorem w_c4 : (Jvm.Cond.code ({ cls := "com/example/weftcheck/weftcheck/OperationKind", name := "endsTransaction", desc := "()Z" } : Jvm.MethodName) prog_29_method_6_code (1 : Nat) (Option.some Jvm.ClassFile.FieldType.boolean)).before args0 about1 = true := code_word (m := ⟨6, 1⟩) (meth := k6m1) (c := k6c1) (by decide +kernel) rfl rfl rfl (by decide +kernel)
def codes1 : List Jvm.Cond := [Jvm.Cond.code x code maxLocals ret, Jvm.Cond.code ({ cls := "com/example/weftcheck/weftcheck/OperationKind", name := "usesRow", desc := "()Z" } : Jvm.MethodName) prog_29_method_7_code (1 : Nat) (Option.some Jvm.ClassFile.FieldType.boolean), Jvm.Cond.code ({ cls := "com/example/weftcheck/weftcheck/OperationKind", name := "accessesRows", desc := "()Z" } : Jvm.MethodName) prog_29_method_12_code (1 : Nat) (Option.some Jvm.ClassFile.FieldType.boolean), Jvm.Cond.code ({ cls := "com/example/weftcheck/weftcheck/OperationKind", name := "declares", desc := "()Z" } : Jvm.MethodName) prog_29_method_5_code (1 : Nat) (Option.some Jvm.ClassFile.FieldType.boolean), Jvm.Cond.code ({ cls := "com/example/weftcheck/weftcheck/OperationKind", name := "endsTransaction", desc := "()Z" } : Jvm.MethodName) prog_29_method_6_code (1 : Nat) (Option.some Jvm.ClassFile.FieldType.boolean)]
set_option maxRecDepth 65536 in
theorem codes_eq : words1.filter isCode = codes1 := rfl
theorem w_codes : ∀ c ∈ words1.filter isCode, c.before args0 about1 = true := by
  rw [codes_eq]
  intro c hc
  simp only [codes1, List.mem_cons, List.not_mem_nil, or_false] at hc
  rcases hc with rfl | rfl | rfl | rfl | rfl
  · exact w_c0
  · exact w_c1
  · exact w_c2
  · exact w_c3
  · exact w_c4
set_option maxRecDepth 65536 in
theorem w_t1 : (words1.take 24).all (fun c => isCode c || c.before args0 about1) = true := by decide +kernel
set_option maxRecDepth 65536 in
theorem w_t2 : ((words1.drop 24).take 24).all (fun c => isCode c || c.before args0 about1) = true := by decide +kernel
set_option maxRecDepth 65536 in
theorem w_t3 : ((words1.drop 24).drop 24).all (fun c => isCode c || c.before args0 about1) = true := by decide +kernel
theorem w_tables : (allAtoms (Jvm.Cond.code x code maxLocals ret :: tables_1)).before args0 about1 = true := by
  rw [allAtoms_all]
  show words1.all (fun c => c.before args0 about1) = true
  refine all_split ?_ w_codes
  rw [← List.take_append_drop 24 words1, List.all_append, w_t1, ← List.take_append_drop 24 (words1.drop 24), List.all_append, w_t2, w_t3]
  rfl
set_option maxRecDepth 65536 in
theorem w_case : (Jvm.Cond.and given_1 narrow_1).before args0 about1 = true := by decide +kernel
theorem w_applies : (headSpec (Jvm.Cond.code x code maxLocals ret :: tables_1) room_1).applies x e0.platform about1 = true :=
  (Spec.applies_iff w_frames).mpr ⟨w_running, w_runnable, w_alone, w_named, w_hears, w_ripe, w_room, w_tables⟩
theorem atStart : AtStart classFile x code maxLocals ret World_1 tables_1 room_1 Calls_1 rest_1 Pre_1 launch0 p0 e0 about1 theMethod args0 below0 :=
  ⟨lists_1, trivial, launch0.admits_env _ _ _, launch0.least_env, fairChoices_fair.cas, fairChoices_fair.clock, w_frames, w_args, w_heap, w_applies, trivial, trivial, w_case⟩
end start1
theorem witness_1 : WitnessClaimed_1 := ⟨start1.p0, start1.e0, start1.about1, start1.theMethod, start1.args0, start1.below0, start1.atStart⟩
end Jvm.Pilot.@@N@@
