import JvmDerived
import JvmDerived.Pilot.@@N@@Statement
import JvmDerived.Pilot.@@N@@Code
set_option linter.unusedVariables false
set_option linter.unusedSimpArgs false
namespace Jvm.RoadKit
open Sem ClassFile Op Lib Jvm.Stand Jvm.Free Jvm.LawKit
section New
variable {p : Program} {l : Launch} {e : Env} {R : Room} {s : State} {m : MethodId} {args : Array Value} {below : List Frame} {meth : Method} {c : Code} {T : State} {locs : List Loc} {cells slots : Nat}
theorem retI (X : Stand p l e R s m args below meth c T locs cells slots) (hx : p.tables.exec = Jvm.exec) {pc : Nat} {Ls : Array Slot} {z : Int32} {rest : List Value} (hret : meth.sig.returnType = some .int) (hd : decode c.code pc = .ok (.ireturn, 1)) {fs : List Frame}
    (hl : ∀ (f : JFrame) (acts : List Action), f.method = m → f.locked = none → f.entered = [] → (doReturn e (T.setTop f) acts (some (.int z))).1 = T.setFrames fs) : Steps p.tables e below (T.setTop (mkF m pc Ls (.int z :: rest))) (T.setFrames fs) := by
  have hm' : T.vm.method? m = some meth := X.method'
  have hn : narrow .int (.int z) = .int z := rfl
  show Steps p.tables e below (T.setTop { method := m, pc := pc, locals := Ls, stack := _ :: rest, locked := none }) _
  jvm_step X.here [X.here.top, hx, hd, hm', hret, hn]
  first | (intro acts; rw [hl _ acts rfl rfl rfl]) | rw [hl _ _ rfl rfl rfl]
  exact Steps.refl _
end New
end Jvm.RoadKit
namespace Jvm.Pilot.@@N@@
open Jvm Jvm.ClassFile Sem Op Lib Jvm.Free Jvm.Stand Jvm.LawKit Jvm.RoadKit Bundle Jvm.Pilot.@@N@@.Jvm.D
theorem own_set {Z : State} {h h' : Heap} {a : Addr} {k : ClassId} {ty : FieldType} {z j : Int32} {vs : List Value} {dv v : Value} {c : Cell} (A : Arr Z h a c ty) (q1 : c.cls = k) (S : c.slots.size = z.toNatClampNeg) (q3 : ¬ z < 0) (H : Has c vs dv) (G : ∀ i, i < c.slots.size → fits ty (vs.getD i dv) = true) (hv : fits ty v = true) (W : Wr h h' a j.toNatClampNeg v) (i : Nat) (hj : j.toNatClampNeg = i) (hi : i < vs.length) (v' : Value) (e1 : v = v') (vs' : List Value) (e2 : vs.set i v' = vs') : Arv Z h' a k ty z vs' dv := by
  subst e1; subst e2; exact Arv.set A q1 S q3 H G hv W i hj hi
theorem own_pad {Z : State} {h : Heap} {a : Addr} {k : ClassId} {ty : FieldType} {z : Int32} {dv : Value} (F : Arv Z h a k ty z [] dv) (n : Nat) (vs : List Value) (e : vs = List.replicate n dv) : Arv Z h a k ty z vs dv := e ▸ F.pad (pad_rep [] dv n)
theorem own_irr32 (x : Int32) : ¬ x < x := Int32.lt_irrefl
theorem own_irr64 (x : Int64) : ¬ x < x := Int64.lt_irrefl
theorem own_fldI {args : Array Value} {s : State} {t : Term} {C n d : String} {x : Addr} {k : Int32} (ht : t.eval args s none [] s = some (.ref x)) (h : (Cond.eq (Term.field t C n d) (Term.int k)).value args s none s [] = some true) : Fld s s.heap x C n d (.int k) := Fld.start ((fld_at ht).symm.trans (eqv_i (Term.int_eval k) h))
theorem own_fldJ {args : Array Value} {s : State} {t : Term} {C n d : String} {x : Addr} {k : Int64} (ht : t.eval args s none [] s = some (.ref x)) (h : (Cond.eq (Term.field t C n d) (Term.long k)).value args s none s [] = some true) : Fld s s.heap x C n d (.long k) := Fld.start ((fld_at ht).symm.trans (eqv_l (long_at k) h))
theorem own_len {args : Array Value} {s : State} {t : Term} {x : Addr} {cl : Cell} {ty : FieldType} {k : Int32} (ht : t.eval args s none [] s = some (.ref x)) (A : Arr s s.heap x cl ty) (h : (Cond.eq (Term.length t) (Term.int k)).value args s none s [] = some true) : cl.slots.size.toInt32 = k ∧ cl.slots.size < 2 ^ 31 := by
  have e := eqv_i (Term.int_eval k) h
  have ha := A.fin (Vm.Alike.refl _)
  by_cases q : cl.slots.size < 2 ^ 31
  · have e2 := (len_f ht ha q).symm.trans e
    exact ⟨Value.int.inj (Option.some.inj e2), q⟩
  · simp [Term.eval, ht, ha, q] at e
theorem own_elem {args : Array Value} {s : State} {t u : Term} {x : Addr} {cl : Cell} {ty : FieldType} {k : Int32} {v : Value} (ht : t.eval args s none [] s = some (.ref x)) (A : Arr s s.heap x cl ty) (hu : u.eval args s none [] s = some v) (hv : v.isRef = true) (h : (Cond.eq (Term.elem t (Term.int k)) u).value args s none s [] = some true) : cl.slots[k.toNatClampNeg]? = some v := by
  obtain ⟨a, b, h1, h2, h3, h4⟩ := cmp_v (Or.inl h)
  have hb := Option.some.inj (h2.symm.trans hu)
  subst hb
  obtain ⟨c', e1, e2, e3⟩ := elem_at h1 ht (Term.int_eval k)
  have ec := Option.some.inj (e1.symm.trans A.1)
  subst ec
  have ha : a.isRef = true := by
    rcases ref_cases hv with rfl | ⟨y, rfl⟩
    · exact h4.2
    · exact h4.2
  rw [e3, gotT (eq_R h1 h2 ha hv) h]
def own_KL (h h' : Heap) (ls : List Loc) : Prop := h.size ≤ h'.size ∧ ∀ (x : Addr) (c : Cell), h[x]? = some c → ∃ c' : Cell, h'[x]? = some c' ∧ c'.cls = c.cls ∧ c'.vm = c.vm ∧ c'.slots.size = c.slots.size ∧ ((∀ y ∈ ls, y.base ≠ x) → c' = c) ∧ ∀ i, (⟨x, i⟩ : Loc) ∉ ls → c'.slots[i]? = c.slots[i]?
section OwnKL
variable {Z : State} {h0 h h' : Heap} {ls ls' : List Loc} {a b x : Addr} {i j sl n0 : Nat} {v : Value} {C n d : String}
theorem own_kl0 (h : Heap) (ls : List Loc) : own_KL h h ls := ⟨Nat.le_refl _, fun x c q => ⟨c, q, rfl, rfl, rfl, fun _ => rfl, fun _ _ => rfl⟩⟩
theorem own_klE (K : own_KL h0 h ls) (E : Ext h h') : own_KL h0 h' ls := ⟨Nat.le_trans K.1 E.1, fun x c q => by obtain ⟨c', q', r⟩ := K.2 x c q; exact ⟨c', E.2 x c' q', r⟩⟩
theorem own_klT (K : own_KL h0 h ls) (K' : own_KL h h' ls') (q : ∀ y ∈ ls', y ∈ ls ∨ h0.size ≤ y.base) : own_KL h0 h' ls := by
  refine ⟨Nat.le_trans K.1 K'.1, fun x c hc => ?_⟩
  obtain ⟨c1, a1, a2, a3, a4, a5, a6⟩ := K.2 x c hc
  obtain ⟨c2, b1, b2, b3, b4, b5, b6⟩ := K'.2 x c1 a1
  have hx : x < h0.size := (Array.getElem?_eq_some_iff.mp hc).1
  refine ⟨c2, b1, b2.trans a2, b3.trans a3, b4.trans a4, fun hn => ?_, fun i hi => ?_⟩
  · rw [← a5 hn]; exact b5 fun y hy e => (q y hy).elim (fun z => hn y z e) (fun z => absurd hx (Nat.not_lt.mpr (e ▸ z)))
  · rw [← a6 i hi]; exact b6 i fun z => (q _ z).elim hi (fun u => absurd hx (Nat.not_lt.mpr u))
theorem own_klofW (W : Wr h h' a sl v) : own_KL h h' [⟨a, sl⟩] := by
  refine ⟨Nat.le_of_eq W.size.symm, fun x c hc => ?_⟩
  obtain ⟨c', e1, e2, e3, e4, e5, e6, -⟩ := wr_at W hc
  refine ⟨c', e1, e2, e3, e4, fun hn => e5 fun q => hn _ (List.mem_singleton.mpr rfl) q.symm, fun i hi => ?_⟩
  by_cases q : x = a
  · exact e6 i fun r => hi (by rw [q, r]; exact List.mem_singleton.mpr rfl)
  · rw [e5 q]
theorem own_klW (K : own_KL h0 h ls) (W : Wr h h' a sl v) (q : (⟨a, sl⟩ : Loc) ∈ ls ∨ h0.size ≤ a) : own_KL h0 h' ls := own_klT K (own_klofW W) fun y hy => by cases List.mem_singleton.mp hy; exact q
theorem own_ka0 : ∀ y ∈ ([] : List Loc), y ∈ ls ∨ n0 ≤ y.base := fun _ q => nomatch q
theorem own_kac (q : (⟨a, sl⟩ : Loc) ∈ ls ∨ n0 ≤ a) (r : ∀ y ∈ ls', y ∈ ls ∨ n0 ≤ y.base) : ∀ y ∈ (⟨a, sl⟩ : Loc) :: ls', y ∈ ls ∨ n0 ≤ y.base := fun y z => (List.mem_cons.mp z).elim (fun u => u ▸ q) (r y)
theorem own_ng0 : ∀ y ∈ ([] : List Loc), n0 ≤ y.base := fun _ q => nomatch q
theorem own_ngc (q : n0 ≤ a) (r : ∀ y ∈ ls', n0 ≤ y.base) : ∀ y ∈ (⟨a, sl⟩ : Loc) :: ls', n0 ≤ y.base := fun y z => (List.mem_cons.mp z).elim (fun u => u ▸ q) (r y)
theorem own_nb0 : ∀ y ∈ ([] : List Loc), y.base ≠ a := fun _ q => nomatch q
theorem own_nbc (q : b ≠ a) (r : ∀ y ∈ ls', y.base ≠ a) : ∀ y ∈ (⟨b, sl⟩ : Loc) :: ls', y.base ≠ a := fun y z => (List.mem_cons.mp z).elim (fun u => u ▸ q) (r y)
theorem own_nl0 : (⟨a, i⟩ : Loc) ∉ ([] : List Loc) := fun q => nomatch q
theorem own_nlb (q : a ≠ b) (r : (⟨a, i⟩ : Loc) ∉ ls) : (⟨a, i⟩ : Loc) ∉ (⟨b, j⟩ : Loc) :: ls := fun z => (List.mem_cons.mp z).elim (fun u => q (congrArg Loc.base u)) r
theorem own_nls (q : i ≠ j) (r : (⟨a, i⟩ : Loc) ∉ ls) : (⟨a, i⟩ : Loc) ∉ (⟨b, j⟩ : Loc) :: ls := fun z => (List.mem_cons.mp z).elim (fun u => q (congrArg Loc.slot u)) r
theorem own_exa (F : Exa Z h a C) (K : own_KL h h' ls) : Exa Z h' a C := by
  obtain ⟨cell, k, h1, h2, h3, h4, h5⟩ := F
  obtain ⟨c', e1, e2, e3, e4, -⟩ := K.2 _ _ h1
  exact ⟨c', k, e1, by rw [e2]; exact h2, by rw [e2]; exact h3, by rw [e3]; exact h4, by rw [e4]; exact h5⟩
theorem own_fld (F : Fld Z h a C n d v) (K : own_KL h h' ls) (q : (⟨a, Jvm.RoadKit.slotOf Z C n d⟩ : Loc) ∉ ls) : Fld Z h' a C n d v := by
  obtain ⟨cell, cf, k, i, f, h1, h2, h3, h4, h5, h6, h7⟩ := F
  obtain ⟨c', e1, e2, e3, e4, -, e6⟩ := K.2 _ _ h1
  refine ⟨c', cf, k, i, f, e1, h2, h3, by rw [e3]; exact h4, by rw [e3]; exact h5, by rw [e2]; exact h6, ?_⟩
  rw [e6 _ (by simpa [Jvm.RoadKit.slotOf, h2] using q)]; exact h7
theorem own_arv {k : ClassId} {ty : FieldType} {z : Int32} {vs : List Value} {dv : Value} (F : Arv Z h a k ty z vs dv) (K : own_KL h h' ls) (q : ∀ y ∈ ls, y.base ≠ a) : Arv Z h' a k ty z vs dv := by
  obtain ⟨c, A, r⟩ := F
  obtain ⟨c', e1, -, -, -, e5, -⟩ := K.2 _ _ A.1
  cases e5 q
  exact ⟨c, ⟨e1, A.2⟩, r⟩
theorem own_old (O : Old Z n0 h) (K : own_KL h h' ls) (q : ∀ y ∈ ls, n0 ≤ y.base) : Old Z n0 h' := ⟨O.1, Nat.le_trans O.2.1 K.1, fun x c r => by
  obtain ⟨c', e1, -, -, -, e5, -⟩ := K.2 x c (O.2.2 x c r)
  have hx : x < n0 := O.1 ▸ (Array.getElem?_eq_some_iff.mp r).1
  rw [e1, e5 fun y hy e => absurd hx (Nat.not_lt.mpr (e ▸ q y hy))]⟩
end OwnKL
theorem own_NSroot {Z : State} {a0 : Array Value} {O K : String} {n : Nat} (w : (Cond.noSuperclass O).before a0 Z = true) (wk : (Cond.instantiable K n).before a0 Z = true) (hn : O ≠ K) : NS Z O K := by
  obtain ⟨c, k, h1, h2, h3, -, -⟩ := Cond.noSuperclass_spec w
  obtain ⟨t, -, g1, -⟩ := Cond.instantiable_spec wk
  have ne := ids_ne h1 g1 hn
  refine ⟨c, t, h1, g1, fun fuel => ?_⟩
  cases fuel with
  | zero => rfl
  | succ f => simp [Vm.isSubclassAux, ne, h2, h3]
theorem own_NSno {Z : State} {a0 : Array Value} {C S K : String} {n : Nat} (w : (Cond.superclass C S).before a0 Z = true) (wk : (Cond.instantiable K n).before a0 Z = true) (u : NS Z C K) (hn : C ≠ K) : ∃ c t, Z.vm.findClass C = some c ∧ Z.vm.findClass K = some t ∧ Z.vm.assignable c t = false := by
  obtain ⟨c, t, h0, g0, n3⟩ := u
  obtain ⟨p, k, kp, h1, h2, h3, h4, h5, -, h7⟩ := Cond.superclass_spec h0 w
  obtain ⟨t', k', g1, g2, g5, g7, -⟩ := Cond.instantiable_spec wk
  cases g0.symm.trans g1
  have ne := ids_ne h0 g0 hn
  have g8 : k'.isInterface = false := by cases hI : k'.isInterface <;> simp [hI] at g7 ⊢
  refine ⟨c, t, h0, g0, ?_⟩
  show Z.vm.assignableAux (255 + 1) c t = false
  simp [Vm.assignableAux, ne, h2, g2, h5, g5, g8, Vm.isSubclass, n3]
theorem own_boxI {Z : State} {args : Array Value} {t : Term} {a : Addr} {c : Cell} {K : String} {z : Int32} (et : ∀ idx, t.eval args Z none idx Z = some (.ref a)) (A : Arr Z Z.heap a c (.object K)) (q : c.slots.size.toInt32 = z ∧ c.slots.size < 2 ^ 31) (hz : ¬ z < 0)
    (h : (Cond.all t (.and (.exactly (.elem t (.index 0)) K) (.eq (.field (.elem t (.index 0)) K "value" "I") (.sub (.index 0) (.int 128))))).value args Z none Z [] = some true) : Bxs Z a c K "I" z (fun j => .int (j - 128)) :=
  Bxs.start et A q.2 q.1 hz h fun X j nn hh => eqv_i (by simp [Term.eval, idx_at nn, (back32 nn).1]) hh
theorem own_boxJ {Z : State} {args : Array Value} {t : Term} {a : Addr} {c : Cell} {K : String} {z : Int32} (et : ∀ idx, t.eval args Z none idx Z = some (.ref a)) (A : Arr Z Z.heap a c (.object K)) (q : c.slots.size.toInt32 = z ∧ c.slots.size < 2 ^ 31) (hz : ¬ z < 0)
    (h : (Cond.all t (.and (.exactly (.elem t (.index 0)) K) (.eq (.field (.elem t (.index 0)) K "value" "J") (.op1 .i2l (.sub (.index 0) (.int 128)))))).value args Z none Z [] = some true) : Bxs Z a c K "J" z (fun j => .long (j - 128).toInt64) :=
  Bxs.start et A q.2 q.1 hz h fun X j nn hh => eqv_l (i2l_at (by simp [Term.eval, idx_at nn, (back32 nn).1])) hh
theorem own_staI {s : State} {args : Array Value} {C n d : String} {k : Int32} (h : (Cond.eq (Term.static C n d) (Term.int k)).value args s none s [] = some true) : (Term.static C n d).eval args s none [] s = some (.int k) := eqv_i (Term.int_eval k) h
theorem own_selp {Z : State} {a0 : Array Value} {y : MethodName} {n : Nat} (wi : (Cond.instantiable y.cls n).before a0 Z = true) (wp : (Cond.privateMethod y).before a0 Z = true) (wm : (Cond.instanceMethod y).before a0 Z = true) (hy : y.cls ≠ "java/lang/invoke/MethodHandle" ∧ y.cls ≠ "java/lang/invoke/VarHandle") : (Cond.selects y.cls y y).before a0 Z = true := by
  obtain ⟨c, k, h1, h2, -, h4, -⟩ := Cond.instantiable_spec wi
  exact selects_self_of_private h1 h2 (by cases hI : k.isInterface <;> simp [hI] at h4 ⊢) (Cond.privateMethod_at wp) wm hy
def own_Gk (Z : State) (h : Heap) (a : Addr) (k : ClassId) (ty : FieldType) (n j : Int32) (v : Value) : Prop := ∃ c : Cell, Arr Z h a c ty ∧ c.cls = k ∧ c.slots.size = n.toNatClampNeg ∧ ¬ n < 0 ∧ c.slots[j.toNatClampNeg]? = some v
section OwnGk
variable {Z : State} {h h' : Heap} {ls : List Loc} {a b : Addr} {k : ClassId} {ty : FieldType} {n j : Int32} {v u : Value} {sl : Nat}
theorem own_Gk.lt (F : own_Gk Z h a k ty n j v) : a < h.size := by obtain ⟨c, A, -⟩ := F; exact A.lt
theorem own_gk_ext (F : own_Gk Z h a k ty n j v) (E : Ext h h') : own_Gk Z h' a k ty n j v := by obtain ⟨c, A, r⟩ := F; exact ⟨c, A.ext E, r⟩
theorem own_gk_oth (F : own_Gk Z h a k ty n j v) (W : Wr h h' b sl u) (q : a ≠ b) : own_Gk Z h' a k ty n j v := by obtain ⟨c, A, r⟩ := F; exact ⟨c, A.other W q, r⟩
theorem own_gk_kl (F : own_Gk Z h a k ty n j v) (K : own_KL h h' ls) (q : ∀ y ∈ ls, y.base ≠ a) : own_Gk Z h' a k ty n j v := by
  obtain ⟨c, A, r⟩ := F
  obtain ⟨c', e1, -, -, -, e5, -⟩ := K.2 _ _ A.1
  cases e5 q
  exact ⟨c, ⟨e1, A.2⟩, r⟩
theorem own_gk_set {c : Cell} (A : Arr Z h a c ty) (q1 : c.cls = k) (S : c.slots.size = n.toNatClampNeg) (N : ¬ n < 0) (W : Wr h h' a j.toNatClampNeg v) : own_Gk Z h' a k ty n j v := by
  obtain ⟨c', e1, e2, e3, e4, -, -, e7⟩ := wr_at W A.1
  have e8 := (e7 rfl).1
  exact ⟨_, A.same W, q1, by rw [sz_set]; exact S, N, by rw [← e8]; exact (e7 rfl).2.1⟩
end OwnGk
section OwnSteps
variable {p : Program} {l : Launch} {e : Env} {R : Room} {s : State} {m : MethodId} {args : Array Value} {below : List Frame} {meth : Method} {c : Code} {T target : State} {locs : List Loc} {cells slots : Nat} {code : ByteArray} {pc : Nat} {Ls : Array Slot} {K : List Value}
theorem sc (X : Stand p l e R s m args below meth c T locs cells slots) (hx : p.tables.exec = Jvm.exec) (hby : c.code = code) {i : Int} (hd : decode code pc = .ok (.iconst i, 1)) (hr : Steps p.tables e below (T.setTop (mkF m (pc + 1) Ls (.int (Int32.ofInt i) :: K))) target) : Steps p.tables e below (T.setTop (mkF m pc Ls K)) target := XS.iconst X.here hx rfl (hb hby hd) hr
theorem sa (X : Stand p l e R s m args below meth c T locs cells slots) (hx : p.tables.exec = Jvm.exec) (hby : c.code = code) {k : Nat} {v : Value} (hd : decode code pc = .ok (.aload k, 2)) (hl : Ls[k]? = some (.val v)) (hv : v.isRef = true) (hr : Steps p.tables e below (T.setTop (mkF m (pc + 2) Ls (v :: K))) target) : Steps p.tables e below (T.setTop (mkF m pc Ls K)) target := XS.aload X.here hx rfl (hb hby hd) hl hv hr
theorem sA (X : Stand p l e R s m args below meth c T locs cells slots) (hx : p.tables.exec = Jvm.exec) (hby : c.code = code) {k : Fin 4} {v : Value} (hd : decode code pc = .ok (.aload_n k, 1)) (hl : Ls[k.val]? = some (.val v)) (hv : v.isRef = true) (hr : Steps p.tables e below (T.setTop (mkF m (pc + 1) Ls (v :: K))) target) : Steps p.tables e below (T.setTop (mkF m pc Ls K)) target := XS.aloadN X.here hx rfl (hb hby hd) hl hv hr
theorem si (X : Stand p l e R s m args below meth c T locs cells slots) (hx : p.tables.exec = Jvm.exec) (hby : c.code = code) {k : Nat} {v : Int32} (hd : decode code pc = .ok (.iload k, 2)) (hl : Ls[k]? = some (.val (.int v))) (hr : Steps p.tables e below (T.setTop (mkF m (pc + 2) Ls (.int v :: K))) target) : Steps p.tables e below (T.setTop (mkF m pc Ls K)) target := XS.iload X.here hx rfl (hb hby hd) hl hr
theorem sI (X : Stand p l e R s m args below meth c T locs cells slots) (hx : p.tables.exec = Jvm.exec) (hby : c.code = code) {k : Fin 4} {v : Int32} (hd : decode code pc = .ok (.iload_n k, 1)) (hl : Ls[k.val]? = some (.val (.int v))) (hr : Steps p.tables e below (T.setTop (mkF m (pc + 1) Ls (.int v :: K))) target) : Steps p.tables e below (T.setTop (mkF m pc Ls K)) target := XS.iloadN X.here hx rfl (hb hby hd) hl hr
theorem sL (X : Stand p l e R s m args below meth c T locs cells slots) (hx : p.tables.exec = Jvm.exec) (hby : c.code = code) {k : Fin 4} {v : Int64} (hd : decode code pc = .ok (.lload_n k, 1)) (hl : Ls[k.val]? = some (.val (.long v))) (hr : Steps p.tables e below (T.setTop (mkF m (pc + 1) Ls (.long v :: K))) target) : Steps p.tables e below (T.setTop (mkF m pc Ls K)) target := XS.lloadN X.here hx rfl (hb hby hd) hl hr
theorem sg (X : Stand p l e R s m args below meth c T locs cells slots) (hx : p.tables.exec = Jvm.exec) (hby : c.code = code) {o : Int} {pc' : Nat} (hd : decode code pc = .ok (.goto o, 3)) (ho : 0 ≤ (pc : Int) + o) (hp : ((pc : Int) + o).toNat = pc') (hr : Steps p.tables e below (T.setTop (mkF m pc' Ls K)) target) : Steps p.tables e below (T.setTop (mkF m pc Ls K)) target := XS.goto X.here hx rfl rfl (hb hby hd) ho hp hr
theorem sn (X : Stand p l e R s m args below meth c T locs cells slots) (hx : p.tables.exec = Jvm.exec) (hby : c.code = code) {cd : ClassFile.Cond} {o : Int} {x y : Int32} (hd : decode code pc = .ok (.if_icmp cd o, 3)) (hc : if_icmp.holds cd x y = false) (hr : Steps p.tables e below (T.setTop (mkF m (pc + 3) Ls K)) target) : Steps p.tables e below (T.setTop (mkF m pc Ls (.int y :: .int x :: K))) target := XS.icmpNo X.here hx rfl (hb hby hd) rfl hc hr
theorem sN (X : Stand p l e R s m args below meth c T locs cells slots) (hx : p.tables.exec = Jvm.exec) (hby : c.code = code) {cd : ClassFile.Cond} {o : Int} {x : Int32} (hd : decode code pc = .ok (.ifCond cd o, 3)) (hc : ifCond.holds cd x = false) (hr : Steps p.tables e below (T.setTop (mkF m (pc + 3) Ls K)) target) : Steps p.tables e below (T.setTop (mkF m pc Ls (.int x :: K))) target := XS.ifNo X.here hx rfl (hb hby hd) rfl hc hr
end OwnSteps

theorem own_rem13 (x : Int32) : (x &&& 2147483647) % 13 = 0 ∨ (x &&& 2147483647) % 13 = 1 ∨ (x &&& 2147483647) % 13 = 2 ∨ (x &&& 2147483647) % 13 = 3 ∨ (x &&& 2147483647) % 13 = 4 ∨ (x &&& 2147483647) % 13 = 5 ∨ (x &&& 2147483647) % 13 = 6 ∨ (x &&& 2147483647) % 13 = 7 ∨ (x &&& 2147483647) % 13 = 8 ∨ (x &&& 2147483647) % 13 = 9 ∨ (x &&& 2147483647) % 13 = 10 ∨ (x &&& 2147483647) % 13 = 11 ∨ (x &&& 2147483647) % 13 = 12 := by
  have h : (x &&& 2147483647).toInt = x.toInt % 2147483648 := c_mask x 2147483647 31 (by decide) (by decide)
  have h2 : ((x &&& 2147483647) % 13).toInt = (x &&& 2147483647).toInt % 13 := by
    rw [Int32.toInt_mod, Int.tmod_eq_emod_of_nonneg (by rw [h]; omega)]; rfl
  have hr : ((x &&& 2147483647) % 13).toInt = 0 ∨ ((x &&& 2147483647) % 13).toInt = 1 ∨ ((x &&& 2147483647) % 13).toInt = 2 ∨ ((x &&& 2147483647) % 13).toInt = 3 ∨ ((x &&& 2147483647) % 13).toInt = 4 ∨ ((x &&& 2147483647) % 13).toInt = 5 ∨ ((x &&& 2147483647) % 13).toInt = 6 ∨ ((x &&& 2147483647) % 13).toInt = 7 ∨ ((x &&& 2147483647) % 13).toInt = 8 ∨ ((x &&& 2147483647) % 13).toInt = 9 ∨ ((x &&& 2147483647) % 13).toInt = 10 ∨ ((x &&& 2147483647) % 13).toInt = 11 ∨ ((x &&& 2147483647) % 13).toInt = 12 := by omega
  rcases hr with q | q | q | q | q | q | q | q | q | q | q | q | q
  · exact Or.inl (Int32.toInt_inj.mp q)
  · exact Or.inr (Or.inl (Int32.toInt_inj.mp q))
  · exact Or.inr (Or.inr (Or.inl (Int32.toInt_inj.mp q)))
  · exact Or.inr (Or.inr (Or.inr (Or.inl (Int32.toInt_inj.mp q))))
  · exact Or.inr (Or.inr (Or.inr (Or.inr (Or.inl (Int32.toInt_inj.mp q)))))
  · exact Or.inr (Or.inr (Or.inr (Or.inr (Or.inr (Or.inl (Int32.toInt_inj.mp q))))))
  · exact Or.inr (Or.inr (Or.inr (Or.inr (Or.inr (Or.inr (Or.inl (Int32.toInt_inj.mp q)))))))
  · exact Or.inr (Or.inr (Or.inr (Or.inr (Or.inr (Or.inr (Or.inr (Or.inl (Int32.toInt_inj.mp q))))))))
  · exact Or.inr (Or.inr (Or.inr (Or.inr (Or.inr (Or.inr (Or.inr (Or.inr (Or.inl (Int32.toInt_inj.mp q)))))))))
  · exact Or.inr (Or.inr (Or.inr (Or.inr (Or.inr (Or.inr (Or.inr (Or.inr (Or.inr (Or.inl (Int32.toInt_inj.mp q))))))))))
  · exact Or.inr (Or.inr (Or.inr (Or.inr (Or.inr (Or.inr (Or.inr (Or.inr (Or.inr (Or.inr (Or.inl (Int32.toInt_inj.mp q)))))))))))
  · exact Or.inr (Or.inr (Or.inr (Or.inr (Or.inr (Or.inr (Or.inr (Or.inr (Or.inr (Or.inr (Or.inr (Or.inl (Int32.toInt_inj.mp q))))))))))))
  · exact Or.inr (Or.inr (Or.inr (Or.inr (Or.inr (Or.inr (Or.inr (Or.inr (Or.inr (Or.inr (Or.inr (Or.inr (Int32.toInt_inj.mp q))))))))))))
abbrev ym0 : MethodName := ⟨"com/example/weftcheck/weftcheck/OperationKind", "bindsValue", "()Z"⟩
theorem wk0 {Z : State} {a0 : Array Value} (hw : ∀ d ∈ tables_1, d.before a0 Z = true) : (Jvm.Cond.classLink "com/example/weftcheck/weftcheck/OperationKindBindsValuePinLaw" (7 : Nat) "com/example/weftcheck/weftcheck/OperationKind").before a0 Z = true := hw _ (List.mem_of_getElem? (i := 0) rfl)
theorem wk1 {Z : State} {a0 : Array Value} (hw : ∀ d ∈ tables_1, d.before a0 Z = true) : (Jvm.Cond.arrayOver (Jvm.ClassFile.FieldType.object "com/example/weftcheck/weftcheck/OperationKind")).before a0 Z = true := hw _ (List.mem_of_getElem? (i := 1) rfl)
theorem wk2 {Z : State} {a0 : Array Value} (hw : ∀ d ∈ tables_1, d.before a0 Z = true) : (Jvm.Cond.fieldLink "com/example/weftcheck/weftcheck/OperationKindBindsValuePinLaw" (9 : Nat) "com/example/weftcheck/weftcheck/OperationKind" "MAP" "Lcom/example/weftcheck/weftcheck/OperationKind;").before a0 Z = true := hw _ (List.mem_of_getElem? (i := 2) rfl)
theorem wk3 {Z : State} {a0 : Array Value} (hw : ∀ d ∈ tables_1, d.before a0 Z = true) : (Jvm.Cond.initialized "com/example/weftcheck/weftcheck/OperationKind").before a0 Z = true := hw _ (List.mem_of_getElem? (i := 3) rfl)
theorem wk4 {Z : State} {a0 : Array Value} (hw : ∀ d ∈ tables_1, d.before a0 Z = true) : (Jvm.Cond.laysStatic "com/example/weftcheck/weftcheck/OperationKind" "MAP" "Lcom/example/weftcheck/weftcheck/OperationKind;").before a0 Z = true := hw _ (List.mem_of_getElem? (i := 4) rfl)
theorem wk6 {Z : State} {a0 : Array Value} (hw : ∀ d ∈ tables_1, d.before a0 Z = true) : (Jvm.Cond.fieldLink "com/example/weftcheck/weftcheck/OperationKindBindsValuePinLaw" (13 : Nat) "com/example/weftcheck/weftcheck/OperationKind" "PREDICATE" "Lcom/example/weftcheck/weftcheck/OperationKind;").before a0 Z = true := hw _ (List.mem_of_getElem? (i := 6) rfl)
theorem wk7 {Z : State} {a0 : Array Value} (hw : ∀ d ∈ tables_1, d.before a0 Z = true) : (Jvm.Cond.laysStatic "com/example/weftcheck/weftcheck/OperationKind" "PREDICATE" "Lcom/example/weftcheck/weftcheck/OperationKind;").before a0 Z = true := hw _ (List.mem_of_getElem? (i := 7) rfl)
theorem wk8 {Z : State} {a0 : Array Value} (hw : ∀ d ∈ tables_1, d.before a0 Z = true) : (Jvm.Cond.fieldLink "com/example/weftcheck/weftcheck/OperationKindBindsValuePinLaw" (16 : Nat) "com/example/weftcheck/weftcheck/OperationKind" "ISOLATION" "Lcom/example/weftcheck/weftcheck/OperationKind;").before a0 Z = true := hw _ (List.mem_of_getElem? (i := 8) rfl)
theorem wk9 {Z : State} {a0 : Array Value} (hw : ∀ d ∈ tables_1, d.before a0 Z = true) : (Jvm.Cond.laysStatic "com/example/weftcheck/weftcheck/OperationKind" "ISOLATION" "Lcom/example/weftcheck/weftcheck/OperationKind;").before a0 Z = true := hw _ (List.mem_of_getElem? (i := 9) rfl)
theorem wk10 {Z : State} {a0 : Array Value} (hw : ∀ d ∈ tables_1, d.before a0 Z = true) : (Jvm.Cond.fieldLink "com/example/weftcheck/weftcheck/OperationKindBindsValuePinLaw" (19 : Nat) "com/example/weftcheck/weftcheck/OperationKind" "READ" "Lcom/example/weftcheck/weftcheck/OperationKind;").before a0 Z = true := hw _ (List.mem_of_getElem? (i := 10) rfl)
theorem wk11 {Z : State} {a0 : Array Value} (hw : ∀ d ∈ tables_1, d.before a0 Z = true) : (Jvm.Cond.laysStatic "com/example/weftcheck/weftcheck/OperationKind" "READ" "Lcom/example/weftcheck/weftcheck/OperationKind;").before a0 Z = true := hw _ (List.mem_of_getElem? (i := 11) rfl)
theorem wk12 {Z : State} {a0 : Array Value} (hw : ∀ d ∈ tables_1, d.before a0 Z = true) : (Jvm.Cond.fieldLink "com/example/weftcheck/weftcheck/OperationKindBindsValuePinLaw" (22 : Nat) "com/example/weftcheck/weftcheck/OperationKind" "WRITE" "Lcom/example/weftcheck/weftcheck/OperationKind;").before a0 Z = true := hw _ (List.mem_of_getElem? (i := 12) rfl)
theorem wk13 {Z : State} {a0 : Array Value} (hw : ∀ d ∈ tables_1, d.before a0 Z = true) : (Jvm.Cond.laysStatic "com/example/weftcheck/weftcheck/OperationKind" "WRITE" "Lcom/example/weftcheck/weftcheck/OperationKind;").before a0 Z = true := hw _ (List.mem_of_getElem? (i := 13) rfl)
theorem wk14 {Z : State} {a0 : Array Value} (hw : ∀ d ∈ tables_1, d.before a0 Z = true) : (Jvm.Cond.fieldLink "com/example/weftcheck/weftcheck/OperationKindBindsValuePinLaw" (25 : Nat) "com/example/weftcheck/weftcheck/OperationKind" "READ_WRITE" "Lcom/example/weftcheck/weftcheck/OperationKind;").before a0 Z = true := hw _ (List.mem_of_getElem? (i := 14) rfl)
theorem wk15 {Z : State} {a0 : Array Value} (hw : ∀ d ∈ tables_1, d.before a0 Z = true) : (Jvm.Cond.laysStatic "com/example/weftcheck/weftcheck/OperationKind" "READ_WRITE" "Lcom/example/weftcheck/weftcheck/OperationKind;").before a0 Z = true := hw _ (List.mem_of_getElem? (i := 15) rfl)
theorem wk16 {Z : State} {a0 : Array Value} (hw : ∀ d ∈ tables_1, d.before a0 Z = true) : (Jvm.Cond.fieldLink "com/example/weftcheck/weftcheck/OperationKindBindsValuePinLaw" (28 : Nat) "com/example/weftcheck/weftcheck/OperationKind" "INSERT" "Lcom/example/weftcheck/weftcheck/OperationKind;").before a0 Z = true := hw _ (List.mem_of_getElem? (i := 16) rfl)
theorem wk17 {Z : State} {a0 : Array Value} (hw : ∀ d ∈ tables_1, d.before a0 Z = true) : (Jvm.Cond.laysStatic "com/example/weftcheck/weftcheck/OperationKind" "INSERT" "Lcom/example/weftcheck/weftcheck/OperationKind;").before a0 Z = true := hw _ (List.mem_of_getElem? (i := 17) rfl)
theorem wk18 {Z : State} {a0 : Array Value} (hw : ∀ d ∈ tables_1, d.before a0 Z = true) : (Jvm.Cond.fieldLink "com/example/weftcheck/weftcheck/OperationKindBindsValuePinLaw" (31 : Nat) "com/example/weftcheck/weftcheck/OperationKind" "DELETE" "Lcom/example/weftcheck/weftcheck/OperationKind;").before a0 Z = true := hw _ (List.mem_of_getElem? (i := 18) rfl)
theorem wk19 {Z : State} {a0 : Array Value} (hw : ∀ d ∈ tables_1, d.before a0 Z = true) : (Jvm.Cond.laysStatic "com/example/weftcheck/weftcheck/OperationKind" "DELETE" "Lcom/example/weftcheck/weftcheck/OperationKind;").before a0 Z = true := hw _ (List.mem_of_getElem? (i := 19) rfl)
theorem wk20 {Z : State} {a0 : Array Value} (hw : ∀ d ∈ tables_1, d.before a0 Z = true) : (Jvm.Cond.fieldLink "com/example/weftcheck/weftcheck/OperationKindBindsValuePinLaw" (34 : Nat) "com/example/weftcheck/weftcheck/OperationKind" "PREDICATE_READ" "Lcom/example/weftcheck/weftcheck/OperationKind;").before a0 Z = true := hw _ (List.mem_of_getElem? (i := 20) rfl)
theorem wk21 {Z : State} {a0 : Array Value} (hw : ∀ d ∈ tables_1, d.before a0 Z = true) : (Jvm.Cond.laysStatic "com/example/weftcheck/weftcheck/OperationKind" "PREDICATE_READ" "Lcom/example/weftcheck/weftcheck/OperationKind;").before a0 Z = true := hw _ (List.mem_of_getElem? (i := 21) rfl)
theorem wk22 {Z : State} {a0 : Array Value} (hw : ∀ d ∈ tables_1, d.before a0 Z = true) : (Jvm.Cond.fieldLink "com/example/weftcheck/weftcheck/OperationKindBindsValuePinLaw" (37 : Nat) "com/example/weftcheck/weftcheck/OperationKind" "SQL_STATEMENT" "Lcom/example/weftcheck/weftcheck/OperationKind;").before a0 Z = true := hw _ (List.mem_of_getElem? (i := 22) rfl)
theorem wk23 {Z : State} {a0 : Array Value} (hw : ∀ d ∈ tables_1, d.before a0 Z = true) : (Jvm.Cond.laysStatic "com/example/weftcheck/weftcheck/OperationKind" "SQL_STATEMENT" "Lcom/example/weftcheck/weftcheck/OperationKind;").before a0 Z = true := hw _ (List.mem_of_getElem? (i := 23) rfl)
theorem wk24 {Z : State} {a0 : Array Value} (hw : ∀ d ∈ tables_1, d.before a0 Z = true) : (Jvm.Cond.fieldLink "com/example/weftcheck/weftcheck/OperationKindBindsValuePinLaw" (40 : Nat) "com/example/weftcheck/weftcheck/OperationKind" "SQL_QUERY" "Lcom/example/weftcheck/weftcheck/OperationKind;").before a0 Z = true := hw _ (List.mem_of_getElem? (i := 24) rfl)
theorem wk25 {Z : State} {a0 : Array Value} (hw : ∀ d ∈ tables_1, d.before a0 Z = true) : (Jvm.Cond.laysStatic "com/example/weftcheck/weftcheck/OperationKind" "SQL_QUERY" "Lcom/example/weftcheck/weftcheck/OperationKind;").before a0 Z = true := hw _ (List.mem_of_getElem? (i := 25) rfl)
theorem wk26 {Z : State} {a0 : Array Value} (hw : ∀ d ∈ tables_1, d.before a0 Z = true) : (Jvm.Cond.fieldLink "com/example/weftcheck/weftcheck/OperationKindBindsValuePinLaw" (43 : Nat) "com/example/weftcheck/weftcheck/OperationKind" "COMMIT" "Lcom/example/weftcheck/weftcheck/OperationKind;").before a0 Z = true := hw _ (List.mem_of_getElem? (i := 26) rfl)
theorem wk27 {Z : State} {a0 : Array Value} (hw : ∀ d ∈ tables_1, d.before a0 Z = true) : (Jvm.Cond.laysStatic "com/example/weftcheck/weftcheck/OperationKind" "COMMIT" "Lcom/example/weftcheck/weftcheck/OperationKind;").before a0 Z = true := hw _ (List.mem_of_getElem? (i := 27) rfl)
theorem wk28 {Z : State} {a0 : Array Value} (hw : ∀ d ∈ tables_1, d.before a0 Z = true) : (Jvm.Cond.fieldLink "com/example/weftcheck/weftcheck/OperationKindBindsValuePinLaw" (46 : Nat) "com/example/weftcheck/weftcheck/OperationKind" "ABORT" "Lcom/example/weftcheck/weftcheck/OperationKind;").before a0 Z = true := hw _ (List.mem_of_getElem? (i := 28) rfl)
theorem wk29 {Z : State} {a0 : Array Value} (hw : ∀ d ∈ tables_1, d.before a0 Z = true) : (Jvm.Cond.laysStatic "com/example/weftcheck/weftcheck/OperationKind" "ABORT" "Lcom/example/weftcheck/weftcheck/OperationKind;").before a0 Z = true := hw _ (List.mem_of_getElem? (i := 29) rfl)
theorem wk30 {Z : State} {a0 : Array Value} (hw : ∀ d ∈ tables_1, d.before a0 Z = true) : (Jvm.Cond.arrayClass Jvm.ClassFile.FieldType.boolean).before a0 Z = true := hw _ (List.mem_of_getElem? (i := 30) rfl)
theorem wk31 {Z : State} {a0 : Array Value} (hw : ∀ d ∈ tables_1, d.before a0 Z = true) : (Jvm.Cond.constant "com/example/weftcheck/weftcheck/OperationKindBindsValuePinLaw" (49 : Nat) (2147483647 : Int32)).before a0 Z = true := hw _ (List.mem_of_getElem? (i := 31) rfl)
theorem wk32 {Z : State} {a0 : Array Value} (hw : ∀ d ∈ tables_1, d.before a0 Z = true) : (Jvm.Cond.methodLink "com/example/weftcheck/weftcheck/OperationKindBindsValuePinLaw" (50 : Nat) ({ cls := "com/example/weftcheck/weftcheck/OperationKind", name := "bindsValue", desc := "()Z" } : Jvm.MethodName)).before a0 Z = true := hw _ (List.mem_of_getElem? (i := 32) rfl)
theorem wk33 {Z : State} {a0 : Array Value} (hw : ∀ d ∈ tables_1, d.before a0 Z = true) : (Jvm.Cond.declares ({ cls := "com/example/weftcheck/weftcheck/OperationKind", name := "bindsValue", desc := "()Z" } : Jvm.MethodName)).before a0 Z = true := hw _ (List.mem_of_getElem? (i := 33) rfl)
theorem wk34 {Z : State} {a0 : Array Value} (hw : ∀ d ∈ tables_1, d.before a0 Z = true) : (Jvm.Cond.instanceMethod ({ cls := "com/example/weftcheck/weftcheck/OperationKind", name := "bindsValue", desc := "()Z" } : Jvm.MethodName)).before a0 Z = true := hw _ (List.mem_of_getElem? (i := 34) rfl)
theorem wk35 {Z : State} {a0 : Array Value} (hw : ∀ d ∈ tables_1, d.before a0 Z = true) : (Jvm.Cond.selects "com/example/weftcheck/weftcheck/OperationKind" ({ cls := "com/example/weftcheck/weftcheck/OperationKind", name := "bindsValue", desc := "()Z" } : Jvm.MethodName) ({ cls := "com/example/weftcheck/weftcheck/OperationKind", name := "bindsValue", desc := "()Z" } : Jvm.MethodName)).before a0 Z = true := hw _ (List.mem_of_getElem? (i := 35) rfl)
theorem wk36 {Z : State} {a0 : Array Value} (hw : ∀ d ∈ tables_1, d.before a0 Z = true) : (Jvm.Cond.code ({ cls := "com/example/weftcheck/weftcheck/OperationKind", name := "bindsValue", desc := "()Z" } : Jvm.MethodName) prog_29_method_9_code (1 : Nat) (Option.some Jvm.ClassFile.FieldType.boolean)).before a0 Z = true := hw _ (List.mem_of_getElem? (i := 36) rfl)
theorem wk37 {Z : State} {a0 : Array Value} (hw : ∀ d ∈ tables_1, d.before a0 Z = true) : (Jvm.Cond.fieldLink "com/example/weftcheck/weftcheck/OperationKind" (13 : Nat) "com/example/weftcheck/weftcheck/OperationKind" "READ" "Lcom/example/weftcheck/weftcheck/OperationKind;").before a0 Z = true := hw _ (List.mem_of_getElem? (i := 37) rfl)
theorem wk38 {Z : State} {a0 : Array Value} (hw : ∀ d ∈ tables_1, d.before a0 Z = true) : (Jvm.Cond.fieldLink "com/example/weftcheck/weftcheck/OperationKind" (28 : Nat) "com/example/weftcheck/weftcheck/OperationKind" "PREDICATE_READ" "Lcom/example/weftcheck/weftcheck/OperationKind;").before a0 Z = true := hw _ (List.mem_of_getElem? (i := 38) rfl)
theorem wk39 {Z : State} {a0 : Array Value} (hw : ∀ d ∈ tables_1, d.before a0 Z = true) : (Jvm.Cond.fieldLink "com/example/weftcheck/weftcheck/OperationKind" (34 : Nat) "com/example/weftcheck/weftcheck/OperationKind" "SQL_QUERY" "Lcom/example/weftcheck/weftcheck/OperationKind;").before a0 Z = true := hw _ (List.mem_of_getElem? (i := 39) rfl)
def Wd (Z : State) (w : Nat → Addr) : Prop := Sta Z Z.heap "com/example/weftcheck/weftcheck/OperationKind" "MAP" "Lcom/example/weftcheck/weftcheck/OperationKind;" (.ref (w 0)) ∧ Exa Z Z.heap (w 0) "com/example/weftcheck/weftcheck/OperationKind" ∧ Sta Z Z.heap "com/example/weftcheck/weftcheck/OperationKind" "PREDICATE" "Lcom/example/weftcheck/weftcheck/OperationKind;" (.ref (w 1)) ∧ Exa Z Z.heap (w 1) "com/example/weftcheck/weftcheck/OperationKind" ∧ Sta Z Z.heap "com/example/weftcheck/weftcheck/OperationKind" "ISOLATION" "Lcom/example/weftcheck/weftcheck/OperationKind;" (.ref (w 2)) ∧ Exa Z Z.heap (w 2) "com/example/weftcheck/weftcheck/OperationKind" ∧ Sta Z Z.heap "com/example/weftcheck/weftcheck/OperationKind" "READ" "Lcom/example/weftcheck/weftcheck/OperationKind;" (.ref (w 3)) ∧ Exa Z Z.heap (w 3) "com/example/weftcheck/weftcheck/OperationKind" ∧ Sta Z Z.heap "com/example/weftcheck/weftcheck/OperationKind" "WRITE" "Lcom/example/weftcheck/weftcheck/OperationKind;" (.ref (w 4)) ∧ Exa Z Z.heap (w 4) "com/example/weftcheck/weftcheck/OperationKind" ∧ Sta Z Z.heap "com/example/weftcheck/weftcheck/OperationKind" "READ_WRITE" "Lcom/example/weftcheck/weftcheck/OperationKind;" (.ref (w 5)) ∧ Exa Z Z.heap (w 5) "com/example/weftcheck/weftcheck/OperationKind" ∧ Sta Z Z.heap "com/example/weftcheck/weftcheck/OperationKind" "INSERT" "Lcom/example/weftcheck/weftcheck/OperationKind;" (.ref (w 6)) ∧ Exa Z Z.heap (w 6) "com/example/weftcheck/weftcheck/OperationKind" ∧ Sta Z Z.heap "com/example/weftcheck/weftcheck/OperationKind" "DELETE" "Lcom/example/weftcheck/weftcheck/OperationKind;" (.ref (w 7)) ∧ Exa Z Z.heap (w 7) "com/example/weftcheck/weftcheck/OperationKind" ∧ Sta Z Z.heap "com/example/weftcheck/weftcheck/OperationKind" "PREDICATE_READ" "Lcom/example/weftcheck/weftcheck/OperationKind;" (.ref (w 8)) ∧ Exa Z Z.heap (w 8) "com/example/weftcheck/weftcheck/OperationKind" ∧ Sta Z Z.heap "com/example/weftcheck/weftcheck/OperationKind" "SQL_STATEMENT" "Lcom/example/weftcheck/weftcheck/OperationKind;" (.ref (w 9)) ∧ Exa Z Z.heap (w 9) "com/example/weftcheck/weftcheck/OperationKind" ∧ Sta Z Z.heap "com/example/weftcheck/weftcheck/OperationKind" "SQL_QUERY" "Lcom/example/weftcheck/weftcheck/OperationKind;" (.ref (w 10)) ∧ Exa Z Z.heap (w 10) "com/example/weftcheck/weftcheck/OperationKind" ∧ Sta Z Z.heap "com/example/weftcheck/weftcheck/OperationKind" "COMMIT" "Lcom/example/weftcheck/weftcheck/OperationKind;" (.ref (w 11)) ∧ Exa Z Z.heap (w 11) "com/example/weftcheck/weftcheck/OperationKind" ∧ Sta Z Z.heap "com/example/weftcheck/weftcheck/OperationKind" "ABORT" "Lcom/example/weftcheck/weftcheck/OperationKind;" (.ref (w 12)) ∧ Exa Z Z.heap (w 12) "com/example/weftcheck/weftcheck/OperationKind" ∧ Fld Z Z.heap (w 0) "java/lang/Enum" "ordinal" "I" (.int (0 : Int32)) ∧ Fld Z Z.heap (w 3) "java/lang/Enum" "ordinal" "I" (.int (3 : Int32)) ∧ Fld Z Z.heap (w 8) "java/lang/Enum" "ordinal" "I" (.int (8 : Int32)) ∧ Fld Z Z.heap (w 10) "java/lang/Enum" "ordinal" "I" (.int (10 : Int32)) ∧ Fld Z Z.heap (w 6) "java/lang/Enum" "ordinal" "I" (.int (6 : Int32)) ∧ Fld Z Z.heap (w 5) "java/lang/Enum" "ordinal" "I" (.int (5 : Int32)) ∧ Fld Z Z.heap (w 7) "java/lang/Enum" "ordinal" "I" (.int (7 : Int32)) ∧ Fld Z Z.heap (w 9) "java/lang/Enum" "ordinal" "I" (.int (9 : Int32)) ∧ Fld Z Z.heap (w 2) "java/lang/Enum" "ordinal" "I" (.int (2 : Int32)) ∧ Fld Z Z.heap (w 11) "java/lang/Enum" "ordinal" "I" (.int (11 : Int32)) ∧ Fld Z Z.heap (w 1) "java/lang/Enum" "ordinal" "I" (.int (1 : Int32)) ∧ Fld Z Z.heap (w 12) "java/lang/Enum" "ordinal" "I" (.int (12 : Int32)) ∧ Fld Z Z.heap (w 4) "java/lang/Enum" "ordinal" "I" (.int (4 : Int32)) ∧ True
theorem wd0 {Z : State} {w : Nat → Addr} (hW : Wd Z w) : Sta Z Z.heap "com/example/weftcheck/weftcheck/OperationKind" "MAP" "Lcom/example/weftcheck/weftcheck/OperationKind;" (.ref (w 0)) := hW.1
theorem wd1 {Z : State} {w : Nat → Addr} (hW : Wd Z w) : Exa Z Z.heap (w 0) "com/example/weftcheck/weftcheck/OperationKind" := hW.2.1
theorem wd2 {Z : State} {w : Nat → Addr} (hW : Wd Z w) : Sta Z Z.heap "com/example/weftcheck/weftcheck/OperationKind" "PREDICATE" "Lcom/example/weftcheck/weftcheck/OperationKind;" (.ref (w 1)) := hW.2.2.1
theorem wd3 {Z : State} {w : Nat → Addr} (hW : Wd Z w) : Exa Z Z.heap (w 1) "com/example/weftcheck/weftcheck/OperationKind" := hW.2.2.2.1
theorem wd4 {Z : State} {w : Nat → Addr} (hW : Wd Z w) : Sta Z Z.heap "com/example/weftcheck/weftcheck/OperationKind" "ISOLATION" "Lcom/example/weftcheck/weftcheck/OperationKind;" (.ref (w 2)) := hW.2.2.2.2.1
theorem wd5 {Z : State} {w : Nat → Addr} (hW : Wd Z w) : Exa Z Z.heap (w 2) "com/example/weftcheck/weftcheck/OperationKind" := hW.2.2.2.2.2.1
theorem wd6 {Z : State} {w : Nat → Addr} (hW : Wd Z w) : Sta Z Z.heap "com/example/weftcheck/weftcheck/OperationKind" "READ" "Lcom/example/weftcheck/weftcheck/OperationKind;" (.ref (w 3)) := hW.2.2.2.2.2.2.1
theorem wd7 {Z : State} {w : Nat → Addr} (hW : Wd Z w) : Exa Z Z.heap (w 3) "com/example/weftcheck/weftcheck/OperationKind" := hW.2.2.2.2.2.2.2.1
theorem wd8 {Z : State} {w : Nat → Addr} (hW : Wd Z w) : Sta Z Z.heap "com/example/weftcheck/weftcheck/OperationKind" "WRITE" "Lcom/example/weftcheck/weftcheck/OperationKind;" (.ref (w 4)) := hW.2.2.2.2.2.2.2.2.1
theorem wd9 {Z : State} {w : Nat → Addr} (hW : Wd Z w) : Exa Z Z.heap (w 4) "com/example/weftcheck/weftcheck/OperationKind" := hW.2.2.2.2.2.2.2.2.2.1
theorem wd10 {Z : State} {w : Nat → Addr} (hW : Wd Z w) : Sta Z Z.heap "com/example/weftcheck/weftcheck/OperationKind" "READ_WRITE" "Lcom/example/weftcheck/weftcheck/OperationKind;" (.ref (w 5)) := hW.2.2.2.2.2.2.2.2.2.2.1
theorem wd11 {Z : State} {w : Nat → Addr} (hW : Wd Z w) : Exa Z Z.heap (w 5) "com/example/weftcheck/weftcheck/OperationKind" := hW.2.2.2.2.2.2.2.2.2.2.2.1
theorem wd12 {Z : State} {w : Nat → Addr} (hW : Wd Z w) : Sta Z Z.heap "com/example/weftcheck/weftcheck/OperationKind" "INSERT" "Lcom/example/weftcheck/weftcheck/OperationKind;" (.ref (w 6)) := hW.2.2.2.2.2.2.2.2.2.2.2.2.1
theorem wd13 {Z : State} {w : Nat → Addr} (hW : Wd Z w) : Exa Z Z.heap (w 6) "com/example/weftcheck/weftcheck/OperationKind" := hW.2.2.2.2.2.2.2.2.2.2.2.2.2.1
theorem wd14 {Z : State} {w : Nat → Addr} (hW : Wd Z w) : Sta Z Z.heap "com/example/weftcheck/weftcheck/OperationKind" "DELETE" "Lcom/example/weftcheck/weftcheck/OperationKind;" (.ref (w 7)) := hW.2.2.2.2.2.2.2.2.2.2.2.2.2.2.1
theorem wd15 {Z : State} {w : Nat → Addr} (hW : Wd Z w) : Exa Z Z.heap (w 7) "com/example/weftcheck/weftcheck/OperationKind" := hW.2.2.2.2.2.2.2.2.2.2.2.2.2.2.2.1
theorem wd16 {Z : State} {w : Nat → Addr} (hW : Wd Z w) : Sta Z Z.heap "com/example/weftcheck/weftcheck/OperationKind" "PREDICATE_READ" "Lcom/example/weftcheck/weftcheck/OperationKind;" (.ref (w 8)) := hW.2.2.2.2.2.2.2.2.2.2.2.2.2.2.2.2.1
theorem wd17 {Z : State} {w : Nat → Addr} (hW : Wd Z w) : Exa Z Z.heap (w 8) "com/example/weftcheck/weftcheck/OperationKind" := hW.2.2.2.2.2.2.2.2.2.2.2.2.2.2.2.2.2.1
theorem wd18 {Z : State} {w : Nat → Addr} (hW : Wd Z w) : Sta Z Z.heap "com/example/weftcheck/weftcheck/OperationKind" "SQL_STATEMENT" "Lcom/example/weftcheck/weftcheck/OperationKind;" (.ref (w 9)) := hW.2.2.2.2.2.2.2.2.2.2.2.2.2.2.2.2.2.2.1
theorem wd19 {Z : State} {w : Nat → Addr} (hW : Wd Z w) : Exa Z Z.heap (w 9) "com/example/weftcheck/weftcheck/OperationKind" := hW.2.2.2.2.2.2.2.2.2.2.2.2.2.2.2.2.2.2.2.1
theorem wd20 {Z : State} {w : Nat → Addr} (hW : Wd Z w) : Sta Z Z.heap "com/example/weftcheck/weftcheck/OperationKind" "SQL_QUERY" "Lcom/example/weftcheck/weftcheck/OperationKind;" (.ref (w 10)) := hW.2.2.2.2.2.2.2.2.2.2.2.2.2.2.2.2.2.2.2.2.1
theorem wd21 {Z : State} {w : Nat → Addr} (hW : Wd Z w) : Exa Z Z.heap (w 10) "com/example/weftcheck/weftcheck/OperationKind" := hW.2.2.2.2.2.2.2.2.2.2.2.2.2.2.2.2.2.2.2.2.2.1
theorem wd22 {Z : State} {w : Nat → Addr} (hW : Wd Z w) : Sta Z Z.heap "com/example/weftcheck/weftcheck/OperationKind" "COMMIT" "Lcom/example/weftcheck/weftcheck/OperationKind;" (.ref (w 11)) := hW.2.2.2.2.2.2.2.2.2.2.2.2.2.2.2.2.2.2.2.2.2.2.1
theorem wd23 {Z : State} {w : Nat → Addr} (hW : Wd Z w) : Exa Z Z.heap (w 11) "com/example/weftcheck/weftcheck/OperationKind" := hW.2.2.2.2.2.2.2.2.2.2.2.2.2.2.2.2.2.2.2.2.2.2.2.1
theorem wd24 {Z : State} {w : Nat → Addr} (hW : Wd Z w) : Sta Z Z.heap "com/example/weftcheck/weftcheck/OperationKind" "ABORT" "Lcom/example/weftcheck/weftcheck/OperationKind;" (.ref (w 12)) := hW.2.2.2.2.2.2.2.2.2.2.2.2.2.2.2.2.2.2.2.2.2.2.2.2.1
theorem wd25 {Z : State} {w : Nat → Addr} (hW : Wd Z w) : Exa Z Z.heap (w 12) "com/example/weftcheck/weftcheck/OperationKind" := hW.2.2.2.2.2.2.2.2.2.2.2.2.2.2.2.2.2.2.2.2.2.2.2.2.2.1
theorem wd26 {Z : State} {w : Nat → Addr} (hW : Wd Z w) : Fld Z Z.heap (w 0) "java/lang/Enum" "ordinal" "I" (.int (0 : Int32)) := hW.2.2.2.2.2.2.2.2.2.2.2.2.2.2.2.2.2.2.2.2.2.2.2.2.2.2.1
theorem wd27 {Z : State} {w : Nat → Addr} (hW : Wd Z w) : Fld Z Z.heap (w 3) "java/lang/Enum" "ordinal" "I" (.int (3 : Int32)) := hW.2.2.2.2.2.2.2.2.2.2.2.2.2.2.2.2.2.2.2.2.2.2.2.2.2.2.2.1
theorem wd28 {Z : State} {w : Nat → Addr} (hW : Wd Z w) : Fld Z Z.heap (w 8) "java/lang/Enum" "ordinal" "I" (.int (8 : Int32)) := hW.2.2.2.2.2.2.2.2.2.2.2.2.2.2.2.2.2.2.2.2.2.2.2.2.2.2.2.2.1
theorem wd29 {Z : State} {w : Nat → Addr} (hW : Wd Z w) : Fld Z Z.heap (w 10) "java/lang/Enum" "ordinal" "I" (.int (10 : Int32)) := hW.2.2.2.2.2.2.2.2.2.2.2.2.2.2.2.2.2.2.2.2.2.2.2.2.2.2.2.2.2.1
theorem wd30 {Z : State} {w : Nat → Addr} (hW : Wd Z w) : Fld Z Z.heap (w 6) "java/lang/Enum" "ordinal" "I" (.int (6 : Int32)) := hW.2.2.2.2.2.2.2.2.2.2.2.2.2.2.2.2.2.2.2.2.2.2.2.2.2.2.2.2.2.2.1
theorem wd31 {Z : State} {w : Nat → Addr} (hW : Wd Z w) : Fld Z Z.heap (w 5) "java/lang/Enum" "ordinal" "I" (.int (5 : Int32)) := hW.2.2.2.2.2.2.2.2.2.2.2.2.2.2.2.2.2.2.2.2.2.2.2.2.2.2.2.2.2.2.2.1
theorem wd32 {Z : State} {w : Nat → Addr} (hW : Wd Z w) : Fld Z Z.heap (w 7) "java/lang/Enum" "ordinal" "I" (.int (7 : Int32)) := hW.2.2.2.2.2.2.2.2.2.2.2.2.2.2.2.2.2.2.2.2.2.2.2.2.2.2.2.2.2.2.2.2.1
theorem wd33 {Z : State} {w : Nat → Addr} (hW : Wd Z w) : Fld Z Z.heap (w 9) "java/lang/Enum" "ordinal" "I" (.int (9 : Int32)) := hW.2.2.2.2.2.2.2.2.2.2.2.2.2.2.2.2.2.2.2.2.2.2.2.2.2.2.2.2.2.2.2.2.2.1
theorem wd34 {Z : State} {w : Nat → Addr} (hW : Wd Z w) : Fld Z Z.heap (w 2) "java/lang/Enum" "ordinal" "I" (.int (2 : Int32)) := hW.2.2.2.2.2.2.2.2.2.2.2.2.2.2.2.2.2.2.2.2.2.2.2.2.2.2.2.2.2.2.2.2.2.2.1
theorem wd35 {Z : State} {w : Nat → Addr} (hW : Wd Z w) : Fld Z Z.heap (w 11) "java/lang/Enum" "ordinal" "I" (.int (11 : Int32)) := hW.2.2.2.2.2.2.2.2.2.2.2.2.2.2.2.2.2.2.2.2.2.2.2.2.2.2.2.2.2.2.2.2.2.2.2.1
theorem wd36 {Z : State} {w : Nat → Addr} (hW : Wd Z w) : Fld Z Z.heap (w 1) "java/lang/Enum" "ordinal" "I" (.int (1 : Int32)) := hW.2.2.2.2.2.2.2.2.2.2.2.2.2.2.2.2.2.2.2.2.2.2.2.2.2.2.2.2.2.2.2.2.2.2.2.2.1
theorem wd37 {Z : State} {w : Nat → Addr} (hW : Wd Z w) : Fld Z Z.heap (w 12) "java/lang/Enum" "ordinal" "I" (.int (12 : Int32)) := hW.2.2.2.2.2.2.2.2.2.2.2.2.2.2.2.2.2.2.2.2.2.2.2.2.2.2.2.2.2.2.2.2.2.2.2.2.2.1
theorem wd38 {Z : State} {w : Nat → Addr} (hW : Wd Z w) : Fld Z Z.heap (w 4) "java/lang/Enum" "ordinal" "I" (.int (4 : Int32)) := hW.2.2.2.2.2.2.2.2.2.2.2.2.2.2.2.2.2.2.2.2.2.2.2.2.2.2.2.2.2.2.2.2.2.2.2.2.2.2.1
theorem d1_0 : decode prog_29_method_9_code 0 = .ok (.aload_n 0, 1) := by decide +kernel
theorem d1_1 : decode prog_29_method_9_code 1 = .ok (.getstatic 13, 3) := by decide +kernel
theorem d1_4 : decode prog_29_method_9_code 4 = .ok (.if_acmp .eq 17, 3) := by decide +kernel
theorem d1_7 : decode prog_29_method_9_code 7 = .ok (.aload_n 0, 1) := by decide +kernel
theorem d1_8 : decode prog_29_method_9_code 8 = .ok (.getstatic 28, 3) := by decide +kernel
theorem d1_11 : decode prog_29_method_9_code 11 = .ok (.if_acmp .eq 10, 3) := by decide +kernel
theorem d1_14 : decode prog_29_method_9_code 14 = .ok (.aload_n 0, 1) := by decide +kernel
theorem d1_15 : decode prog_29_method_9_code 15 = .ok (.getstatic 34, 3) := by decide +kernel
theorem d1_18 : decode prog_29_method_9_code 18 = .ok (.if_acmp .ne 7, 3) := by decide +kernel
theorem d1_25 : decode prog_29_method_9_code 25 = .ok (.iconst 0, 1) := by decide +kernel
theorem d1_26 : decode prog_29_method_9_code 26 = .ok (.ireturn, 1) := by decide +kernel
theorem ef_1_1 (m : MethodId) (w : Nat → Addr) : entryFrame m #[(.ref (w 0))] 1 = mkF m 0 #[.val (.ref (w 0))] [] := by first | (simp [entryFrame, mkF, argsToLocals, Value.category]; done) | rfl
theorem pnc_0 : plainName "com/example/weftcheck/weftcheck/OperationKind" = true := by first | (simp [plainName, overriddenIn]; done) | decide +kernel
def Q1_1 (Z : State) (w : Nat → Addr) (h0 : Heap) (n0 : Nat) (v : Option Value) (h : Heap) (L : List Loc) : Prop := v = some (.int (0 : Int32)) ∧ Fr n0 L ∧ h = h0
set_option maxRecDepth 65536 in
set_option maxHeartbeats 40000000 in
theorem rm1_1 (l : Launch) (Z : State) (a0 : Array Value) (hw : ∀ d ∈ tables_1, d.before a0 Z = true) (w : Nat → Addr) (hW : Wd Z w) (ws : List Jvm.Cond) (h0 : Heap) (n0 : Nat) (O0 : Old Z n0 h0) :
    MetFree l ym0 (head1 (Jvm.Cond.code ym0 prog_29_method_9_code 1 (some .boolean) :: ws) ({ frames := 0, cells := 0, slots := 0, locals := 0 } : Room)) (fun a U => a = #[(.ref (w 0))] ∧ Z.Warmed39 U.vm ∧ U.heap = h0) (fun _ _ _ _ _ => True) (fun _ U o U' => ∃ v L, o = .returned v ∧ Q1_1 Z w h0 n0 v U'.heap L ∧ FrameEnd U o U' L ({ frames := 0, cells := 0, slots := 0, locals := 0 } : Room).cells ({ frames := 0, cells := 0, slots := 0, locals := 0 } : Room).slots) := by
  refine MetFree.of_bodySF (plainFor_of_name pnc_0) hisR ?_
  intro p e s m args below meth c s₁ Bd hml0 hP hK
  obtain ⟨rfl, hZ, hh⟩ := hP
  have hx := Bd.exec
  have hby := Bd.bytes
  have hml : c.maxLocals = 1 := hml0
  have hown : s.vm.findClass "com/example/weftcheck/weftcheck/OperationKind" = some m.cls := findClass_of_methodNamed Bd.named
  have hnm := (name_of_methodNamed Bd.named Bd.method).1
  have X0 : Stand p l e ({ frames := 0, cells := 0, slots := 0, locals := 0 } : Room) s m #[(.ref (w 0))] below meth c s₁ [] 0 0 := Stand.of_body Bd
  have e0 : s₁.heap = h0 := by rw [← hh, Bd.state]; rfl
  have N0 := Fr.nil n0
  skip
  have pre0 : ∀ t, Steps p.tables e below (s₁.setTop (mkF m 0 #[.val (.ref (w 0))] [])) t → Steps p.tables e below (s₁.setTop (entryFrame m #[(.ref (w 0))] 1)) t := fun t k => castTop (ef_1_1 m w) k
  obtain ⟨T1, X1, e1, st1⟩ := getS2 X0 hx hZ hown (host := "") (Or.inl (wk37 hw)) Via.refl e0 ((wd6 hW).ext O0.2) (g := (mkF m 1 #[.val (.ref (w 0))] [(.ref (w 0))])) rfl (hb hby d1_1)
  obtain ⟨T2, X2, e2, st2⟩ := getS2 X1 hx hZ hown (host := "") (Or.inl (wk38 hw)) Via.refl e1 ((wd16 hW).ext O0.2) (g := (mkF m 8 #[.val (.ref (w 0))] [(.ref (w 0))])) rfl (hb hby d1_8)
  obtain ⟨T3, X3, e3, st3⟩ := getS2 X2 hx hZ hown (host := "") (Or.inl (wk39 hw)) Via.refl e2 ((wd20 hW).ext O0.2) (g := (mkF m 15 #[.val (.ref (w 0))] [(.ref (w 0))])) rfl (hb hby d1_15)
  obtain ⟨fs, hr, hrun, hended, hWm, hsame⟩ := X3.leave (v := some (.int (0 : Int32))) (fun h => by rw [Bd.returns] at h; cases h)
  refine ⟨_, _, pre0 _ ?_, hrun, hended, _, _, rfl, ?_, ⟨_, rfl⟩, hWm, hsame.mono (by decide) (by decide)⟩
  · show Steps p.tables e below (s₁.setTop (mkF m 0 #[.val (.ref (w 0))] [])) _
    refine sA X0 hx hby d1_0 rfl rfl ?_
    refine st1 _ ?_
    refine Jvm.RoadKit.acmp (g := (mkF m 4 #[.val (.ref (w 0))] [(.ref (w 3)), (.ref (w 0))])) X1 hx rfl rfl rfl (pc0 := 4) (pc' := 7) (same := false) rfl (hb hby d1_4) rfl (decide_eq_false fun q => (Fld.ne (wd26 hW) (wd27 hW) (by decide)) (Value.ref.inj q)) (by decide) (by decide) ?_
    refine sA X1 hx hby d1_7 rfl rfl ?_
    refine st2 _ ?_
    refine Jvm.RoadKit.acmp (g := (mkF m 11 #[.val (.ref (w 0))] [(.ref (w 8)), (.ref (w 0))])) X2 hx rfl rfl rfl (pc0 := 11) (pc' := 14) (same := false) rfl (hb hby d1_11) rfl (decide_eq_false fun q => (Fld.ne (wd26 hW) (wd28 hW) (by decide)) (Value.ref.inj q)) (by decide) (by decide) ?_
    refine sA X2 hx hby d1_14 rfl rfl ?_
    refine st3 _ ?_
    refine Jvm.RoadKit.acmp (g := (mkF m 18 #[.val (.ref (w 0))] [(.ref (w 10)), (.ref (w 0))])) X3 hx rfl rfl rfl (pc0 := 18) (pc' := 25) (same := false) rfl (hb hby d1_18) rfl (decide_eq_false fun q => (Fld.ne (wd26 hW) (wd29 hW) (by decide)) (Value.ref.inj q)) (by decide) (by decide) ?_
    refine sc X3 hx hby d1_25 ?_
    exact retN X3 hx (t := .boolean) Bd.returns (by simp) (hb hby d1_26) hr
  · show Q1_1 Z w h0 n0 _ T3.heap _
    rw [e3]
    exact ⟨rfl, N0, rfl⟩
theorem pds_0 : parseMethodDescriptor "()Z" = some ⟨[], some .boolean⟩ := by decide +kernel
theorem ef_1_2 (m : MethodId) (w : Nat → Addr) : entryFrame m #[(.ref (w 1))] 1 = mkF m 0 #[.val (.ref (w 1))] [] := by first | (simp [entryFrame, mkF, argsToLocals, Value.category]; done) | rfl
def Q1_2 (Z : State) (w : Nat → Addr) (h0 : Heap) (n0 : Nat) (v : Option Value) (h : Heap) (L : List Loc) : Prop := v = some (.int (0 : Int32)) ∧ Fr n0 L ∧ h = h0
set_option maxRecDepth 65536 in
set_option maxHeartbeats 40000000 in
theorem rm1_2 (l : Launch) (Z : State) (a0 : Array Value) (hw : ∀ d ∈ tables_1, d.before a0 Z = true) (w : Nat → Addr) (hW : Wd Z w) (ws : List Jvm.Cond) (h0 : Heap) (n0 : Nat) (O0 : Old Z n0 h0) :
    MetFree l ym0 (head1 (Jvm.Cond.code ym0 prog_29_method_9_code 1 (some .boolean) :: ws) ({ frames := 0, cells := 0, slots := 0, locals := 0 } : Room)) (fun a U => a = #[(.ref (w 1))] ∧ Z.Warmed39 U.vm ∧ U.heap = h0) (fun _ _ _ _ _ => True) (fun _ U o U' => ∃ v L, o = .returned v ∧ Q1_2 Z w h0 n0 v U'.heap L ∧ FrameEnd U o U' L ({ frames := 0, cells := 0, slots := 0, locals := 0 } : Room).cells ({ frames := 0, cells := 0, slots := 0, locals := 0 } : Room).slots) := by
  refine MetFree.of_bodySF (plainFor_of_name pnc_0) hisR ?_
  intro p e s m args below meth c s₁ Bd hml0 hP hK
  obtain ⟨rfl, hZ, hh⟩ := hP
  have hx := Bd.exec
  have hby := Bd.bytes
  have hml : c.maxLocals = 1 := hml0
  have hown : s.vm.findClass "com/example/weftcheck/weftcheck/OperationKind" = some m.cls := findClass_of_methodNamed Bd.named
  have hnm := (name_of_methodNamed Bd.named Bd.method).1
  have X0 : Stand p l e ({ frames := 0, cells := 0, slots := 0, locals := 0 } : Room) s m #[(.ref (w 1))] below meth c s₁ [] 0 0 := Stand.of_body Bd
  have e0 : s₁.heap = h0 := by rw [← hh, Bd.state]; rfl
  have N0 := Fr.nil n0
  skip
  have pre0 : ∀ t, Steps p.tables e below (s₁.setTop (mkF m 0 #[.val (.ref (w 1))] [])) t → Steps p.tables e below (s₁.setTop (entryFrame m #[(.ref (w 1))] 1)) t := fun t k => castTop (ef_1_2 m w) k
  obtain ⟨T1, X1, e1, st1⟩ := getS2 X0 hx hZ hown (host := "") (Or.inl (wk37 hw)) Via.refl e0 ((wd6 hW).ext O0.2) (g := (mkF m 1 #[.val (.ref (w 1))] [(.ref (w 1))])) rfl (hb hby d1_1)
  obtain ⟨T2, X2, e2, st2⟩ := getS2 X1 hx hZ hown (host := "") (Or.inl (wk38 hw)) Via.refl e1 ((wd16 hW).ext O0.2) (g := (mkF m 8 #[.val (.ref (w 1))] [(.ref (w 1))])) rfl (hb hby d1_8)
  obtain ⟨T3, X3, e3, st3⟩ := getS2 X2 hx hZ hown (host := "") (Or.inl (wk39 hw)) Via.refl e2 ((wd20 hW).ext O0.2) (g := (mkF m 15 #[.val (.ref (w 1))] [(.ref (w 1))])) rfl (hb hby d1_15)
  obtain ⟨fs, hr, hrun, hended, hWm, hsame⟩ := X3.leave (v := some (.int (0 : Int32))) (fun h => by rw [Bd.returns] at h; cases h)
  refine ⟨_, _, pre0 _ ?_, hrun, hended, _, _, rfl, ?_, ⟨_, rfl⟩, hWm, hsame.mono (by decide) (by decide)⟩
  · show Steps p.tables e below (s₁.setTop (mkF m 0 #[.val (.ref (w 1))] [])) _
    refine sA X0 hx hby d1_0 rfl rfl ?_
    refine st1 _ ?_
    refine Jvm.RoadKit.acmp (g := (mkF m 4 #[.val (.ref (w 1))] [(.ref (w 3)), (.ref (w 1))])) X1 hx rfl rfl rfl (pc0 := 4) (pc' := 7) (same := false) rfl (hb hby d1_4) rfl (decide_eq_false fun q => (Fld.ne (wd36 hW) (wd27 hW) (by decide)) (Value.ref.inj q)) (by decide) (by decide) ?_
    refine sA X1 hx hby d1_7 rfl rfl ?_
    refine st2 _ ?_
    refine Jvm.RoadKit.acmp (g := (mkF m 11 #[.val (.ref (w 1))] [(.ref (w 8)), (.ref (w 1))])) X2 hx rfl rfl rfl (pc0 := 11) (pc' := 14) (same := false) rfl (hb hby d1_11) rfl (decide_eq_false fun q => (Fld.ne (wd36 hW) (wd28 hW) (by decide)) (Value.ref.inj q)) (by decide) (by decide) ?_
    refine sA X2 hx hby d1_14 rfl rfl ?_
    refine st3 _ ?_
    refine Jvm.RoadKit.acmp (g := (mkF m 18 #[.val (.ref (w 1))] [(.ref (w 10)), (.ref (w 1))])) X3 hx rfl rfl rfl (pc0 := 18) (pc' := 25) (same := false) rfl (hb hby d1_18) rfl (decide_eq_false fun q => (Fld.ne (wd36 hW) (wd29 hW) (by decide)) (Value.ref.inj q)) (by decide) (by decide) ?_
    refine sc X3 hx hby d1_25 ?_
    exact retN X3 hx (t := .boolean) Bd.returns (by simp) (hb hby d1_26) hr
  · show Q1_2 Z w h0 n0 _ T3.heap _
    rw [e3]
    exact ⟨rfl, N0, rfl⟩
theorem ef_1_3 (m : MethodId) (w : Nat → Addr) : entryFrame m #[(.ref (w 2))] 1 = mkF m 0 #[.val (.ref (w 2))] [] := by first | (simp [entryFrame, mkF, argsToLocals, Value.category]; done) | rfl
def Q1_3 (Z : State) (w : Nat → Addr) (h0 : Heap) (n0 : Nat) (v : Option Value) (h : Heap) (L : List Loc) : Prop := v = some (.int (0 : Int32)) ∧ Fr n0 L ∧ h = h0
set_option maxRecDepth 65536 in
set_option maxHeartbeats 40000000 in
theorem rm1_3 (l : Launch) (Z : State) (a0 : Array Value) (hw : ∀ d ∈ tables_1, d.before a0 Z = true) (w : Nat → Addr) (hW : Wd Z w) (ws : List Jvm.Cond) (h0 : Heap) (n0 : Nat) (O0 : Old Z n0 h0) :
    MetFree l ym0 (head1 (Jvm.Cond.code ym0 prog_29_method_9_code 1 (some .boolean) :: ws) ({ frames := 0, cells := 0, slots := 0, locals := 0 } : Room)) (fun a U => a = #[(.ref (w 2))] ∧ Z.Warmed39 U.vm ∧ U.heap = h0) (fun _ _ _ _ _ => True) (fun _ U o U' => ∃ v L, o = .returned v ∧ Q1_3 Z w h0 n0 v U'.heap L ∧ FrameEnd U o U' L ({ frames := 0, cells := 0, slots := 0, locals := 0 } : Room).cells ({ frames := 0, cells := 0, slots := 0, locals := 0 } : Room).slots) := by
  refine MetFree.of_bodySF (plainFor_of_name pnc_0) hisR ?_
  intro p e s m args below meth c s₁ Bd hml0 hP hK
  obtain ⟨rfl, hZ, hh⟩ := hP
  have hx := Bd.exec
  have hby := Bd.bytes
  have hml : c.maxLocals = 1 := hml0
  have hown : s.vm.findClass "com/example/weftcheck/weftcheck/OperationKind" = some m.cls := findClass_of_methodNamed Bd.named
  have hnm := (name_of_methodNamed Bd.named Bd.method).1
  have X0 : Stand p l e ({ frames := 0, cells := 0, slots := 0, locals := 0 } : Room) s m #[(.ref (w 2))] below meth c s₁ [] 0 0 := Stand.of_body Bd
  have e0 : s₁.heap = h0 := by rw [← hh, Bd.state]; rfl
  have N0 := Fr.nil n0
  skip
  have pre0 : ∀ t, Steps p.tables e below (s₁.setTop (mkF m 0 #[.val (.ref (w 2))] [])) t → Steps p.tables e below (s₁.setTop (entryFrame m #[(.ref (w 2))] 1)) t := fun t k => castTop (ef_1_3 m w) k
  obtain ⟨T1, X1, e1, st1⟩ := getS2 X0 hx hZ hown (host := "") (Or.inl (wk37 hw)) Via.refl e0 ((wd6 hW).ext O0.2) (g := (mkF m 1 #[.val (.ref (w 2))] [(.ref (w 2))])) rfl (hb hby d1_1)
  obtain ⟨T2, X2, e2, st2⟩ := getS2 X1 hx hZ hown (host := "") (Or.inl (wk38 hw)) Via.refl e1 ((wd16 hW).ext O0.2) (g := (mkF m 8 #[.val (.ref (w 2))] [(.ref (w 2))])) rfl (hb hby d1_8)
  obtain ⟨T3, X3, e3, st3⟩ := getS2 X2 hx hZ hown (host := "") (Or.inl (wk39 hw)) Via.refl e2 ((wd20 hW).ext O0.2) (g := (mkF m 15 #[.val (.ref (w 2))] [(.ref (w 2))])) rfl (hb hby d1_15)
  obtain ⟨fs, hr, hrun, hended, hWm, hsame⟩ := X3.leave (v := some (.int (0 : Int32))) (fun h => by rw [Bd.returns] at h; cases h)
  refine ⟨_, _, pre0 _ ?_, hrun, hended, _, _, rfl, ?_, ⟨_, rfl⟩, hWm, hsame.mono (by decide) (by decide)⟩
  · show Steps p.tables e below (s₁.setTop (mkF m 0 #[.val (.ref (w 2))] [])) _
    refine sA X0 hx hby d1_0 rfl rfl ?_
    refine st1 _ ?_
    refine Jvm.RoadKit.acmp (g := (mkF m 4 #[.val (.ref (w 2))] [(.ref (w 3)), (.ref (w 2))])) X1 hx rfl rfl rfl (pc0 := 4) (pc' := 7) (same := false) rfl (hb hby d1_4) rfl (decide_eq_false fun q => (Fld.ne (wd34 hW) (wd27 hW) (by decide)) (Value.ref.inj q)) (by decide) (by decide) ?_
    refine sA X1 hx hby d1_7 rfl rfl ?_
    refine st2 _ ?_
    refine Jvm.RoadKit.acmp (g := (mkF m 11 #[.val (.ref (w 2))] [(.ref (w 8)), (.ref (w 2))])) X2 hx rfl rfl rfl (pc0 := 11) (pc' := 14) (same := false) rfl (hb hby d1_11) rfl (decide_eq_false fun q => (Fld.ne (wd34 hW) (wd28 hW) (by decide)) (Value.ref.inj q)) (by decide) (by decide) ?_
    refine sA X2 hx hby d1_14 rfl rfl ?_
    refine st3 _ ?_
    refine Jvm.RoadKit.acmp (g := (mkF m 18 #[.val (.ref (w 2))] [(.ref (w 10)), (.ref (w 2))])) X3 hx rfl rfl rfl (pc0 := 18) (pc' := 25) (same := false) rfl (hb hby d1_18) rfl (decide_eq_false fun q => (Fld.ne (wd34 hW) (wd29 hW) (by decide)) (Value.ref.inj q)) (by decide) (by decide) ?_
    refine sc X3 hx hby d1_25 ?_
    exact retN X3 hx (t := .boolean) Bd.returns (by simp) (hb hby d1_26) hr
  · show Q1_3 Z w h0 n0 _ T3.heap _
    rw [e3]
    exact ⟨rfl, N0, rfl⟩
theorem d1_21 : decode prog_29_method_9_code 21 = .ok (.iconst 1, 1) := by decide +kernel
theorem d1_22 : decode prog_29_method_9_code 22 = .ok (.goto 4, 3) := by decide +kernel
theorem ef_1_4 (m : MethodId) (w : Nat → Addr) : entryFrame m #[(.ref (w 3))] 1 = mkF m 0 #[.val (.ref (w 3))] [] := by first | (simp [entryFrame, mkF, argsToLocals, Value.category]; done) | rfl
def Q1_4 (Z : State) (w : Nat → Addr) (h0 : Heap) (n0 : Nat) (v : Option Value) (h : Heap) (L : List Loc) : Prop := v = some (.int (1 : Int32)) ∧ Fr n0 L ∧ h = h0
set_option maxRecDepth 65536 in
set_option maxHeartbeats 40000000 in
theorem rm1_4 (l : Launch) (Z : State) (a0 : Array Value) (hw : ∀ d ∈ tables_1, d.before a0 Z = true) (w : Nat → Addr) (hW : Wd Z w) (ws : List Jvm.Cond) (h0 : Heap) (n0 : Nat) (O0 : Old Z n0 h0) :
    MetFree l ym0 (head1 (Jvm.Cond.code ym0 prog_29_method_9_code 1 (some .boolean) :: ws) ({ frames := 0, cells := 0, slots := 0, locals := 0 } : Room)) (fun a U => a = #[(.ref (w 3))] ∧ Z.Warmed39 U.vm ∧ U.heap = h0) (fun _ _ _ _ _ => True) (fun _ U o U' => ∃ v L, o = .returned v ∧ Q1_4 Z w h0 n0 v U'.heap L ∧ FrameEnd U o U' L ({ frames := 0, cells := 0, slots := 0, locals := 0 } : Room).cells ({ frames := 0, cells := 0, slots := 0, locals := 0 } : Room).slots) := by
  refine MetFree.of_bodySF (plainFor_of_name pnc_0) hisR ?_
  intro p e s m args below meth c s₁ Bd hml0 hP hK
  obtain ⟨rfl, hZ, hh⟩ := hP
  have hx := Bd.exec
  have hby := Bd.bytes
  have hml : c.maxLocals = 1 := hml0
  have hown : s.vm.findClass "com/example/weftcheck/weftcheck/OperationKind" = some m.cls := findClass_of_methodNamed Bd.named
  have hnm := (name_of_methodNamed Bd.named Bd.method).1
  have X0 : Stand p l e ({ frames := 0, cells := 0, slots := 0, locals := 0 } : Room) s m #[(.ref (w 3))] below meth c s₁ [] 0 0 := Stand.of_body Bd
  have e0 : s₁.heap = h0 := by rw [← hh, Bd.state]; rfl
  have N0 := Fr.nil n0
  skip
  have pre0 : ∀ t, Steps p.tables e below (s₁.setTop (mkF m 0 #[.val (.ref (w 3))] [])) t → Steps p.tables e below (s₁.setTop (entryFrame m #[(.ref (w 3))] 1)) t := fun t k => castTop (ef_1_4 m w) k
  obtain ⟨T1, X1, e1, st1⟩ := getS2 X0 hx hZ hown (host := "") (Or.inl (wk37 hw)) Via.refl e0 ((wd6 hW).ext O0.2) (g := (mkF m 1 #[.val (.ref (w 3))] [(.ref (w 3))])) rfl (hb hby d1_1)
  obtain ⟨fs, hr, hrun, hended, hWm, hsame⟩ := X1.leave (v := some (.int (1 : Int32))) (fun h => by rw [Bd.returns] at h; cases h)
  refine ⟨_, _, pre0 _ ?_, hrun, hended, _, _, rfl, ?_, ⟨_, rfl⟩, hWm, hsame.mono (by decide) (by decide)⟩
  · show Steps p.tables e below (s₁.setTop (mkF m 0 #[.val (.ref (w 3))] [])) _
    refine sA X0 hx hby d1_0 rfl rfl ?_
    refine st1 _ ?_
    refine Jvm.RoadKit.acmp (g := (mkF m 4 #[.val (.ref (w 3))] [(.ref (w 3)), (.ref (w 3))])) X1 hx rfl rfl rfl (pc0 := 4) (pc' := 21) (same := true) rfl (hb hby d1_4) rfl (decide_eq_true rfl) (by decide) (by decide) ?_
    refine sc X1 hx hby d1_21 ?_
    refine sg (pc := 22) (pc' := 26) X1 hx hby d1_22 (by decide) (by decide) ?_
    exact retN X1 hx (t := .boolean) Bd.returns (by simp) (hb hby d1_26) hr
  · show Q1_4 Z w h0 n0 _ T1.heap _
    rw [e1]
    exact ⟨rfl, N0, rfl⟩
theorem ef_1_5 (m : MethodId) (w : Nat → Addr) : entryFrame m #[(.ref (w 4))] 1 = mkF m 0 #[.val (.ref (w 4))] [] := by first | (simp [entryFrame, mkF, argsToLocals, Value.category]; done) | rfl
def Q1_5 (Z : State) (w : Nat → Addr) (h0 : Heap) (n0 : Nat) (v : Option Value) (h : Heap) (L : List Loc) : Prop := v = some (.int (0 : Int32)) ∧ Fr n0 L ∧ h = h0
set_option maxRecDepth 65536 in
set_option maxHeartbeats 40000000 in
theorem rm1_5 (l : Launch) (Z : State) (a0 : Array Value) (hw : ∀ d ∈ tables_1, d.before a0 Z = true) (w : Nat → Addr) (hW : Wd Z w) (ws : List Jvm.Cond) (h0 : Heap) (n0 : Nat) (O0 : Old Z n0 h0) :
    MetFree l ym0 (head1 (Jvm.Cond.code ym0 prog_29_method_9_code 1 (some .boolean) :: ws) ({ frames := 0, cells := 0, slots := 0, locals := 0 } : Room)) (fun a U => a = #[(.ref (w 4))] ∧ Z.Warmed39 U.vm ∧ U.heap = h0) (fun _ _ _ _ _ => True) (fun _ U o U' => ∃ v L, o = .returned v ∧ Q1_5 Z w h0 n0 v U'.heap L ∧ FrameEnd U o U' L ({ frames := 0, cells := 0, slots := 0, locals := 0 } : Room).cells ({ frames := 0, cells := 0, slots := 0, locals := 0 } : Room).slots) := by
  refine MetFree.of_bodySF (plainFor_of_name pnc_0) hisR ?_
  intro p e s m args below meth c s₁ Bd hml0 hP hK
  obtain ⟨rfl, hZ, hh⟩ := hP
  have hx := Bd.exec
  have hby := Bd.bytes
  have hml : c.maxLocals = 1 := hml0
  have hown : s.vm.findClass "com/example/weftcheck/weftcheck/OperationKind" = some m.cls := findClass_of_methodNamed Bd.named
  have hnm := (name_of_methodNamed Bd.named Bd.method).1
  have X0 : Stand p l e ({ frames := 0, cells := 0, slots := 0, locals := 0 } : Room) s m #[(.ref (w 4))] below meth c s₁ [] 0 0 := Stand.of_body Bd
  have e0 : s₁.heap = h0 := by rw [← hh, Bd.state]; rfl
  have N0 := Fr.nil n0
  skip
  have pre0 : ∀ t, Steps p.tables e below (s₁.setTop (mkF m 0 #[.val (.ref (w 4))] [])) t → Steps p.tables e below (s₁.setTop (entryFrame m #[(.ref (w 4))] 1)) t := fun t k => castTop (ef_1_5 m w) k
  obtain ⟨T1, X1, e1, st1⟩ := getS2 X0 hx hZ hown (host := "") (Or.inl (wk37 hw)) Via.refl e0 ((wd6 hW).ext O0.2) (g := (mkF m 1 #[.val (.ref (w 4))] [(.ref (w 4))])) rfl (hb hby d1_1)
  obtain ⟨T2, X2, e2, st2⟩ := getS2 X1 hx hZ hown (host := "") (Or.inl (wk38 hw)) Via.refl e1 ((wd16 hW).ext O0.2) (g := (mkF m 8 #[.val (.ref (w 4))] [(.ref (w 4))])) rfl (hb hby d1_8)
  obtain ⟨T3, X3, e3, st3⟩ := getS2 X2 hx hZ hown (host := "") (Or.inl (wk39 hw)) Via.refl e2 ((wd20 hW).ext O0.2) (g := (mkF m 15 #[.val (.ref (w 4))] [(.ref (w 4))])) rfl (hb hby d1_15)
  obtain ⟨fs, hr, hrun, hended, hWm, hsame⟩ := X3.leave (v := some (.int (0 : Int32))) (fun h => by rw [Bd.returns] at h; cases h)
  refine ⟨_, _, pre0 _ ?_, hrun, hended, _, _, rfl, ?_, ⟨_, rfl⟩, hWm, hsame.mono (by decide) (by decide)⟩
  · show Steps p.tables e below (s₁.setTop (mkF m 0 #[.val (.ref (w 4))] [])) _
    refine sA X0 hx hby d1_0 rfl rfl ?_
    refine st1 _ ?_
    refine Jvm.RoadKit.acmp (g := (mkF m 4 #[.val (.ref (w 4))] [(.ref (w 3)), (.ref (w 4))])) X1 hx rfl rfl rfl (pc0 := 4) (pc' := 7) (same := false) rfl (hb hby d1_4) rfl (decide_eq_false fun q => (Fld.ne (wd38 hW) (wd27 hW) (by decide)) (Value.ref.inj q)) (by decide) (by decide) ?_
    refine sA X1 hx hby d1_7 rfl rfl ?_
    refine st2 _ ?_
    refine Jvm.RoadKit.acmp (g := (mkF m 11 #[.val (.ref (w 4))] [(.ref (w 8)), (.ref (w 4))])) X2 hx rfl rfl rfl (pc0 := 11) (pc' := 14) (same := false) rfl (hb hby d1_11) rfl (decide_eq_false fun q => (Fld.ne (wd38 hW) (wd28 hW) (by decide)) (Value.ref.inj q)) (by decide) (by decide) ?_
    refine sA X2 hx hby d1_14 rfl rfl ?_
    refine st3 _ ?_
    refine Jvm.RoadKit.acmp (g := (mkF m 18 #[.val (.ref (w 4))] [(.ref (w 10)), (.ref (w 4))])) X3 hx rfl rfl rfl (pc0 := 18) (pc' := 25) (same := false) rfl (hb hby d1_18) rfl (decide_eq_false fun q => (Fld.ne (wd38 hW) (wd29 hW) (by decide)) (Value.ref.inj q)) (by decide) (by decide) ?_
    refine sc X3 hx hby d1_25 ?_
    exact retN X3 hx (t := .boolean) Bd.returns (by simp) (hb hby d1_26) hr
  · show Q1_5 Z w h0 n0 _ T3.heap _
    rw [e3]
    exact ⟨rfl, N0, rfl⟩
theorem ef_1_6 (m : MethodId) (w : Nat → Addr) : entryFrame m #[(.ref (w 5))] 1 = mkF m 0 #[.val (.ref (w 5))] [] := by first | (simp [entryFrame, mkF, argsToLocals, Value.category]; done) | rfl
def Q1_6 (Z : State) (w : Nat → Addr) (h0 : Heap) (n0 : Nat) (v : Option Value) (h : Heap) (L : List Loc) : Prop := v = some (.int (0 : Int32)) ∧ Fr n0 L ∧ h = h0
set_option maxRecDepth 65536 in
set_option maxHeartbeats 40000000 in
theorem rm1_6 (l : Launch) (Z : State) (a0 : Array Value) (hw : ∀ d ∈ tables_1, d.before a0 Z = true) (w : Nat → Addr) (hW : Wd Z w) (ws : List Jvm.Cond) (h0 : Heap) (n0 : Nat) (O0 : Old Z n0 h0) :
    MetFree l ym0 (head1 (Jvm.Cond.code ym0 prog_29_method_9_code 1 (some .boolean) :: ws) ({ frames := 0, cells := 0, slots := 0, locals := 0 } : Room)) (fun a U => a = #[(.ref (w 5))] ∧ Z.Warmed39 U.vm ∧ U.heap = h0) (fun _ _ _ _ _ => True) (fun _ U o U' => ∃ v L, o = .returned v ∧ Q1_6 Z w h0 n0 v U'.heap L ∧ FrameEnd U o U' L ({ frames := 0, cells := 0, slots := 0, locals := 0 } : Room).cells ({ frames := 0, cells := 0, slots := 0, locals := 0 } : Room).slots) := by
  refine MetFree.of_bodySF (plainFor_of_name pnc_0) hisR ?_
  intro p e s m args below meth c s₁ Bd hml0 hP hK
  obtain ⟨rfl, hZ, hh⟩ := hP
  have hx := Bd.exec
  have hby := Bd.bytes
  have hml : c.maxLocals = 1 := hml0
  have hown : s.vm.findClass "com/example/weftcheck/weftcheck/OperationKind" = some m.cls := findClass_of_methodNamed Bd.named
  have hnm := (name_of_methodNamed Bd.named Bd.method).1
  have X0 : Stand p l e ({ frames := 0, cells := 0, slots := 0, locals := 0 } : Room) s m #[(.ref (w 5))] below meth c s₁ [] 0 0 := Stand.of_body Bd
  have e0 : s₁.heap = h0 := by rw [← hh, Bd.state]; rfl
  have N0 := Fr.nil n0
  skip
  have pre0 : ∀ t, Steps p.tables e below (s₁.setTop (mkF m 0 #[.val (.ref (w 5))] [])) t → Steps p.tables e below (s₁.setTop (entryFrame m #[(.ref (w 5))] 1)) t := fun t k => castTop (ef_1_6 m w) k
  obtain ⟨T1, X1, e1, st1⟩ := getS2 X0 hx hZ hown (host := "") (Or.inl (wk37 hw)) Via.refl e0 ((wd6 hW).ext O0.2) (g := (mkF m 1 #[.val (.ref (w 5))] [(.ref (w 5))])) rfl (hb hby d1_1)
  obtain ⟨T2, X2, e2, st2⟩ := getS2 X1 hx hZ hown (host := "") (Or.inl (wk38 hw)) Via.refl e1 ((wd16 hW).ext O0.2) (g := (mkF m 8 #[.val (.ref (w 5))] [(.ref (w 5))])) rfl (hb hby d1_8)
  obtain ⟨T3, X3, e3, st3⟩ := getS2 X2 hx hZ hown (host := "") (Or.inl (wk39 hw)) Via.refl e2 ((wd20 hW).ext O0.2) (g := (mkF m 15 #[.val (.ref (w 5))] [(.ref (w 5))])) rfl (hb hby d1_15)
  obtain ⟨fs, hr, hrun, hended, hWm, hsame⟩ := X3.leave (v := some (.int (0 : Int32))) (fun h => by rw [Bd.returns] at h; cases h)
  refine ⟨_, _, pre0 _ ?_, hrun, hended, _, _, rfl, ?_, ⟨_, rfl⟩, hWm, hsame.mono (by decide) (by decide)⟩
  · show Steps p.tables e below (s₁.setTop (mkF m 0 #[.val (.ref (w 5))] [])) _
    refine sA X0 hx hby d1_0 rfl rfl ?_
    refine st1 _ ?_
    refine Jvm.RoadKit.acmp (g := (mkF m 4 #[.val (.ref (w 5))] [(.ref (w 3)), (.ref (w 5))])) X1 hx rfl rfl rfl (pc0 := 4) (pc' := 7) (same := false) rfl (hb hby d1_4) rfl (decide_eq_false fun q => (Fld.ne (wd31 hW) (wd27 hW) (by decide)) (Value.ref.inj q)) (by decide) (by decide) ?_
    refine sA X1 hx hby d1_7 rfl rfl ?_
    refine st2 _ ?_
    refine Jvm.RoadKit.acmp (g := (mkF m 11 #[.val (.ref (w 5))] [(.ref (w 8)), (.ref (w 5))])) X2 hx rfl rfl rfl (pc0 := 11) (pc' := 14) (same := false) rfl (hb hby d1_11) rfl (decide_eq_false fun q => (Fld.ne (wd31 hW) (wd28 hW) (by decide)) (Value.ref.inj q)) (by decide) (by decide) ?_
    refine sA X2 hx hby d1_14 rfl rfl ?_
    refine st3 _ ?_
    refine Jvm.RoadKit.acmp (g := (mkF m 18 #[.val (.ref (w 5))] [(.ref (w 10)), (.ref (w 5))])) X3 hx rfl rfl rfl (pc0 := 18) (pc' := 25) (same := false) rfl (hb hby d1_18) rfl (decide_eq_false fun q => (Fld.ne (wd31 hW) (wd29 hW) (by decide)) (Value.ref.inj q)) (by decide) (by decide) ?_
    refine sc X3 hx hby d1_25 ?_
    exact retN X3 hx (t := .boolean) Bd.returns (by simp) (hb hby d1_26) hr
  · show Q1_6 Z w h0 n0 _ T3.heap _
    rw [e3]
    exact ⟨rfl, N0, rfl⟩
theorem ef_1_7 (m : MethodId) (w : Nat → Addr) : entryFrame m #[(.ref (w 6))] 1 = mkF m 0 #[.val (.ref (w 6))] [] := by first | (simp [entryFrame, mkF, argsToLocals, Value.category]; done) | rfl
def Q1_7 (Z : State) (w : Nat → Addr) (h0 : Heap) (n0 : Nat) (v : Option Value) (h : Heap) (L : List Loc) : Prop := v = some (.int (0 : Int32)) ∧ Fr n0 L ∧ h = h0
set_option maxRecDepth 65536 in
set_option maxHeartbeats 40000000 in
theorem rm1_7 (l : Launch) (Z : State) (a0 : Array Value) (hw : ∀ d ∈ tables_1, d.before a0 Z = true) (w : Nat → Addr) (hW : Wd Z w) (ws : List Jvm.Cond) (h0 : Heap) (n0 : Nat) (O0 : Old Z n0 h0) :
    MetFree l ym0 (head1 (Jvm.Cond.code ym0 prog_29_method_9_code 1 (some .boolean) :: ws) ({ frames := 0, cells := 0, slots := 0, locals := 0 } : Room)) (fun a U => a = #[(.ref (w 6))] ∧ Z.Warmed39 U.vm ∧ U.heap = h0) (fun _ _ _ _ _ => True) (fun _ U o U' => ∃ v L, o = .returned v ∧ Q1_7 Z w h0 n0 v U'.heap L ∧ FrameEnd U o U' L ({ frames := 0, cells := 0, slots := 0, locals := 0 } : Room).cells ({ frames := 0, cells := 0, slots := 0, locals := 0 } : Room).slots) := by
  refine MetFree.of_bodySF (plainFor_of_name pnc_0) hisR ?_
  intro p e s m args below meth c s₁ Bd hml0 hP hK
  obtain ⟨rfl, hZ, hh⟩ := hP
  have hx := Bd.exec
  have hby := Bd.bytes
  have hml : c.maxLocals = 1 := hml0
  have hown : s.vm.findClass "com/example/weftcheck/weftcheck/OperationKind" = some m.cls := findClass_of_methodNamed Bd.named
  have hnm := (name_of_methodNamed Bd.named Bd.method).1
  have X0 : Stand p l e ({ frames := 0, cells := 0, slots := 0, locals := 0 } : Room) s m #[(.ref (w 6))] below meth c s₁ [] 0 0 := Stand.of_body Bd
  have e0 : s₁.heap = h0 := by rw [← hh, Bd.state]; rfl
  have N0 := Fr.nil n0
  skip
  have pre0 : ∀ t, Steps p.tables e below (s₁.setTop (mkF m 0 #[.val (.ref (w 6))] [])) t → Steps p.tables e below (s₁.setTop (entryFrame m #[(.ref (w 6))] 1)) t := fun t k => castTop (ef_1_7 m w) k
  obtain ⟨T1, X1, e1, st1⟩ := getS2 X0 hx hZ hown (host := "") (Or.inl (wk37 hw)) Via.refl e0 ((wd6 hW).ext O0.2) (g := (mkF m 1 #[.val (.ref (w 6))] [(.ref (w 6))])) rfl (hb hby d1_1)
  obtain ⟨T2, X2, e2, st2⟩ := getS2 X1 hx hZ hown (host := "") (Or.inl (wk38 hw)) Via.refl e1 ((wd16 hW).ext O0.2) (g := (mkF m 8 #[.val (.ref (w 6))] [(.ref (w 6))])) rfl (hb hby d1_8)
  obtain ⟨T3, X3, e3, st3⟩ := getS2 X2 hx hZ hown (host := "") (Or.inl (wk39 hw)) Via.refl e2 ((wd20 hW).ext O0.2) (g := (mkF m 15 #[.val (.ref (w 6))] [(.ref (w 6))])) rfl (hb hby d1_15)
  obtain ⟨fs, hr, hrun, hended, hWm, hsame⟩ := X3.leave (v := some (.int (0 : Int32))) (fun h => by rw [Bd.returns] at h; cases h)
  refine ⟨_, _, pre0 _ ?_, hrun, hended, _, _, rfl, ?_, ⟨_, rfl⟩, hWm, hsame.mono (by decide) (by decide)⟩
  · show Steps p.tables e below (s₁.setTop (mkF m 0 #[.val (.ref (w 6))] [])) _
    refine sA X0 hx hby d1_0 rfl rfl ?_
    refine st1 _ ?_
    refine Jvm.RoadKit.acmp (g := (mkF m 4 #[.val (.ref (w 6))] [(.ref (w 3)), (.ref (w 6))])) X1 hx rfl rfl rfl (pc0 := 4) (pc' := 7) (same := false) rfl (hb hby d1_4) rfl (decide_eq_false fun q => (Fld.ne (wd30 hW) (wd27 hW) (by decide)) (Value.ref.inj q)) (by decide) (by decide) ?_
    refine sA X1 hx hby d1_7 rfl rfl ?_
    refine st2 _ ?_
    refine Jvm.RoadKit.acmp (g := (mkF m 11 #[.val (.ref (w 6))] [(.ref (w 8)), (.ref (w 6))])) X2 hx rfl rfl rfl (pc0 := 11) (pc' := 14) (same := false) rfl (hb hby d1_11) rfl (decide_eq_false fun q => (Fld.ne (wd30 hW) (wd28 hW) (by decide)) (Value.ref.inj q)) (by decide) (by decide) ?_
    refine sA X2 hx hby d1_14 rfl rfl ?_
    refine st3 _ ?_
    refine Jvm.RoadKit.acmp (g := (mkF m 18 #[.val (.ref (w 6))] [(.ref (w 10)), (.ref (w 6))])) X3 hx rfl rfl rfl (pc0 := 18) (pc' := 25) (same := false) rfl (hb hby d1_18) rfl (decide_eq_false fun q => (Fld.ne (wd30 hW) (wd29 hW) (by decide)) (Value.ref.inj q)) (by decide) (by decide) ?_
    refine sc X3 hx hby d1_25 ?_
    exact retN X3 hx (t := .boolean) Bd.returns (by simp) (hb hby d1_26) hr
  · show Q1_7 Z w h0 n0 _ T3.heap _
    rw [e3]
    exact ⟨rfl, N0, rfl⟩
theorem ef_1_8 (m : MethodId) (w : Nat → Addr) : entryFrame m #[(.ref (w 7))] 1 = mkF m 0 #[.val (.ref (w 7))] [] := by first | (simp [entryFrame, mkF, argsToLocals, Value.category]; done) | rfl
def Q1_8 (Z : State) (w : Nat → Addr) (h0 : Heap) (n0 : Nat) (v : Option Value) (h : Heap) (L : List Loc) : Prop := v = some (.int (0 : Int32)) ∧ Fr n0 L ∧ h = h0
set_option maxRecDepth 65536 in
set_option maxHeartbeats 40000000 in
theorem rm1_8 (l : Launch) (Z : State) (a0 : Array Value) (hw : ∀ d ∈ tables_1, d.before a0 Z = true) (w : Nat → Addr) (hW : Wd Z w) (ws : List Jvm.Cond) (h0 : Heap) (n0 : Nat) (O0 : Old Z n0 h0) :
    MetFree l ym0 (head1 (Jvm.Cond.code ym0 prog_29_method_9_code 1 (some .boolean) :: ws) ({ frames := 0, cells := 0, slots := 0, locals := 0 } : Room)) (fun a U => a = #[(.ref (w 7))] ∧ Z.Warmed39 U.vm ∧ U.heap = h0) (fun _ _ _ _ _ => True) (fun _ U o U' => ∃ v L, o = .returned v ∧ Q1_8 Z w h0 n0 v U'.heap L ∧ FrameEnd U o U' L ({ frames := 0, cells := 0, slots := 0, locals := 0 } : Room).cells ({ frames := 0, cells := 0, slots := 0, locals := 0 } : Room).slots) := by
  refine MetFree.of_bodySF (plainFor_of_name pnc_0) hisR ?_
  intro p e s m args below meth c s₁ Bd hml0 hP hK
  obtain ⟨rfl, hZ, hh⟩ := hP
  have hx := Bd.exec
  have hby := Bd.bytes
  have hml : c.maxLocals = 1 := hml0
  have hown : s.vm.findClass "com/example/weftcheck/weftcheck/OperationKind" = some m.cls := findClass_of_methodNamed Bd.named
  have hnm := (name_of_methodNamed Bd.named Bd.method).1
  have X0 : Stand p l e ({ frames := 0, cells := 0, slots := 0, locals := 0 } : Room) s m #[(.ref (w 7))] below meth c s₁ [] 0 0 := Stand.of_body Bd
  have e0 : s₁.heap = h0 := by rw [← hh, Bd.state]; rfl
  have N0 := Fr.nil n0
  skip
  have pre0 : ∀ t, Steps p.tables e below (s₁.setTop (mkF m 0 #[.val (.ref (w 7))] [])) t → Steps p.tables e below (s₁.setTop (entryFrame m #[(.ref (w 7))] 1)) t := fun t k => castTop (ef_1_8 m w) k
  obtain ⟨T1, X1, e1, st1⟩ := getS2 X0 hx hZ hown (host := "") (Or.inl (wk37 hw)) Via.refl e0 ((wd6 hW).ext O0.2) (g := (mkF m 1 #[.val (.ref (w 7))] [(.ref (w 7))])) rfl (hb hby d1_1)
  obtain ⟨T2, X2, e2, st2⟩ := getS2 X1 hx hZ hown (host := "") (Or.inl (wk38 hw)) Via.refl e1 ((wd16 hW).ext O0.2) (g := (mkF m 8 #[.val (.ref (w 7))] [(.ref (w 7))])) rfl (hb hby d1_8)
  obtain ⟨T3, X3, e3, st3⟩ := getS2 X2 hx hZ hown (host := "") (Or.inl (wk39 hw)) Via.refl e2 ((wd20 hW).ext O0.2) (g := (mkF m 15 #[.val (.ref (w 7))] [(.ref (w 7))])) rfl (hb hby d1_15)
  obtain ⟨fs, hr, hrun, hended, hWm, hsame⟩ := X3.leave (v := some (.int (0 : Int32))) (fun h => by rw [Bd.returns] at h; cases h)
  refine ⟨_, _, pre0 _ ?_, hrun, hended, _, _, rfl, ?_, ⟨_, rfl⟩, hWm, hsame.mono (by decide) (by decide)⟩
  · show Steps p.tables e below (s₁.setTop (mkF m 0 #[.val (.ref (w 7))] [])) _
    refine sA X0 hx hby d1_0 rfl rfl ?_
    refine st1 _ ?_
    refine Jvm.RoadKit.acmp (g := (mkF m 4 #[.val (.ref (w 7))] [(.ref (w 3)), (.ref (w 7))])) X1 hx rfl rfl rfl (pc0 := 4) (pc' := 7) (same := false) rfl (hb hby d1_4) rfl (decide_eq_false fun q => (Fld.ne (wd32 hW) (wd27 hW) (by decide)) (Value.ref.inj q)) (by decide) (by decide) ?_
    refine sA X1 hx hby d1_7 rfl rfl ?_
    refine st2 _ ?_
    refine Jvm.RoadKit.acmp (g := (mkF m 11 #[.val (.ref (w 7))] [(.ref (w 8)), (.ref (w 7))])) X2 hx rfl rfl rfl (pc0 := 11) (pc' := 14) (same := false) rfl (hb hby d1_11) rfl (decide_eq_false fun q => (Fld.ne (wd32 hW) (wd28 hW) (by decide)) (Value.ref.inj q)) (by decide) (by decide) ?_
    refine sA X2 hx hby d1_14 rfl rfl ?_
    refine st3 _ ?_
    refine Jvm.RoadKit.acmp (g := (mkF m 18 #[.val (.ref (w 7))] [(.ref (w 10)), (.ref (w 7))])) X3 hx rfl rfl rfl (pc0 := 18) (pc' := 25) (same := false) rfl (hb hby d1_18) rfl (decide_eq_false fun q => (Fld.ne (wd32 hW) (wd29 hW) (by decide)) (Value.ref.inj q)) (by decide) (by decide) ?_
    refine sc X3 hx hby d1_25 ?_
    exact retN X3 hx (t := .boolean) Bd.returns (by simp) (hb hby d1_26) hr
  · show Q1_8 Z w h0 n0 _ T3.heap _
    rw [e3]
    exact ⟨rfl, N0, rfl⟩
theorem ef_1_9 (m : MethodId) (w : Nat → Addr) : entryFrame m #[(.ref (w 8))] 1 = mkF m 0 #[.val (.ref (w 8))] [] := by first | (simp [entryFrame, mkF, argsToLocals, Value.category]; done) | rfl
def Q1_9 (Z : State) (w : Nat → Addr) (h0 : Heap) (n0 : Nat) (v : Option Value) (h : Heap) (L : List Loc) : Prop := v = some (.int (1 : Int32)) ∧ Fr n0 L ∧ h = h0
set_option maxRecDepth 65536 in
set_option maxHeartbeats 40000000 in
theorem rm1_9 (l : Launch) (Z : State) (a0 : Array Value) (hw : ∀ d ∈ tables_1, d.before a0 Z = true) (w : Nat → Addr) (hW : Wd Z w) (ws : List Jvm.Cond) (h0 : Heap) (n0 : Nat) (O0 : Old Z n0 h0) :
    MetFree l ym0 (head1 (Jvm.Cond.code ym0 prog_29_method_9_code 1 (some .boolean) :: ws) ({ frames := 0, cells := 0, slots := 0, locals := 0 } : Room)) (fun a U => a = #[(.ref (w 8))] ∧ Z.Warmed39 U.vm ∧ U.heap = h0) (fun _ _ _ _ _ => True) (fun _ U o U' => ∃ v L, o = .returned v ∧ Q1_9 Z w h0 n0 v U'.heap L ∧ FrameEnd U o U' L ({ frames := 0, cells := 0, slots := 0, locals := 0 } : Room).cells ({ frames := 0, cells := 0, slots := 0, locals := 0 } : Room).slots) := by
  refine MetFree.of_bodySF (plainFor_of_name pnc_0) hisR ?_
  intro p e s m args below meth c s₁ Bd hml0 hP hK
  obtain ⟨rfl, hZ, hh⟩ := hP
  have hx := Bd.exec
  have hby := Bd.bytes
  have hml : c.maxLocals = 1 := hml0
  have hown : s.vm.findClass "com/example/weftcheck/weftcheck/OperationKind" = some m.cls := findClass_of_methodNamed Bd.named
  have hnm := (name_of_methodNamed Bd.named Bd.method).1
  have X0 : Stand p l e ({ frames := 0, cells := 0, slots := 0, locals := 0 } : Room) s m #[(.ref (w 8))] below meth c s₁ [] 0 0 := Stand.of_body Bd
  have e0 : s₁.heap = h0 := by rw [← hh, Bd.state]; rfl
  have N0 := Fr.nil n0
  skip
  have pre0 : ∀ t, Steps p.tables e below (s₁.setTop (mkF m 0 #[.val (.ref (w 8))] [])) t → Steps p.tables e below (s₁.setTop (entryFrame m #[(.ref (w 8))] 1)) t := fun t k => castTop (ef_1_9 m w) k
  obtain ⟨T1, X1, e1, st1⟩ := getS2 X0 hx hZ hown (host := "") (Or.inl (wk37 hw)) Via.refl e0 ((wd6 hW).ext O0.2) (g := (mkF m 1 #[.val (.ref (w 8))] [(.ref (w 8))])) rfl (hb hby d1_1)
  obtain ⟨T2, X2, e2, st2⟩ := getS2 X1 hx hZ hown (host := "") (Or.inl (wk38 hw)) Via.refl e1 ((wd16 hW).ext O0.2) (g := (mkF m 8 #[.val (.ref (w 8))] [(.ref (w 8))])) rfl (hb hby d1_8)
  obtain ⟨fs, hr, hrun, hended, hWm, hsame⟩ := X2.leave (v := some (.int (1 : Int32))) (fun h => by rw [Bd.returns] at h; cases h)
  refine ⟨_, _, pre0 _ ?_, hrun, hended, _, _, rfl, ?_, ⟨_, rfl⟩, hWm, hsame.mono (by decide) (by decide)⟩
  · show Steps p.tables e below (s₁.setTop (mkF m 0 #[.val (.ref (w 8))] [])) _
    refine sA X0 hx hby d1_0 rfl rfl ?_
    refine st1 _ ?_
    refine Jvm.RoadKit.acmp (g := (mkF m 4 #[.val (.ref (w 8))] [(.ref (w 3)), (.ref (w 8))])) X1 hx rfl rfl rfl (pc0 := 4) (pc' := 7) (same := false) rfl (hb hby d1_4) rfl (decide_eq_false fun q => (Fld.ne (wd28 hW) (wd27 hW) (by decide)) (Value.ref.inj q)) (by decide) (by decide) ?_
    refine sA X1 hx hby d1_7 rfl rfl ?_
    refine st2 _ ?_
    refine Jvm.RoadKit.acmp (g := (mkF m 11 #[.val (.ref (w 8))] [(.ref (w 8)), (.ref (w 8))])) X2 hx rfl rfl rfl (pc0 := 11) (pc' := 21) (same := true) rfl (hb hby d1_11) rfl (decide_eq_true rfl) (by decide) (by decide) ?_
    refine sc X2 hx hby d1_21 ?_
    refine sg (pc := 22) (pc' := 26) X2 hx hby d1_22 (by decide) (by decide) ?_
    exact retN X2 hx (t := .boolean) Bd.returns (by simp) (hb hby d1_26) hr
  · show Q1_9 Z w h0 n0 _ T2.heap _
    rw [e2]
    exact ⟨rfl, N0, rfl⟩
theorem ef_1_10 (m : MethodId) (w : Nat → Addr) : entryFrame m #[(.ref (w 9))] 1 = mkF m 0 #[.val (.ref (w 9))] [] := by first | (simp [entryFrame, mkF, argsToLocals, Value.category]; done) | rfl
def Q1_10 (Z : State) (w : Nat → Addr) (h0 : Heap) (n0 : Nat) (v : Option Value) (h : Heap) (L : List Loc) : Prop := v = some (.int (0 : Int32)) ∧ Fr n0 L ∧ h = h0
set_option maxRecDepth 65536 in
set_option maxHeartbeats 40000000 in
theorem rm1_10 (l : Launch) (Z : State) (a0 : Array Value) (hw : ∀ d ∈ tables_1, d.before a0 Z = true) (w : Nat → Addr) (hW : Wd Z w) (ws : List Jvm.Cond) (h0 : Heap) (n0 : Nat) (O0 : Old Z n0 h0) :
    MetFree l ym0 (head1 (Jvm.Cond.code ym0 prog_29_method_9_code 1 (some .boolean) :: ws) ({ frames := 0, cells := 0, slots := 0, locals := 0 } : Room)) (fun a U => a = #[(.ref (w 9))] ∧ Z.Warmed39 U.vm ∧ U.heap = h0) (fun _ _ _ _ _ => True) (fun _ U o U' => ∃ v L, o = .returned v ∧ Q1_10 Z w h0 n0 v U'.heap L ∧ FrameEnd U o U' L ({ frames := 0, cells := 0, slots := 0, locals := 0 } : Room).cells ({ frames := 0, cells := 0, slots := 0, locals := 0 } : Room).slots) := by
  refine MetFree.of_bodySF (plainFor_of_name pnc_0) hisR ?_
  intro p e s m args below meth c s₁ Bd hml0 hP hK
  obtain ⟨rfl, hZ, hh⟩ := hP
  have hx := Bd.exec
  have hby := Bd.bytes
  have hml : c.maxLocals = 1 := hml0
  have hown : s.vm.findClass "com/example/weftcheck/weftcheck/OperationKind" = some m.cls := findClass_of_methodNamed Bd.named
  have hnm := (name_of_methodNamed Bd.named Bd.method).1
  have X0 : Stand p l e ({ frames := 0, cells := 0, slots := 0, locals := 0 } : Room) s m #[(.ref (w 9))] below meth c s₁ [] 0 0 := Stand.of_body Bd
  have e0 : s₁.heap = h0 := by rw [← hh, Bd.state]; rfl
  have N0 := Fr.nil n0
  skip
  have pre0 : ∀ t, Steps p.tables e below (s₁.setTop (mkF m 0 #[.val (.ref (w 9))] [])) t → Steps p.tables e below (s₁.setTop (entryFrame m #[(.ref (w 9))] 1)) t := fun t k => castTop (ef_1_10 m w) k
  obtain ⟨T1, X1, e1, st1⟩ := getS2 X0 hx hZ hown (host := "") (Or.inl (wk37 hw)) Via.refl e0 ((wd6 hW).ext O0.2) (g := (mkF m 1 #[.val (.ref (w 9))] [(.ref (w 9))])) rfl (hb hby d1_1)
  obtain ⟨T2, X2, e2, st2⟩ := getS2 X1 hx hZ hown (host := "") (Or.inl (wk38 hw)) Via.refl e1 ((wd16 hW).ext O0.2) (g := (mkF m 8 #[.val (.ref (w 9))] [(.ref (w 9))])) rfl (hb hby d1_8)
  obtain ⟨T3, X3, e3, st3⟩ := getS2 X2 hx hZ hown (host := "") (Or.inl (wk39 hw)) Via.refl e2 ((wd20 hW).ext O0.2) (g := (mkF m 15 #[.val (.ref (w 9))] [(.ref (w 9))])) rfl (hb hby d1_15)
  obtain ⟨fs, hr, hrun, hended, hWm, hsame⟩ := X3.leave (v := some (.int (0 : Int32))) (fun h => by rw [Bd.returns] at h; cases h)
  refine ⟨_, _, pre0 _ ?_, hrun, hended, _, _, rfl, ?_, ⟨_, rfl⟩, hWm, hsame.mono (by decide) (by decide)⟩
  · show Steps p.tables e below (s₁.setTop (mkF m 0 #[.val (.ref (w 9))] [])) _
    refine sA X0 hx hby d1_0 rfl rfl ?_
    refine st1 _ ?_
    refine Jvm.RoadKit.acmp (g := (mkF m 4 #[.val (.ref (w 9))] [(.ref (w 3)), (.ref (w 9))])) X1 hx rfl rfl rfl (pc0 := 4) (pc' := 7) (same := false) rfl (hb hby d1_4) rfl (decide_eq_false fun q => (Fld.ne (wd33 hW) (wd27 hW) (by decide)) (Value.ref.inj q)) (by decide) (by decide) ?_
    refine sA X1 hx hby d1_7 rfl rfl ?_
    refine st2 _ ?_
    refine Jvm.RoadKit.acmp (g := (mkF m 11 #[.val (.ref (w 9))] [(.ref (w 8)), (.ref (w 9))])) X2 hx rfl rfl rfl (pc0 := 11) (pc' := 14) (same := false) rfl (hb hby d1_11) rfl (decide_eq_false fun q => (Fld.ne (wd33 hW) (wd28 hW) (by decide)) (Value.ref.inj q)) (by decide) (by decide) ?_
    refine sA X2 hx hby d1_14 rfl rfl ?_
    refine st3 _ ?_
    refine Jvm.RoadKit.acmp (g := (mkF m 18 #[.val (.ref (w 9))] [(.ref (w 10)), (.ref (w 9))])) X3 hx rfl rfl rfl (pc0 := 18) (pc' := 25) (same := false) rfl (hb hby d1_18) rfl (decide_eq_false fun q => (Fld.ne (wd33 hW) (wd29 hW) (by decide)) (Value.ref.inj q)) (by decide) (by decide) ?_
    refine sc X3 hx hby d1_25 ?_
    exact retN X3 hx (t := .boolean) Bd.returns (by simp) (hb hby d1_26) hr
  · show Q1_10 Z w h0 n0 _ T3.heap _
    rw [e3]
    exact ⟨rfl, N0, rfl⟩
theorem ef_1_11 (m : MethodId) (w : Nat → Addr) : entryFrame m #[(.ref (w 10))] 1 = mkF m 0 #[.val (.ref (w 10))] [] := by first | (simp [entryFrame, mkF, argsToLocals, Value.category]; done) | rfl
def Q1_11 (Z : State) (w : Nat → Addr) (h0 : Heap) (n0 : Nat) (v : Option Value) (h : Heap) (L : List Loc) : Prop := v = some (.int (1 : Int32)) ∧ Fr n0 L ∧ h = h0
set_option maxRecDepth 65536 in
set_option maxHeartbeats 40000000 in
theorem rm1_11 (l : Launch) (Z : State) (a0 : Array Value) (hw : ∀ d ∈ tables_1, d.before a0 Z = true) (w : Nat → Addr) (hW : Wd Z w) (ws : List Jvm.Cond) (h0 : Heap) (n0 : Nat) (O0 : Old Z n0 h0) :
    MetFree l ym0 (head1 (Jvm.Cond.code ym0 prog_29_method_9_code 1 (some .boolean) :: ws) ({ frames := 0, cells := 0, slots := 0, locals := 0 } : Room)) (fun a U => a = #[(.ref (w 10))] ∧ Z.Warmed39 U.vm ∧ U.heap = h0) (fun _ _ _ _ _ => True) (fun _ U o U' => ∃ v L, o = .returned v ∧ Q1_11 Z w h0 n0 v U'.heap L ∧ FrameEnd U o U' L ({ frames := 0, cells := 0, slots := 0, locals := 0 } : Room).cells ({ frames := 0, cells := 0, slots := 0, locals := 0 } : Room).slots) := by
  refine MetFree.of_bodySF (plainFor_of_name pnc_0) hisR ?_
  intro p e s m args below meth c s₁ Bd hml0 hP hK
  obtain ⟨rfl, hZ, hh⟩ := hP
  have hx := Bd.exec
  have hby := Bd.bytes
  have hml : c.maxLocals = 1 := hml0
  have hown : s.vm.findClass "com/example/weftcheck/weftcheck/OperationKind" = some m.cls := findClass_of_methodNamed Bd.named
  have hnm := (name_of_methodNamed Bd.named Bd.method).1
  have X0 : Stand p l e ({ frames := 0, cells := 0, slots := 0, locals := 0 } : Room) s m #[(.ref (w 10))] below meth c s₁ [] 0 0 := Stand.of_body Bd
  have e0 : s₁.heap = h0 := by rw [← hh, Bd.state]; rfl
  have N0 := Fr.nil n0
  skip
  have pre0 : ∀ t, Steps p.tables e below (s₁.setTop (mkF m 0 #[.val (.ref (w 10))] [])) t → Steps p.tables e below (s₁.setTop (entryFrame m #[(.ref (w 10))] 1)) t := fun t k => castTop (ef_1_11 m w) k
  obtain ⟨T1, X1, e1, st1⟩ := getS2 X0 hx hZ hown (host := "") (Or.inl (wk37 hw)) Via.refl e0 ((wd6 hW).ext O0.2) (g := (mkF m 1 #[.val (.ref (w 10))] [(.ref (w 10))])) rfl (hb hby d1_1)
  obtain ⟨T2, X2, e2, st2⟩ := getS2 X1 hx hZ hown (host := "") (Or.inl (wk38 hw)) Via.refl e1 ((wd16 hW).ext O0.2) (g := (mkF m 8 #[.val (.ref (w 10))] [(.ref (w 10))])) rfl (hb hby d1_8)
  obtain ⟨T3, X3, e3, st3⟩ := getS2 X2 hx hZ hown (host := "") (Or.inl (wk39 hw)) Via.refl e2 ((wd20 hW).ext O0.2) (g := (mkF m 15 #[.val (.ref (w 10))] [(.ref (w 10))])) rfl (hb hby d1_15)
  obtain ⟨fs, hr, hrun, hended, hWm, hsame⟩ := X3.leave (v := some (.int (1 : Int32))) (fun h => by rw [Bd.returns] at h; cases h)
  refine ⟨_, _, pre0 _ ?_, hrun, hended, _, _, rfl, ?_, ⟨_, rfl⟩, hWm, hsame.mono (by decide) (by decide)⟩
  · show Steps p.tables e below (s₁.setTop (mkF m 0 #[.val (.ref (w 10))] [])) _
    refine sA X0 hx hby d1_0 rfl rfl ?_
    refine st1 _ ?_
    refine Jvm.RoadKit.acmp (g := (mkF m 4 #[.val (.ref (w 10))] [(.ref (w 3)), (.ref (w 10))])) X1 hx rfl rfl rfl (pc0 := 4) (pc' := 7) (same := false) rfl (hb hby d1_4) rfl (decide_eq_false fun q => (Fld.ne (wd29 hW) (wd27 hW) (by decide)) (Value.ref.inj q)) (by decide) (by decide) ?_
    refine sA X1 hx hby d1_7 rfl rfl ?_
    refine st2 _ ?_
    refine Jvm.RoadKit.acmp (g := (mkF m 11 #[.val (.ref (w 10))] [(.ref (w 8)), (.ref (w 10))])) X2 hx rfl rfl rfl (pc0 := 11) (pc' := 14) (same := false) rfl (hb hby d1_11) rfl (decide_eq_false fun q => (Fld.ne (wd29 hW) (wd28 hW) (by decide)) (Value.ref.inj q)) (by decide) (by decide) ?_
    refine sA X2 hx hby d1_14 rfl rfl ?_
    refine st3 _ ?_
    refine Jvm.RoadKit.acmp (g := (mkF m 18 #[.val (.ref (w 10))] [(.ref (w 10)), (.ref (w 10))])) X3 hx rfl rfl rfl (pc0 := 18) (pc' := 21) (same := true) rfl (hb hby d1_18) rfl (decide_eq_true rfl) (by decide) (by decide) ?_
    refine sc X3 hx hby d1_21 ?_
    refine sg (pc := 22) (pc' := 26) X3 hx hby d1_22 (by decide) (by decide) ?_
    exact retN X3 hx (t := .boolean) Bd.returns (by simp) (hb hby d1_26) hr
  · show Q1_11 Z w h0 n0 _ T3.heap _
    rw [e3]
    exact ⟨rfl, N0, rfl⟩
theorem ef_1_12 (m : MethodId) (w : Nat → Addr) : entryFrame m #[(.ref (w 11))] 1 = mkF m 0 #[.val (.ref (w 11))] [] := by first | (simp [entryFrame, mkF, argsToLocals, Value.category]; done) | rfl
def Q1_12 (Z : State) (w : Nat → Addr) (h0 : Heap) (n0 : Nat) (v : Option Value) (h : Heap) (L : List Loc) : Prop := v = some (.int (0 : Int32)) ∧ Fr n0 L ∧ h = h0
set_option maxRecDepth 65536 in
set_option maxHeartbeats 40000000 in
theorem rm1_12 (l : Launch) (Z : State) (a0 : Array Value) (hw : ∀ d ∈ tables_1, d.before a0 Z = true) (w : Nat → Addr) (hW : Wd Z w) (ws : List Jvm.Cond) (h0 : Heap) (n0 : Nat) (O0 : Old Z n0 h0) :
    MetFree l ym0 (head1 (Jvm.Cond.code ym0 prog_29_method_9_code 1 (some .boolean) :: ws) ({ frames := 0, cells := 0, slots := 0, locals := 0 } : Room)) (fun a U => a = #[(.ref (w 11))] ∧ Z.Warmed39 U.vm ∧ U.heap = h0) (fun _ _ _ _ _ => True) (fun _ U o U' => ∃ v L, o = .returned v ∧ Q1_12 Z w h0 n0 v U'.heap L ∧ FrameEnd U o U' L ({ frames := 0, cells := 0, slots := 0, locals := 0 } : Room).cells ({ frames := 0, cells := 0, slots := 0, locals := 0 } : Room).slots) := by
  refine MetFree.of_bodySF (plainFor_of_name pnc_0) hisR ?_
  intro p e s m args below meth c s₁ Bd hml0 hP hK
  obtain ⟨rfl, hZ, hh⟩ := hP
  have hx := Bd.exec
  have hby := Bd.bytes
  have hml : c.maxLocals = 1 := hml0
  have hown : s.vm.findClass "com/example/weftcheck/weftcheck/OperationKind" = some m.cls := findClass_of_methodNamed Bd.named
  have hnm := (name_of_methodNamed Bd.named Bd.method).1
  have X0 : Stand p l e ({ frames := 0, cells := 0, slots := 0, locals := 0 } : Room) s m #[(.ref (w 11))] below meth c s₁ [] 0 0 := Stand.of_body Bd
  have e0 : s₁.heap = h0 := by rw [← hh, Bd.state]; rfl
  have N0 := Fr.nil n0
  skip
  have pre0 : ∀ t, Steps p.tables e below (s₁.setTop (mkF m 0 #[.val (.ref (w 11))] [])) t → Steps p.tables e below (s₁.setTop (entryFrame m #[(.ref (w 11))] 1)) t := fun t k => castTop (ef_1_12 m w) k
  obtain ⟨T1, X1, e1, st1⟩ := getS2 X0 hx hZ hown (host := "") (Or.inl (wk37 hw)) Via.refl e0 ((wd6 hW).ext O0.2) (g := (mkF m 1 #[.val (.ref (w 11))] [(.ref (w 11))])) rfl (hb hby d1_1)
  obtain ⟨T2, X2, e2, st2⟩ := getS2 X1 hx hZ hown (host := "") (Or.inl (wk38 hw)) Via.refl e1 ((wd16 hW).ext O0.2) (g := (mkF m 8 #[.val (.ref (w 11))] [(.ref (w 11))])) rfl (hb hby d1_8)
  obtain ⟨T3, X3, e3, st3⟩ := getS2 X2 hx hZ hown (host := "") (Or.inl (wk39 hw)) Via.refl e2 ((wd20 hW).ext O0.2) (g := (mkF m 15 #[.val (.ref (w 11))] [(.ref (w 11))])) rfl (hb hby d1_15)
  obtain ⟨fs, hr, hrun, hended, hWm, hsame⟩ := X3.leave (v := some (.int (0 : Int32))) (fun h => by rw [Bd.returns] at h; cases h)
  refine ⟨_, _, pre0 _ ?_, hrun, hended, _, _, rfl, ?_, ⟨_, rfl⟩, hWm, hsame.mono (by decide) (by decide)⟩
  · show Steps p.tables e below (s₁.setTop (mkF m 0 #[.val (.ref (w 11))] [])) _
    refine sA X0 hx hby d1_0 rfl rfl ?_
    refine st1 _ ?_
    refine Jvm.RoadKit.acmp (g := (mkF m 4 #[.val (.ref (w 11))] [(.ref (w 3)), (.ref (w 11))])) X1 hx rfl rfl rfl (pc0 := 4) (pc' := 7) (same := false) rfl (hb hby d1_4) rfl (decide_eq_false fun q => (Fld.ne (wd35 hW) (wd27 hW) (by decide)) (Value.ref.inj q)) (by decide) (by decide) ?_
    refine sA X1 hx hby d1_7 rfl rfl ?_
    refine st2 _ ?_
    refine Jvm.RoadKit.acmp (g := (mkF m 11 #[.val (.ref (w 11))] [(.ref (w 8)), (.ref (w 11))])) X2 hx rfl rfl rfl (pc0 := 11) (pc' := 14) (same := false) rfl (hb hby d1_11) rfl (decide_eq_false fun q => (Fld.ne (wd35 hW) (wd28 hW) (by decide)) (Value.ref.inj q)) (by decide) (by decide) ?_
    refine sA X2 hx hby d1_14 rfl rfl ?_
    refine st3 _ ?_
    refine Jvm.RoadKit.acmp (g := (mkF m 18 #[.val (.ref (w 11))] [(.ref (w 10)), (.ref (w 11))])) X3 hx rfl rfl rfl (pc0 := 18) (pc' := 25) (same := false) rfl (hb hby d1_18) rfl (decide_eq_false fun q => (Fld.ne (wd35 hW) (wd29 hW) (by decide)) (Value.ref.inj q)) (by decide) (by decide) ?_
    refine sc X3 hx hby d1_25 ?_
    exact retN X3 hx (t := .boolean) Bd.returns (by simp) (hb hby d1_26) hr
  · show Q1_12 Z w h0 n0 _ T3.heap _
    rw [e3]
    exact ⟨rfl, N0, rfl⟩
theorem ef_1_13 (m : MethodId) (w : Nat → Addr) : entryFrame m #[(.ref (w 12))] 1 = mkF m 0 #[.val (.ref (w 12))] [] := by first | (simp [entryFrame, mkF, argsToLocals, Value.category]; done) | rfl
def Q1_13 (Z : State) (w : Nat → Addr) (h0 : Heap) (n0 : Nat) (v : Option Value) (h : Heap) (L : List Loc) : Prop := v = some (.int (0 : Int32)) ∧ Fr n0 L ∧ h = h0
set_option maxRecDepth 65536 in
set_option maxHeartbeats 40000000 in
theorem rm1_13 (l : Launch) (Z : State) (a0 : Array Value) (hw : ∀ d ∈ tables_1, d.before a0 Z = true) (w : Nat → Addr) (hW : Wd Z w) (ws : List Jvm.Cond) (h0 : Heap) (n0 : Nat) (O0 : Old Z n0 h0) :
    MetFree l ym0 (head1 (Jvm.Cond.code ym0 prog_29_method_9_code 1 (some .boolean) :: ws) ({ frames := 0, cells := 0, slots := 0, locals := 0 } : Room)) (fun a U => a = #[(.ref (w 12))] ∧ Z.Warmed39 U.vm ∧ U.heap = h0) (fun _ _ _ _ _ => True) (fun _ U o U' => ∃ v L, o = .returned v ∧ Q1_13 Z w h0 n0 v U'.heap L ∧ FrameEnd U o U' L ({ frames := 0, cells := 0, slots := 0, locals := 0 } : Room).cells ({ frames := 0, cells := 0, slots := 0, locals := 0 } : Room).slots) := by
  refine MetFree.of_bodySF (plainFor_of_name pnc_0) hisR ?_
  intro p e s m args below meth c s₁ Bd hml0 hP hK
  obtain ⟨rfl, hZ, hh⟩ := hP
  have hx := Bd.exec
  have hby := Bd.bytes
  have hml : c.maxLocals = 1 := hml0
  have hown : s.vm.findClass "com/example/weftcheck/weftcheck/OperationKind" = some m.cls := findClass_of_methodNamed Bd.named
  have hnm := (name_of_methodNamed Bd.named Bd.method).1
  have X0 : Stand p l e ({ frames := 0, cells := 0, slots := 0, locals := 0 } : Room) s m #[(.ref (w 12))] below meth c s₁ [] 0 0 := Stand.of_body Bd
  have e0 : s₁.heap = h0 := by rw [← hh, Bd.state]; rfl
  have N0 := Fr.nil n0
  skip
  have pre0 : ∀ t, Steps p.tables e below (s₁.setTop (mkF m 0 #[.val (.ref (w 12))] [])) t → Steps p.tables e below (s₁.setTop (entryFrame m #[(.ref (w 12))] 1)) t := fun t k => castTop (ef_1_13 m w) k
  obtain ⟨T1, X1, e1, st1⟩ := getS2 X0 hx hZ hown (host := "") (Or.inl (wk37 hw)) Via.refl e0 ((wd6 hW).ext O0.2) (g := (mkF m 1 #[.val (.ref (w 12))] [(.ref (w 12))])) rfl (hb hby d1_1)
  obtain ⟨T2, X2, e2, st2⟩ := getS2 X1 hx hZ hown (host := "") (Or.inl (wk38 hw)) Via.refl e1 ((wd16 hW).ext O0.2) (g := (mkF m 8 #[.val (.ref (w 12))] [(.ref (w 12))])) rfl (hb hby d1_8)
  obtain ⟨T3, X3, e3, st3⟩ := getS2 X2 hx hZ hown (host := "") (Or.inl (wk39 hw)) Via.refl e2 ((wd20 hW).ext O0.2) (g := (mkF m 15 #[.val (.ref (w 12))] [(.ref (w 12))])) rfl (hb hby d1_15)
  obtain ⟨fs, hr, hrun, hended, hWm, hsame⟩ := X3.leave (v := some (.int (0 : Int32))) (fun h => by rw [Bd.returns] at h; cases h)
  refine ⟨_, _, pre0 _ ?_, hrun, hended, _, _, rfl, ?_, ⟨_, rfl⟩, hWm, hsame.mono (by decide) (by decide)⟩
  · show Steps p.tables e below (s₁.setTop (mkF m 0 #[.val (.ref (w 12))] [])) _
    refine sA X0 hx hby d1_0 rfl rfl ?_
    refine st1 _ ?_
    refine Jvm.RoadKit.acmp (g := (mkF m 4 #[.val (.ref (w 12))] [(.ref (w 3)), (.ref (w 12))])) X1 hx rfl rfl rfl (pc0 := 4) (pc' := 7) (same := false) rfl (hb hby d1_4) rfl (decide_eq_false fun q => (Fld.ne (wd37 hW) (wd27 hW) (by decide)) (Value.ref.inj q)) (by decide) (by decide) ?_
    refine sA X1 hx hby d1_7 rfl rfl ?_
    refine st2 _ ?_
    refine Jvm.RoadKit.acmp (g := (mkF m 11 #[.val (.ref (w 12))] [(.ref (w 8)), (.ref (w 12))])) X2 hx rfl rfl rfl (pc0 := 11) (pc' := 14) (same := false) rfl (hb hby d1_11) rfl (decide_eq_false fun q => (Fld.ne (wd37 hW) (wd28 hW) (by decide)) (Value.ref.inj q)) (by decide) (by decide) ?_
    refine sA X2 hx hby d1_14 rfl rfl ?_
    refine st3 _ ?_
    refine Jvm.RoadKit.acmp (g := (mkF m 18 #[.val (.ref (w 12))] [(.ref (w 10)), (.ref (w 12))])) X3 hx rfl rfl rfl (pc0 := 18) (pc' := 25) (same := false) rfl (hb hby d1_18) rfl (decide_eq_false fun q => (Fld.ne (wd37 hW) (wd29 hW) (by decide)) (Value.ref.inj q)) (by decide) (by decide) ?_
    refine sc X3 hx hby d1_25 ?_
    exact retN X3 hx (t := .boolean) Bd.returns (by simp) (hb hby d1_26) hr
  · show Q1_13 Z w h0 n0 _ T3.heap _
    rw [e3]
    exact ⟨rfl, N0, rfl⟩
theorem ef_0_14 (m : MethodId) (p0 : Int32) : entryFrame m #[(.int p0)] maxLocals = mkF m 0 #[.val (.int p0), .unset, .unset, .unset] [] := by first | (simp [entryFrame, mkF, argsToLocals, Value.category, maxLocals]; done) | rfl
theorem pnc_1 : plainName "com/example/weftcheck/weftcheck/OperationKindBindsValuePinLaw" = true := by first | (simp [plainName, overriddenIn]; done) | decide +kernel
def Q0 (n0 : Nat) (v : Option Value) (h : Heap) (L : List Loc) : Prop := v = some (.int (1 : Int32)) ∧ Fr n0 L
set_option maxRecDepth 65536 in
set_option maxHeartbeats 400000000 in
theorem rm0 (l : Launch) (Z : State) (a0 : Array Value) (hw : ∀ d ∈ tables_1, d.before a0 Z = true) (w : Nat → Addr) (hW : Wd Z w) (ws : List Jvm.Cond) (p0 : Int32) (h0 : Heap) (n0 : Nat) (O0 : Old Z n0 h0) :
    MetFree l x (head1 (Jvm.Cond.code x code maxLocals ret :: ws) room_1) (fun a U => a = #[(.int p0)] ∧ Z.Warmed39 U.vm ∧ U.heap = h0) (fun _ _ _ _ _ => True) (fun _ U o U' => ∃ v L, o = .returned v ∧ Q0 n0 v U'.heap L ∧ FrameEnd U o U' L room_1.cells room_1.slots) := by
  refine MetFree.of_bodySF (plainFor_of_name pnc_1) hisR ?_
  intro p e s m args below meth c s₁ Bd hml0 hP hK
  obtain ⟨rfl, hZ, hh⟩ := hP
  have hx := Bd.exec
  have hby := Bd.bytes
  have hml : c.maxLocals = 4 := hml0
  have hown : s.vm.findClass "com/example/weftcheck/weftcheck/OperationKindBindsValuePinLaw" = some m.cls := findClass_of_methodNamed Bd.named
  have hnm := (name_of_methodNamed Bd.named Bd.method).1
  have X0 : Stand p l e room_1 s m #[(.int p0)] below meth c s₁ [] 0 0 := Stand.of_body Bd
  have e0 : s₁.heap = h0 := by rw [← hh, Bd.state]; rfl
  have N0 := Fr.nil n0
  skip
  have pre0 : ∀ t, Steps p.tables e below (s₁.setTop (mkF m 0 #[.val (.int p0), .unset, .unset, .unset] [])) t → Steps p.tables e below (s₁.setTop (entryFrame m #[(.int p0)] maxLocals)) t := fun t k => castTop (ef_0_14 m p0) k
  obtain ⟨T1, h1, k1, X1, e1, E1, A1, Ov1, st1⟩ := newR X0 hx hZ hown (wk0 hw) (wk1 hw) e0 (g := (mkF m 2 #[.val (.int p0), .unset, .unset, .unset] [(.int (13 : Int32))])) rfl (hb hby at_2) rfl (by decide) (cap := 13) (by decide) (by decide) (by decide) (by decide)
  obtain ⟨b1, g1⟩ : ∃ z, z = h0.size := ⟨_, rfl⟩
  rw [← g1] at A1 st1
  have gg1 : n0 ≤ b1 := by rw [← O0.1, g1]; exact O0.2.1
  have O2 := O0.ext E1
  have V1 : Arv Z h1 b1 k1 (.object "com/example/weftcheck/weftcheck/OperationKind") (13 : Int32) [.null, .null, .null, .null, .null, .null, .null, .null, .null, .null, .null, .null, .null] .null := own_pad (dv := .null) (Arv.new A1 (by decide)) 13 _ rfl
  obtain ⟨T3, X3, e3, st3⟩ := getS2 X1 hx hZ hown (host := "") (Or.inl (wk2 hw)) Via.refl e1 ((wd0 hW).ext O2.2) (g := (mkF m 7 #[.val (.int p0), .unset, .unset, .unset] [(.int (0 : Int32)), (.ref b1), (.ref b1)])) rfl (hb hby at_7)
  obtain ⟨cl4, Ar4, cw4, S4, Nn4, Hs4, G4⟩ := id (V1)
  have hin4 : ¬ ((0 : Int32) < 0 ∨ cl4.slots.size ≤ ((0 : Int32)).toNatClampNeg) := inb_of S4 ⟨by decide, by decide⟩
  obtain ⟨T4, h4, X4, e4, W4, st4⟩ := stR X3 hx hZ e3 Ar4 (j := (0 : Int32)) hin4 rfl (Sto.ofV Ar4 cw4 Ov1 (Ins.self ((wd1 hW).ext O2.2))) (g := (mkF m 10 #[.val (.int p0), .unset, .unset, .unset] [(.ref (w 0)), (.int (0 : Int32)), (.ref b1), (.ref b1)])) rfl rfl (hb hby at_10)
  have V4 : Arv Z h4 b1 k1 (.object "com/example/weftcheck/weftcheck/OperationKind") (13 : Int32) [(.ref (w 0)), .null, .null, .null, .null, .null, .null, .null, .null, .null, .null, .null, .null] .null := own_set Ar4 cw4 S4 Nn4 Hs4 G4 rfl W4 0 rfl (Nat.le_of_ble_eq_true rfl) (.ref (w 0)) rfl _ rfl
  have N4 := Fr.snoc X4 N0 gg1
  have O5 := O2.wr W4 gg1
  obtain ⟨T6, X6, e6, st6⟩ := getS2 X4 hx hZ hown (host := "") (Or.inl (wk6 hw)) Via.refl e4 ((wd2 hW).ext O5.2) (g := (mkF m 13 #[.val (.int p0), .unset, .unset, .unset] [(.int (1 : Int32)), (.ref b1), (.ref b1)])) rfl (hb hby at_13)
  obtain ⟨cl7, Ar7, cw7, S7, Nn7, Hs7, G7⟩ := id (V4)
  have hin7 : ¬ ((1 : Int32) < 0 ∨ cl7.slots.size ≤ ((1 : Int32)).toNatClampNeg) := inb_of S7 ⟨by decide, by decide⟩
  obtain ⟨T7, h7, X7, e7, W7, st7⟩ := stR X6 hx hZ e6 Ar7 (j := (1 : Int32)) hin7 rfl (Sto.ofV Ar7 cw7 Ov1 (Ins.self ((wd3 hW).ext O5.2))) (g := (mkF m 16 #[.val (.int p0), .unset, .unset, .unset] [(.ref (w 1)), (.int (1 : Int32)), (.ref b1), (.ref b1)])) rfl rfl (hb hby at_16)
  have V7 : Arv Z h7 b1 k1 (.object "com/example/weftcheck/weftcheck/OperationKind") (13 : Int32) [(.ref (w 0)), (.ref (w 1)), .null, .null, .null, .null, .null, .null, .null, .null, .null, .null, .null] .null := own_set Ar7 cw7 S7 Nn7 Hs7 G7 rfl W7 1 rfl (Nat.le_of_ble_eq_true rfl) (.ref (w 1)) rfl _ rfl
  have N7 := Fr.snoc X7 N4 gg1
  have O8 := O5.wr W7 gg1
  obtain ⟨T9, X9, e9, st9⟩ := getS2 X7 hx hZ hown (host := "") (Or.inl (wk8 hw)) Via.refl e7 ((wd4 hW).ext O8.2) (g := (mkF m 19 #[.val (.int p0), .unset, .unset, .unset] [(.int (2 : Int32)), (.ref b1), (.ref b1)])) rfl (hb hby at_19)
  obtain ⟨cl10, Ar10, cw10, S10, Nn10, Hs10, G10⟩ := id (V7)
  have hin10 : ¬ ((2 : Int32) < 0 ∨ cl10.slots.size ≤ ((2 : Int32)).toNatClampNeg) := inb_of S10 ⟨by decide, by decide⟩
  obtain ⟨T10, h10, X10, e10, W10, st10⟩ := stR X9 hx hZ e9 Ar10 (j := (2 : Int32)) hin10 rfl (Sto.ofV Ar10 cw10 Ov1 (Ins.self ((wd5 hW).ext O8.2))) (g := (mkF m 22 #[.val (.int p0), .unset, .unset, .unset] [(.ref (w 2)), (.int (2 : Int32)), (.ref b1), (.ref b1)])) rfl rfl (hb hby at_22)
  have V10 : Arv Z h10 b1 k1 (.object "com/example/weftcheck/weftcheck/OperationKind") (13 : Int32) [(.ref (w 0)), (.ref (w 1)), (.ref (w 2)), .null, .null, .null, .null, .null, .null, .null, .null, .null, .null] .null := own_set Ar10 cw10 S10 Nn10 Hs10 G10 rfl W10 2 rfl (Nat.le_of_ble_eq_true rfl) (.ref (w 2)) rfl _ rfl
  have N10 := Fr.snoc X10 N7 gg1
  have O11 := O8.wr W10 gg1
  obtain ⟨T12, X12, e12, st12⟩ := getS2 X10 hx hZ hown (host := "") (Or.inl (wk10 hw)) Via.refl e10 ((wd6 hW).ext O11.2) (g := (mkF m 25 #[.val (.int p0), .unset, .unset, .unset] [(.int (3 : Int32)), (.ref b1), (.ref b1)])) rfl (hb hby at_25)
  obtain ⟨cl13, Ar13, cw13, S13, Nn13, Hs13, G13⟩ := id (V10)
  have hin13 : ¬ ((3 : Int32) < 0 ∨ cl13.slots.size ≤ ((3 : Int32)).toNatClampNeg) := inb_of S13 ⟨by decide, by decide⟩
  obtain ⟨T13, h13, X13, e13, W13, st13⟩ := stR X12 hx hZ e12 Ar13 (j := (3 : Int32)) hin13 rfl (Sto.ofV Ar13 cw13 Ov1 (Ins.self ((wd7 hW).ext O11.2))) (g := (mkF m 28 #[.val (.int p0), .unset, .unset, .unset] [(.ref (w 3)), (.int (3 : Int32)), (.ref b1), (.ref b1)])) rfl rfl (hb hby at_28)
  have V13 : Arv Z h13 b1 k1 (.object "com/example/weftcheck/weftcheck/OperationKind") (13 : Int32) [(.ref (w 0)), (.ref (w 1)), (.ref (w 2)), (.ref (w 3)), .null, .null, .null, .null, .null, .null, .null, .null, .null] .null := own_set Ar13 cw13 S13 Nn13 Hs13 G13 rfl W13 3 rfl (Nat.le_of_ble_eq_true rfl) (.ref (w 3)) rfl _ rfl
  have N13 := Fr.snoc X13 N10 gg1
  have O14 := O11.wr W13 gg1
  obtain ⟨T15, X15, e15, st15⟩ := getS2 X13 hx hZ hown (host := "") (Or.inl (wk12 hw)) Via.refl e13 ((wd8 hW).ext O14.2) (g := (mkF m 31 #[.val (.int p0), .unset, .unset, .unset] [(.int (4 : Int32)), (.ref b1), (.ref b1)])) rfl (hb hby at_31)
  obtain ⟨cl16, Ar16, cw16, S16, Nn16, Hs16, G16⟩ := id (V13)
  have hin16 : ¬ ((4 : Int32) < 0 ∨ cl16.slots.size ≤ ((4 : Int32)).toNatClampNeg) := inb_of S16 ⟨by decide, by decide⟩
  obtain ⟨T16, h16, X16, e16, W16, st16⟩ := stR X15 hx hZ e15 Ar16 (j := (4 : Int32)) hin16 rfl (Sto.ofV Ar16 cw16 Ov1 (Ins.self ((wd9 hW).ext O14.2))) (g := (mkF m 34 #[.val (.int p0), .unset, .unset, .unset] [(.ref (w 4)), (.int (4 : Int32)), (.ref b1), (.ref b1)])) rfl rfl (hb hby at_34)
  have V16 : Arv Z h16 b1 k1 (.object "com/example/weftcheck/weftcheck/OperationKind") (13 : Int32) [(.ref (w 0)), (.ref (w 1)), (.ref (w 2)), (.ref (w 3)), (.ref (w 4)), .null, .null, .null, .null, .null, .null, .null, .null] .null := own_set Ar16 cw16 S16 Nn16 Hs16 G16 rfl W16 4 rfl (Nat.le_of_ble_eq_true rfl) (.ref (w 4)) rfl _ rfl
  have N16 := Fr.snoc X16 N13 gg1
  have O17 := O14.wr W16 gg1
  obtain ⟨T18, X18, e18, st18⟩ := getS2 X16 hx hZ hown (host := "") (Or.inl (wk14 hw)) Via.refl e16 ((wd10 hW).ext O17.2) (g := (mkF m 37 #[.val (.int p0), .unset, .unset, .unset] [(.int (5 : Int32)), (.ref b1), (.ref b1)])) rfl (hb hby at_37)
  obtain ⟨cl19, Ar19, cw19, S19, Nn19, Hs19, G19⟩ := id (V16)
  have hin19 : ¬ ((5 : Int32) < 0 ∨ cl19.slots.size ≤ ((5 : Int32)).toNatClampNeg) := inb_of S19 ⟨by decide, by decide⟩
  obtain ⟨T19, h19, X19, e19, W19, st19⟩ := stR X18 hx hZ e18 Ar19 (j := (5 : Int32)) hin19 rfl (Sto.ofV Ar19 cw19 Ov1 (Ins.self ((wd11 hW).ext O17.2))) (g := (mkF m 40 #[.val (.int p0), .unset, .unset, .unset] [(.ref (w 5)), (.int (5 : Int32)), (.ref b1), (.ref b1)])) rfl rfl (hb hby at_40)
  have V19 : Arv Z h19 b1 k1 (.object "com/example/weftcheck/weftcheck/OperationKind") (13 : Int32) [(.ref (w 0)), (.ref (w 1)), (.ref (w 2)), (.ref (w 3)), (.ref (w 4)), (.ref (w 5)), .null, .null, .null, .null, .null, .null, .null] .null := own_set Ar19 cw19 S19 Nn19 Hs19 G19 rfl W19 5 rfl (Nat.le_of_ble_eq_true rfl) (.ref (w 5)) rfl _ rfl
  have N19 := Fr.snoc X19 N16 gg1
  have O20 := O17.wr W19 gg1
  obtain ⟨T21, X21, e21, st21⟩ := getS2 X19 hx hZ hown (host := "") (Or.inl (wk16 hw)) Via.refl e19 ((wd12 hW).ext O20.2) (g := (mkF m 44 #[.val (.int p0), .unset, .unset, .unset] [(.int (6 : Int32)), (.ref b1), (.ref b1)])) rfl (hb hby at_44)
  obtain ⟨cl22, Ar22, cw22, S22, Nn22, Hs22, G22⟩ := id (V19)
  have hin22 : ¬ ((6 : Int32) < 0 ∨ cl22.slots.size ≤ ((6 : Int32)).toNatClampNeg) := inb_of S22 ⟨by decide, by decide⟩
  obtain ⟨T22, h22, X22, e22, W22, st22⟩ := stR X21 hx hZ e21 Ar22 (j := (6 : Int32)) hin22 rfl (Sto.ofV Ar22 cw22 Ov1 (Ins.self ((wd13 hW).ext O20.2))) (g := (mkF m 47 #[.val (.int p0), .unset, .unset, .unset] [(.ref (w 6)), (.int (6 : Int32)), (.ref b1), (.ref b1)])) rfl rfl (hb hby at_47)
  have V22 : Arv Z h22 b1 k1 (.object "com/example/weftcheck/weftcheck/OperationKind") (13 : Int32) [(.ref (w 0)), (.ref (w 1)), (.ref (w 2)), (.ref (w 3)), (.ref (w 4)), (.ref (w 5)), (.ref (w 6)), .null, .null, .null, .null, .null, .null] .null := own_set Ar22 cw22 S22 Nn22 Hs22 G22 rfl W22 6 rfl (Nat.le_of_ble_eq_true rfl) (.ref (w 6)) rfl _ rfl
  have N22 := Fr.snoc X22 N19 gg1
  have O23 := O20.wr W22 gg1
  obtain ⟨T24, X24, e24, st24⟩ := getS2 X22 hx hZ hown (host := "") (Or.inl (wk18 hw)) Via.refl e22 ((wd14 hW).ext O23.2) (g := (mkF m 51 #[.val (.int p0), .unset, .unset, .unset] [(.int (7 : Int32)), (.ref b1), (.ref b1)])) rfl (hb hby at_51)
  obtain ⟨cl25, Ar25, cw25, S25, Nn25, Hs25, G25⟩ := id (V22)
  have hin25 : ¬ ((7 : Int32) < 0 ∨ cl25.slots.size ≤ ((7 : Int32)).toNatClampNeg) := inb_of S25 ⟨by decide, by decide⟩
  obtain ⟨T25, h25, X25, e25, W25, st25⟩ := stR X24 hx hZ e24 Ar25 (j := (7 : Int32)) hin25 rfl (Sto.ofV Ar25 cw25 Ov1 (Ins.self ((wd15 hW).ext O23.2))) (g := (mkF m 54 #[.val (.int p0), .unset, .unset, .unset] [(.ref (w 7)), (.int (7 : Int32)), (.ref b1), (.ref b1)])) rfl rfl (hb hby at_54)
  have V25 : Arv Z h25 b1 k1 (.object "com/example/weftcheck/weftcheck/OperationKind") (13 : Int32) [(.ref (w 0)), (.ref (w 1)), (.ref (w 2)), (.ref (w 3)), (.ref (w 4)), (.ref (w 5)), (.ref (w 6)), (.ref (w 7)), .null, .null, .null, .null, .null] .null := own_set Ar25 cw25 S25 Nn25 Hs25 G25 rfl W25 7 rfl (Nat.le_of_ble_eq_true rfl) (.ref (w 7)) rfl _ rfl
  have N25 := Fr.snoc X25 N22 gg1
  have O26 := O23.wr W25 gg1
  obtain ⟨T27, X27, e27, st27⟩ := getS2 X25 hx hZ hown (host := "") (Or.inl (wk20 hw)) Via.refl e25 ((wd16 hW).ext O26.2) (g := (mkF m 58 #[.val (.int p0), .unset, .unset, .unset] [(.int (8 : Int32)), (.ref b1), (.ref b1)])) rfl (hb hby at_58)
  obtain ⟨cl28, Ar28, cw28, S28, Nn28, Hs28, G28⟩ := id (V25)
  have hin28 : ¬ ((8 : Int32) < 0 ∨ cl28.slots.size ≤ ((8 : Int32)).toNatClampNeg) := inb_of S28 ⟨by decide, by decide⟩
  obtain ⟨T28, h28, X28, e28, W28, st28⟩ := stR X27 hx hZ e27 Ar28 (j := (8 : Int32)) hin28 rfl (Sto.ofV Ar28 cw28 Ov1 (Ins.self ((wd17 hW).ext O26.2))) (g := (mkF m 61 #[.val (.int p0), .unset, .unset, .unset] [(.ref (w 8)), (.int (8 : Int32)), (.ref b1), (.ref b1)])) rfl rfl (hb hby at_61)
  have V28 : Arv Z h28 b1 k1 (.object "com/example/weftcheck/weftcheck/OperationKind") (13 : Int32) [(.ref (w 0)), (.ref (w 1)), (.ref (w 2)), (.ref (w 3)), (.ref (w 4)), (.ref (w 5)), (.ref (w 6)), (.ref (w 7)), (.ref (w 8)), .null, .null, .null, .null] .null := own_set Ar28 cw28 S28 Nn28 Hs28 G28 rfl W28 8 rfl (Nat.le_of_ble_eq_true rfl) (.ref (w 8)) rfl _ rfl
  have N28 := Fr.snoc X28 N25 gg1
  have O29 := O26.wr W28 gg1
  obtain ⟨T30, X30, e30, st30⟩ := getS2 X28 hx hZ hown (host := "") (Or.inl (wk22 hw)) Via.refl e28 ((wd18 hW).ext O29.2) (g := (mkF m 65 #[.val (.int p0), .unset, .unset, .unset] [(.int (9 : Int32)), (.ref b1), (.ref b1)])) rfl (hb hby at_65)
  obtain ⟨cl31, Ar31, cw31, S31, Nn31, Hs31, G31⟩ := id (V28)
  have hin31 : ¬ ((9 : Int32) < 0 ∨ cl31.slots.size ≤ ((9 : Int32)).toNatClampNeg) := inb_of S31 ⟨by decide, by decide⟩
  obtain ⟨T31, h31, X31, e31, W31, st31⟩ := stR X30 hx hZ e30 Ar31 (j := (9 : Int32)) hin31 rfl (Sto.ofV Ar31 cw31 Ov1 (Ins.self ((wd19 hW).ext O29.2))) (g := (mkF m 68 #[.val (.int p0), .unset, .unset, .unset] [(.ref (w 9)), (.int (9 : Int32)), (.ref b1), (.ref b1)])) rfl rfl (hb hby at_68)
  have V31 : Arv Z h31 b1 k1 (.object "com/example/weftcheck/weftcheck/OperationKind") (13 : Int32) [(.ref (w 0)), (.ref (w 1)), (.ref (w 2)), (.ref (w 3)), (.ref (w 4)), (.ref (w 5)), (.ref (w 6)), (.ref (w 7)), (.ref (w 8)), (.ref (w 9)), .null, .null, .null] .null := own_set Ar31 cw31 S31 Nn31 Hs31 G31 rfl W31 9 rfl (Nat.le_of_ble_eq_true rfl) (.ref (w 9)) rfl _ rfl
  have N31 := Fr.snoc X31 N28 gg1
  have O32 := O29.wr W31 gg1
  obtain ⟨T33, X33, e33, st33⟩ := getS2 X31 hx hZ hown (host := "") (Or.inl (wk24 hw)) Via.refl e31 ((wd20 hW).ext O32.2) (g := (mkF m 72 #[.val (.int p0), .unset, .unset, .unset] [(.int (10 : Int32)), (.ref b1), (.ref b1)])) rfl (hb hby at_72)
  obtain ⟨cl34, Ar34, cw34, S34, Nn34, Hs34, G34⟩ := id (V31)
  have hin34 : ¬ ((10 : Int32) < 0 ∨ cl34.slots.size ≤ ((10 : Int32)).toNatClampNeg) := inb_of S34 ⟨by decide, by decide⟩
  obtain ⟨T34, h34, X34, e34, W34, st34⟩ := stR X33 hx hZ e33 Ar34 (j := (10 : Int32)) hin34 rfl (Sto.ofV Ar34 cw34 Ov1 (Ins.self ((wd21 hW).ext O32.2))) (g := (mkF m 75 #[.val (.int p0), .unset, .unset, .unset] [(.ref (w 10)), (.int (10 : Int32)), (.ref b1), (.ref b1)])) rfl rfl (hb hby at_75)
  have V34 : Arv Z h34 b1 k1 (.object "com/example/weftcheck/weftcheck/OperationKind") (13 : Int32) [(.ref (w 0)), (.ref (w 1)), (.ref (w 2)), (.ref (w 3)), (.ref (w 4)), (.ref (w 5)), (.ref (w 6)), (.ref (w 7)), (.ref (w 8)), (.ref (w 9)), (.ref (w 10)), .null, .null] .null := own_set Ar34 cw34 S34 Nn34 Hs34 G34 rfl W34 10 rfl (Nat.le_of_ble_eq_true rfl) (.ref (w 10)) rfl _ rfl
  have N34 := Fr.snoc X34 N31 gg1
  have O35 := O32.wr W34 gg1
  obtain ⟨T36, X36, e36, st36⟩ := getS2 X34 hx hZ hown (host := "") (Or.inl (wk26 hw)) Via.refl e34 ((wd22 hW).ext O35.2) (g := (mkF m 79 #[.val (.int p0), .unset, .unset, .unset] [(.int (11 : Int32)), (.ref b1), (.ref b1)])) rfl (hb hby at_79)
  obtain ⟨cl37, Ar37, cw37, S37, Nn37, Hs37, G37⟩ := id (V34)
  have hin37 : ¬ ((11 : Int32) < 0 ∨ cl37.slots.size ≤ ((11 : Int32)).toNatClampNeg) := inb_of S37 ⟨by decide, by decide⟩
  obtain ⟨T37, h37, X37, e37, W37, st37⟩ := stR X36 hx hZ e36 Ar37 (j := (11 : Int32)) hin37 rfl (Sto.ofV Ar37 cw37 Ov1 (Ins.self ((wd23 hW).ext O35.2))) (g := (mkF m 82 #[.val (.int p0), .unset, .unset, .unset] [(.ref (w 11)), (.int (11 : Int32)), (.ref b1), (.ref b1)])) rfl rfl (hb hby at_82)
  have V37 : Arv Z h37 b1 k1 (.object "com/example/weftcheck/weftcheck/OperationKind") (13 : Int32) [(.ref (w 0)), (.ref (w 1)), (.ref (w 2)), (.ref (w 3)), (.ref (w 4)), (.ref (w 5)), (.ref (w 6)), (.ref (w 7)), (.ref (w 8)), (.ref (w 9)), (.ref (w 10)), (.ref (w 11)), .null] .null := own_set Ar37 cw37 S37 Nn37 Hs37 G37 rfl W37 11 rfl (Nat.le_of_ble_eq_true rfl) (.ref (w 11)) rfl _ rfl
  have N37 := Fr.snoc X37 N34 gg1
  have O38 := O35.wr W37 gg1
  obtain ⟨T39, X39, e39, st39⟩ := getS2 X37 hx hZ hown (host := "") (Or.inl (wk28 hw)) Via.refl e37 ((wd24 hW).ext O38.2) (g := (mkF m 86 #[.val (.int p0), .unset, .unset, .unset] [(.int (12 : Int32)), (.ref b1), (.ref b1)])) rfl (hb hby at_86)
  obtain ⟨cl40, Ar40, cw40, S40, Nn40, Hs40, G40⟩ := id (V37)
  have hin40 : ¬ ((12 : Int32) < 0 ∨ cl40.slots.size ≤ ((12 : Int32)).toNatClampNeg) := inb_of S40 ⟨by decide, by decide⟩
  obtain ⟨T40, h40, X40, e40, W40, st40⟩ := stR X39 hx hZ e39 Ar40 (j := (12 : Int32)) hin40 rfl (Sto.ofV Ar40 cw40 Ov1 (Ins.self ((wd25 hW).ext O38.2))) (g := (mkF m 89 #[.val (.int p0), .unset, .unset, .unset] [(.ref (w 12)), (.int (12 : Int32)), (.ref b1), (.ref b1)])) rfl rfl (hb hby at_89)
  have V40 : Arv Z h40 b1 k1 (.object "com/example/weftcheck/weftcheck/OperationKind") (13 : Int32) [(.ref (w 0)), (.ref (w 1)), (.ref (w 2)), (.ref (w 3)), (.ref (w 4)), (.ref (w 5)), (.ref (w 6)), (.ref (w 7)), (.ref (w 8)), (.ref (w 9)), (.ref (w 10)), (.ref (w 11)), (.ref (w 12))] .null := own_set Ar40 cw40 S40 Nn40 Hs40 G40 rfl W40 12 rfl (Nat.le_of_ble_eq_true rfl) (.ref (w 12)) rfl _ rfl
  have N40 := Fr.snoc X40 N37 gg1
  have O41 := O38.wr W40 gg1
  obtain ⟨T42, h42, k42, X42, e42, E42, A42, st42⟩ := newP (aty := .boolean) X40 hx hZ (wk30 hw) e40 (g := (mkF m 93 #[.val (.int p0), .val (.ref b1), .unset, .unset] [(.int (13 : Int32))])) rfl (hb hby at_93) rfl (by decide) (cap := 13) (by decide) (by decide) (by decide) (by decide)
  obtain ⟨b42, g42⟩ : ∃ z, z = h40.size := ⟨_, rfl⟩
  rw [← g42] at A42 st42
  have gg42 : n0 ≤ b42 := by rw [← O41.1, g42]; exact O41.2.1
  have O43 := O41.ext E42
  have V42 : Arv Z h42 b42 k42 .boolean (13 : Int32) [(.int (0 : Int32)), (.int (0 : Int32)), (.int (0 : Int32)), (.int (0 : Int32)), (.int (0 : Int32)), (.int (0 : Int32)), (.int (0 : Int32)), (.int (0 : Int32)), (.int (0 : Int32)), (.int (0 : Int32)), (.int (0 : Int32)), (.int (0 : Int32)), (.int (0 : Int32))] (.int (0 : Int32)) := own_pad (dv := (.int (0 : Int32))) (Arv.new A42 (by decide)) 13 _ rfl
  obtain ⟨cl44, Ar44, cw44, S44, Nn44, Hs44, G44⟩ := id (V42)
  have hin44 : ¬ ((0 : Int32) < 0 ∨ cl44.slots.size ≤ ((0 : Int32)).toNatClampNeg) := inb_of S44 ⟨by decide, by decide⟩
  obtain ⟨T44, h44, X44, e44, W44, st44⟩ := stZ X42 hx hZ e42 Ar44 (j := (0 : Int32)) hin44 (g := (mkF m 98 #[.val (.int p0), .val (.ref b1), .unset, .unset] [(.int (0 : Int32)), (.int (0 : Int32)), (.ref b42), (.ref b42)])) rfl rfl (hb hby at_98)
  have V44 : Arv Z h44 b42 k42 .boolean (13 : Int32) [(.int (0 : Int32)), (.int (0 : Int32)), (.int (0 : Int32)), (.int (0 : Int32)), (.int (0 : Int32)), (.int (0 : Int32)), (.int (0 : Int32)), (.int (0 : Int32)), (.int (0 : Int32)), (.int (0 : Int32)), (.int (0 : Int32)), (.int (0 : Int32)), (.int (0 : Int32))] (.int (0 : Int32)) := own_set Ar44 cw44 S44 Nn44 Hs44 G44 (fits_nar_bool _) W44 0 rfl (Nat.le_of_ble_eq_true rfl) (.int (0 : Int32)) (congrArg Value.int (by decide)) _ rfl
  have N44 := Fr.snoc X44 N40 gg42
  have O45 := O43.wr W44 gg42
  obtain ⟨cl46, Ar46, cw46, S46, Nn46, Hs46, G46⟩ := id (V44)
  have hin46 : ¬ ((1 : Int32) < 0 ∨ cl46.slots.size ≤ ((1 : Int32)).toNatClampNeg) := inb_of S46 ⟨by decide, by decide⟩
  obtain ⟨T46, h46, X46, e46, W46, st46⟩ := stZ X44 hx hZ e44 Ar46 (j := (1 : Int32)) hin46 (g := (mkF m 102 #[.val (.int p0), .val (.ref b1), .unset, .unset] [(.int (0 : Int32)), (.int (1 : Int32)), (.ref b42), (.ref b42)])) rfl rfl (hb hby at_102)
  have V46 : Arv Z h46 b42 k42 .boolean (13 : Int32) [(.int (0 : Int32)), (.int (0 : Int32)), (.int (0 : Int32)), (.int (0 : Int32)), (.int (0 : Int32)), (.int (0 : Int32)), (.int (0 : Int32)), (.int (0 : Int32)), (.int (0 : Int32)), (.int (0 : Int32)), (.int (0 : Int32)), (.int (0 : Int32)), (.int (0 : Int32))] (.int (0 : Int32)) := own_set Ar46 cw46 S46 Nn46 Hs46 G46 (fits_nar_bool _) W46 1 rfl (Nat.le_of_ble_eq_true rfl) (.int (0 : Int32)) (congrArg Value.int (by decide)) _ rfl
  have N46 := Fr.snoc X46 N44 gg42
  have O47 := O45.wr W46 gg42
  obtain ⟨cl48, Ar48, cw48, S48, Nn48, Hs48, G48⟩ := id (V46)
  have hin48 : ¬ ((2 : Int32) < 0 ∨ cl48.slots.size ≤ ((2 : Int32)).toNatClampNeg) := inb_of S48 ⟨by decide, by decide⟩
  obtain ⟨T48, h48, X48, e48, W48, st48⟩ := stZ X46 hx hZ e46 Ar48 (j := (2 : Int32)) hin48 (g := (mkF m 106 #[.val (.int p0), .val (.ref b1), .unset, .unset] [(.int (0 : Int32)), (.int (2 : Int32)), (.ref b42), (.ref b42)])) rfl rfl (hb hby at_106)
  have V48 : Arv Z h48 b42 k42 .boolean (13 : Int32) [(.int (0 : Int32)), (.int (0 : Int32)), (.int (0 : Int32)), (.int (0 : Int32)), (.int (0 : Int32)), (.int (0 : Int32)), (.int (0 : Int32)), (.int (0 : Int32)), (.int (0 : Int32)), (.int (0 : Int32)), (.int (0 : Int32)), (.int (0 : Int32)), (.int (0 : Int32))] (.int (0 : Int32)) := own_set Ar48 cw48 S48 Nn48 Hs48 G48 (fits_nar_bool _) W48 2 rfl (Nat.le_of_ble_eq_true rfl) (.int (0 : Int32)) (congrArg Value.int (by decide)) _ rfl
  have N48 := Fr.snoc X48 N46 gg42
  have O49 := O47.wr W48 gg42
  obtain ⟨cl50, Ar50, cw50, S50, Nn50, Hs50, G50⟩ := id (V48)
  have hin50 : ¬ ((3 : Int32) < 0 ∨ cl50.slots.size ≤ ((3 : Int32)).toNatClampNeg) := inb_of S50 ⟨by decide, by decide⟩
  obtain ⟨T50, h50, X50, e50, W50, st50⟩ := stZ X48 hx hZ e48 Ar50 (j := (3 : Int32)) hin50 (g := (mkF m 110 #[.val (.int p0), .val (.ref b1), .unset, .unset] [(.int (1 : Int32)), (.int (3 : Int32)), (.ref b42), (.ref b42)])) rfl rfl (hb hby at_110)
  have V50 : Arv Z h50 b42 k42 .boolean (13 : Int32) [(.int (0 : Int32)), (.int (0 : Int32)), (.int (0 : Int32)), (.int (1 : Int32)), (.int (0 : Int32)), (.int (0 : Int32)), (.int (0 : Int32)), (.int (0 : Int32)), (.int (0 : Int32)), (.int (0 : Int32)), (.int (0 : Int32)), (.int (0 : Int32)), (.int (0 : Int32))] (.int (0 : Int32)) := own_set Ar50 cw50 S50 Nn50 Hs50 G50 (fits_nar_bool _) W50 3 rfl (Nat.le_of_ble_eq_true rfl) (.int (1 : Int32)) (congrArg Value.int (by decide)) _ rfl
  have N50 := Fr.snoc X50 N48 gg42
  have O51 := O49.wr W50 gg42
  obtain ⟨cl52, Ar52, cw52, S52, Nn52, Hs52, G52⟩ := id (V50)
  have hin52 : ¬ ((4 : Int32) < 0 ∨ cl52.slots.size ≤ ((4 : Int32)).toNatClampNeg) := inb_of S52 ⟨by decide, by decide⟩
  obtain ⟨T52, h52, X52, e52, W52, st52⟩ := stZ X50 hx hZ e50 Ar52 (j := (4 : Int32)) hin52 (g := (mkF m 114 #[.val (.int p0), .val (.ref b1), .unset, .unset] [(.int (0 : Int32)), (.int (4 : Int32)), (.ref b42), (.ref b42)])) rfl rfl (hb hby at_114)
  have V52 : Arv Z h52 b42 k42 .boolean (13 : Int32) [(.int (0 : Int32)), (.int (0 : Int32)), (.int (0 : Int32)), (.int (1 : Int32)), (.int (0 : Int32)), (.int (0 : Int32)), (.int (0 : Int32)), (.int (0 : Int32)), (.int (0 : Int32)), (.int (0 : Int32)), (.int (0 : Int32)), (.int (0 : Int32)), (.int (0 : Int32))] (.int (0 : Int32)) := own_set Ar52 cw52 S52 Nn52 Hs52 G52 (fits_nar_bool _) W52 4 rfl (Nat.le_of_ble_eq_true rfl) (.int (0 : Int32)) (congrArg Value.int (by decide)) _ rfl
  have N52 := Fr.snoc X52 N50 gg42
  have O53 := O51.wr W52 gg42
  obtain ⟨cl54, Ar54, cw54, S54, Nn54, Hs54, G54⟩ := id (V52)
  have hin54 : ¬ ((5 : Int32) < 0 ∨ cl54.slots.size ≤ ((5 : Int32)).toNatClampNeg) := inb_of S54 ⟨by decide, by decide⟩
  obtain ⟨T54, h54, X54, e54, W54, st54⟩ := stZ X52 hx hZ e52 Ar54 (j := (5 : Int32)) hin54 (g := (mkF m 118 #[.val (.int p0), .val (.ref b1), .unset, .unset] [(.int (0 : Int32)), (.int (5 : Int32)), (.ref b42), (.ref b42)])) rfl rfl (hb hby at_118)
  have V54 : Arv Z h54 b42 k42 .boolean (13 : Int32) [(.int (0 : Int32)), (.int (0 : Int32)), (.int (0 : Int32)), (.int (1 : Int32)), (.int (0 : Int32)), (.int (0 : Int32)), (.int (0 : Int32)), (.int (0 : Int32)), (.int (0 : Int32)), (.int (0 : Int32)), (.int (0 : Int32)), (.int (0 : Int32)), (.int (0 : Int32))] (.int (0 : Int32)) := own_set Ar54 cw54 S54 Nn54 Hs54 G54 (fits_nar_bool _) W54 5 rfl (Nat.le_of_ble_eq_true rfl) (.int (0 : Int32)) (congrArg Value.int (by decide)) _ rfl
  have N54 := Fr.snoc X54 N52 gg42
  have O55 := O53.wr W54 gg42
  obtain ⟨cl56, Ar56, cw56, S56, Nn56, Hs56, G56⟩ := id (V54)
  have hin56 : ¬ ((6 : Int32) < 0 ∨ cl56.slots.size ≤ ((6 : Int32)).toNatClampNeg) := inb_of S56 ⟨by decide, by decide⟩
  obtain ⟨T56, h56, X56, e56, W56, st56⟩ := stZ X54 hx hZ e54 Ar56 (j := (6 : Int32)) hin56 (g := (mkF m 123 #[.val (.int p0), .val (.ref b1), .unset, .unset] [(.int (0 : Int32)), (.int (6 : Int32)), (.ref b42), (.ref b42)])) rfl rfl (hb hby at_123)
  have V56 : Arv Z h56 b42 k42 .boolean (13 : Int32) [(.int (0 : Int32)), (.int (0 : Int32)), (.int (0 : Int32)), (.int (1 : Int32)), (.int (0 : Int32)), (.int (0 : Int32)), (.int (0 : Int32)), (.int (0 : Int32)), (.int (0 : Int32)), (.int (0 : Int32)), (.int (0 : Int32)), (.int (0 : Int32)), (.int (0 : Int32))] (.int (0 : Int32)) := own_set Ar56 cw56 S56 Nn56 Hs56 G56 (fits_nar_bool _) W56 6 rfl (Nat.le_of_ble_eq_true rfl) (.int (0 : Int32)) (congrArg Value.int (by decide)) _ rfl
  have N56 := Fr.snoc X56 N54 gg42
  have O57 := O55.wr W56 gg42
  obtain ⟨cl58, Ar58, cw58, S58, Nn58, Hs58, G58⟩ := id (V56)
  have hin58 : ¬ ((7 : Int32) < 0 ∨ cl58.slots.size ≤ ((7 : Int32)).toNatClampNeg) := inb_of S58 ⟨by decide, by decide⟩
  obtain ⟨T58, h58, X58, e58, W58, st58⟩ := stZ X56 hx hZ e56 Ar58 (j := (7 : Int32)) hin58 (g := (mkF m 128 #[.val (.int p0), .val (.ref b1), .unset, .unset] [(.int (0 : Int32)), (.int (7 : Int32)), (.ref b42), (.ref b42)])) rfl rfl (hb hby at_128)
  have V58 : Arv Z h58 b42 k42 .boolean (13 : Int32) [(.int (0 : Int32)), (.int (0 : Int32)), (.int (0 : Int32)), (.int (1 : Int32)), (.int (0 : Int32)), (.int (0 : Int32)), (.int (0 : Int32)), (.int (0 : Int32)), (.int (0 : Int32)), (.int (0 : Int32)), (.int (0 : Int32)), (.int (0 : Int32)), (.int (0 : Int32))] (.int (0 : Int32)) := own_set Ar58 cw58 S58 Nn58 Hs58 G58 (fits_nar_bool _) W58 7 rfl (Nat.le_of_ble_eq_true rfl) (.int (0 : Int32)) (congrArg Value.int (by decide)) _ rfl
  have N58 := Fr.snoc X58 N56 gg42
  have O59 := O57.wr W58 gg42
  obtain ⟨cl60, Ar60, cw60, S60, Nn60, Hs60, G60⟩ := id (V58)
  have hin60 : ¬ ((8 : Int32) < 0 ∨ cl60.slots.size ≤ ((8 : Int32)).toNatClampNeg) := inb_of S60 ⟨by decide, by decide⟩
  obtain ⟨T60, h60, X60, e60, W60, st60⟩ := stZ X58 hx hZ e58 Ar60 (j := (8 : Int32)) hin60 (g := (mkF m 133 #[.val (.int p0), .val (.ref b1), .unset, .unset] [(.int (1 : Int32)), (.int (8 : Int32)), (.ref b42), (.ref b42)])) rfl rfl (hb hby at_133)
  have V60 : Arv Z h60 b42 k42 .boolean (13 : Int32) [(.int (0 : Int32)), (.int (0 : Int32)), (.int (0 : Int32)), (.int (1 : Int32)), (.int (0 : Int32)), (.int (0 : Int32)), (.int (0 : Int32)), (.int (0 : Int32)), (.int (1 : Int32)), (.int (0 : Int32)), (.int (0 : Int32)), (.int (0 : Int32)), (.int (0 : Int32))] (.int (0 : Int32)) := own_set Ar60 cw60 S60 Nn60 Hs60 G60 (fits_nar_bool _) W60 8 rfl (Nat.le_of_ble_eq_true rfl) (.int (1 : Int32)) (congrArg Value.int (by decide)) _ rfl
  have N60 := Fr.snoc X60 N58 gg42
  have O61 := O59.wr W60 gg42
  obtain ⟨cl62, Ar62, cw62, S62, Nn62, Hs62, G62⟩ := id (V60)
  have hin62 : ¬ ((9 : Int32) < 0 ∨ cl62.slots.size ≤ ((9 : Int32)).toNatClampNeg) := inb_of S62 ⟨by decide, by decide⟩
  obtain ⟨T62, h62, X62, e62, W62, st62⟩ := stZ X60 hx hZ e60 Ar62 (j := (9 : Int32)) hin62 (g := (mkF m 138 #[.val (.int p0), .val (.ref b1), .unset, .unset] [(.int (0 : Int32)), (.int (9 : Int32)), (.ref b42), (.ref b42)])) rfl rfl (hb hby at_138)
  have V62 : Arv Z h62 b42 k42 .boolean (13 : Int32) [(.int (0 : Int32)), (.int (0 : Int32)), (.int (0 : Int32)), (.int (1 : Int32)), (.int (0 : Int32)), (.int (0 : Int32)), (.int (0 : Int32)), (.int (0 : Int32)), (.int (1 : Int32)), (.int (0 : Int32)), (.int (0 : Int32)), (.int (0 : Int32)), (.int (0 : Int32))] (.int (0 : Int32)) := own_set Ar62 cw62 S62 Nn62 Hs62 G62 (fits_nar_bool _) W62 9 rfl (Nat.le_of_ble_eq_true rfl) (.int (0 : Int32)) (congrArg Value.int (by decide)) _ rfl
  have N62 := Fr.snoc X62 N60 gg42
  have O63 := O61.wr W62 gg42
  obtain ⟨cl64, Ar64, cw64, S64, Nn64, Hs64, G64⟩ := id (V62)
  have hin64 : ¬ ((10 : Int32) < 0 ∨ cl64.slots.size ≤ ((10 : Int32)).toNatClampNeg) := inb_of S64 ⟨by decide, by decide⟩
  obtain ⟨T64, h64, X64, e64, W64, st64⟩ := stZ X62 hx hZ e62 Ar64 (j := (10 : Int32)) hin64 (g := (mkF m 143 #[.val (.int p0), .val (.ref b1), .unset, .unset] [(.int (1 : Int32)), (.int (10 : Int32)), (.ref b42), (.ref b42)])) rfl rfl (hb hby at_143)
  have V64 : Arv Z h64 b42 k42 .boolean (13 : Int32) [(.int (0 : Int32)), (.int (0 : Int32)), (.int (0 : Int32)), (.int (1 : Int32)), (.int (0 : Int32)), (.int (0 : Int32)), (.int (0 : Int32)), (.int (0 : Int32)), (.int (1 : Int32)), (.int (0 : Int32)), (.int (1 : Int32)), (.int (0 : Int32)), (.int (0 : Int32))] (.int (0 : Int32)) := own_set Ar64 cw64 S64 Nn64 Hs64 G64 (fits_nar_bool _) W64 10 rfl (Nat.le_of_ble_eq_true rfl) (.int (1 : Int32)) (congrArg Value.int (by decide)) _ rfl
  have N64 := Fr.snoc X64 N62 gg42
  have O65 := O63.wr W64 gg42
  obtain ⟨cl66, Ar66, cw66, S66, Nn66, Hs66, G66⟩ := id (V64)
  have hin66 : ¬ ((11 : Int32) < 0 ∨ cl66.slots.size ≤ ((11 : Int32)).toNatClampNeg) := inb_of S66 ⟨by decide, by decide⟩
  obtain ⟨T66, h66, X66, e66, W66, st66⟩ := stZ X64 hx hZ e64 Ar66 (j := (11 : Int32)) hin66 (g := (mkF m 148 #[.val (.int p0), .val (.ref b1), .unset, .unset] [(.int (0 : Int32)), (.int (11 : Int32)), (.ref b42), (.ref b42)])) rfl rfl (hb hby at_148)
  have V66 : Arv Z h66 b42 k42 .boolean (13 : Int32) [(.int (0 : Int32)), (.int (0 : Int32)), (.int (0 : Int32)), (.int (1 : Int32)), (.int (0 : Int32)), (.int (0 : Int32)), (.int (0 : Int32)), (.int (0 : Int32)), (.int (1 : Int32)), (.int (0 : Int32)), (.int (1 : Int32)), (.int (0 : Int32)), (.int (0 : Int32))] (.int (0 : Int32)) := own_set Ar66 cw66 S66 Nn66 Hs66 G66 (fits_nar_bool _) W66 11 rfl (Nat.le_of_ble_eq_true rfl) (.int (0 : Int32)) (congrArg Value.int (by decide)) _ rfl
  have N66 := Fr.snoc X66 N64 gg42
  have O67 := O65.wr W66 gg42
  obtain ⟨cl68, Ar68, cw68, S68, Nn68, Hs68, G68⟩ := id (V66)
  have hin68 : ¬ ((12 : Int32) < 0 ∨ cl68.slots.size ≤ ((12 : Int32)).toNatClampNeg) := inb_of S68 ⟨by decide, by decide⟩
  obtain ⟨T68, h68, X68, e68, W68, st68⟩ := stZ X66 hx hZ e66 Ar68 (j := (12 : Int32)) hin68 (g := (mkF m 153 #[.val (.int p0), .val (.ref b1), .unset, .unset] [(.int (0 : Int32)), (.int (12 : Int32)), (.ref b42), (.ref b42)])) rfl rfl (hb hby at_153)
  have V68 : Arv Z h68 b42 k42 .boolean (13 : Int32) [(.int (0 : Int32)), (.int (0 : Int32)), (.int (0 : Int32)), (.int (1 : Int32)), (.int (0 : Int32)), (.int (0 : Int32)), (.int (0 : Int32)), (.int (0 : Int32)), (.int (1 : Int32)), (.int (0 : Int32)), (.int (1 : Int32)), (.int (0 : Int32)), (.int (0 : Int32))] (.int (0 : Int32)) := own_set Ar68 cw68 S68 Nn68 Hs68 G68 (fits_nar_bool _) W68 12 rfl (Nat.le_of_ble_eq_true rfl) (.int (0 : Int32)) (congrArg Value.int (by decide)) _ rfl
  have N68 := Fr.snoc X68 N66 gg42
  have O69 := O67.wr W68 gg42
  let Lb70 : Array Slot := #[.val (.int p0), .val (.ref b1), .val (.ref b42), .unset]
  let Lb71 : Array Slot := #[.val (.int p0), .val (.ref b1), .val (.ref b42), .val (.int ((p0 &&& (2147483647 : Int32)) % (13 : Int32)))]
  have pre72 : ∀ t, Steps p.tables e below (T68.setTop (mkF m 165 #[.val (.int p0), .val (.ref b1), .val (.ref b42), .val (.int ((p0 &&& (2147483647 : Int32)) % (13 : Int32)))] [(.int ((p0 &&& (2147483647 : Int32)) % (13 : Int32))), (.ref b1)])) t → Steps p.tables e below (s₁.setTop (entryFrame m #[(.int p0)] maxLocals)) t := fun t k => pre0 t (by
   show Steps p.tables e below (s₁.setTop (mkF m 0 #[.val (.int p0), .unset, .unset, .unset] [])) _
   refine XS.bipush X0.here hx rfl (hb hby at_0) ?_
   refine st1 _ ?_
   refine XS.dup X1.here hx rfl (hb hby at_5) rfl rfl ?_
   refine sc X1 hx hby at_6 ?_
   refine st3 _ ?_
   refine st4 _ ?_
   refine XS.dup X4.here hx rfl (hb hby at_11) rfl rfl ?_
   refine sc X4 hx hby at_12 ?_
   refine st6 _ ?_
   refine st7 _ ?_
   refine XS.dup X7.here hx rfl (hb hby at_17) rfl rfl ?_
   refine sc X7 hx hby at_18 ?_
   refine st9 _ ?_
   refine st10 _ ?_
   refine XS.dup X10.here hx rfl (hb hby at_23) rfl rfl ?_
   refine sc X10 hx hby at_24 ?_
   refine st12 _ ?_
   refine st13 _ ?_
   refine XS.dup X13.here hx rfl (hb hby at_29) rfl rfl ?_
   refine sc X13 hx hby at_30 ?_
   refine st15 _ ?_
   refine st16 _ ?_
   refine XS.dup X16.here hx rfl (hb hby at_35) rfl rfl ?_
   refine sc X16 hx hby at_36 ?_
   refine st18 _ ?_
   refine st19 _ ?_
   refine XS.dup X19.here hx rfl (hb hby at_41) rfl rfl ?_
   refine XS.bipush X19.here hx rfl (hb hby at_42) ?_
   refine st21 _ ?_
   refine st22 _ ?_
   refine XS.dup X22.here hx rfl (hb hby at_48) rfl rfl ?_
   refine XS.bipush X22.here hx rfl (hb hby at_49) ?_
   refine st24 _ ?_
   refine st25 _ ?_
   refine XS.dup X25.here hx rfl (hb hby at_55) rfl rfl ?_
   refine XS.bipush X25.here hx rfl (hb hby at_56) ?_
   refine st27 _ ?_
   refine st28 _ ?_
   refine XS.dup X28.here hx rfl (hb hby at_62) rfl rfl ?_
   refine XS.bipush X28.here hx rfl (hb hby at_63) ?_
   refine st30 _ ?_
   refine st31 _ ?_
   refine XS.dup X31.here hx rfl (hb hby at_69) rfl rfl ?_
   refine XS.bipush X31.here hx rfl (hb hby at_70) ?_
   refine st33 _ ?_
   refine st34 _ ?_
   refine XS.dup X34.here hx rfl (hb hby at_76) rfl rfl ?_
   refine XS.bipush X34.here hx rfl (hb hby at_77) ?_
   refine st36 _ ?_
   refine st37 _ ?_
   refine XS.dup X37.here hx rfl (hb hby at_83) rfl rfl ?_
   refine XS.bipush X37.here hx rfl (hb hby at_84) ?_
   refine st39 _ ?_
   refine st40 _ ?_
   refine XS.astoreN X40.here hx rfl (hb hby at_90) rfl rfl (l' := #[.val (.int p0), .val (.ref b1), .unset, .unset]) rfl ?_
   refine XS.bipush X40.here hx rfl (hb hby at_91) ?_
   refine st42 _ ?_
   refine XS.dup X42.here hx rfl (hb hby at_95) rfl rfl ?_
   refine sc X42 hx hby at_96 ?_
   refine sc X42 hx hby at_97 ?_
   refine st44 _ ?_
   refine XS.dup X44.here hx rfl (hb hby at_99) rfl rfl ?_
   refine sc X44 hx hby at_100 ?_
   refine sc X44 hx hby at_101 ?_
   refine st46 _ ?_
   refine XS.dup X46.here hx rfl (hb hby at_103) rfl rfl ?_
   refine sc X46 hx hby at_104 ?_
   refine sc X46 hx hby at_105 ?_
   refine st48 _ ?_
   refine XS.dup X48.here hx rfl (hb hby at_107) rfl rfl ?_
   refine sc X48 hx hby at_108 ?_
   refine sc X48 hx hby at_109 ?_
   refine st50 _ ?_
   refine XS.dup X50.here hx rfl (hb hby at_111) rfl rfl ?_
   refine sc X50 hx hby at_112 ?_
   refine sc X50 hx hby at_113 ?_
   refine st52 _ ?_
   refine XS.dup X52.here hx rfl (hb hby at_115) rfl rfl ?_
   refine sc X52 hx hby at_116 ?_
   refine sc X52 hx hby at_117 ?_
   refine st54 _ ?_
   refine XS.dup X54.here hx rfl (hb hby at_119) rfl rfl ?_
   refine XS.bipush X54.here hx rfl (hb hby at_120) ?_
   refine sc X54 hx hby at_122 ?_
   refine st56 _ ?_
   refine XS.dup X56.here hx rfl (hb hby at_124) rfl rfl ?_
   refine XS.bipush X56.here hx rfl (hb hby at_125) ?_
   refine sc X56 hx hby at_127 ?_
   refine st58 _ ?_
   refine XS.dup X58.here hx rfl (hb hby at_129) rfl rfl ?_
   refine XS.bipush X58.here hx rfl (hb hby at_130) ?_
   refine sc X58 hx hby at_132 ?_
   refine st60 _ ?_
   refine XS.dup X60.here hx rfl (hb hby at_134) rfl rfl ?_
   refine XS.bipush X60.here hx rfl (hb hby at_135) ?_
   refine sc X60 hx hby at_137 ?_
   refine st62 _ ?_
   refine XS.dup X62.here hx rfl (hb hby at_139) rfl rfl ?_
   refine XS.bipush X62.here hx rfl (hb hby at_140) ?_
   refine sc X62 hx hby at_142 ?_
   refine st64 _ ?_
   refine XS.dup X64.here hx rfl (hb hby at_144) rfl rfl ?_
   refine XS.bipush X64.here hx rfl (hb hby at_145) ?_
   refine sc X64 hx hby at_147 ?_
   refine st66 _ ?_
   refine XS.dup X66.here hx rfl (hb hby at_149) rfl rfl ?_
   refine XS.bipush X66.here hx rfl (hb hby at_150) ?_
   refine sc X66 hx hby at_152 ?_
   refine st68 _ ?_
   refine XS.astoreN X68.here hx rfl (hb hby at_154) rfl rfl (l' := Lb70) rfl ?_
   refine sI X68 hx hby at_155 rfl ?_
   refine X68.ldcInt hx hown (mvT hZ (wk31 hw)) (g := (mkF m 156 Lb70 [(.int p0)])) rfl (hb hby at_156) _ ?_
   refine XS.iand X68.here hx rfl (hb hby at_158) rfl ?_
   refine XS.bipush X68.here hx rfl (hb hby at_159) ?_
   show Steps p.tables e below (T68.setTop (mkF m 161 Lb70 [(.int (13 : Int32)), (.int (p0 &&& (2147483647 : Int32)))])) _
   refine iremM X68 hx rfl (hb hby at_161) rfl (by decide) ?_
   refine XS.istoreN X68.here hx rfl (hb hby at_162) rfl (l' := Lb71) rfl ?_
   refine sA X68 hx hby at_163 rfl rfl ?_
   refine sI X68 hx hby at_164 rfl ?_
   exact k)
  rcases (own_rem13 p0) with hs73 | hs73 | hs73 | hs73 | hs73 | hs73 | hs73 | hs73 | hs73 | hs73 | hs73 | hs73 | hs73
  ·
   rw [hs73] at pre72
   let Lb74 : Array Slot := #[.val (.int p0), .val (.ref b1), .val (.ref b42), .val (.int (0 : Int32))]
   have ne75 : b1 ≠ b42 := (Nat.ne_of_lt (Nat.lt_of_lt_of_le V40.lt (Nat.le_of_eq g42.symm)))
   have t76 := ((((((((((((((V40.ext E42).other W44 ne75).other W46 ne75).other W48 ne75).other W50 ne75).other W52 ne75).other W54 ne75).other W56 ne75).other W58 ne75).other W60 ne75).other W62 ne75).other W64 ne75).other W66 ne75).other W68 ne75)
   obtain ⟨cl77, Ar77, cw77, S77, Nn77, Hs77, G77⟩ := id (t76)
   have hin77 : ¬ ((0 : Int32) < 0 ∨ cl77.slots.size ≤ ((0 : Int32)).toNatClampNeg) := inb_of S77 ⟨by decide, by decide⟩
   obtain ⟨cq78, kq78, q78a, q78b, q78c⟩ := isOf hZ e68 ((wd1 hW).ext O69.2)
   obtain ⟨_, _, ⟨T78, L78, kk78, nn78⟩, -, X78, ⟨Lc78, hQ78, l78, y78, z78⟩, st78⟩ := X68.virtualBack hx (y := ym0) (z := ym0) hown (mvT hZ (wk32 hw)) (mvT hZ (wk33 hw)) (notFace_of_selects (args := #[]) (mvT hZ (wk35 hw))) (mvT hZ (wk35 hw)) (mvT hZ (wk34 hw)) (by decide) (backOf (W := 0) (rm1_1 l Z a0 hw w hW []  h68 n0 O69 ) hZ (wk36 hw) (wk3 hw) (by decide) (by decide)) q78a q78c (g := (mkF m 166 Lb74 [(.ref (w 0))])) rfl (by rw [hml]; rfl) (Steps.refl _) (argsL := []) (rest := []) (lenOf pds_0 rfl) rfl (by show 2 * 0 + _ ≤ _; exact Nat.le_of_eq rfl) (hb hby at_166) (fun _ _ => ⟨rfl, e68, (by decide : 2 + 0 ≤ _), (by decide : 26 + 0 ≤ _)⟩)
   dsimp only [Pt.U, Pt.locs, Pt.cells, Pt.slots] at X78 l78 y78 z78 st78 hQ78
   rw [l78, y78, z78] at X78
   obtain ⟨rfl, N78q, e78⟩ := hQ78
   have N78 := Fr.app N68 N78q
   obtain ⟨cl79, Ar79, cw79, S79, Nn79, Hs79, G79⟩ := id (V68)
   have hin79 : ¬ ((0 : Int32) < 0 ∨ cl79.slots.size ≤ ((0 : Int32)).toNatClampNeg) := inb_of S79 ⟨by decide, by decide⟩
   obtain ⟨fs, hr, hrun, hended, hWm, hsame⟩ := X78.leave (v := some (.int (1 : Int32))) (fun h => by rw [Bd.returns] at h; cases h)
   refine ⟨_, _, pre72 _ ?_, hrun, hended, _, _, rfl, ?_, ⟨_, rfl⟩, hWm, hsame.mono (by decide) (by decide)⟩
   · show Steps p.tables e below (T68.setTop (mkF m 165 Lb74 [(.int (0 : Int32)), (.ref b1)])) _
     refine X68.aaload hx (j := (0 : Int32)) (v := (.ref (w 0))) (by rw [e68]; exact Ar77.1) (State.isArrayOf_alike hZ.alike Ar77.2.1) rfl Ar77.2.2 hin77 (Hs77.at hin77 rfl) (g := (mkF m 165 Lb74 [(.int (0 : Int32)), (.ref b1)])) rfl rfl (hb hby at_165) _ ?_
     refine st78.trans ?_
     refine sA X78 hx hby at_169 rfl rfl ?_
     refine sI X78 hx hby at_170 rfl ?_
     refine X78.baloadBooleans hx (j := (0 : Int32)) (v := (.int (0 : Int32))) (by rw [e78]; exact Ar79.1) (State.isArrayOf_alike hZ.alike Ar79.2.1) Ar79.2.2 hin79 (Hs79.at hin79 rfl) (g := (mkF m 171 Lb74 [(.int (0 : Int32)), (.ref b42), (.int (0 : Int32))])) rfl rfl (hb hby at_171) _ ?_
     refine sn X78 hx hby at_172 (by decide) ?_
     refine sc X78 hx hby at_175 ?_
     show Steps p.tables e below (T78.setTop (mkF m 176 Lb74 [(.int (1 : Int32))])) _
     refine sg (pc := 176) (pc' := 180) X78 hx hby at_176 (by decide) (by decide) ?_
     exact retN X78 hx (t := .boolean) Bd.returns (by simp) (hb hby at_180) hr
   · show Q0 n0 _ T78.heap _
     rw [e78]
     exact ⟨rfl, N78⟩
  ·
   rw [hs73] at pre72
   let Lb80 : Array Slot := #[.val (.int p0), .val (.ref b1), .val (.ref b42), .val (.int (1 : Int32))]
   have ne81 : b1 ≠ b42 := (Nat.ne_of_lt (Nat.lt_of_lt_of_le V40.lt (Nat.le_of_eq g42.symm)))
   have t82 := ((((((((((((((V40.ext E42).other W44 ne81).other W46 ne81).other W48 ne81).other W50 ne81).other W52 ne81).other W54 ne81).other W56 ne81).other W58 ne81).other W60 ne81).other W62 ne81).other W64 ne81).other W66 ne81).other W68 ne81)
   obtain ⟨cl83, Ar83, cw83, S83, Nn83, Hs83, G83⟩ := id (t82)
   have hin83 : ¬ ((1 : Int32) < 0 ∨ cl83.slots.size ≤ ((1 : Int32)).toNatClampNeg) := inb_of S83 ⟨by decide, by decide⟩
   obtain ⟨cq84, kq84, q84a, q84b, q84c⟩ := isOf hZ e68 ((wd3 hW).ext O69.2)
   obtain ⟨_, _, ⟨T84, L84, kk84, nn84⟩, -, X84, ⟨Lc84, hQ84, l84, y84, z84⟩, st84⟩ := X68.virtualBack hx (y := ym0) (z := ym0) hown (mvT hZ (wk32 hw)) (mvT hZ (wk33 hw)) (notFace_of_selects (args := #[]) (mvT hZ (wk35 hw))) (mvT hZ (wk35 hw)) (mvT hZ (wk34 hw)) (by decide) (backOf (W := 0) (rm1_2 l Z a0 hw w hW []  h68 n0 O69 ) hZ (wk36 hw) (wk3 hw) (by decide) (by decide)) q84a q84c (g := (mkF m 166 Lb80 [(.ref (w 1))])) rfl (by rw [hml]; rfl) (Steps.refl _) (argsL := []) (rest := []) (lenOf pds_0 rfl) rfl (by show 2 * 0 + _ ≤ _; exact Nat.le_of_eq rfl) (hb hby at_166) (fun _ _ => ⟨rfl, e68, (by decide : 2 + 0 ≤ _), (by decide : 26 + 0 ≤ _)⟩)
   dsimp only [Pt.U, Pt.locs, Pt.cells, Pt.slots] at X84 l84 y84 z84 st84 hQ84
   rw [l84, y84, z84] at X84
   obtain ⟨rfl, N84q, e84⟩ := hQ84
   have N84 := Fr.app N68 N84q
   obtain ⟨cl85, Ar85, cw85, S85, Nn85, Hs85, G85⟩ := id (V68)
   have hin85 : ¬ ((1 : Int32) < 0 ∨ cl85.slots.size ≤ ((1 : Int32)).toNatClampNeg) := inb_of S85 ⟨by decide, by decide⟩
   obtain ⟨fs, hr, hrun, hended, hWm, hsame⟩ := X84.leave (v := some (.int (1 : Int32))) (fun h => by rw [Bd.returns] at h; cases h)
   refine ⟨_, _, pre72 _ ?_, hrun, hended, _, _, rfl, ?_, ⟨_, rfl⟩, hWm, hsame.mono (by decide) (by decide)⟩
   · show Steps p.tables e below (T68.setTop (mkF m 165 Lb80 [(.int (1 : Int32)), (.ref b1)])) _
     refine X68.aaload hx (j := (1 : Int32)) (v := (.ref (w 1))) (by rw [e68]; exact Ar83.1) (State.isArrayOf_alike hZ.alike Ar83.2.1) rfl Ar83.2.2 hin83 (Hs83.at hin83 rfl) (g := (mkF m 165 Lb80 [(.int (1 : Int32)), (.ref b1)])) rfl rfl (hb hby at_165) _ ?_
     refine st84.trans ?_
     refine sA X84 hx hby at_169 rfl rfl ?_
     refine sI X84 hx hby at_170 rfl ?_
     refine X84.baloadBooleans hx (j := (1 : Int32)) (v := (.int (0 : Int32))) (by rw [e84]; exact Ar85.1) (State.isArrayOf_alike hZ.alike Ar85.2.1) Ar85.2.2 hin85 (Hs85.at hin85 rfl) (g := (mkF m 171 Lb80 [(.int (1 : Int32)), (.ref b42), (.int (0 : Int32))])) rfl rfl (hb hby at_171) _ ?_
     refine sn X84 hx hby at_172 (by decide) ?_
     refine sc X84 hx hby at_175 ?_
     show Steps p.tables e below (T84.setTop (mkF m 176 Lb80 [(.int (1 : Int32))])) _
     refine sg (pc := 176) (pc' := 180) X84 hx hby at_176 (by decide) (by decide) ?_
     exact retN X84 hx (t := .boolean) Bd.returns (by simp) (hb hby at_180) hr
   · show Q0 n0 _ T84.heap _
     rw [e84]
     exact ⟨rfl, N84⟩
  ·
   rw [hs73] at pre72
   let Lb86 : Array Slot := #[.val (.int p0), .val (.ref b1), .val (.ref b42), .val (.int (2 : Int32))]
   have ne87 : b1 ≠ b42 := (Nat.ne_of_lt (Nat.lt_of_lt_of_le V40.lt (Nat.le_of_eq g42.symm)))
   have t88 := ((((((((((((((V40.ext E42).other W44 ne87).other W46 ne87).other W48 ne87).other W50 ne87).other W52 ne87).other W54 ne87).other W56 ne87).other W58 ne87).other W60 ne87).other W62 ne87).other W64 ne87).other W66 ne87).other W68 ne87)
   obtain ⟨cl89, Ar89, cw89, S89, Nn89, Hs89, G89⟩ := id (t88)
   have hin89 : ¬ ((2 : Int32) < 0 ∨ cl89.slots.size ≤ ((2 : Int32)).toNatClampNeg) := inb_of S89 ⟨by decide, by decide⟩
   obtain ⟨cq90, kq90, q90a, q90b, q90c⟩ := isOf hZ e68 ((wd5 hW).ext O69.2)
   obtain ⟨_, _, ⟨T90, L90, kk90, nn90⟩, -, X90, ⟨Lc90, hQ90, l90, y90, z90⟩, st90⟩ := X68.virtualBack hx (y := ym0) (z := ym0) hown (mvT hZ (wk32 hw)) (mvT hZ (wk33 hw)) (notFace_of_selects (args := #[]) (mvT hZ (wk35 hw))) (mvT hZ (wk35 hw)) (mvT hZ (wk34 hw)) (by decide) (backOf (W := 0) (rm1_3 l Z a0 hw w hW []  h68 n0 O69 ) hZ (wk36 hw) (wk3 hw) (by decide) (by decide)) q90a q90c (g := (mkF m 166 Lb86 [(.ref (w 2))])) rfl (by rw [hml]; rfl) (Steps.refl _) (argsL := []) (rest := []) (lenOf pds_0 rfl) rfl (by show 2 * 0 + _ ≤ _; exact Nat.le_of_eq rfl) (hb hby at_166) (fun _ _ => ⟨rfl, e68, (by decide : 2 + 0 ≤ _), (by decide : 26 + 0 ≤ _)⟩)
   dsimp only [Pt.U, Pt.locs, Pt.cells, Pt.slots] at X90 l90 y90 z90 st90 hQ90
   rw [l90, y90, z90] at X90
   obtain ⟨rfl, N90q, e90⟩ := hQ90
   have N90 := Fr.app N68 N90q
   obtain ⟨cl91, Ar91, cw91, S91, Nn91, Hs91, G91⟩ := id (V68)
   have hin91 : ¬ ((2 : Int32) < 0 ∨ cl91.slots.size ≤ ((2 : Int32)).toNatClampNeg) := inb_of S91 ⟨by decide, by decide⟩
   obtain ⟨fs, hr, hrun, hended, hWm, hsame⟩ := X90.leave (v := some (.int (1 : Int32))) (fun h => by rw [Bd.returns] at h; cases h)
   refine ⟨_, _, pre72 _ ?_, hrun, hended, _, _, rfl, ?_, ⟨_, rfl⟩, hWm, hsame.mono (by decide) (by decide)⟩
   · show Steps p.tables e below (T68.setTop (mkF m 165 Lb86 [(.int (2 : Int32)), (.ref b1)])) _
     refine X68.aaload hx (j := (2 : Int32)) (v := (.ref (w 2))) (by rw [e68]; exact Ar89.1) (State.isArrayOf_alike hZ.alike Ar89.2.1) rfl Ar89.2.2 hin89 (Hs89.at hin89 rfl) (g := (mkF m 165 Lb86 [(.int (2 : Int32)), (.ref b1)])) rfl rfl (hb hby at_165) _ ?_
     refine st90.trans ?_
     refine sA X90 hx hby at_169 rfl rfl ?_
     refine sI X90 hx hby at_170 rfl ?_
     refine X90.baloadBooleans hx (j := (2 : Int32)) (v := (.int (0 : Int32))) (by rw [e90]; exact Ar91.1) (State.isArrayOf_alike hZ.alike Ar91.2.1) Ar91.2.2 hin91 (Hs91.at hin91 rfl) (g := (mkF m 171 Lb86 [(.int (2 : Int32)), (.ref b42), (.int (0 : Int32))])) rfl rfl (hb hby at_171) _ ?_
     refine sn X90 hx hby at_172 (by decide) ?_
     refine sc X90 hx hby at_175 ?_
     show Steps p.tables e below (T90.setTop (mkF m 176 Lb86 [(.int (1 : Int32))])) _
     refine sg (pc := 176) (pc' := 180) X90 hx hby at_176 (by decide) (by decide) ?_
     exact retN X90 hx (t := .boolean) Bd.returns (by simp) (hb hby at_180) hr
   · show Q0 n0 _ T90.heap _
     rw [e90]
     exact ⟨rfl, N90⟩
  ·
   rw [hs73] at pre72
   let Lb92 : Array Slot := #[.val (.int p0), .val (.ref b1), .val (.ref b42), .val (.int (3 : Int32))]
   have ne93 : b1 ≠ b42 := (Nat.ne_of_lt (Nat.lt_of_lt_of_le V40.lt (Nat.le_of_eq g42.symm)))
   have t94 := ((((((((((((((V40.ext E42).other W44 ne93).other W46 ne93).other W48 ne93).other W50 ne93).other W52 ne93).other W54 ne93).other W56 ne93).other W58 ne93).other W60 ne93).other W62 ne93).other W64 ne93).other W66 ne93).other W68 ne93)
   obtain ⟨cl95, Ar95, cw95, S95, Nn95, Hs95, G95⟩ := id (t94)
   have hin95 : ¬ ((3 : Int32) < 0 ∨ cl95.slots.size ≤ ((3 : Int32)).toNatClampNeg) := inb_of S95 ⟨by decide, by decide⟩
   obtain ⟨cq96, kq96, q96a, q96b, q96c⟩ := isOf hZ e68 ((wd7 hW).ext O69.2)
   obtain ⟨_, _, ⟨T96, L96, kk96, nn96⟩, -, X96, ⟨Lc96, hQ96, l96, y96, z96⟩, st96⟩ := X68.virtualBack hx (y := ym0) (z := ym0) hown (mvT hZ (wk32 hw)) (mvT hZ (wk33 hw)) (notFace_of_selects (args := #[]) (mvT hZ (wk35 hw))) (mvT hZ (wk35 hw)) (mvT hZ (wk34 hw)) (by decide) (backOf (W := 0) (rm1_4 l Z a0 hw w hW []  h68 n0 O69 ) hZ (wk36 hw) (wk3 hw) (by decide) (by decide)) q96a q96c (g := (mkF m 166 Lb92 [(.ref (w 3))])) rfl (by rw [hml]; rfl) (Steps.refl _) (argsL := []) (rest := []) (lenOf pds_0 rfl) rfl (by show 2 * 0 + _ ≤ _; exact Nat.le_of_eq rfl) (hb hby at_166) (fun _ _ => ⟨rfl, e68, (by decide : 2 + 0 ≤ _), (by decide : 26 + 0 ≤ _)⟩)
   dsimp only [Pt.U, Pt.locs, Pt.cells, Pt.slots] at X96 l96 y96 z96 st96 hQ96
   rw [l96, y96, z96] at X96
   obtain ⟨rfl, N96q, e96⟩ := hQ96
   have N96 := Fr.app N68 N96q
   obtain ⟨cl97, Ar97, cw97, S97, Nn97, Hs97, G97⟩ := id (V68)
   have hin97 : ¬ ((3 : Int32) < 0 ∨ cl97.slots.size ≤ ((3 : Int32)).toNatClampNeg) := inb_of S97 ⟨by decide, by decide⟩
   obtain ⟨fs, hr, hrun, hended, hWm, hsame⟩ := X96.leave (v := some (.int (1 : Int32))) (fun h => by rw [Bd.returns] at h; cases h)
   refine ⟨_, _, pre72 _ ?_, hrun, hended, _, _, rfl, ?_, ⟨_, rfl⟩, hWm, hsame.mono (by decide) (by decide)⟩
   · show Steps p.tables e below (T68.setTop (mkF m 165 Lb92 [(.int (3 : Int32)), (.ref b1)])) _
     refine X68.aaload hx (j := (3 : Int32)) (v := (.ref (w 3))) (by rw [e68]; exact Ar95.1) (State.isArrayOf_alike hZ.alike Ar95.2.1) rfl Ar95.2.2 hin95 (Hs95.at hin95 rfl) (g := (mkF m 165 Lb92 [(.int (3 : Int32)), (.ref b1)])) rfl rfl (hb hby at_165) _ ?_
     refine st96.trans ?_
     refine sA X96 hx hby at_169 rfl rfl ?_
     refine sI X96 hx hby at_170 rfl ?_
     refine X96.baloadBooleans hx (j := (3 : Int32)) (v := (.int (1 : Int32))) (by rw [e96]; exact Ar97.1) (State.isArrayOf_alike hZ.alike Ar97.2.1) Ar97.2.2 hin97 (Hs97.at hin97 rfl) (g := (mkF m 171 Lb92 [(.int (3 : Int32)), (.ref b42), (.int (1 : Int32))])) rfl rfl (hb hby at_171) _ ?_
     refine sn X96 hx hby at_172 (by decide) ?_
     refine sc X96 hx hby at_175 ?_
     show Steps p.tables e below (T96.setTop (mkF m 176 Lb92 [(.int (1 : Int32))])) _
     refine sg (pc := 176) (pc' := 180) X96 hx hby at_176 (by decide) (by decide) ?_
     exact retN X96 hx (t := .boolean) Bd.returns (by simp) (hb hby at_180) hr
   · show Q0 n0 _ T96.heap _
     rw [e96]
     exact ⟨rfl, N96⟩
  ·
   rw [hs73] at pre72
   let Lb98 : Array Slot := #[.val (.int p0), .val (.ref b1), .val (.ref b42), .val (.int (4 : Int32))]
   have ne99 : b1 ≠ b42 := (Nat.ne_of_lt (Nat.lt_of_lt_of_le V40.lt (Nat.le_of_eq g42.symm)))
   have t100 := ((((((((((((((V40.ext E42).other W44 ne99).other W46 ne99).other W48 ne99).other W50 ne99).other W52 ne99).other W54 ne99).other W56 ne99).other W58 ne99).other W60 ne99).other W62 ne99).other W64 ne99).other W66 ne99).other W68 ne99)
   obtain ⟨cl101, Ar101, cw101, S101, Nn101, Hs101, G101⟩ := id (t100)
   have hin101 : ¬ ((4 : Int32) < 0 ∨ cl101.slots.size ≤ ((4 : Int32)).toNatClampNeg) := inb_of S101 ⟨by decide, by decide⟩
   obtain ⟨cq102, kq102, q102a, q102b, q102c⟩ := isOf hZ e68 ((wd9 hW).ext O69.2)
   obtain ⟨_, _, ⟨T102, L102, kk102, nn102⟩, -, X102, ⟨Lc102, hQ102, l102, y102, z102⟩, st102⟩ := X68.virtualBack hx (y := ym0) (z := ym0) hown (mvT hZ (wk32 hw)) (mvT hZ (wk33 hw)) (notFace_of_selects (args := #[]) (mvT hZ (wk35 hw))) (mvT hZ (wk35 hw)) (mvT hZ (wk34 hw)) (by decide) (backOf (W := 0) (rm1_5 l Z a0 hw w hW []  h68 n0 O69 ) hZ (wk36 hw) (wk3 hw) (by decide) (by decide)) q102a q102c (g := (mkF m 166 Lb98 [(.ref (w 4))])) rfl (by rw [hml]; rfl) (Steps.refl _) (argsL := []) (rest := []) (lenOf pds_0 rfl) rfl (by show 2 * 0 + _ ≤ _; exact Nat.le_of_eq rfl) (hb hby at_166) (fun _ _ => ⟨rfl, e68, (by decide : 2 + 0 ≤ _), (by decide : 26 + 0 ≤ _)⟩)
   dsimp only [Pt.U, Pt.locs, Pt.cells, Pt.slots] at X102 l102 y102 z102 st102 hQ102
   rw [l102, y102, z102] at X102
   obtain ⟨rfl, N102q, e102⟩ := hQ102
   have N102 := Fr.app N68 N102q
   obtain ⟨cl103, Ar103, cw103, S103, Nn103, Hs103, G103⟩ := id (V68)
   have hin103 : ¬ ((4 : Int32) < 0 ∨ cl103.slots.size ≤ ((4 : Int32)).toNatClampNeg) := inb_of S103 ⟨by decide, by decide⟩
   obtain ⟨fs, hr, hrun, hended, hWm, hsame⟩ := X102.leave (v := some (.int (1 : Int32))) (fun h => by rw [Bd.returns] at h; cases h)
   refine ⟨_, _, pre72 _ ?_, hrun, hended, _, _, rfl, ?_, ⟨_, rfl⟩, hWm, hsame.mono (by decide) (by decide)⟩
   · show Steps p.tables e below (T68.setTop (mkF m 165 Lb98 [(.int (4 : Int32)), (.ref b1)])) _
     refine X68.aaload hx (j := (4 : Int32)) (v := (.ref (w 4))) (by rw [e68]; exact Ar101.1) (State.isArrayOf_alike hZ.alike Ar101.2.1) rfl Ar101.2.2 hin101 (Hs101.at hin101 rfl) (g := (mkF m 165 Lb98 [(.int (4 : Int32)), (.ref b1)])) rfl rfl (hb hby at_165) _ ?_
     refine st102.trans ?_
     refine sA X102 hx hby at_169 rfl rfl ?_
     refine sI X102 hx hby at_170 rfl ?_
     refine X102.baloadBooleans hx (j := (4 : Int32)) (v := (.int (0 : Int32))) (by rw [e102]; exact Ar103.1) (State.isArrayOf_alike hZ.alike Ar103.2.1) Ar103.2.2 hin103 (Hs103.at hin103 rfl) (g := (mkF m 171 Lb98 [(.int (4 : Int32)), (.ref b42), (.int (0 : Int32))])) rfl rfl (hb hby at_171) _ ?_
     refine sn X102 hx hby at_172 (by decide) ?_
     refine sc X102 hx hby at_175 ?_
     show Steps p.tables e below (T102.setTop (mkF m 176 Lb98 [(.int (1 : Int32))])) _
     refine sg (pc := 176) (pc' := 180) X102 hx hby at_176 (by decide) (by decide) ?_
     exact retN X102 hx (t := .boolean) Bd.returns (by simp) (hb hby at_180) hr
   · show Q0 n0 _ T102.heap _
     rw [e102]
     exact ⟨rfl, N102⟩
  ·
   rw [hs73] at pre72
   let Lb104 : Array Slot := #[.val (.int p0), .val (.ref b1), .val (.ref b42), .val (.int (5 : Int32))]
   have ne105 : b1 ≠ b42 := (Nat.ne_of_lt (Nat.lt_of_lt_of_le V40.lt (Nat.le_of_eq g42.symm)))
   have t106 := ((((((((((((((V40.ext E42).other W44 ne105).other W46 ne105).other W48 ne105).other W50 ne105).other W52 ne105).other W54 ne105).other W56 ne105).other W58 ne105).other W60 ne105).other W62 ne105).other W64 ne105).other W66 ne105).other W68 ne105)
   obtain ⟨cl107, Ar107, cw107, S107, Nn107, Hs107, G107⟩ := id (t106)
   have hin107 : ¬ ((5 : Int32) < 0 ∨ cl107.slots.size ≤ ((5 : Int32)).toNatClampNeg) := inb_of S107 ⟨by decide, by decide⟩
   obtain ⟨cq108, kq108, q108a, q108b, q108c⟩ := isOf hZ e68 ((wd11 hW).ext O69.2)
   obtain ⟨_, _, ⟨T108, L108, kk108, nn108⟩, -, X108, ⟨Lc108, hQ108, l108, y108, z108⟩, st108⟩ := X68.virtualBack hx (y := ym0) (z := ym0) hown (mvT hZ (wk32 hw)) (mvT hZ (wk33 hw)) (notFace_of_selects (args := #[]) (mvT hZ (wk35 hw))) (mvT hZ (wk35 hw)) (mvT hZ (wk34 hw)) (by decide) (backOf (W := 0) (rm1_6 l Z a0 hw w hW []  h68 n0 O69 ) hZ (wk36 hw) (wk3 hw) (by decide) (by decide)) q108a q108c (g := (mkF m 166 Lb104 [(.ref (w 5))])) rfl (by rw [hml]; rfl) (Steps.refl _) (argsL := []) (rest := []) (lenOf pds_0 rfl) rfl (by show 2 * 0 + _ ≤ _; exact Nat.le_of_eq rfl) (hb hby at_166) (fun _ _ => ⟨rfl, e68, (by decide : 2 + 0 ≤ _), (by decide : 26 + 0 ≤ _)⟩)
   dsimp only [Pt.U, Pt.locs, Pt.cells, Pt.slots] at X108 l108 y108 z108 st108 hQ108
   rw [l108, y108, z108] at X108
   obtain ⟨rfl, N108q, e108⟩ := hQ108
   have N108 := Fr.app N68 N108q
   obtain ⟨cl109, Ar109, cw109, S109, Nn109, Hs109, G109⟩ := id (V68)
   have hin109 : ¬ ((5 : Int32) < 0 ∨ cl109.slots.size ≤ ((5 : Int32)).toNatClampNeg) := inb_of S109 ⟨by decide, by decide⟩
   obtain ⟨fs, hr, hrun, hended, hWm, hsame⟩ := X108.leave (v := some (.int (1 : Int32))) (fun h => by rw [Bd.returns] at h; cases h)
   refine ⟨_, _, pre72 _ ?_, hrun, hended, _, _, rfl, ?_, ⟨_, rfl⟩, hWm, hsame.mono (by decide) (by decide)⟩
   · show Steps p.tables e below (T68.setTop (mkF m 165 Lb104 [(.int (5 : Int32)), (.ref b1)])) _
     refine X68.aaload hx (j := (5 : Int32)) (v := (.ref (w 5))) (by rw [e68]; exact Ar107.1) (State.isArrayOf_alike hZ.alike Ar107.2.1) rfl Ar107.2.2 hin107 (Hs107.at hin107 rfl) (g := (mkF m 165 Lb104 [(.int (5 : Int32)), (.ref b1)])) rfl rfl (hb hby at_165) _ ?_
     refine st108.trans ?_
     refine sA X108 hx hby at_169 rfl rfl ?_
     refine sI X108 hx hby at_170 rfl ?_
     refine X108.baloadBooleans hx (j := (5 : Int32)) (v := (.int (0 : Int32))) (by rw [e108]; exact Ar109.1) (State.isArrayOf_alike hZ.alike Ar109.2.1) Ar109.2.2 hin109 (Hs109.at hin109 rfl) (g := (mkF m 171 Lb104 [(.int (5 : Int32)), (.ref b42), (.int (0 : Int32))])) rfl rfl (hb hby at_171) _ ?_
     refine sn X108 hx hby at_172 (by decide) ?_
     refine sc X108 hx hby at_175 ?_
     show Steps p.tables e below (T108.setTop (mkF m 176 Lb104 [(.int (1 : Int32))])) _
     refine sg (pc := 176) (pc' := 180) X108 hx hby at_176 (by decide) (by decide) ?_
     exact retN X108 hx (t := .boolean) Bd.returns (by simp) (hb hby at_180) hr
   · show Q0 n0 _ T108.heap _
     rw [e108]
     exact ⟨rfl, N108⟩
  ·
   rw [hs73] at pre72
   let Lb110 : Array Slot := #[.val (.int p0), .val (.ref b1), .val (.ref b42), .val (.int (6 : Int32))]
   have ne111 : b1 ≠ b42 := (Nat.ne_of_lt (Nat.lt_of_lt_of_le V40.lt (Nat.le_of_eq g42.symm)))
   have t112 := ((((((((((((((V40.ext E42).other W44 ne111).other W46 ne111).other W48 ne111).other W50 ne111).other W52 ne111).other W54 ne111).other W56 ne111).other W58 ne111).other W60 ne111).other W62 ne111).other W64 ne111).other W66 ne111).other W68 ne111)
   obtain ⟨cl113, Ar113, cw113, S113, Nn113, Hs113, G113⟩ := id (t112)
   have hin113 : ¬ ((6 : Int32) < 0 ∨ cl113.slots.size ≤ ((6 : Int32)).toNatClampNeg) := inb_of S113 ⟨by decide, by decide⟩
   obtain ⟨cq114, kq114, q114a, q114b, q114c⟩ := isOf hZ e68 ((wd13 hW).ext O69.2)
   obtain ⟨_, _, ⟨T114, L114, kk114, nn114⟩, -, X114, ⟨Lc114, hQ114, l114, y114, z114⟩, st114⟩ := X68.virtualBack hx (y := ym0) (z := ym0) hown (mvT hZ (wk32 hw)) (mvT hZ (wk33 hw)) (notFace_of_selects (args := #[]) (mvT hZ (wk35 hw))) (mvT hZ (wk35 hw)) (mvT hZ (wk34 hw)) (by decide) (backOf (W := 0) (rm1_7 l Z a0 hw w hW []  h68 n0 O69 ) hZ (wk36 hw) (wk3 hw) (by decide) (by decide)) q114a q114c (g := (mkF m 166 Lb110 [(.ref (w 6))])) rfl (by rw [hml]; rfl) (Steps.refl _) (argsL := []) (rest := []) (lenOf pds_0 rfl) rfl (by show 2 * 0 + _ ≤ _; exact Nat.le_of_eq rfl) (hb hby at_166) (fun _ _ => ⟨rfl, e68, (by decide : 2 + 0 ≤ _), (by decide : 26 + 0 ≤ _)⟩)
   dsimp only [Pt.U, Pt.locs, Pt.cells, Pt.slots] at X114 l114 y114 z114 st114 hQ114
   rw [l114, y114, z114] at X114
   obtain ⟨rfl, N114q, e114⟩ := hQ114
   have N114 := Fr.app N68 N114q
   obtain ⟨cl115, Ar115, cw115, S115, Nn115, Hs115, G115⟩ := id (V68)
   have hin115 : ¬ ((6 : Int32) < 0 ∨ cl115.slots.size ≤ ((6 : Int32)).toNatClampNeg) := inb_of S115 ⟨by decide, by decide⟩
   obtain ⟨fs, hr, hrun, hended, hWm, hsame⟩ := X114.leave (v := some (.int (1 : Int32))) (fun h => by rw [Bd.returns] at h; cases h)
   refine ⟨_, _, pre72 _ ?_, hrun, hended, _, _, rfl, ?_, ⟨_, rfl⟩, hWm, hsame.mono (by decide) (by decide)⟩
   · show Steps p.tables e below (T68.setTop (mkF m 165 Lb110 [(.int (6 : Int32)), (.ref b1)])) _
     refine X68.aaload hx (j := (6 : Int32)) (v := (.ref (w 6))) (by rw [e68]; exact Ar113.1) (State.isArrayOf_alike hZ.alike Ar113.2.1) rfl Ar113.2.2 hin113 (Hs113.at hin113 rfl) (g := (mkF m 165 Lb110 [(.int (6 : Int32)), (.ref b1)])) rfl rfl (hb hby at_165) _ ?_
     refine st114.trans ?_
     refine sA X114 hx hby at_169 rfl rfl ?_
     refine sI X114 hx hby at_170 rfl ?_
     refine X114.baloadBooleans hx (j := (6 : Int32)) (v := (.int (0 : Int32))) (by rw [e114]; exact Ar115.1) (State.isArrayOf_alike hZ.alike Ar115.2.1) Ar115.2.2 hin115 (Hs115.at hin115 rfl) (g := (mkF m 171 Lb110 [(.int (6 : Int32)), (.ref b42), (.int (0 : Int32))])) rfl rfl (hb hby at_171) _ ?_
     refine sn X114 hx hby at_172 (by decide) ?_
     refine sc X114 hx hby at_175 ?_
     show Steps p.tables e below (T114.setTop (mkF m 176 Lb110 [(.int (1 : Int32))])) _
     refine sg (pc := 176) (pc' := 180) X114 hx hby at_176 (by decide) (by decide) ?_
     exact retN X114 hx (t := .boolean) Bd.returns (by simp) (hb hby at_180) hr
   · show Q0 n0 _ T114.heap _
     rw [e114]
     exact ⟨rfl, N114⟩
  ·
   rw [hs73] at pre72
   let Lb116 : Array Slot := #[.val (.int p0), .val (.ref b1), .val (.ref b42), .val (.int (7 : Int32))]
   have ne117 : b1 ≠ b42 := (Nat.ne_of_lt (Nat.lt_of_lt_of_le V40.lt (Nat.le_of_eq g42.symm)))
   have t118 := ((((((((((((((V40.ext E42).other W44 ne117).other W46 ne117).other W48 ne117).other W50 ne117).other W52 ne117).other W54 ne117).other W56 ne117).other W58 ne117).other W60 ne117).other W62 ne117).other W64 ne117).other W66 ne117).other W68 ne117)
   obtain ⟨cl119, Ar119, cw119, S119, Nn119, Hs119, G119⟩ := id (t118)
   have hin119 : ¬ ((7 : Int32) < 0 ∨ cl119.slots.size ≤ ((7 : Int32)).toNatClampNeg) := inb_of S119 ⟨by decide, by decide⟩
   obtain ⟨cq120, kq120, q120a, q120b, q120c⟩ := isOf hZ e68 ((wd15 hW).ext O69.2)
   obtain ⟨_, _, ⟨T120, L120, kk120, nn120⟩, -, X120, ⟨Lc120, hQ120, l120, y120, z120⟩, st120⟩ := X68.virtualBack hx (y := ym0) (z := ym0) hown (mvT hZ (wk32 hw)) (mvT hZ (wk33 hw)) (notFace_of_selects (args := #[]) (mvT hZ (wk35 hw))) (mvT hZ (wk35 hw)) (mvT hZ (wk34 hw)) (by decide) (backOf (W := 0) (rm1_8 l Z a0 hw w hW []  h68 n0 O69 ) hZ (wk36 hw) (wk3 hw) (by decide) (by decide)) q120a q120c (g := (mkF m 166 Lb116 [(.ref (w 7))])) rfl (by rw [hml]; rfl) (Steps.refl _) (argsL := []) (rest := []) (lenOf pds_0 rfl) rfl (by show 2 * 0 + _ ≤ _; exact Nat.le_of_eq rfl) (hb hby at_166) (fun _ _ => ⟨rfl, e68, (by decide : 2 + 0 ≤ _), (by decide : 26 + 0 ≤ _)⟩)
   dsimp only [Pt.U, Pt.locs, Pt.cells, Pt.slots] at X120 l120 y120 z120 st120 hQ120
   rw [l120, y120, z120] at X120
   obtain ⟨rfl, N120q, e120⟩ := hQ120
   have N120 := Fr.app N68 N120q
   obtain ⟨cl121, Ar121, cw121, S121, Nn121, Hs121, G121⟩ := id (V68)
   have hin121 : ¬ ((7 : Int32) < 0 ∨ cl121.slots.size ≤ ((7 : Int32)).toNatClampNeg) := inb_of S121 ⟨by decide, by decide⟩
   obtain ⟨fs, hr, hrun, hended, hWm, hsame⟩ := X120.leave (v := some (.int (1 : Int32))) (fun h => by rw [Bd.returns] at h; cases h)
   refine ⟨_, _, pre72 _ ?_, hrun, hended, _, _, rfl, ?_, ⟨_, rfl⟩, hWm, hsame.mono (by decide) (by decide)⟩
   · show Steps p.tables e below (T68.setTop (mkF m 165 Lb116 [(.int (7 : Int32)), (.ref b1)])) _
     refine X68.aaload hx (j := (7 : Int32)) (v := (.ref (w 7))) (by rw [e68]; exact Ar119.1) (State.isArrayOf_alike hZ.alike Ar119.2.1) rfl Ar119.2.2 hin119 (Hs119.at hin119 rfl) (g := (mkF m 165 Lb116 [(.int (7 : Int32)), (.ref b1)])) rfl rfl (hb hby at_165) _ ?_
     refine st120.trans ?_
     refine sA X120 hx hby at_169 rfl rfl ?_
     refine sI X120 hx hby at_170 rfl ?_
     refine X120.baloadBooleans hx (j := (7 : Int32)) (v := (.int (0 : Int32))) (by rw [e120]; exact Ar121.1) (State.isArrayOf_alike hZ.alike Ar121.2.1) Ar121.2.2 hin121 (Hs121.at hin121 rfl) (g := (mkF m 171 Lb116 [(.int (7 : Int32)), (.ref b42), (.int (0 : Int32))])) rfl rfl (hb hby at_171) _ ?_
     refine sn X120 hx hby at_172 (by decide) ?_
     refine sc X120 hx hby at_175 ?_
     show Steps p.tables e below (T120.setTop (mkF m 176 Lb116 [(.int (1 : Int32))])) _
     refine sg (pc := 176) (pc' := 180) X120 hx hby at_176 (by decide) (by decide) ?_
     exact retN X120 hx (t := .boolean) Bd.returns (by simp) (hb hby at_180) hr
   · show Q0 n0 _ T120.heap _
     rw [e120]
     exact ⟨rfl, N120⟩
  ·
   rw [hs73] at pre72
   let Lb122 : Array Slot := #[.val (.int p0), .val (.ref b1), .val (.ref b42), .val (.int (8 : Int32))]
   have ne123 : b1 ≠ b42 := (Nat.ne_of_lt (Nat.lt_of_lt_of_le V40.lt (Nat.le_of_eq g42.symm)))
   have t124 := ((((((((((((((V40.ext E42).other W44 ne123).other W46 ne123).other W48 ne123).other W50 ne123).other W52 ne123).other W54 ne123).other W56 ne123).other W58 ne123).other W60 ne123).other W62 ne123).other W64 ne123).other W66 ne123).other W68 ne123)
   obtain ⟨cl125, Ar125, cw125, S125, Nn125, Hs125, G125⟩ := id (t124)
   have hin125 : ¬ ((8 : Int32) < 0 ∨ cl125.slots.size ≤ ((8 : Int32)).toNatClampNeg) := inb_of S125 ⟨by decide, by decide⟩
   obtain ⟨cq126, kq126, q126a, q126b, q126c⟩ := isOf hZ e68 ((wd17 hW).ext O69.2)
   obtain ⟨_, _, ⟨T126, L126, kk126, nn126⟩, -, X126, ⟨Lc126, hQ126, l126, y126, z126⟩, st126⟩ := X68.virtualBack hx (y := ym0) (z := ym0) hown (mvT hZ (wk32 hw)) (mvT hZ (wk33 hw)) (notFace_of_selects (args := #[]) (mvT hZ (wk35 hw))) (mvT hZ (wk35 hw)) (mvT hZ (wk34 hw)) (by decide) (backOf (W := 0) (rm1_9 l Z a0 hw w hW []  h68 n0 O69 ) hZ (wk36 hw) (wk3 hw) (by decide) (by decide)) q126a q126c (g := (mkF m 166 Lb122 [(.ref (w 8))])) rfl (by rw [hml]; rfl) (Steps.refl _) (argsL := []) (rest := []) (lenOf pds_0 rfl) rfl (by show 2 * 0 + _ ≤ _; exact Nat.le_of_eq rfl) (hb hby at_166) (fun _ _ => ⟨rfl, e68, (by decide : 2 + 0 ≤ _), (by decide : 26 + 0 ≤ _)⟩)
   dsimp only [Pt.U, Pt.locs, Pt.cells, Pt.slots] at X126 l126 y126 z126 st126 hQ126
   rw [l126, y126, z126] at X126
   obtain ⟨rfl, N126q, e126⟩ := hQ126
   have N126 := Fr.app N68 N126q
   obtain ⟨cl127, Ar127, cw127, S127, Nn127, Hs127, G127⟩ := id (V68)
   have hin127 : ¬ ((8 : Int32) < 0 ∨ cl127.slots.size ≤ ((8 : Int32)).toNatClampNeg) := inb_of S127 ⟨by decide, by decide⟩
   obtain ⟨fs, hr, hrun, hended, hWm, hsame⟩ := X126.leave (v := some (.int (1 : Int32))) (fun h => by rw [Bd.returns] at h; cases h)
   refine ⟨_, _, pre72 _ ?_, hrun, hended, _, _, rfl, ?_, ⟨_, rfl⟩, hWm, hsame.mono (by decide) (by decide)⟩
   · show Steps p.tables e below (T68.setTop (mkF m 165 Lb122 [(.int (8 : Int32)), (.ref b1)])) _
     refine X68.aaload hx (j := (8 : Int32)) (v := (.ref (w 8))) (by rw [e68]; exact Ar125.1) (State.isArrayOf_alike hZ.alike Ar125.2.1) rfl Ar125.2.2 hin125 (Hs125.at hin125 rfl) (g := (mkF m 165 Lb122 [(.int (8 : Int32)), (.ref b1)])) rfl rfl (hb hby at_165) _ ?_
     refine st126.trans ?_
     refine sA X126 hx hby at_169 rfl rfl ?_
     refine sI X126 hx hby at_170 rfl ?_
     refine X126.baloadBooleans hx (j := (8 : Int32)) (v := (.int (1 : Int32))) (by rw [e126]; exact Ar127.1) (State.isArrayOf_alike hZ.alike Ar127.2.1) Ar127.2.2 hin127 (Hs127.at hin127 rfl) (g := (mkF m 171 Lb122 [(.int (8 : Int32)), (.ref b42), (.int (1 : Int32))])) rfl rfl (hb hby at_171) _ ?_
     refine sn X126 hx hby at_172 (by decide) ?_
     refine sc X126 hx hby at_175 ?_
     show Steps p.tables e below (T126.setTop (mkF m 176 Lb122 [(.int (1 : Int32))])) _
     refine sg (pc := 176) (pc' := 180) X126 hx hby at_176 (by decide) (by decide) ?_
     exact retN X126 hx (t := .boolean) Bd.returns (by simp) (hb hby at_180) hr
   · show Q0 n0 _ T126.heap _
     rw [e126]
     exact ⟨rfl, N126⟩
  ·
   rw [hs73] at pre72
   let Lb128 : Array Slot := #[.val (.int p0), .val (.ref b1), .val (.ref b42), .val (.int (9 : Int32))]
   have ne129 : b1 ≠ b42 := (Nat.ne_of_lt (Nat.lt_of_lt_of_le V40.lt (Nat.le_of_eq g42.symm)))
   have t130 := ((((((((((((((V40.ext E42).other W44 ne129).other W46 ne129).other W48 ne129).other W50 ne129).other W52 ne129).other W54 ne129).other W56 ne129).other W58 ne129).other W60 ne129).other W62 ne129).other W64 ne129).other W66 ne129).other W68 ne129)
   obtain ⟨cl131, Ar131, cw131, S131, Nn131, Hs131, G131⟩ := id (t130)
   have hin131 : ¬ ((9 : Int32) < 0 ∨ cl131.slots.size ≤ ((9 : Int32)).toNatClampNeg) := inb_of S131 ⟨by decide, by decide⟩
   obtain ⟨cq132, kq132, q132a, q132b, q132c⟩ := isOf hZ e68 ((wd19 hW).ext O69.2)
   obtain ⟨_, _, ⟨T132, L132, kk132, nn132⟩, -, X132, ⟨Lc132, hQ132, l132, y132, z132⟩, st132⟩ := X68.virtualBack hx (y := ym0) (z := ym0) hown (mvT hZ (wk32 hw)) (mvT hZ (wk33 hw)) (notFace_of_selects (args := #[]) (mvT hZ (wk35 hw))) (mvT hZ (wk35 hw)) (mvT hZ (wk34 hw)) (by decide) (backOf (W := 0) (rm1_10 l Z a0 hw w hW []  h68 n0 O69 ) hZ (wk36 hw) (wk3 hw) (by decide) (by decide)) q132a q132c (g := (mkF m 166 Lb128 [(.ref (w 9))])) rfl (by rw [hml]; rfl) (Steps.refl _) (argsL := []) (rest := []) (lenOf pds_0 rfl) rfl (by show 2 * 0 + _ ≤ _; exact Nat.le_of_eq rfl) (hb hby at_166) (fun _ _ => ⟨rfl, e68, (by decide : 2 + 0 ≤ _), (by decide : 26 + 0 ≤ _)⟩)
   dsimp only [Pt.U, Pt.locs, Pt.cells, Pt.slots] at X132 l132 y132 z132 st132 hQ132
   rw [l132, y132, z132] at X132
   obtain ⟨rfl, N132q, e132⟩ := hQ132
   have N132 := Fr.app N68 N132q
   obtain ⟨cl133, Ar133, cw133, S133, Nn133, Hs133, G133⟩ := id (V68)
   have hin133 : ¬ ((9 : Int32) < 0 ∨ cl133.slots.size ≤ ((9 : Int32)).toNatClampNeg) := inb_of S133 ⟨by decide, by decide⟩
   obtain ⟨fs, hr, hrun, hended, hWm, hsame⟩ := X132.leave (v := some (.int (1 : Int32))) (fun h => by rw [Bd.returns] at h; cases h)
   refine ⟨_, _, pre72 _ ?_, hrun, hended, _, _, rfl, ?_, ⟨_, rfl⟩, hWm, hsame.mono (by decide) (by decide)⟩
   · show Steps p.tables e below (T68.setTop (mkF m 165 Lb128 [(.int (9 : Int32)), (.ref b1)])) _
     refine X68.aaload hx (j := (9 : Int32)) (v := (.ref (w 9))) (by rw [e68]; exact Ar131.1) (State.isArrayOf_alike hZ.alike Ar131.2.1) rfl Ar131.2.2 hin131 (Hs131.at hin131 rfl) (g := (mkF m 165 Lb128 [(.int (9 : Int32)), (.ref b1)])) rfl rfl (hb hby at_165) _ ?_
     refine st132.trans ?_
     refine sA X132 hx hby at_169 rfl rfl ?_
     refine sI X132 hx hby at_170 rfl ?_
     refine X132.baloadBooleans hx (j := (9 : Int32)) (v := (.int (0 : Int32))) (by rw [e132]; exact Ar133.1) (State.isArrayOf_alike hZ.alike Ar133.2.1) Ar133.2.2 hin133 (Hs133.at hin133 rfl) (g := (mkF m 171 Lb128 [(.int (9 : Int32)), (.ref b42), (.int (0 : Int32))])) rfl rfl (hb hby at_171) _ ?_
     refine sn X132 hx hby at_172 (by decide) ?_
     refine sc X132 hx hby at_175 ?_
     show Steps p.tables e below (T132.setTop (mkF m 176 Lb128 [(.int (1 : Int32))])) _
     refine sg (pc := 176) (pc' := 180) X132 hx hby at_176 (by decide) (by decide) ?_
     exact retN X132 hx (t := .boolean) Bd.returns (by simp) (hb hby at_180) hr
   · show Q0 n0 _ T132.heap _
     rw [e132]
     exact ⟨rfl, N132⟩
  ·
   rw [hs73] at pre72
   let Lb134 : Array Slot := #[.val (.int p0), .val (.ref b1), .val (.ref b42), .val (.int (10 : Int32))]
   have ne135 : b1 ≠ b42 := (Nat.ne_of_lt (Nat.lt_of_lt_of_le V40.lt (Nat.le_of_eq g42.symm)))
   have t136 := ((((((((((((((V40.ext E42).other W44 ne135).other W46 ne135).other W48 ne135).other W50 ne135).other W52 ne135).other W54 ne135).other W56 ne135).other W58 ne135).other W60 ne135).other W62 ne135).other W64 ne135).other W66 ne135).other W68 ne135)
   obtain ⟨cl137, Ar137, cw137, S137, Nn137, Hs137, G137⟩ := id (t136)
   have hin137 : ¬ ((10 : Int32) < 0 ∨ cl137.slots.size ≤ ((10 : Int32)).toNatClampNeg) := inb_of S137 ⟨by decide, by decide⟩
   obtain ⟨cq138, kq138, q138a, q138b, q138c⟩ := isOf hZ e68 ((wd21 hW).ext O69.2)
   obtain ⟨_, _, ⟨T138, L138, kk138, nn138⟩, -, X138, ⟨Lc138, hQ138, l138, y138, z138⟩, st138⟩ := X68.virtualBack hx (y := ym0) (z := ym0) hown (mvT hZ (wk32 hw)) (mvT hZ (wk33 hw)) (notFace_of_selects (args := #[]) (mvT hZ (wk35 hw))) (mvT hZ (wk35 hw)) (mvT hZ (wk34 hw)) (by decide) (backOf (W := 0) (rm1_11 l Z a0 hw w hW []  h68 n0 O69 ) hZ (wk36 hw) (wk3 hw) (by decide) (by decide)) q138a q138c (g := (mkF m 166 Lb134 [(.ref (w 10))])) rfl (by rw [hml]; rfl) (Steps.refl _) (argsL := []) (rest := []) (lenOf pds_0 rfl) rfl (by show 2 * 0 + _ ≤ _; exact Nat.le_of_eq rfl) (hb hby at_166) (fun _ _ => ⟨rfl, e68, (by decide : 2 + 0 ≤ _), (by decide : 26 + 0 ≤ _)⟩)
   dsimp only [Pt.U, Pt.locs, Pt.cells, Pt.slots] at X138 l138 y138 z138 st138 hQ138
   rw [l138, y138, z138] at X138
   obtain ⟨rfl, N138q, e138⟩ := hQ138
   have N138 := Fr.app N68 N138q
   obtain ⟨cl139, Ar139, cw139, S139, Nn139, Hs139, G139⟩ := id (V68)
   have hin139 : ¬ ((10 : Int32) < 0 ∨ cl139.slots.size ≤ ((10 : Int32)).toNatClampNeg) := inb_of S139 ⟨by decide, by decide⟩
   obtain ⟨fs, hr, hrun, hended, hWm, hsame⟩ := X138.leave (v := some (.int (1 : Int32))) (fun h => by rw [Bd.returns] at h; cases h)
   refine ⟨_, _, pre72 _ ?_, hrun, hended, _, _, rfl, ?_, ⟨_, rfl⟩, hWm, hsame.mono (by decide) (by decide)⟩
   · show Steps p.tables e below (T68.setTop (mkF m 165 Lb134 [(.int (10 : Int32)), (.ref b1)])) _
     refine X68.aaload hx (j := (10 : Int32)) (v := (.ref (w 10))) (by rw [e68]; exact Ar137.1) (State.isArrayOf_alike hZ.alike Ar137.2.1) rfl Ar137.2.2 hin137 (Hs137.at hin137 rfl) (g := (mkF m 165 Lb134 [(.int (10 : Int32)), (.ref b1)])) rfl rfl (hb hby at_165) _ ?_
     refine st138.trans ?_
     refine sA X138 hx hby at_169 rfl rfl ?_
     refine sI X138 hx hby at_170 rfl ?_
     refine X138.baloadBooleans hx (j := (10 : Int32)) (v := (.int (1 : Int32))) (by rw [e138]; exact Ar139.1) (State.isArrayOf_alike hZ.alike Ar139.2.1) Ar139.2.2 hin139 (Hs139.at hin139 rfl) (g := (mkF m 171 Lb134 [(.int (10 : Int32)), (.ref b42), (.int (1 : Int32))])) rfl rfl (hb hby at_171) _ ?_
     refine sn X138 hx hby at_172 (by decide) ?_
     refine sc X138 hx hby at_175 ?_
     show Steps p.tables e below (T138.setTop (mkF m 176 Lb134 [(.int (1 : Int32))])) _
     refine sg (pc := 176) (pc' := 180) X138 hx hby at_176 (by decide) (by decide) ?_
     exact retN X138 hx (t := .boolean) Bd.returns (by simp) (hb hby at_180) hr
   · show Q0 n0 _ T138.heap _
     rw [e138]
     exact ⟨rfl, N138⟩
  ·
   rw [hs73] at pre72
   let Lb140 : Array Slot := #[.val (.int p0), .val (.ref b1), .val (.ref b42), .val (.int (11 : Int32))]
   have ne141 : b1 ≠ b42 := (Nat.ne_of_lt (Nat.lt_of_lt_of_le V40.lt (Nat.le_of_eq g42.symm)))
   have t142 := ((((((((((((((V40.ext E42).other W44 ne141).other W46 ne141).other W48 ne141).other W50 ne141).other W52 ne141).other W54 ne141).other W56 ne141).other W58 ne141).other W60 ne141).other W62 ne141).other W64 ne141).other W66 ne141).other W68 ne141)
   obtain ⟨cl143, Ar143, cw143, S143, Nn143, Hs143, G143⟩ := id (t142)
   have hin143 : ¬ ((11 : Int32) < 0 ∨ cl143.slots.size ≤ ((11 : Int32)).toNatClampNeg) := inb_of S143 ⟨by decide, by decide⟩
   obtain ⟨cq144, kq144, q144a, q144b, q144c⟩ := isOf hZ e68 ((wd23 hW).ext O69.2)
   obtain ⟨_, _, ⟨T144, L144, kk144, nn144⟩, -, X144, ⟨Lc144, hQ144, l144, y144, z144⟩, st144⟩ := X68.virtualBack hx (y := ym0) (z := ym0) hown (mvT hZ (wk32 hw)) (mvT hZ (wk33 hw)) (notFace_of_selects (args := #[]) (mvT hZ (wk35 hw))) (mvT hZ (wk35 hw)) (mvT hZ (wk34 hw)) (by decide) (backOf (W := 0) (rm1_12 l Z a0 hw w hW []  h68 n0 O69 ) hZ (wk36 hw) (wk3 hw) (by decide) (by decide)) q144a q144c (g := (mkF m 166 Lb140 [(.ref (w 11))])) rfl (by rw [hml]; rfl) (Steps.refl _) (argsL := []) (rest := []) (lenOf pds_0 rfl) rfl (by show 2 * 0 + _ ≤ _; exact Nat.le_of_eq rfl) (hb hby at_166) (fun _ _ => ⟨rfl, e68, (by decide : 2 + 0 ≤ _), (by decide : 26 + 0 ≤ _)⟩)
   dsimp only [Pt.U, Pt.locs, Pt.cells, Pt.slots] at X144 l144 y144 z144 st144 hQ144
   rw [l144, y144, z144] at X144
   obtain ⟨rfl, N144q, e144⟩ := hQ144
   have N144 := Fr.app N68 N144q
   obtain ⟨cl145, Ar145, cw145, S145, Nn145, Hs145, G145⟩ := id (V68)
   have hin145 : ¬ ((11 : Int32) < 0 ∨ cl145.slots.size ≤ ((11 : Int32)).toNatClampNeg) := inb_of S145 ⟨by decide, by decide⟩
   obtain ⟨fs, hr, hrun, hended, hWm, hsame⟩ := X144.leave (v := some (.int (1 : Int32))) (fun h => by rw [Bd.returns] at h; cases h)
   refine ⟨_, _, pre72 _ ?_, hrun, hended, _, _, rfl, ?_, ⟨_, rfl⟩, hWm, hsame.mono (by decide) (by decide)⟩
   · show Steps p.tables e below (T68.setTop (mkF m 165 Lb140 [(.int (11 : Int32)), (.ref b1)])) _
     refine X68.aaload hx (j := (11 : Int32)) (v := (.ref (w 11))) (by rw [e68]; exact Ar143.1) (State.isArrayOf_alike hZ.alike Ar143.2.1) rfl Ar143.2.2 hin143 (Hs143.at hin143 rfl) (g := (mkF m 165 Lb140 [(.int (11 : Int32)), (.ref b1)])) rfl rfl (hb hby at_165) _ ?_
     refine st144.trans ?_
     refine sA X144 hx hby at_169 rfl rfl ?_
     refine sI X144 hx hby at_170 rfl ?_
     refine X144.baloadBooleans hx (j := (11 : Int32)) (v := (.int (0 : Int32))) (by rw [e144]; exact Ar145.1) (State.isArrayOf_alike hZ.alike Ar145.2.1) Ar145.2.2 hin145 (Hs145.at hin145 rfl) (g := (mkF m 171 Lb140 [(.int (11 : Int32)), (.ref b42), (.int (0 : Int32))])) rfl rfl (hb hby at_171) _ ?_
     refine sn X144 hx hby at_172 (by decide) ?_
     refine sc X144 hx hby at_175 ?_
     show Steps p.tables e below (T144.setTop (mkF m 176 Lb140 [(.int (1 : Int32))])) _
     refine sg (pc := 176) (pc' := 180) X144 hx hby at_176 (by decide) (by decide) ?_
     exact retN X144 hx (t := .boolean) Bd.returns (by simp) (hb hby at_180) hr
   · show Q0 n0 _ T144.heap _
     rw [e144]
     exact ⟨rfl, N144⟩
  ·
   rw [hs73] at pre72
   let Lb146 : Array Slot := #[.val (.int p0), .val (.ref b1), .val (.ref b42), .val (.int (12 : Int32))]
   have ne147 : b1 ≠ b42 := (Nat.ne_of_lt (Nat.lt_of_lt_of_le V40.lt (Nat.le_of_eq g42.symm)))
   have t148 := ((((((((((((((V40.ext E42).other W44 ne147).other W46 ne147).other W48 ne147).other W50 ne147).other W52 ne147).other W54 ne147).other W56 ne147).other W58 ne147).other W60 ne147).other W62 ne147).other W64 ne147).other W66 ne147).other W68 ne147)
   obtain ⟨cl149, Ar149, cw149, S149, Nn149, Hs149, G149⟩ := id (t148)
   have hin149 : ¬ ((12 : Int32) < 0 ∨ cl149.slots.size ≤ ((12 : Int32)).toNatClampNeg) := inb_of S149 ⟨by decide, by decide⟩
   obtain ⟨cq150, kq150, q150a, q150b, q150c⟩ := isOf hZ e68 ((wd25 hW).ext O69.2)
   obtain ⟨_, _, ⟨T150, L150, kk150, nn150⟩, -, X150, ⟨Lc150, hQ150, l150, y150, z150⟩, st150⟩ := X68.virtualBack hx (y := ym0) (z := ym0) hown (mvT hZ (wk32 hw)) (mvT hZ (wk33 hw)) (notFace_of_selects (args := #[]) (mvT hZ (wk35 hw))) (mvT hZ (wk35 hw)) (mvT hZ (wk34 hw)) (by decide) (backOf (W := 0) (rm1_13 l Z a0 hw w hW []  h68 n0 O69 ) hZ (wk36 hw) (wk3 hw) (by decide) (by decide)) q150a q150c (g := (mkF m 166 Lb146 [(.ref (w 12))])) rfl (by rw [hml]; rfl) (Steps.refl _) (argsL := []) (rest := []) (lenOf pds_0 rfl) rfl (by show 2 * 0 + _ ≤ _; exact Nat.le_of_eq rfl) (hb hby at_166) (fun _ _ => ⟨rfl, e68, (by decide : 2 + 0 ≤ _), (by decide : 26 + 0 ≤ _)⟩)
   dsimp only [Pt.U, Pt.locs, Pt.cells, Pt.slots] at X150 l150 y150 z150 st150 hQ150
   rw [l150, y150, z150] at X150
   obtain ⟨rfl, N150q, e150⟩ := hQ150
   have N150 := Fr.app N68 N150q
   obtain ⟨cl151, Ar151, cw151, S151, Nn151, Hs151, G151⟩ := id (V68)
   have hin151 : ¬ ((12 : Int32) < 0 ∨ cl151.slots.size ≤ ((12 : Int32)).toNatClampNeg) := inb_of S151 ⟨by decide, by decide⟩
   obtain ⟨fs, hr, hrun, hended, hWm, hsame⟩ := X150.leave (v := some (.int (1 : Int32))) (fun h => by rw [Bd.returns] at h; cases h)
   refine ⟨_, _, pre72 _ ?_, hrun, hended, _, _, rfl, ?_, ⟨_, rfl⟩, hWm, hsame.mono (by decide) (by decide)⟩
   · show Steps p.tables e below (T68.setTop (mkF m 165 Lb146 [(.int (12 : Int32)), (.ref b1)])) _
     refine X68.aaload hx (j := (12 : Int32)) (v := (.ref (w 12))) (by rw [e68]; exact Ar149.1) (State.isArrayOf_alike hZ.alike Ar149.2.1) rfl Ar149.2.2 hin149 (Hs149.at hin149 rfl) (g := (mkF m 165 Lb146 [(.int (12 : Int32)), (.ref b1)])) rfl rfl (hb hby at_165) _ ?_
     refine st150.trans ?_
     refine sA X150 hx hby at_169 rfl rfl ?_
     refine sI X150 hx hby at_170 rfl ?_
     refine X150.baloadBooleans hx (j := (12 : Int32)) (v := (.int (0 : Int32))) (by rw [e150]; exact Ar151.1) (State.isArrayOf_alike hZ.alike Ar151.2.1) Ar151.2.2 hin151 (Hs151.at hin151 rfl) (g := (mkF m 171 Lb146 [(.int (12 : Int32)), (.ref b42), (.int (0 : Int32))])) rfl rfl (hb hby at_171) _ ?_
     refine sn X150 hx hby at_172 (by decide) ?_
     refine sc X150 hx hby at_175 ?_
     show Steps p.tables e below (T150.setTop (mkF m 176 Lb146 [(.int (1 : Int32))])) _
     refine sg (pc := 176) (pc' := 180) X150 hx hby at_176 (by decide) (by decide) ?_
     exact retN X150 hx (t := .boolean) Bd.returns (by simp) (hb hby at_180) hr
   · show Q0 n0 _ T150.heap _
     rw [e150]
     exact ⟨rfl, N150⟩
set_option maxRecDepth 65536 in
set_option maxHeartbeats 400000000 in
theorem comes_1 {Post : Tables → Env → Array Value → State → Outcome → State → Prop} (hpost : ∀ tb e args s v u, (limb_1_1.after args s (.returned v) u = true ∧ limb_1_2.after args s (.returned v) u = true ∧ True) → FrameEnd s (.returned v) u (Jvm.fieldLocs frame_1_writes args s ++ Jvm.arrayLocs frame_1_arrays args s ++ Jvm.staticLocs frame_1_statics s) 16 128 → Post tb e args s (.returned v) u) :
    ArmFor flags0 classFile x code maxLocals ret World_1 tables_1 room_1 Calls_1 rest_1 Pre_1 Post := by
  intro l hfl _ _ p e ha hc hk s m args below hf hA hF happ hP
  obtain ⟨hcalls, hrest, hpre⟩ := hP
  obtain ⟨-, -, -, hnamed, -, -, -, hat⟩ := (Spec.applies_iff hf).mp happ
  obtain ⟨hg, hn⟩ := and_e (Cond.before_iff.mp (show (Jvm.Cond.and given_1 narrow_1).before args s = true from hpre))
  obtain ⟨ga4, gb4⟩ := and_e hg
  obtain ⟨v0, rfl⟩ : ∃ v0 : Value, args = #[v0] := by
    have hs : args.size = 1 := by simpa [Cond.value, given_1] using ga4
    obtain ⟨L⟩ := args
    match L, hs with
    | [v0], _ => exact ⟨v0, rfl⟩
  have hw := fun d (hd : d ∈ tables_1) => atoms_spec (ws := Jvm.Cond.code x code maxLocals ret :: tables_1) hat d (List.mem_cons_of_mem _ hd)
  have hfit : Fit s := fun {y c} hc i hi => by
    obtain ⟨ha, rfl⟩ := Array.getElem?_eq_some_iff.mp hc
    have q := List.all_eq_true.mp ((Array.all_eq_true_iff_forall_mem.mp hF) _ (Array.getElem_mem ha)) i (List.mem_range.mpr hi)
    simpa [Array.getElem?_eq_getElem hi] using q
  obtain ⟨i0, ei0⟩ := is_v gb4
  obtain rfl : v0 = (.int i0) := Option.some.inj ei0
  obtain ⟨na0, nb0⟩ := and_e hn
  obtain ⟨na1, nb1⟩ := and_e nb0
  obtain ⟨na2, nb2⟩ := and_e nb1
  obtain ⟨na3, nb3⟩ := and_e nb2
  obtain ⟨na4, nb4⟩ := and_e nb3
  obtain ⟨na5, nb5⟩ := and_e nb4
  obtain ⟨na6, nb6⟩ := and_e nb5
  obtain ⟨na7, nb7⟩ := and_e nb6
  obtain ⟨na8, nb8⟩ := and_e nb7
  obtain ⟨na9, nb9⟩ := and_e nb8
  obtain ⟨na10, nb10⟩ := and_e nb9
  obtain ⟨na11, nb11⟩ := and_e nb10
  obtain ⟨na12, nb12⟩ := and_e nb11
  obtain ⟨na13, nb13⟩ := and_e nb12
  obtain ⟨na14, nb14⟩ := and_e nb13
  obtain ⟨na15, nb15⟩ := and_e nb14
  obtain ⟨na16, nb16⟩ := and_e nb15
  obtain ⟨na17, nb17⟩ := and_e nb16
  obtain ⟨na18, nb18⟩ := and_e nb17
  obtain ⟨na19, nb19⟩ := and_e nb18
  obtain ⟨na20, nb20⟩ := and_e nb19
  obtain ⟨na21, nb21⟩ := and_e nb20
  obtain ⟨na22, nb22⟩ := and_e nb21
  obtain ⟨na23, nb23⟩ := and_e nb22
  obtain ⟨na24, nb24⟩ := and_e nb23
  obtain ⟨x0, ev0⟩ := exa_v na0
  obtain ⟨x1, ev1⟩ := exa_v na1
  obtain ⟨x2, ev2⟩ := exa_v na2
  obtain ⟨x3, ev3⟩ := exa_v na3
  obtain ⟨x4, ev4⟩ := exa_v na4
  obtain ⟨x5, ev5⟩ := exa_v na5
  obtain ⟨x6, ev6⟩ := exa_v na6
  obtain ⟨x7, ev7⟩ := exa_v na7
  obtain ⟨x8, ev8⟩ := exa_v na8
  obtain ⟨x9, ev9⟩ := exa_v na9
  obtain ⟨x10, ev10⟩ := exa_v na10
  obtain ⟨x11, ev11⟩ := exa_v na11
  obtain ⟨x12, ev12⟩ := exa_v na12
  have hW : Wd s (fun i => ([x0, x1, x2, x3, x4, x5, x6, x7, x8, x9, x10, x11, x12] : List Addr).getD i 0) := ⟨(Sta.start ev0 (Or.inr ⟨(wk3 hw), (wk4 hw)⟩)), (Exa.start ev0 na0), (Sta.start ev1 (Or.inr ⟨(wk3 hw), (wk7 hw)⟩)), (Exa.start ev1 na1), (Sta.start ev2 (Or.inr ⟨(wk3 hw), (wk9 hw)⟩)), (Exa.start ev2 na2), (Sta.start ev3 (Or.inr ⟨(wk3 hw), (wk11 hw)⟩)), (Exa.start ev3 na3), (Sta.start ev4 (Or.inr ⟨(wk3 hw), (wk13 hw)⟩)), (Exa.start ev4 na4), (Sta.start ev5 (Or.inr ⟨(wk3 hw), (wk15 hw)⟩)), (Exa.start ev5 na5), (Sta.start ev6 (Or.inr ⟨(wk3 hw), (wk17 hw)⟩)), (Exa.start ev6 na6), (Sta.start ev7 (Or.inr ⟨(wk3 hw), (wk19 hw)⟩)), (Exa.start ev7 na7), (Sta.start ev8 (Or.inr ⟨(wk3 hw), (wk21 hw)⟩)), (Exa.start ev8 na8), (Sta.start ev9 (Or.inr ⟨(wk3 hw), (wk23 hw)⟩)), (Exa.start ev9 na9), (Sta.start ev10 (Or.inr ⟨(wk3 hw), (wk25 hw)⟩)), (Exa.start ev10 na10), (Sta.start ev11 (Or.inr ⟨(wk3 hw), (wk27 hw)⟩)), (Exa.start ev11 na11), (Sta.start ev12 (Or.inr ⟨(wk3 hw), (wk29 hw)⟩)), (Exa.start ev12 na12), (own_fldI ev0 na13), (own_fldI ev3 na14), (own_fldI ev8 na15), (own_fldI ev10 na16), (own_fldI ev6 na17), (own_fldI ev5 na18), (own_fldI ev7 na19), (own_fldI ev9 na20), (own_fldI ev2 na21), (own_fldI ev11 na22), (own_fldI ev1 na23), (own_fldI ev12 na24), (own_fldI ev4 nb24), trivial⟩
  obtain ⟨n, o, h1, h2, h3, _, L, rfl, ⟨rfl, N⟩, hq⟩ := rm0 l s _ hw _ hW tables_1 i0 s.heap s.heap.size (Old.start s) p e ha hc hk s m _ below hf ((Spec.applies_iff_loose hf).mp happ).1 ⟨rfl, State.Warmed39.refl s, rfl⟩ trivial
  refine ⟨n, _, h1, h2, h3, hpost _ _ _ _ _ _ ⟨Cond.after_iff.mpr rfl, Cond.after_iff.mpr (eq_i res_at (Term.int_eval (1)) rfl), trivial⟩ ⟨hq.1, hq.2.1, (hq.2.2.sift fun y hy => Or.inr (N y hy)).mono (by decide) (by decide)⟩⟩
theorem main_1_1 : Claimed_1_1 := comes_1 fun _ _ _ _ _ _ h hF => ⟨h.1, hF⟩
theorem main_1_2 : Claimed_1_2 := comes_1 fun _ _ _ _ _ _ h hF => ⟨h.2.1, hF⟩
end Jvm.Pilot.@@N@@
namespace Jvm.Pilot.@@N@@
open Jvm Jvm.ClassFile Sem Op Lib Jvm.Free Jvm.Stand Jvm.Pilot.@@N@@.Jvm.D
/-! MADE BY PROGRAM (witnessworld.py) out of the Statement's table words and the real class files: 15 classes; the members and pool entries that the words name. The judged class is class 1, her method 1. -/
namespace start1
open Jvm.ClassFile
def u (s : String) : CpInfo := .utf8 (stringToUtf16 s)
/-- a pool by its gaps: so many unusable entries, then the entry; so many at the end -/
def gap : Nat → List CpInfo → List CpInfo
  | 0, r => r
  | n + 1, r => .unusable :: gap n r
def poolList (es : List (Nat × CpInfo)) (last : Nat) : List CpInfo := es.foldr (fun e r => gap e.1 (e.2 :: r)) (gap last [])
def pool (es : List (Nat × CpInfo)) (last : Nat) : Array CpInfo := ⟨poolList es last⟩
def fileOf (pool : Array CpInfo) (this : Nat) (attrs : Array Attribute := #[]) (ms : Array MethodInfo := #[]) (fl : Nat := 33) (sup : Nat := 0) (ifs : Array Nat := #[]) (fds : Array FieldInfo := #[]) : ClassFile where
  minorVersion := 0
  majorVersion := 65
  constantPool := pool
  accessFlags := fl
  thisClass := this
  superClass := sup
  interfaces := ifs
  fields := fds
  methods := ms
  attributes := attrs
def plain (name : String) (sup : Option ClassId) : Class where
  name := name
  kind := .ordinary
  loader := none
  accessFlags := 33
  super := sup
  interfaces := #[]
  cf := none
  fields := #[]
  methods := #[]
  instanceTypes := #[]
  staticTypes := #[]
  resolved := #[]
  callSites := []
  init := .initialized
  statics := none
  mirror := none

def pool0 : Array CpInfo := pool [(5, u "<init>"), (0, u "()V"), (1, .class_ 10), (1, u "java/lang/Object")] 113

def k0m0 : Method := { name := "<init>", desc := "()V", sig := { parameters := [], returnType := none }, accessFlags := 1, code := none }
/-- java/lang/Object -/
def k0 : Class := { plain "java/lang/Object" none with
  accessFlags := 33
  interfaces := #[]
  cf := some (fileOf pool0 8 #[] #[{ accessFlags := 1, nameIndex := 5, descriptorIndex := 6, attributes := #[] }] 33 0 #[] #[])
  fields := #[]
  methods := #[k0m0]
  instanceTypes := #[]
  staticTypes := #[]
  resolved := Array.replicate 124 none
  statics := none }

def pool1 : Array CpInfo := pool [(2, .class_ 4), (1, u "java/lang/Object"), (0, u "<init>"), (0, u "()V"), (0, .class_ 8), (0, u "com/example/weftcheck/weftcheck/OperationKind"), (0, .fieldref 7 10), (0, .nameAndType 11 12), (0, u "MAP"), (0, u "Lcom/example/weftcheck/weftcheck/OperationKind;"), (0, .fieldref 7 14), (0, .nameAndType 15 12), (0, u "PREDICATE"), (0, .fieldref 7 17), (0, .nameAndType 18 12), (0, u "ISOLATION"), (0, .fieldref 7 20), (0, .nameAndType 21 12), (0, u "READ"), (0, .fieldref 7 23), (0, .nameAndType 24 12), (0, u "WRITE"), (0, .fieldref 7 26), (0, .nameAndType 27 12), (0, u "READ_WRITE"), (0, .fieldref 7 29), (0, .nameAndType 30 12), (0, u "INSERT"), (0, .fieldref 7 32), (0, .nameAndType 33 12), (0, u "DELETE"), (0, .fieldref 7 35), (0, .nameAndType 36 12), (0, u "PREDICATE_READ"), (0, .fieldref 7 38), (0, .nameAndType 39 12), (0, u "SQL_STATEMENT"), (0, .fieldref 7 41), (0, .nameAndType 42 12), (0, u "SQL_QUERY"), (0, .fieldref 7 44), (0, .nameAndType 45 12), (0, u "COMMIT"), (0, .fieldref 7 47), (0, .nameAndType 48 12), (0, u "ABORT"), (0, .integer 2147483647), (0, .methodref 7 51), (0, .nameAndType 52 53), (0, u "bindsValue"), (0, u "()Z"), (0, .class_ 55), (0, u "com/example/weftcheck/weftcheck/OperationKindBindsValuePinLaw"), (2, u "law"), (0, u "(I)Z")] 7

def k1m0 : Method := { name := "<init>", desc := "()V", sig := { parameters := [], returnType := none }, accessFlags := 1, code := none }
def k1c1 : Code := { maxStack := 4, maxLocals := 4, code := code, exceptionTable := #[], attributes := #[] }
def k1m1 : Method := { name := "law", desc := "(I)Z", sig := { parameters := [.int], returnType := some .boolean }, accessFlags := 9, code := some k1c1 }
/-- com/example/weftcheck/weftcheck/OperationKindBindsValuePinLaw -/
def k1 : Class := { plain "com/example/weftcheck/weftcheck/OperationKindBindsValuePinLaw" (some 0) with
  accessFlags := 49
  interfaces := #[]
  cf := some (fileOf pool1 54 #[] #[{ accessFlags := 1, nameIndex := 5, descriptorIndex := 6, attributes := #[] }, { accessFlags := 9, nameIndex := 58, descriptorIndex := 59, attributes := #[] }] 49 2 #[] #[])
  fields := #[]
  methods := #[k1m0, k1m1]
  instanceTypes := #[]
  staticTypes := #[]
  resolved := Array.replicate 67 none
  statics := none }

def pool2 : Array CpInfo := pool [(1, .class_ 2), (0, u "java/lang/constant/Constable"), (0, .class_ 4), (0, u "java/lang/Object")] 6

/-- java/lang/constant/Constable -/
def k2 : Class := { plain "java/lang/constant/Constable" (some 0) with
  accessFlags := 1537
  interfaces := #[]
  cf := some (fileOf pool2 1 #[] #[] 1537 3 #[] #[])
  fields := #[]
  methods := #[]
  instanceTypes := #[]
  staticTypes := #[]
  resolved := Array.replicate 11 none
  statics := none }

def pool3 : Array CpInfo := pool [(1, .class_ 2), (0, u "java/lang/Comparable"), (0, .class_ 4), (0, u "java/lang/Object")] 7

/-- java/lang/Comparable -/
def k3 : Class := { plain "java/lang/Comparable" (some 0) with
  accessFlags := 1537
  interfaces := #[]
  cf := some (fileOf pool3 1 #[] #[] 1537 3 #[] #[])
  fields := #[]
  methods := #[]
  instanceTypes := #[]
  staticTypes := #[]
  resolved := Array.replicate 12 none
  statics := none }

def pool4 : Array CpInfo := pool [(1, .class_ 2), (0, u "java/io/Serializable"), (0, .class_ 4), (0, u "java/lang/Object")] 2

/-- java/io/Serializable -/
def k4 : Class := { plain "java/io/Serializable" (some 0) with
  accessFlags := 1537
  interfaces := #[]
  cf := some (fileOf pool4 1 #[] #[] 1537 3 #[] #[])
  fields := #[]
  methods := #[]
  instanceTypes := #[]
  staticTypes := #[]
  resolved := Array.replicate 7 none
  statics := none }

def pool5 : Array CpInfo := pool [(2, .class_ 4), (1, u "java/lang/Enum"), (0, u "name"), (0, u "Ljava/lang/String;"), (2, u "ordinal"), (0, u "I"), (1, .class_ 14), (1, u "java/lang/Object"), (4, u "hash"), (86, .class_ 108), (1, u "java/lang/Enum$EnumDesc"), (2, .class_ 112), (0, u "java/lang/constant/Constable"), (0, .class_ 114), (0, u "java/lang/Comparable"), (0, .class_ 116), (0, u "java/io/Serializable")] 87

/-- java/lang/Enum -/
def k5 : Class := { plain "java/lang/Enum" (some 0) with
  accessFlags := 1057
  interfaces := #[2, 3, 4]
  cf := some (fileOf pool5 2 #[.nestMembers #[106]] #[] 1057 12 #[111, 113, 115] #[{ accessFlags := 18, nameIndex := 5, descriptorIndex := 6, attributes := #[] }, { accessFlags := 18, nameIndex := 9, descriptorIndex := 10, attributes := #[] }, { accessFlags := 2, nameIndex := 19, descriptorIndex := 10, attributes := #[] }])
  fields := #[{ name := "name", type := (.object "java/lang/String"), accessFlags := 18, slot := 0, constantValue := 0 }, { name := "ordinal", type := .int, accessFlags := 18, slot := 1, constantValue := 0 }, { name := "hash", type := .int, accessFlags := 2, slot := 2, constantValue := 0 }]
  methods := #[]
  instanceTypes := #[(.object "java/lang/String"), .int, .int]
  staticTypes := #[]
  resolved := Array.replicate 204 none
  statics := none }

def pool6 : Array CpInfo := pool [(1, .class_ 2), (0, u "com/example/weftcheck/weftcheck/OperationKind"), (2, u "MAP"), (0, u "Lcom/example/weftcheck/weftcheck/OperationKind;"), (2, u "PREDICATE"), (2, u "ISOLATION"), (0, .fieldref 1 14), (0, .nameAndType 15 6), (0, u "READ"), (2, u "WRITE"), (2, u "READ_WRITE"), (2, u "INSERT"), (2, u "DELETE"), (0, .fieldref 1 29), (0, .nameAndType 30 6), (0, u "PREDICATE_READ"), (2, u "SQL_STATEMENT"), (0, .fieldref 1 35), (0, .nameAndType 36 6), (0, u "SQL_QUERY"), (2, u "COMMIT"), (2, u "ABORT"), (2, u "$VALUES"), (0, u "[Lcom/example/weftcheck/weftcheck/OperationKind;"), (6, .class_ 55), (1, u "java/lang/Enum"), (8, u "notatio_"), (0, u "Ljava/lang/String;"), (23, u "()Z"), (61, u "bindsValue")] 7

def k6c0 : Code := { maxStack := 2, maxLocals := 1, code := prog_29_method_9_code, exceptionTable := #[], attributes := #[] }
def k6m0 : Method := { name := "bindsValue", desc := "()Z", sig := { parameters := [], returnType := some .boolean }, accessFlags := 0, code := some k6c0 }
/-- com/example/weftcheck/weftcheck/OperationKind -/
def k6 : Class := { plain "com/example/weftcheck/weftcheck/OperationKind" (some 5) with
  accessFlags := 16432
  interfaces := #[]
  cf := some (fileOf pool6 1 #[] #[{ accessFlags := 0, nameIndex := 151, descriptorIndex := 89, attributes := #[] }] 16432 53 #[] #[{ accessFlags := 16409, nameIndex := 5, descriptorIndex := 6, attributes := #[] }, { accessFlags := 16409, nameIndex := 9, descriptorIndex := 6, attributes := #[] }, { accessFlags := 16409, nameIndex := 12, descriptorIndex := 6, attributes := #[] }, { accessFlags := 16409, nameIndex := 15, descriptorIndex := 6, attributes := #[] }, { accessFlags := 16409, nameIndex := 18, descriptorIndex := 6, attributes := #[] }, { accessFlags := 16409, nameIndex := 21, descriptorIndex := 6, attributes := #[] }, { accessFlags := 16409, nameIndex := 24, descriptorIndex := 6, attributes := #[] }, { accessFlags := 16409, nameIndex := 27, descriptorIndex := 6, attributes := #[] }, { accessFlags := 16409, nameIndex := 30, descriptorIndex := 6, attributes := #[] }, { accessFlags := 16409, nameIndex := 33, descriptorIndex := 6, attributes := #[] }, { accessFlags := 16409, nameIndex := 36, descriptorIndex := 6, attributes := #[] }, { accessFlags := 16409, nameIndex := 39, descriptorIndex := 6, attributes := #[] }, { accessFlags := 16409, nameIndex := 42, descriptorIndex := 6, attributes := #[] }, { accessFlags := 18, nameIndex := 64, descriptorIndex := 65, attributes := #[] }, { accessFlags := 4122, nameIndex := 45, descriptorIndex := 46, attributes := #[] }])
  fields := #[{ name := "MAP", type := (.object "com/example/weftcheck/weftcheck/OperationKind"), accessFlags := 16409, slot := 0, constantValue := 0 }, { name := "PREDICATE", type := (.object "com/example/weftcheck/weftcheck/OperationKind"), accessFlags := 16409, slot := 1, constantValue := 0 }, { name := "ISOLATION", type := (.object "com/example/weftcheck/weftcheck/OperationKind"), accessFlags := 16409, slot := 2, constantValue := 0 }, { name := "READ", type := (.object "com/example/weftcheck/weftcheck/OperationKind"), accessFlags := 16409, slot := 3, constantValue := 0 }, { name := "WRITE", type := (.object "com/example/weftcheck/weftcheck/OperationKind"), accessFlags := 16409, slot := 4, constantValue := 0 }, { name := "READ_WRITE", type := (.object "com/example/weftcheck/weftcheck/OperationKind"), accessFlags := 16409, slot := 5, constantValue := 0 }, { name := "INSERT", type := (.object "com/example/weftcheck/weftcheck/OperationKind"), accessFlags := 16409, slot := 6, constantValue := 0 }, { name := "DELETE", type := (.object "com/example/weftcheck/weftcheck/OperationKind"), accessFlags := 16409, slot := 7, constantValue := 0 }, { name := "PREDICATE_READ", type := (.object "com/example/weftcheck/weftcheck/OperationKind"), accessFlags := 16409, slot := 8, constantValue := 0 }, { name := "SQL_STATEMENT", type := (.object "com/example/weftcheck/weftcheck/OperationKind"), accessFlags := 16409, slot := 9, constantValue := 0 }, { name := "SQL_QUERY", type := (.object "com/example/weftcheck/weftcheck/OperationKind"), accessFlags := 16409, slot := 10, constantValue := 0 }, { name := "COMMIT", type := (.object "com/example/weftcheck/weftcheck/OperationKind"), accessFlags := 16409, slot := 11, constantValue := 0 }, { name := "ABORT", type := (.object "com/example/weftcheck/weftcheck/OperationKind"), accessFlags := 16409, slot := 12, constantValue := 0 }, { name := "notatio_", type := (.object "java/lang/String"), accessFlags := 18, slot := 3, constantValue := 0 }, { name := "$VALUES", type := (.array (.object "com/example/weftcheck/weftcheck/OperationKind")), accessFlags := 4122, slot := 13, constantValue := 0 }]
  methods := #[k6m0]
  instanceTypes := #[(.object "java/lang/String"), .int, .int, (.object "java/lang/String")]
  staticTypes := #[(.object "com/example/weftcheck/weftcheck/OperationKind"), (.object "com/example/weftcheck/weftcheck/OperationKind"), (.object "com/example/weftcheck/weftcheck/OperationKind"), (.object "com/example/weftcheck/weftcheck/OperationKind"), (.object "com/example/weftcheck/weftcheck/OperationKind"), (.object "com/example/weftcheck/weftcheck/OperationKind"), (.object "com/example/weftcheck/weftcheck/OperationKind"), (.object "com/example/weftcheck/weftcheck/OperationKind"), (.object "com/example/weftcheck/weftcheck/OperationKind"), (.object "com/example/weftcheck/weftcheck/OperationKind"), (.object "com/example/weftcheck/weftcheck/OperationKind"), (.object "com/example/weftcheck/weftcheck/OperationKind"), (.object "com/example/weftcheck/weftcheck/OperationKind"), (.array (.object "com/example/weftcheck/weftcheck/OperationKind"))]
  resolved := Array.replicate 159 none
  statics := some 0 }

def pool7 : Array CpInfo := pool [(1, u "java/lang/Cloneable"), (0, .class_ 1), (0, u "java/lang/Object"), (0, .class_ 3)] 3

/-- java/lang/Cloneable -/
def k7 : Class := { plain "java/lang/Cloneable" (some 0) with
  accessFlags := 1537
  interfaces := #[]
  cf := some (fileOf pool7 2 #[] #[] 1537 4 #[] #[])
  fields := #[]
  methods := #[]
  instanceTypes := #[]
  staticTypes := #[]
  resolved := Array.replicate 8 none
  statics := none }

/-- the primitive boolean -/
def k8 : Class := { plain "boolean" none with kind := .primitive 'Z', accessFlags := 0x411 }
/-- [Z -/
def k9 : Class := { plain "[Z" (some 0) with kind := .array 8 .boolean, interfaces := #[7, 4], accessFlags := 1041 }

/-- the primitive byte -/
def k10 : Class := { plain "byte" none with kind := .primitive 'B', accessFlags := 0x411 }
/-- [B -/
def k11 : Class := { plain "[B" (some 0) with kind := .array 10 .byte, interfaces := #[7, 4], accessFlags := 1041 }

/-- the primitive int -/
def k12 : Class := { plain "int" none with kind := .primitive 'I', accessFlags := 0x411 }
/-- [I -/
def k13 : Class := { plain "[I" (some 0) with kind := .array 12 .int, interfaces := #[7, 4], accessFlags := 1041 }

/-- [Lcom/example/weftcheck/weftcheck/OperationKind; -/
def k14 : Class := { plain "[Lcom/example/weftcheck/weftcheck/OperationKind;" (some 0) with kind := .array 6 (.object "com/example/weftcheck/weftcheck/OperationKind"), interfaces := #[7, 4], accessFlags := 1041 }

def heap : Heap := #[{ cls := 6, slots := #[.ref 1, .ref 2, .ref 3, .ref 4, .ref 5, .ref 6, .ref 7, .ref 8, .ref 9, .ref 10, .ref 11, .ref 12, .ref 13, .null], vm := .statics 6 },
  { cls := 6, slots := #[.null, .int 0, .int 0, .null], vm := .none },
  { cls := 6, slots := #[.null, .int 1, .int 0, .null], vm := .none },
  { cls := 6, slots := #[.null, .int 2, .int 0, .null], vm := .none },
  { cls := 6, slots := #[.null, .int 3, .int 0, .null], vm := .none },
  { cls := 6, slots := #[.null, .int 4, .int 0, .null], vm := .none },
  { cls := 6, slots := #[.null, .int 5, .int 0, .null], vm := .none },
  { cls := 6, slots := #[.null, .int 6, .int 0, .null], vm := .none },
  { cls := 6, slots := #[.null, .int 7, .int 0, .null], vm := .none },
  { cls := 6, slots := #[.null, .int 8, .int 0, .null], vm := .none },
  { cls := 6, slots := #[.null, .int 9, .int 0, .null], vm := .none },
  { cls := 6, slots := #[.null, .int 10, .int 0, .null], vm := .none },
  { cls := 6, slots := #[.null, .int 11, .int 0, .null], vm := .none },
  { cls := 6, slots := #[.null, .int 12, .int 0, .null], vm := .none }]
def classes : Array Class := #[k0, k1, k2, k3, k4, k5, k6, k7, k8, k9, k10, k11, k12, k13, k14]
def interned : List (Array UInt16 × Addr) := []
def slotsUsed : Nat := 66
def theMethod : MethodId := ⟨1, 1⟩
def args0 : Array Value := #[.int 5]
def aboutOver (below : List Frame) : State where
  vm := { classes := classes, interned := interned.toArray }
  heap := heap
  slotsUsed := slotsUsed
  threads := #[{ frames := .invoking theMethod args0 :: below }]
def below0 : List Frame := [.native { method := ⟨0, 0⟩, args := #[] }]
def about1 : State := aboutOver below0
def p0 : Program := .bare "" "" ""
def e0 : Env := launch0.env 0 0 0
theorem w_frames : about1.frames = Frame.invoking theMethod args0 :: below0 := rfl
set_option maxRecDepth 65536 in
theorem w_args : argsFit about1.vm theMethod args0 = true := by decide +kernel
set_option maxRecDepth 65536 in
theorem w_heap : heapFits about1 = true := by decide +kernel
set_option maxRecDepth 65536 in
theorem w_runnable : about1.curStatus? = some .runnable := by decide +kernel
set_option maxRecDepth 65536 in
theorem w_alone : about1.alone = true := by decide +kernel
set_option maxRecDepth 65536 in
theorem w_named : about1.methodNamed? x = some theMethod := by decide +kernel
set_option maxRecDepth 65536 in
theorem w_hears : about1.hears theMethod below0 = true := by decide +kernel
set_option maxRecDepth 65536 in
theorem w_ripe : about1.ripe theMethod args0 below0 = true := by decide +kernel
theorem w_running : about1.status = .running := rfl
set_option maxRecDepth 65536 in
theorem w_room : about1.hasRoom e0.platform room_1 = true :=
  launch0.hasRoom_least _ room_1 (by decide +kernel) (by decide +kernel) (by decide +kernel) (by decide +kernel) (by decide +kernel) (by decide +kernel)
theorem allAtoms_all (ts : List Jvm.Cond) (a : Array Jvm.Value) (st : Jvm.State) : (allAtoms ts).before a st = ts.all (fun c => c.before a st) := by
  induction ts with
  | nil => rfl
  | cons c t ih =>
    show (Jvm.Cond.and c (allAtoms t)).before a st = _
    rw [Jvm.Cond.before_and, ih, List.all_cons]
def words1 : List Jvm.Cond := Jvm.Cond.code x code maxLocals ret :: tables_1
/-- a 'code' word, met by the world's own term for the bytes: nothing is compared byte by byte -/
theorem code_word {y : MethodName} {bytes : ByteArray} {mx : Nat} {rt : Option FieldType} {a : Array Value} {s : State} {m : MethodId} {meth : Method} {c : Code} (h1 : s.methodNamed? y = some m) (h2 : s.vm.method? m = some meth) (h3 : meth.code = some c) (h4 : c.code = bytes)
    (h5 : (c.maxLocals == mx && c.exceptionTable.isEmpty && decide (c.maxStack ≤ mostOperands) && decide (meth.sig.returnType = rt) && !meth.locks && decide (parseMethodDescriptor y.desc = some meth.sig)) = true) : (Jvm.Cond.code y bytes mx rt).before a s = true := by
  simp only [Bool.and_eq_true, beq_iff_eq, Bool.not_eq_true', decide_eq_true_eq] at h5
  obtain ⟨⟨⟨⟨⟨g1, g2⟩, g3⟩, g4⟩, g5⟩, g6⟩ := h5
  simp [Cond.before, Cond.holds, Cond.value, h1, h2, h3, h4, g1, g2, g3, g4, g5, g6]
def isCode : Jvm.Cond → Bool
  | .code _ _ _ _ => true
  | _ => false
theorem all_split {L : List Jvm.Cond} {P : Jvm.Cond → Bool} (h1 : L.all (fun c => isCode c || P c) = true) (h2 : ∀ c ∈ L.filter isCode, P c = true) : L.all P = true := by
  refine List.all_eq_true.mpr fun c hc => ?_
  have h := List.all_eq_true.mp h1 c hc
  rcases Bool.eq_false_or_eq_true (isCode c) with hi | hi
  · exact h2 c (List.mem_filter.mpr ⟨hc, hi⟩)
  · simpa [hi] using h
set_option maxRecDepth 65536 in
theorem w_c0 : (Jvm.Cond.code x code maxLocals ret).before args0 about1 = true := code_word (m := ⟨1, 1⟩) (meth := k1m1) (c := k1c1) (by decide +kernel) rfl rfl rfl (by decide +kernel)
set_option maxRecDepth 65536 in
theorem w_c1 : (Jvm.Cond.code ({ cls := "com/example/weftcheck/weftcheck/OperationKind", name := "bindsValue", desc := "()Z" } : Jvm.MethodName) prog_29_method_9_code (1 : Nat) (Option.some Jvm.ClassFile.FieldType.boolean)).before args0 about1 = true := code_word (m := ⟨6, 0⟩) (meth := k6m0) (c := k6c0) (by decide +kernel) rfl rfl rfl (by decide +kernel)
def codes1 : List Jvm.Cond := [Jvm.Cond.code x code maxLocals ret, Jvm.Cond.code ({ cls := "com/example/weftcheck/weftcheck/OperationKind", name := "bindsValue", desc := "()Z" } : Jvm.MethodName) prog_29_method_9_code (1 : Nat) (Option.some Jvm.ClassFile.FieldType.boolean)]
set_option maxRecDepth 65536 in
theorem codes_eq : words1.filter isCode = codes1 := rfl
theorem w_codes : ∀ c ∈ words1.filter isCode, c.before args0 about1 = true := by
  rw [codes_eq]
  intro c hc
  simp only [codes1, List.mem_cons, List.not_mem_nil, or_false] at hc
  rcases hc with rfl | rfl
  · exact w_c0
  · exact w_c1
set_option maxRecDepth 65536 in
theorem w_t1 : (words1.take 24).all (fun c => isCode c || c.before args0 about1) = true := by decide +kernel
set_option maxRecDepth 65536 in
theorem w_t2 : (words1.drop 24).all (fun c => isCode c || c.before args0 about1) = true := by decide +kernel
theorem w_tables : (allAtoms (Jvm.Cond.code x code maxLocals ret :: tables_1)).before args0 about1 = true := by
  rw [allAtoms_all]
  show words1.all (fun c => c.before args0 about1) = true
  refine all_split ?_ w_codes
  rw [← List.take_append_drop 24 words1, List.all_append, w_t1, w_t2]
  rfl
set_option maxRecDepth 65536 in
theorem w_case : (Jvm.Cond.and given_1 narrow_1).before args0 about1 = true := by decide +kernel
theorem w_applies : (headSpec (Jvm.Cond.code x code maxLocals ret :: tables_1) room_1).applies x e0.platform about1 = true :=
  (Spec.applies_iff w_frames).mpr ⟨w_running, w_runnable, w_alone, w_named, w_hears, w_ripe, w_room, w_tables⟩
theorem atStart : AtStart classFile x code maxLocals ret World_1 tables_1 room_1 Calls_1 rest_1 Pre_1 launch0 p0 e0 about1 theMethod args0 below0 :=
  ⟨lists_1, trivial, launch0.admits_env _ _ _, launch0.least_env, fairChoices_fair.cas, fairChoices_fair.clock, w_frames, w_args, w_heap, w_applies, trivial, trivial, w_case⟩
end start1
theorem witness_1 : WitnessClaimed_1 := ⟨start1.p0, start1.e0, start1.about1, start1.theMethod, start1.args0, start1.below0, start1.atStart⟩
end Jvm.Pilot.@@N@@
