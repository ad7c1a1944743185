import JvmDerived
import JvmDerived.Pilot.@@N@@Statement
import JvmDerived.Pilot.@@N@@Code
set_option linter.unusedVariables false
set_option linter.unusedSimpArgs false
namespace Jvm.RoadKit
open Sem ClassFile Op Lib Jvm.Stand Jvm.Free Jvm.LawKit
section New
variable {p : Program} {l : Launch} {e : Env} {R : Room} {s : State} {m : MethodId} {args : Array Value} {below : List Frame} {meth : Method} {c : Code} {T : State} {locs : List Loc} {cells slots : Nat}
theorem retI (X : Stand p l e R s m args below meth c T locs cells slots) (hx : p.tables.exec = Jvm.exec) {pc : Nat} {Ls : Array Slot} {z : Int32} {rest : List Value} (hret : meth.sig.returnType = some .int) (hd : decode c.code pc = .ok (.ireturn, 1)) {fs : List Frame}
    (hl : ∀ (f : JFrame) (acts : List Action), f.method = m → f.locked = none → f.entered = [] → (doReturn e (T.setTop f) acts (some (.int z))).1 = T.setFrames fs) : Steps p.tables e below (T.setTop (mkF m pc Ls (.int z :: rest))) (T.setFrames fs) := by
  have hm' : T.vm.method? m = some meth := X.method'
  have hn : narrow .int (.int z) = .int z := rfl
  show Steps p.tables e below (T.setTop { method := m, pc := pc, locals := Ls, stack := _ :: rest, locked := none }) _
  jvm_step X.here [X.here.top, hx, hd, hm', hret, hn]
  first | (intro acts; rw [hl _ acts rfl rfl rfl]) | rw [hl _ _ rfl rfl rfl]
  exact Steps.refl _
end New
end Jvm.RoadKit
namespace Jvm.Pilot.@@N@@
open Jvm Jvm.ClassFile Sem Op Lib Jvm.Free Jvm.Stand Jvm.LawKit Jvm.RoadKit Bundle Jvm.Pilot.@@N@@.Jvm.D
theorem own_set {Z : State} {h h' : Heap} {a : Addr} {k : ClassId} {ty : FieldType} {z j : Int32} {vs : List Value} {dv v : Value} {c : Cell} (A : Arr Z h a c ty) (q1 : c.cls = k) (S : c.slots.size = z.toNatClampNeg) (q3 : ¬ z < 0) (H : Has c vs dv) (G : ∀ i, i < c.slots.size → fits ty (vs.getD i dv) = true) (hv : fits ty v = true) (W : Wr h h' a j.toNatClampNeg v) (i : Nat) (hj : j.toNatClampNeg = i) (hi : i < vs.length) (v' : Value) (e1 : v = v') (vs' : List Value) (e2 : vs.set i v' = vs') : Arv Z h' a k ty z vs' dv := by
  subst e1; subst e2; exact Arv.set A q1 S q3 H G hv W i hj hi
theorem own_pad {Z : State} {h : Heap} {a : Addr} {k : ClassId} {ty : FieldType} {z : Int32} {dv : Value} (F : Arv Z h a k ty z [] dv) (n : Nat) (vs : List Value) (e : vs = List.replicate n dv) : Arv Z h a k ty z vs dv := e ▸ F.pad (pad_rep [] dv n)
theorem own_irr32 (x : Int32) : ¬ x < x := Int32.lt_irrefl
theorem own_irr64 (x : Int64) : ¬ x < x := Int64.lt_irrefl
theorem own_fldI {args : Array Value} {s : State} {t : Term} {C n d : String} {x : Addr} {k : Int32} (ht : t.eval args s none [] s = some (.ref x)) (h : (Cond.eq (Term.field t C n d) (Term.int k)).value args s none s [] = some true) : Fld s s.heap x C n d (.int k) := Fld.start ((fld_at ht).symm.trans (eqv_i (Term.int_eval k) h))
theorem own_fldJ {args : Array Value} {s : State} {t : Term} {C n d : String} {x : Addr} {k : Int64} (ht : t.eval args s none [] s = some (.ref x)) (h : (Cond.eq (Term.field t C n d) (Term.long k)).value args s none s [] = some true) : Fld s s.heap x C n d (.long k) := Fld.start ((fld_at ht).symm.trans (eqv_l (long_at k) h))
theorem own_len {args : Array Value} {s : State} {t : Term} {x : Addr} {cl : Cell} {ty : FieldType} {k : Int32} (ht : t.eval args s none [] s = some (.ref x)) (A : Arr s s.heap x cl ty) (h : (Cond.eq (Term.length t) (Term.int k)).value args s none s [] = some true) : cl.slots.size.toInt32 = k ∧ cl.slots.size < 2 ^ 31 := by
  have e := eqv_i (Term.int_eval k) h
  have ha := A.fin (Vm.Alike.refl _)
  by_cases q : cl.slots.size < 2 ^ 31
  · have e2 := (len_f ht ha q).symm.trans e
    exact ⟨Value.int.inj (Option.some.inj e2), q⟩
  · simp [Term.eval, ht, ha, q] at e
theorem own_elem {args : Array Value} {s : State} {t u : Term} {x : Addr} {cl : Cell} {ty : FieldType} {k : Int32} {v : Value} (ht : t.eval args s none [] s = some (.ref x)) (A : Arr s s.heap x cl ty) (hu : u.eval args s none [] s = some v) (hv : v.isRef = true) (h : (Cond.eq (Term.elem t (Term.int k)) u).value args s none s [] = some true) : cl.slots[k.toNatClampNeg]? = some v := by
  obtain ⟨a, b, h1, h2, h3, h4⟩ := cmp_v (Or.inl h)
  have hb := Option.some.inj (h2.symm.trans hu)
  subst hb
  obtain ⟨c', e1, e2, e3⟩ := elem_at h1 ht (Term.int_eval k)
  have ec := Option.some.inj (e1.symm.trans A.1)
  subst ec
  have ha : a.isRef = true := by
    rcases ref_cases hv with rfl | ⟨y, rfl⟩
    · exact h4.2
    · exact h4.2
  rw [e3, gotT (eq_R h1 h2 ha hv) h]
def own_KL (h h' : Heap) (ls : List Loc) : Prop := h.size ≤ h'.size ∧ ∀ (x : Addr) (c : Cell), h[x]? = some c → ∃ c' : Cell, h'[x]? = some c' ∧ c'.cls = c.cls ∧ c'.vm = c.vm ∧ c'.slots.size = c.slots.size ∧ ((∀ y ∈ ls, y.base ≠ x) → c' = c) ∧ ∀ i, (⟨x, i⟩ : Loc) ∉ ls → c'.slots[i]? = c.slots[i]?
section OwnKL
variable {Z : State} {h0 h h' : Heap} {ls ls' : List Loc} {a b x : Addr} {i j sl n0 : Nat} {v : Value} {C n d : String}
theorem own_kl0 (h : Heap) (ls : List Loc) : own_KL h h ls := ⟨Nat.le_refl _, fun x c q => ⟨c, q, rfl, rfl, rfl, fun _ => rfl, fun _ _ => rfl⟩⟩
theorem own_klE (K : own_KL h0 h ls) (E : Ext h h') : own_KL h0 h' ls := ⟨Nat.le_trans K.1 E.1, fun x c q => by obtain ⟨c', q', r⟩ := K.2 x c q; exact ⟨c', E.2 x c' q', r⟩⟩
theorem own_klT (K : own_KL h0 h ls) (K' : own_KL h h' ls') (q : ∀ y ∈ ls', y ∈ ls ∨ h0.size ≤ y.base) : own_KL h0 h' ls := by
  refine ⟨Nat.le_trans K.1 K'.1, fun x c hc => ?_⟩
  obtain ⟨c1, a1, a2, a3, a4, a5, a6⟩ := K.2 x c hc
  obtain ⟨c2, b1, b2, b3, b4, b5, b6⟩ := K'.2 x c1 a1
  have hx : x < h0.size := (Array.getElem?_eq_some_iff.mp hc).1
  refine ⟨c2, b1, b2.trans a2, b3.trans a3, b4.trans a4, fun hn => ?_, fun i hi => ?_⟩
  · rw [← a5 hn]; exact b5 fun y hy e => (q y hy).elim (fun z => hn y z e) (fun z => absurd hx (Nat.not_lt.mpr (e ▸ z)))
  · rw [← a6 i hi]; exact b6 i fun z => (q _ z).elim hi (fun u => absurd hx (Nat.not_lt.mpr u))
theorem own_klofW (W : Wr h h' a sl v) : own_KL h h' [⟨a, sl⟩] := by
  refine ⟨Nat.le_of_eq W.size.symm, fun x c hc => ?_⟩
  obtain ⟨c', e1, e2, e3, e4, e5, e6, -⟩ := wr_at W hc
  refine ⟨c', e1, e2, e3, e4, fun hn => e5 fun q => hn _ (List.mem_singleton.mpr rfl) q.symm, fun i hi => ?_⟩
  by_cases q : x = a
  · exact e6 i fun r => hi (by rw [q, r]; exact List.mem_singleton.mpr rfl)
  · rw [e5 q]
theorem own_klW (K : own_KL h0 h ls) (W : Wr h h' a sl v) (q : (⟨a, sl⟩ : Loc) ∈ ls ∨ h0.size ≤ a) : own_KL h0 h' ls := own_klT K (own_klofW W) fun y hy => by cases List.mem_singleton.mp hy; exact q
theorem own_ka0 : ∀ y ∈ ([] : List Loc), y ∈ ls ∨ n0 ≤ y.base := fun _ q => nomatch q
theorem own_kac (q : (⟨a, sl⟩ : Loc) ∈ ls ∨ n0 ≤ a) (r : ∀ y ∈ ls', y ∈ ls ∨ n0 ≤ y.base) : ∀ y ∈ (⟨a, sl⟩ : Loc) :: ls', y ∈ ls ∨ n0 ≤ y.base := fun y z => (List.mem_cons.mp z).elim (fun u => u ▸ q) (r y)
theorem own_ng0 : ∀ y ∈ ([] : List Loc), n0 ≤ y.base := fun _ q => nomatch q
theorem own_ngc (q : n0 ≤ a) (r : ∀ y ∈ ls', n0 ≤ y.base) : ∀ y ∈ (⟨a, sl⟩ : Loc) :: ls', n0 ≤ y.base := fun y z => (List.mem_cons.mp z).elim (fun u => u ▸ q) (r y)
theorem own_nb0 : ∀ y ∈ ([] : List Loc), y.base ≠ a := fun _ q => nomatch q
theorem own_nbc (q : b ≠ a) (r : ∀ y ∈ ls', y.base ≠ a) : ∀ y ∈ (⟨b, sl⟩ : Loc) :: ls', y.base ≠ a := fun y z => (List.mem_cons.mp z).elim (fun u => u ▸ q) (r y)
theorem own_nl0 : (⟨a, i⟩ : Loc) ∉ ([] : List Loc) := fun q => nomatch q
theorem own_nlb (q : a ≠ b) (r : (⟨a, i⟩ : Loc) ∉ ls) : (⟨a, i⟩ : Loc) ∉ (⟨b, j⟩ : Loc) :: ls := fun z => (List.mem_cons.mp z).elim (fun u => q (congrArg Loc.base u)) r
theorem own_nls (q : i ≠ j) (r : (⟨a, i⟩ : Loc) ∉ ls) : (⟨a, i⟩ : Loc) ∉ (⟨b, j⟩ : Loc) :: ls := fun z => (List.mem_cons.mp z).elim (fun u => q (congrArg Loc.slot u)) r
theorem own_exa (F : Exa Z h a C) (K : own_KL h h' ls) : Exa Z h' a C := by
  obtain ⟨cell, k, h1, h2, h3, h4, h5⟩ := F
  obtain ⟨c', e1, e2, e3, e4, -⟩ := K.2 _ _ h1
  exact ⟨c', k, e1, by rw [e2]; exact h2, by rw [e2]; exact h3, by rw [e3]; exact h4, by rw [e4]; exact h5⟩
theorem own_fld (F : Fld Z h a C n d v) (K : own_KL h h' ls) (q : (⟨a, Jvm.RoadKit.slotOf Z C n d⟩ : Loc) ∉ ls) : Fld Z h' a C n d v := by
  obtain ⟨cell, cf, k, i, f, h1, h2, h3, h4, h5, h6, h7⟩ := F
  obtain ⟨c', e1, e2, e3, e4, -, e6⟩ := K.2 _ _ h1
  refine ⟨c', cf, k, i, f, e1, h2, h3, by rw [e3]; exact h4, by rw [e3]; exact h5, by rw [e2]; exact h6, ?_⟩
  rw [e6 _ (by simpa [Jvm.RoadKit.slotOf, h2] using q)]; exact h7
theorem own_arv {k : ClassId} {ty : FieldType} {z : Int32} {vs : List Value} {dv : Value} (F : Arv Z h a k ty z vs dv) (K : own_KL h h' ls) (q : ∀ y ∈ ls, y.base ≠ a) : Arv Z h' a k ty z vs dv := by
  obtain ⟨c, A, r⟩ := F
  obtain ⟨c', e1, -, -, -, e5, -⟩ := K.2 _ _ A.1
  cases e5 q
  exact ⟨c, ⟨e1, A.2⟩, r⟩
theorem own_old (O : Old Z n0 h) (K : own_KL h h' ls) (q : ∀ y ∈ ls, n0 ≤ y.base) : Old Z n0 h' := ⟨O.1, Nat.le_trans O.2.1 K.1, fun x c r => by
  obtain ⟨c', e1, -, -, -, e5, -⟩ := K.2 x c (O.2.2 x c r)
  have hx : x < n0 := O.1 ▸ (Array.getElem?_eq_some_iff.mp r).1
  rw [e1, e5 fun y hy e => absurd hx (Nat.not_lt.mpr (e ▸ q y hy))]⟩
end OwnKL
theorem own_NSroot {Z : State} {a0 : Array Value} {O K : String} {n : Nat} (w : (Cond.noSuperclass O).before a0 Z = true) (wk : (Cond.instantiable K n).before a0 Z = true) (hn : O ≠ K) : NS Z O K := by
  obtain ⟨c, k, h1, h2, h3, -, -⟩ := Cond.noSuperclass_spec w
  obtain ⟨t, -, g1, -⟩ := Cond.instantiable_spec wk
  have ne := ids_ne h1 g1 hn
  refine ⟨c, t, h1, g1, fun fuel => ?_⟩
  cases fuel with
  | zero => rfl
  | succ f => simp [Vm.isSubclassAux, ne, h2, h3]
theorem own_NSno {Z : State} {a0 : Array Value} {C S K : String} {n : Nat} (w : (Cond.superclass C S).before a0 Z = true) (wk : (Cond.instantiable K n).before a0 Z = true) (u : NS Z C K) (hn : C ≠ K) : ∃ c t, Z.vm.findClass C = some c ∧ Z.vm.findClass K = some t ∧ Z.vm.assignable c t = false := by
  obtain ⟨c, t, h0, g0, n3⟩ := u
  obtain ⟨p, k, kp, h1, h2, h3, h4, h5, -, h7⟩ := Cond.superclass_spec h0 w
  obtain ⟨t', k', g1, g2, g5, g7, -⟩ := Cond.instantiable_spec wk
  cases g0.symm.trans g1
  have ne := ids_ne h0 g0 hn
  have g8 : k'.isInterface = false := by cases hI : k'.isInterface <;> simp [hI] at g7 ⊢
  refine ⟨c, t, h0, g0, ?_⟩
  show Z.vm.assignableAux (255 + 1) c t = false
  simp [Vm.assignableAux, ne, h2, g2, h5, g5, g8, Vm.isSubclass, n3]
theorem own_boxI {Z : State} {args : Array Value} {t : Term} {a : Addr} {c : Cell} {K : String} {z : Int32} (et : ∀ idx, t.eval args Z none idx Z = some (.ref a)) (A : Arr Z Z.heap a c (.object K)) (q : c.slots.size.toInt32 = z ∧ c.slots.size < 2 ^ 31) (hz : ¬ z < 0)
    (h : (Cond.all t (.and (.exactly (.elem t (.index 0)) K) (.eq (.field (.elem t (.index 0)) K "value" "I") (.sub (.index 0) (.int 128))))).value args Z none Z [] = some true) : Bxs Z a c K "I" z (fun j => .int (j - 128)) :=
  Bxs.start et A q.2 q.1 hz h fun X j nn hh => eqv_i (by simp [Term.eval, idx_at nn, (back32 nn).1]) hh
theorem own_boxJ {Z : State} {args : Array Value} {t : Term} {a : Addr} {c : Cell} {K : String} {z : Int32} (et : ∀ idx, t.eval args Z none idx Z = some (.ref a)) (A : Arr Z Z.heap a c (.object K)) (q : c.slots.size.toInt32 = z ∧ c.slots.size < 2 ^ 31) (hz : ¬ z < 0)
    (h : (Cond.all t (.and (.exactly (.elem t (.index 0)) K) (.eq (.field (.elem t (.index 0)) K "value" "J") (.op1 .i2l (.sub (.index 0) (.int 128)))))).value args Z none Z [] = some true) : Bxs Z a c K "J" z (fun j => .long (j - 128).toInt64) :=
  Bxs.start et A q.2 q.1 hz h fun X j nn hh => eqv_l (i2l_at (by simp [Term.eval, idx_at nn, (back32 nn).1])) hh
theorem own_staI {s : State} {args : Array Value} {C n d : String} {k : Int32} (h : (Cond.eq (Term.static C n d) (Term.int k)).value args s none s [] = some true) : (Term.static C n d).eval args s none [] s = some (.int k) := eqv_i (Term.int_eval k) h
theorem own_selp {Z : State} {a0 : Array Value} {y : MethodName} {n : Nat} (wi : (Cond.instantiable y.cls n).before a0 Z = true) (wp : (Cond.privateMethod y).before a0 Z = true) (wm : (Cond.instanceMethod y).before a0 Z = true) (hy : y.cls ≠ "java/lang/invoke/MethodHandle" ∧ y.cls ≠ "java/lang/invoke/VarHandle") : (Cond.selects y.cls y y).before a0 Z = true := by
  obtain ⟨c, k, h1, h2, -, h4, -⟩ := Cond.instantiable_spec wi
  exact selects_self_of_private h1 h2 (by cases hI : k.isInterface <;> simp [hI] at h4 ⊢) (Cond.privateMethod_at wp) wm hy
def own_Gk (Z : State) (h : Heap) (a : Addr) (k : ClassId) (ty : FieldType) (n j : Int32) (v : Value) : Prop := ∃ c : Cell, Arr Z h a c ty ∧ c.cls = k ∧ c.slots.size = n.toNatClampNeg ∧ ¬ n < 0 ∧ c.slots[j.toNatClampNeg]? = some v
section OwnGk
variable {Z : State} {h h' : Heap} {ls : List Loc} {a b : Addr} {k : ClassId} {ty : FieldType} {n j : Int32} {v u : Value} {sl : Nat}
theorem own_Gk.lt (F : own_Gk Z h a k ty n j v) : a < h.size := by obtain ⟨c, A, -⟩ := F; exact A.lt
theorem own_gk_ext (F : own_Gk Z h a k ty n j v) (E : Ext h h') : own_Gk Z h' a k ty n j v := by obtain ⟨c, A, r⟩ := F; exact ⟨c, A.ext E, r⟩
theorem own_gk_oth (F : own_Gk Z h a k ty n j v) (W : Wr h h' b sl u) (q : a ≠ b) : own_Gk Z h' a k ty n j v := by obtain ⟨c, A, r⟩ := F; exact ⟨c, A.other W q, r⟩
theorem own_gk_kl (F : own_Gk Z h a k ty n j v) (K : own_KL h h' ls) (q : ∀ y ∈ ls, y.base ≠ a) : own_Gk Z h' a k ty n j v := by
  obtain ⟨c, A, r⟩ := F
  obtain ⟨c', e1, -, -, -, e5, -⟩ := K.2 _ _ A.1
  cases e5 q
  exact ⟨c, ⟨e1, A.2⟩, r⟩
theorem own_gk_set {c : Cell} (A : Arr Z h a c ty) (q1 : c.cls = k) (S : c.slots.size = n.toNatClampNeg) (N : ¬ n < 0) (W : Wr h h' a j.toNatClampNeg v) : own_Gk Z h' a k ty n j v := by
  obtain ⟨c', e1, e2, e3, e4, -, -, e7⟩ := wr_at W A.1
  have e8 := (e7 rfl).1
  exact ⟨_, A.same W, q1, by rw [sz_set]; exact S, N, by rw [← e8]; exact (e7 rfl).2.1⟩
end OwnGk
section OwnSteps
variable {p : Program} {l : Launch} {e : Env} {R : Room} {s : State} {m : MethodId} {args : Array Value} {below : List Frame} {meth : Method} {c : Code} {T target : State} {locs : List Loc} {cells slots : Nat} {code : ByteArray} {pc : Nat} {Ls : Array Slot} {K : List Value}
theorem sc (X : Stand p l e R s m args below meth c T locs cells slots) (hx : p.tables.exec = Jvm.exec) (hby : c.code = code) {i : Int} (hd : decode code pc = .ok (.iconst i, 1)) (hr : Steps p.tables e below (T.setTop (mkF m (pc + 1) Ls (.int (Int32.ofInt i) :: K))) target) : Steps p.tables e below (T.setTop (mkF m pc Ls K)) target := XS.iconst X.here hx rfl (hb hby hd) hr
theorem sa (X : Stand p l e R s m args below meth c T locs cells slots) (hx : p.tables.exec = Jvm.exec) (hby : c.code = code) {k : Nat} {v : Value} (hd : decode code pc = .ok (.aload k, 2)) (hl : Ls[k]? = some (.val v)) (hv : v.isRef = true) (hr : Steps p.tables e below (T.setTop (mkF m (pc + 2) Ls (v :: K))) target) : Steps p.tables e below (T.setTop (mkF m pc Ls K)) target := XS.aload X.here hx rfl (hb hby hd) hl hv hr
theorem sA (X : Stand p l e R s m args below meth c T locs cells slots) (hx : p.tables.exec = Jvm.exec) (hby : c.code = code) {k : Fin 4} {v : Value} (hd : decode code pc = .ok (.aload_n k, 1)) (hl : Ls[k.val]? = some (.val v)) (hv : v.isRef = true) (hr : Steps p.tables e below (T.setTop (mkF m (pc + 1) Ls (v :: K))) target) : Steps p.tables e below (T.setTop (mkF m pc Ls K)) target := XS.aloadN X.here hx rfl (hb hby hd) hl hv hr
theorem si (X : Stand p l e R s m args below meth c T locs cells slots) (hx : p.tables.exec = Jvm.exec) (hby : c.code = code) {k : Nat} {v : Int32} (hd : decode code pc = .ok (.iload k, 2)) (hl : Ls[k]? = some (.val (.int v))) (hr : Steps p.tables e below (T.setTop (mkF m (pc + 2) Ls (.int v :: K))) target) : Steps p.tables e below (T.setTop (mkF m pc Ls K)) target := XS.iload X.here hx rfl (hb hby hd) hl hr
theorem sI (X : Stand p l e R s m args below meth c T locs cells slots) (hx : p.tables.exec = Jvm.exec) (hby : c.code = code) {k : Fin 4} {v : Int32} (hd : decode code pc = .ok (.iload_n k, 1)) (hl : Ls[k.val]? = some (.val (.int v))) (hr : Steps p.tables e below (T.setTop (mkF m (pc + 1) Ls (.int v :: K))) target) : Steps p.tables e below (T.setTop (mkF m pc Ls K)) target := XS.iloadN X.here hx rfl (hb hby hd) hl hr
theorem sL (X : Stand p l e R s m args below meth c T locs cells slots) (hx : p.tables.exec = Jvm.exec) (hby : c.code = code) {k : Fin 4} {v : Int64} (hd : decode code pc = .ok (.lload_n k, 1)) (hl : Ls[k.val]? = some (.val (.long v))) (hr : Steps p.tables e below (T.setTop (mkF m (pc + 1) Ls (.long v :: K))) target) : Steps p.tables e below (T.setTop (mkF m pc Ls K)) target := XS.lloadN X.here hx rfl (hb hby hd) hl hr
theorem sg (X : Stand p l e R s m args below meth c T locs cells slots) (hx : p.tables.exec = Jvm.exec) (hby : c.code = code) {o : Int} {pc' : Nat} (hd : decode code pc = .ok (.goto o, 3)) (ho : 0 ≤ (pc : Int) + o) (hp : ((pc : Int) + o).toNat = pc') (hr : Steps p.tables e below (T.setTop (mkF m pc' Ls K)) target) : Steps p.tables e below (T.setTop (mkF m pc Ls K)) target := XS.goto X.here hx rfl rfl (hb hby hd) ho hp hr
theorem sn (X : Stand p l e R s m args below meth c T locs cells slots) (hx : p.tables.exec = Jvm.exec) (hby : c.code = code) {cd : ClassFile.Cond} {o : Int} {x y : Int32} (hd : decode code pc = .ok (.if_icmp cd o, 3)) (hc : if_icmp.holds cd x y = false) (hr : Steps p.tables e below (T.setTop (mkF m (pc + 3) Ls K)) target) : Steps p.tables e below (T.setTop (mkF m pc Ls (.int y :: .int x :: K))) target := XS.icmpNo X.here hx rfl (hb hby hd) rfl hc hr
theorem sN (X : Stand p l e R s m args below meth c T locs cells slots) (hx : p.tables.exec = Jvm.exec) (hby : c.code = code) {cd : ClassFile.Cond} {o : Int} {x : Int32} (hd : decode code pc = .ok (.ifCond cd o, 3)) (hc : ifCond.holds cd x = false) (hr : Steps p.tables e below (T.setTop (mkF m (pc + 3) Ls K)) target) : Steps p.tables e below (T.setTop (mkF m pc Ls (.int x :: K))) target := XS.ifNo X.here hx rfl (hb hby hd) rfl hc hr
end OwnSteps

theorem own_rem1 (x : Int32) : (x &&& 2147483647) % 1 = 0 := by
  have h : (x &&& 2147483647).toInt = x.toInt % 2147483648 := c_mask x 2147483647 31 (by decide) (by decide)
  have h2 : ((x &&& 2147483647) % 1).toInt = (x &&& 2147483647).toInt % 1 := by
    rw [Int32.toInt_mod, Int.tmod_eq_emod_of_nonneg (by rw [h]; omega)]; rfl
  have hr : ((x &&& 2147483647) % 1).toInt = 0 := by omega
  exact Int32.toInt_inj.mp hr
theorem own_rem2 (x : Int32) : (x &&& 2147483647) % 2 = 0 ∨ (x &&& 2147483647) % 2 = 1 := by
  have h : (x &&& 2147483647).toInt = x.toInt % 2147483648 := c_mask x 2147483647 31 (by decide) (by decide)
  have h2 : ((x &&& 2147483647) % 2).toInt = (x &&& 2147483647).toInt % 2 := by
    rw [Int32.toInt_mod, Int.tmod_eq_emod_of_nonneg (by rw [h]; omega)]; rfl
  have hr : ((x &&& 2147483647) % 2).toInt = 0 ∨ ((x &&& 2147483647) % 2).toInt = 1 := by omega
  rcases hr with q | q
  · exact Or.inl (Int32.toInt_inj.mp q)
  · exact Or.inr (Int32.toInt_inj.mp q)
theorem own_rem3 (x : Int32) : (x &&& 2147483647) % 3 = 0 ∨ (x &&& 2147483647) % 3 = 1 ∨ (x &&& 2147483647) % 3 = 2 := by
  have h : (x &&& 2147483647).toInt = x.toInt % 2147483648 := c_mask x 2147483647 31 (by decide) (by decide)
  have h2 : ((x &&& 2147483647) % 3).toInt = (x &&& 2147483647).toInt % 3 := by
    rw [Int32.toInt_mod, Int.tmod_eq_emod_of_nonneg (by rw [h]; omega)]; rfl
  have hr : ((x &&& 2147483647) % 3).toInt = 0 ∨ ((x &&& 2147483647) % 3).toInt = 1 ∨ ((x &&& 2147483647) % 3).toInt = 2 := by omega
  rcases hr with q | q | q
  · exact Or.inl (Int32.toInt_inj.mp q)
  · exact Or.inr (Or.inl (Int32.toInt_inj.mp q))
  · exact Or.inr (Or.inr (Int32.toInt_inj.mp q))
theorem own_n0 (x : Int32) : ¬ ((x &&& 2147483647) % 3 + 1 = 0) := by
  rcases own_rem3 x with q | q | q <;> rw [q] <;> decide
abbrev ym0 : MethodName := ⟨"com/example/tidemark/tidemark/RecencyList", "<init>", "()V"⟩
abbrev ym1 : MethodName := ⟨"com/example/tidemark/tidemark/MemoryEntry", "restart", "(J)V"⟩
abbrev ym2 : MethodName := ⟨"com/example/tidemark/tidemark/Expiry", "canExpire", "()Z"⟩
abbrev ym3 : MethodName := ⟨"com/example/tidemark/tidemark/MemoryEntry", "write", "(Ljava/lang/Object;Lcom/example/tidemark/tidemark/Expiry;J)V"⟩
abbrev ym4 : MethodName := ⟨"com/example/tidemark/tidemark/MemoryEntry", "<init>", "(Ljava/lang/Object;Ljava/lang/Object;Lcom/example/tidemark/tidemark/Expiry;JJ)V"⟩
abbrev ym5 : MethodName := ⟨"com/example/tidemark/tidemark/RecencyList", "addNewest", "(Lcom/example/tidemark/tidemark/MemoryEntry;)V"⟩
abbrev ym6 : MethodName := ⟨"com/example/tidemark/tidemark/RecencyList", "remove", "(Lcom/example/tidemark/tidemark/MemoryEntry;)V"⟩
abbrev ym7 : MethodName := ⟨"com/example/tidemark/tidemark/RecencyList", "size", "()J"⟩
abbrev ym8 : MethodName := ⟨"com/example/tidemark/tidemark/RecencyList", "weight", "()J"⟩
abbrev ym9 : MethodName := ⟨"com/example/tidemark/tidemark/RecencyList", "oldest", "()Lcom/example/tidemark/tidemark/MemoryEntry;"⟩
theorem pf0 : parseFieldDescriptor "Ljava/lang/Object;" = some (.object "java/lang/Object") := by decide +kernel
theorem pf1 : parseFieldDescriptor "I" = some .int := by decide +kernel
theorem pf2 : parseFieldDescriptor "J" = some .long := by decide +kernel
theorem pf3 : parseFieldDescriptor "Lcom/example/tidemark/tidemark/Expiry;" = some (.object "com/example/tidemark/tidemark/Expiry") := by decide +kernel
theorem pf4 : parseFieldDescriptor "Lcom/example/tidemark/tidemark/RecencyList;" = some (.object "com/example/tidemark/tidemark/RecencyList") := by decide +kernel
theorem pf5 : parseFieldDescriptor "Lcom/example/tidemark/tidemark/MemoryEntry;" = some (.object "com/example/tidemark/tidemark/MemoryEntry") := by decide +kernel
theorem wk0 {Z : State} {a0 : Array Value} (hw : ∀ d ∈ tables_1, d.before a0 Z = true) : (Jvm.Cond.constant "com/example/tidemark/tidemark/RecencyListRemovePinLaw" (7 : Nat) (2147483647 : Int32)).before a0 Z = true := hw _ (List.mem_of_getElem? (i := 0) rfl)
theorem wk1 {Z : State} {a0 : Array Value} (hw : ∀ d ∈ tables_1, d.before a0 Z = true) : (Jvm.Cond.classLink "com/example/tidemark/tidemark/RecencyListRemovePinLaw" (8 : Nat) "com/example/tidemark/tidemark/RecencyList").before a0 Z = true := hw _ (List.mem_of_getElem? (i := 1) rfl)
theorem wk2 {Z : State} {a0 : Array Value} (hw : ∀ d ∈ tables_1, d.before a0 Z = true) : (Jvm.Cond.instantiable "com/example/tidemark/tidemark/RecencyList" (5 : Nat)).before a0 Z = true := hw _ (List.mem_of_getElem? (i := 2) rfl)
theorem wk3 {Z : State} {a0 : Array Value} (hw : ∀ d ∈ tables_1, d.before a0 Z = true) : (Jvm.Cond.initialized "com/example/tidemark/tidemark/RecencyList").before a0 Z = true := hw _ (List.mem_of_getElem? (i := 3) rfl)
theorem wk4 {Z : State} {a0 : Array Value} (hw : ∀ d ∈ tables_1, d.before a0 Z = true) : (Jvm.Cond.methodLink "com/example/tidemark/tidemark/RecencyListRemovePinLaw" (10 : Nat) ({ cls := "com/example/tidemark/tidemark/RecencyList", name := "<init>", desc := "()V" } : Jvm.MethodName)).before a0 Z = true := hw _ (List.mem_of_getElem? (i := 4) rfl)
theorem wk5 {Z : State} {a0 : Array Value} (hw : ∀ d ∈ tables_1, d.before a0 Z = true) : (Jvm.Cond.instanceMethod ({ cls := "com/example/tidemark/tidemark/RecencyList", name := "<init>", desc := "()V" } : Jvm.MethodName)).before a0 Z = true := hw _ (List.mem_of_getElem? (i := 5) rfl)
theorem wk6 {Z : State} {a0 : Array Value} (hw : ∀ d ∈ tables_1, d.before a0 Z = true) : (Jvm.Cond.code ({ cls := "com/example/tidemark/tidemark/RecencyList", name := "<init>", desc := "()V" } : Jvm.MethodName) prog_41_method_1_code (1 : Nat) (Option.none : Option Jvm.ClassFile.FieldType)).before a0 Z = true := hw _ (List.mem_of_getElem? (i := 6) rfl)
theorem wk7 {Z : State} {a0 : Array Value} (hw : ∀ d ∈ tables_1, d.before a0 Z = true) : (Jvm.Cond.methodLink "com/example/tidemark/tidemark/RecencyList" (1 : Nat) ({ cls := "java/lang/Object", name := "<init>", desc := "()V" } : Jvm.MethodName)).before a0 Z = true := hw _ (List.mem_of_getElem? (i := 7) rfl)
theorem wk8 {Z : State} {a0 : Array Value} (hw : ∀ d ∈ tables_1, d.before a0 Z = true) : (Jvm.Cond.instanceMethod ({ cls := "java/lang/Object", name := "<init>", desc := "()V" } : Jvm.MethodName)).before a0 Z = true := hw _ (List.mem_of_getElem? (i := 8) rfl)
theorem wk9 {Z : State} {a0 : Array Value} (hw : ∀ d ∈ tables_1, d.before a0 Z = true) : (Jvm.Cond.code ({ cls := "java/lang/Object", name := "<init>", desc := "()V" } : Jvm.MethodName) object_method_1_code (1 : Nat) (Option.none : Option Jvm.ClassFile.FieldType)).before a0 Z = true := hw _ (List.mem_of_getElem? (i := 9) rfl)
theorem wk10 {Z : State} {a0 : Array Value} (hw : ∀ d ∈ tables_1, d.before a0 Z = true) : (Jvm.Cond.classLink "com/example/tidemark/tidemark/RecencyListRemovePinLaw" (11 : Nat) "com/example/tidemark/tidemark/MemoryEntry").before a0 Z = true := hw _ (List.mem_of_getElem? (i := 10) rfl)
theorem wk11 {Z : State} {a0 : Array Value} (hw : ∀ d ∈ tables_1, d.before a0 Z = true) : (Jvm.Cond.instantiable "com/example/tidemark/tidemark/MemoryEntry" (18 : Nat)).before a0 Z = true := hw _ (List.mem_of_getElem? (i := 11) rfl)
theorem wk12 {Z : State} {a0 : Array Value} (hw : ∀ d ∈ tables_1, d.before a0 Z = true) : (Jvm.Cond.initialized "com/example/tidemark/tidemark/MemoryEntry").before a0 Z = true := hw _ (List.mem_of_getElem? (i := 12) rfl)
theorem wk13 {Z : State} {a0 : Array Value} (hw : ∀ d ∈ tables_1, d.before a0 Z = true) : (Jvm.Cond.fieldLink "com/example/tidemark/tidemark/RecencyListRemovePinLaw" (13 : Nat) "com/example/tidemark/tidemark/Expiry" "NEVER" "Lcom/example/tidemark/tidemark/Expiry;").before a0 Z = true := hw _ (List.mem_of_getElem? (i := 13) rfl)
theorem wk14 {Z : State} {a0 : Array Value} (hw : ∀ d ∈ tables_1, d.before a0 Z = true) : (Jvm.Cond.initialized "com/example/tidemark/tidemark/Expiry").before a0 Z = true := hw _ (List.mem_of_getElem? (i := 14) rfl)
theorem wk15 {Z : State} {a0 : Array Value} (hw : ∀ d ∈ tables_1, d.before a0 Z = true) : (Jvm.Cond.laysStatic "com/example/tidemark/tidemark/Expiry" "NEVER" "Lcom/example/tidemark/tidemark/Expiry;").before a0 Z = true := hw _ (List.mem_of_getElem? (i := 15) rfl)
theorem wk16 {Z : State} {a0 : Array Value} (hw : ∀ d ∈ tables_1, d.before a0 Z = true) : (Jvm.Cond.methodLink "com/example/tidemark/tidemark/RecencyListRemovePinLaw" (19 : Nat) ({ cls := "com/example/tidemark/tidemark/MemoryEntry", name := "<init>", desc := "(Ljava/lang/Object;Ljava/lang/Object;Lcom/example/tidemark/tidemark/Expiry;JJ)V" } : Jvm.MethodName)).before a0 Z = true := hw _ (List.mem_of_getElem? (i := 16) rfl)
theorem wk17 {Z : State} {a0 : Array Value} (hw : ∀ d ∈ tables_1, d.before a0 Z = true) : (Jvm.Cond.instanceMethod ({ cls := "com/example/tidemark/tidemark/MemoryEntry", name := "<init>", desc := "(Ljava/lang/Object;Ljava/lang/Object;Lcom/example/tidemark/tidemark/Expiry;JJ)V" } : Jvm.MethodName)).before a0 Z = true := hw _ (List.mem_of_getElem? (i := 17) rfl)
theorem wk18 {Z : State} {a0 : Array Value} (hw : ∀ d ∈ tables_1, d.before a0 Z = true) : (Jvm.Cond.code ({ cls := "com/example/tidemark/tidemark/MemoryEntry", name := "<init>", desc := "(Ljava/lang/Object;Ljava/lang/Object;Lcom/example/tidemark/tidemark/Expiry;JJ)V" } : Jvm.MethodName) prog_40_method_1_code (8 : Nat) (Option.none : Option Jvm.ClassFile.FieldType)).before a0 Z = true := hw _ (List.mem_of_getElem? (i := 18) rfl)
theorem wk19 {Z : State} {a0 : Array Value} (hw : ∀ d ∈ tables_1, d.before a0 Z = true) : (Jvm.Cond.methodLink "com/example/tidemark/tidemark/MemoryEntry" (1 : Nat) ({ cls := "java/lang/Object", name := "<init>", desc := "()V" } : Jvm.MethodName)).before a0 Z = true := hw _ (List.mem_of_getElem? (i := 19) rfl)
theorem wk20 {Z : State} {a0 : Array Value} (hw : ∀ d ∈ tables_1, d.before a0 Z = true) : (Jvm.Cond.fieldLink "com/example/tidemark/tidemark/MemoryEntry" (9 : Nat) "com/example/tidemark/tidemark/MemoryEntry" "slot" "I").before a0 Z = true := hw _ (List.mem_of_getElem? (i := 20) rfl)
theorem wk21 {Z : State} {a0 : Array Value} (hw : ∀ d ∈ tables_1, d.before a0 Z = true) : (Jvm.Cond.lays "com/example/tidemark/tidemark/MemoryEntry" "com/example/tidemark/tidemark/MemoryEntry" "slot" "I").before a0 Z = true := hw _ (List.mem_of_getElem? (i := 21) rfl)
theorem wk22 {Z : State} {a0 : Array Value} (hw : ∀ d ∈ tables_1, d.before a0 Z = true) : (Jvm.Cond.fieldLink "com/example/tidemark/tidemark/MemoryEntry" (15 : Nat) "com/example/tidemark/tidemark/MemoryEntry" "key" "Ljava/lang/Object;").before a0 Z = true := hw _ (List.mem_of_getElem? (i := 22) rfl)
theorem wk23 {Z : State} {a0 : Array Value} (hw : ∀ d ∈ tables_1, d.before a0 Z = true) : (Jvm.Cond.laysFinal "com/example/tidemark/tidemark/MemoryEntry" "com/example/tidemark/tidemark/MemoryEntry" "key" "Ljava/lang/Object;").before a0 Z = true := hw _ (List.mem_of_getElem? (i := 23) rfl)
theorem wk24 {Z : State} {a0 : Array Value} (hw : ∀ d ∈ tables_1, d.before a0 Z = true) : (Jvm.Cond.fieldLink "com/example/tidemark/tidemark/MemoryEntry" (19 : Nat) "com/example/tidemark/tidemark/MemoryEntry" "charge" "J").before a0 Z = true := hw _ (List.mem_of_getElem? (i := 24) rfl)
theorem wk25 {Z : State} {a0 : Array Value} (hw : ∀ d ∈ tables_1, d.before a0 Z = true) : (Jvm.Cond.lays "com/example/tidemark/tidemark/MemoryEntry" "com/example/tidemark/tidemark/MemoryEntry" "charge" "J").before a0 Z = true := hw _ (List.mem_of_getElem? (i := 25) rfl)
theorem wk26 {Z : State} {a0 : Array Value} (hw : ∀ d ∈ tables_1, d.before a0 Z = true) : (Jvm.Cond.methodLink "com/example/tidemark/tidemark/MemoryEntry" (23 : Nat) ({ cls := "com/example/tidemark/tidemark/MemoryEntry", name := "write", desc := "(Ljava/lang/Object;Lcom/example/tidemark/tidemark/Expiry;J)V" } : Jvm.MethodName)).before a0 Z = true := hw _ (List.mem_of_getElem? (i := 26) rfl)
theorem wk27 {Z : State} {a0 : Array Value} (hw : ∀ d ∈ tables_1, d.before a0 Z = true) : (Jvm.Cond.declares ({ cls := "com/example/tidemark/tidemark/MemoryEntry", name := "write", desc := "(Ljava/lang/Object;Lcom/example/tidemark/tidemark/Expiry;J)V" } : Jvm.MethodName)).before a0 Z = true := hw _ (List.mem_of_getElem? (i := 27) rfl)
theorem wk28 {Z : State} {a0 : Array Value} (hw : ∀ d ∈ tables_1, d.before a0 Z = true) : (Jvm.Cond.instanceMethod ({ cls := "com/example/tidemark/tidemark/MemoryEntry", name := "write", desc := "(Ljava/lang/Object;Lcom/example/tidemark/tidemark/Expiry;J)V" } : Jvm.MethodName)).before a0 Z = true := hw _ (List.mem_of_getElem? (i := 28) rfl)
theorem wk29 {Z : State} {a0 : Array Value} (hw : ∀ d ∈ tables_1, d.before a0 Z = true) : (Jvm.Cond.selects "com/example/tidemark/tidemark/MemoryEntry" ({ cls := "com/example/tidemark/tidemark/MemoryEntry", name := "write", desc := "(Ljava/lang/Object;Lcom/example/tidemark/tidemark/Expiry;J)V" } : Jvm.MethodName) ({ cls := "com/example/tidemark/tidemark/MemoryEntry", name := "write", desc := "(Ljava/lang/Object;Lcom/example/tidemark/tidemark/Expiry;J)V" } : Jvm.MethodName)).before a0 Z = true := hw _ (List.mem_of_getElem? (i := 29) rfl)
theorem wk30 {Z : State} {a0 : Array Value} (hw : ∀ d ∈ tables_1, d.before a0 Z = true) : (Jvm.Cond.code ({ cls := "com/example/tidemark/tidemark/MemoryEntry", name := "write", desc := "(Ljava/lang/Object;Lcom/example/tidemark/tidemark/Expiry;J)V" } : Jvm.MethodName) prog_40_method_2_code (5 : Nat) (Option.none : Option Jvm.ClassFile.FieldType)).before a0 Z = true := hw _ (List.mem_of_getElem? (i := 30) rfl)
theorem wk31 {Z : State} {a0 : Array Value} (hw : ∀ d ∈ tables_1, d.before a0 Z = true) : (Jvm.Cond.fieldLink "com/example/tidemark/tidemark/MemoryEntry" (27 : Nat) "com/example/tidemark/tidemark/MemoryEntry" "value" "Ljava/lang/Object;").before a0 Z = true := hw _ (List.mem_of_getElem? (i := 31) rfl)
theorem wk32 {Z : State} {a0 : Array Value} (hw : ∀ d ∈ tables_1, d.before a0 Z = true) : (Jvm.Cond.lays "com/example/tidemark/tidemark/MemoryEntry" "com/example/tidemark/tidemark/MemoryEntry" "value" "Ljava/lang/Object;").before a0 Z = true := hw _ (List.mem_of_getElem? (i := 32) rfl)
theorem wk33 {Z : State} {a0 : Array Value} (hw : ∀ d ∈ tables_1, d.before a0 Z = true) : (Jvm.Cond.fieldLink "com/example/tidemark/tidemark/MemoryEntry" (33 : Nat) "com/example/tidemark/tidemark/MemoryEntry" "expiry" "Lcom/example/tidemark/tidemark/Expiry;").before a0 Z = true := hw _ (List.mem_of_getElem? (i := 33) rfl)
theorem wk34 {Z : State} {a0 : Array Value} (hw : ∀ d ∈ tables_1, d.before a0 Z = true) : (Jvm.Cond.lays "com/example/tidemark/tidemark/MemoryEntry" "com/example/tidemark/tidemark/MemoryEntry" "expiry" "Lcom/example/tidemark/tidemark/Expiry;").before a0 Z = true := hw _ (List.mem_of_getElem? (i := 34) rfl)
theorem wk35 {Z : State} {a0 : Array Value} (hw : ∀ d ∈ tables_1, d.before a0 Z = true) : (Jvm.Cond.methodLink "com/example/tidemark/tidemark/MemoryEntry" (37 : Nat) ({ cls := "com/example/tidemark/tidemark/MemoryEntry", name := "restart", desc := "(J)V" } : Jvm.MethodName)).before a0 Z = true := hw _ (List.mem_of_getElem? (i := 35) rfl)
theorem wk36 {Z : State} {a0 : Array Value} (hw : ∀ d ∈ tables_1, d.before a0 Z = true) : (Jvm.Cond.declares ({ cls := "com/example/tidemark/tidemark/MemoryEntry", name := "restart", desc := "(J)V" } : Jvm.MethodName)).before a0 Z = true := hw _ (List.mem_of_getElem? (i := 36) rfl)
theorem wk37 {Z : State} {a0 : Array Value} (hw : ∀ d ∈ tables_1, d.before a0 Z = true) : (Jvm.Cond.instanceMethod ({ cls := "com/example/tidemark/tidemark/MemoryEntry", name := "restart", desc := "(J)V" } : Jvm.MethodName)).before a0 Z = true := hw _ (List.mem_of_getElem? (i := 37) rfl)
theorem wk38 {Z : State} {a0 : Array Value} (hw : ∀ d ∈ tables_1, d.before a0 Z = true) : (Jvm.Cond.selects "com/example/tidemark/tidemark/MemoryEntry" ({ cls := "com/example/tidemark/tidemark/MemoryEntry", name := "restart", desc := "(J)V" } : Jvm.MethodName) ({ cls := "com/example/tidemark/tidemark/MemoryEntry", name := "restart", desc := "(J)V" } : Jvm.MethodName)).before a0 Z = true := hw _ (List.mem_of_getElem? (i := 38) rfl)
theorem wk39 {Z : State} {a0 : Array Value} (hw : ∀ d ∈ tables_1, d.before a0 Z = true) : (Jvm.Cond.code ({ cls := "com/example/tidemark/tidemark/MemoryEntry", name := "restart", desc := "(J)V" } : Jvm.MethodName) prog_40_method_6_code (3 : Nat) (Option.none : Option Jvm.ClassFile.FieldType)).before a0 Z = true := hw _ (List.mem_of_getElem? (i := 39) rfl)
theorem wk40 {Z : State} {a0 : Array Value} (hw : ∀ d ∈ tables_1, d.before a0 Z = true) : (Jvm.Cond.fieldLink "com/example/tidemark/tidemark/MemoryEntry" (67 : Nat) "com/example/tidemark/tidemark/MemoryEntry" "created" "J").before a0 Z = true := hw _ (List.mem_of_getElem? (i := 40) rfl)
theorem wk41 {Z : State} {a0 : Array Value} (hw : ∀ d ∈ tables_1, d.before a0 Z = true) : (Jvm.Cond.lays "com/example/tidemark/tidemark/MemoryEntry" "com/example/tidemark/tidemark/MemoryEntry" "created" "J").before a0 Z = true := hw _ (List.mem_of_getElem? (i := 41) rfl)
theorem wk42 {Z : State} {a0 : Array Value} (hw : ∀ d ∈ tables_1, d.before a0 Z = true) : (Jvm.Cond.fieldLink "com/example/tidemark/tidemark/MemoryEntry" (30 : Nat) "com/example/tidemark/tidemark/MemoryEntry" "lastUsed" "J").before a0 Z = true := hw _ (List.mem_of_getElem? (i := 42) rfl)
theorem wk43 {Z : State} {a0 : Array Value} (hw : ∀ d ∈ tables_1, d.before a0 Z = true) : (Jvm.Cond.lays "com/example/tidemark/tidemark/MemoryEntry" "com/example/tidemark/tidemark/MemoryEntry" "lastUsed" "J").before a0 Z = true := hw _ (List.mem_of_getElem? (i := 43) rfl)
theorem wk44 {Z : State} {a0 : Array Value} (hw : ∀ d ∈ tables_1, d.before a0 Z = true) : (Jvm.Cond.methodLink "com/example/tidemark/tidemark/MemoryEntry" (41 : Nat) ({ cls := "com/example/tidemark/tidemark/Expiry", name := "canExpire", desc := "()Z" } : Jvm.MethodName)).before a0 Z = true := hw _ (List.mem_of_getElem? (i := 44) rfl)
theorem wk45 {Z : State} {a0 : Array Value} (hw : ∀ d ∈ tables_1, d.before a0 Z = true) : (Jvm.Cond.declares ({ cls := "com/example/tidemark/tidemark/Expiry", name := "canExpire", desc := "()Z" } : Jvm.MethodName)).before a0 Z = true := hw _ (List.mem_of_getElem? (i := 45) rfl)
theorem wk46 {Z : State} {a0 : Array Value} (hw : ∀ d ∈ tables_1, d.before a0 Z = true) : (Jvm.Cond.instanceMethod ({ cls := "com/example/tidemark/tidemark/Expiry", name := "canExpire", desc := "()Z" } : Jvm.MethodName)).before a0 Z = true := hw _ (List.mem_of_getElem? (i := 46) rfl)
theorem wk47 {Z : State} {a0 : Array Value} (hw : ∀ d ∈ tables_1, d.before a0 Z = true) : (Jvm.Cond.selects "com/example/tidemark/tidemark/Expiry" ({ cls := "com/example/tidemark/tidemark/Expiry", name := "canExpire", desc := "()Z" } : Jvm.MethodName) ({ cls := "com/example/tidemark/tidemark/Expiry", name := "canExpire", desc := "()Z" } : Jvm.MethodName)).before a0 Z = true := hw _ (List.mem_of_getElem? (i := 47) rfl)
theorem wk48 {Z : State} {a0 : Array Value} (hw : ∀ d ∈ tables_1, d.before a0 Z = true) : (Jvm.Cond.code ({ cls := "com/example/tidemark/tidemark/Expiry", name := "canExpire", desc := "()Z" } : Jvm.MethodName) prog_21_method_5_code (1 : Nat) (Option.some Jvm.ClassFile.FieldType.boolean)).before a0 Z = true := hw _ (List.mem_of_getElem? (i := 48) rfl)
theorem wk49 {Z : State} {a0 : Array Value} (hw : ∀ d ∈ tables_1, d.before a0 Z = true) : (Jvm.Cond.fieldLink "com/example/tidemark/tidemark/Expiry" (17 : Nat) "com/example/tidemark/tidemark/Expiry" "lifespan" "J").before a0 Z = true := hw _ (List.mem_of_getElem? (i := 49) rfl)
theorem wk51 {Z : State} {a0 : Array Value} (hw : ∀ d ∈ tables_1, d.before a0 Z = true) : (Jvm.Cond.constantLong "com/example/tidemark/tidemark/Expiry" (29 : Nat) (-1 : Int64)).before a0 Z = true := hw _ (List.mem_of_getElem? (i := 51) rfl)
theorem wk52 {Z : State} {a0 : Array Value} (hw : ∀ d ∈ tables_1, d.before a0 Z = true) : (Jvm.Cond.fieldLink "com/example/tidemark/tidemark/Expiry" (20 : Nat) "com/example/tidemark/tidemark/Expiry" "maxIdle" "J").before a0 Z = true := hw _ (List.mem_of_getElem? (i := 52) rfl)
theorem wk54 {Z : State} {a0 : Array Value} (hw : ∀ d ∈ tables_1, d.before a0 Z = true) : (Jvm.Cond.fieldLink "com/example/tidemark/tidemark/MemoryEntry" (47 : Nat) "com/example/tidemark/tidemark/MemoryEntry" "lockFreeValue" "Ljava/lang/Object;").before a0 Z = true := hw _ (List.mem_of_getElem? (i := 54) rfl)
theorem wk55 {Z : State} {a0 : Array Value} (hw : ∀ d ∈ tables_1, d.before a0 Z = true) : (Jvm.Cond.lays "com/example/tidemark/tidemark/MemoryEntry" "com/example/tidemark/tidemark/MemoryEntry" "lockFreeValue" "Ljava/lang/Object;").before a0 Z = true := hw _ (List.mem_of_getElem? (i := 55) rfl)
theorem wk56 {Z : State} {a0 : Array Value} (hw : ∀ d ∈ tables_1, d.before a0 Z = true) : (Jvm.Cond.methodLink "com/example/tidemark/tidemark/RecencyListRemovePinLaw" (22 : Nat) ({ cls := "com/example/tidemark/tidemark/RecencyList", name := "addNewest", desc := "(Lcom/example/tidemark/tidemark/MemoryEntry;)V" } : Jvm.MethodName)).before a0 Z = true := hw _ (List.mem_of_getElem? (i := 56) rfl)
theorem wk57 {Z : State} {a0 : Array Value} (hw : ∀ d ∈ tables_1, d.before a0 Z = true) : (Jvm.Cond.declares ({ cls := "com/example/tidemark/tidemark/RecencyList", name := "addNewest", desc := "(Lcom/example/tidemark/tidemark/MemoryEntry;)V" } : Jvm.MethodName)).before a0 Z = true := hw _ (List.mem_of_getElem? (i := 57) rfl)
theorem wk58 {Z : State} {a0 : Array Value} (hw : ∀ d ∈ tables_1, d.before a0 Z = true) : (Jvm.Cond.instanceMethod ({ cls := "com/example/tidemark/tidemark/RecencyList", name := "addNewest", desc := "(Lcom/example/tidemark/tidemark/MemoryEntry;)V" } : Jvm.MethodName)).before a0 Z = true := hw _ (List.mem_of_getElem? (i := 58) rfl)
theorem wk59 {Z : State} {a0 : Array Value} (hw : ∀ d ∈ tables_1, d.before a0 Z = true) : (Jvm.Cond.selects "com/example/tidemark/tidemark/RecencyList" ({ cls := "com/example/tidemark/tidemark/RecencyList", name := "addNewest", desc := "(Lcom/example/tidemark/tidemark/MemoryEntry;)V" } : Jvm.MethodName) ({ cls := "com/example/tidemark/tidemark/RecencyList", name := "addNewest", desc := "(Lcom/example/tidemark/tidemark/MemoryEntry;)V" } : Jvm.MethodName)).before a0 Z = true := hw _ (List.mem_of_getElem? (i := 59) rfl)
theorem wk60 {Z : State} {a0 : Array Value} (hw : ∀ d ∈ tables_1, d.before a0 Z = true) : (Jvm.Cond.code ({ cls := "com/example/tidemark/tidemark/RecencyList", name := "addNewest", desc := "(Lcom/example/tidemark/tidemark/MemoryEntry;)V" } : Jvm.MethodName) prog_41_method_7_code (2 : Nat) (Option.none : Option Jvm.ClassFile.FieldType)).before a0 Z = true := hw _ (List.mem_of_getElem? (i := 60) rfl)
theorem wk61 {Z : State} {a0 : Array Value} (hw : ∀ d ∈ tables_1, d.before a0 Z = true) : (Jvm.Cond.fieldLink "com/example/tidemark/tidemark/RecencyList" (25 : Nat) "com/example/tidemark/tidemark/RecencyList" "stamps" "J").before a0 Z = true := hw _ (List.mem_of_getElem? (i := 61) rfl)
theorem wk62 {Z : State} {a0 : Array Value} (hw : ∀ d ∈ tables_1, d.before a0 Z = true) : (Jvm.Cond.lays "com/example/tidemark/tidemark/RecencyList" "com/example/tidemark/tidemark/RecencyList" "stamps" "J").before a0 Z = true := hw _ (List.mem_of_getElem? (i := 62) rfl)
theorem wk63 {Z : State} {a0 : Array Value} (hw : ∀ d ∈ tables_1, d.before a0 Z = true) : (Jvm.Cond.fieldLink "com/example/tidemark/tidemark/RecencyList" (28 : Nat) "com/example/tidemark/tidemark/MemoryEntry" "stamp" "J").before a0 Z = true := hw _ (List.mem_of_getElem? (i := 63) rfl)
theorem wk64 {Z : State} {a0 : Array Value} (hw : ∀ d ∈ tables_1, d.before a0 Z = true) : (Jvm.Cond.lays "com/example/tidemark/tidemark/MemoryEntry" "com/example/tidemark/tidemark/MemoryEntry" "stamp" "J").before a0 Z = true := hw _ (List.mem_of_getElem? (i := 64) rfl)
theorem wk65 {Z : State} {a0 : Array Value} (hw : ∀ d ∈ tables_1, d.before a0 Z = true) : (Jvm.Cond.fieldLink "com/example/tidemark/tidemark/RecencyList" (31 : Nat) "com/example/tidemark/tidemark/MemoryEntry" "list" "Lcom/example/tidemark/tidemark/RecencyList;").before a0 Z = true := hw _ (List.mem_of_getElem? (i := 65) rfl)
theorem wk66 {Z : State} {a0 : Array Value} (hw : ∀ d ∈ tables_1, d.before a0 Z = true) : (Jvm.Cond.lays "com/example/tidemark/tidemark/MemoryEntry" "com/example/tidemark/tidemark/MemoryEntry" "list" "Lcom/example/tidemark/tidemark/RecencyList;").before a0 Z = true := hw _ (List.mem_of_getElem? (i := 66) rfl)
theorem wk67 {Z : State} {a0 : Array Value} (hw : ∀ d ∈ tables_1, d.before a0 Z = true) : (Jvm.Cond.fieldLink "com/example/tidemark/tidemark/RecencyList" (35 : Nat) "com/example/tidemark/tidemark/RecencyList" "newest" "Lcom/example/tidemark/tidemark/MemoryEntry;").before a0 Z = true := hw _ (List.mem_of_getElem? (i := 67) rfl)
theorem wk68 {Z : State} {a0 : Array Value} (hw : ∀ d ∈ tables_1, d.before a0 Z = true) : (Jvm.Cond.lays "com/example/tidemark/tidemark/RecencyList" "com/example/tidemark/tidemark/RecencyList" "newest" "Lcom/example/tidemark/tidemark/MemoryEntry;").before a0 Z = true := hw _ (List.mem_of_getElem? (i := 68) rfl)
theorem wk69 {Z : State} {a0 : Array Value} (hw : ∀ d ∈ tables_1, d.before a0 Z = true) : (Jvm.Cond.fieldLink "com/example/tidemark/tidemark/RecencyList" (38 : Nat) "com/example/tidemark/tidemark/MemoryEntry" "older" "Lcom/example/tidemark/tidemark/MemoryEntry;").before a0 Z = true := hw _ (List.mem_of_getElem? (i := 69) rfl)
theorem wk70 {Z : State} {a0 : Array Value} (hw : ∀ d ∈ tables_1, d.before a0 Z = true) : (Jvm.Cond.lays "com/example/tidemark/tidemark/MemoryEntry" "com/example/tidemark/tidemark/MemoryEntry" "older" "Lcom/example/tidemark/tidemark/MemoryEntry;").before a0 Z = true := hw _ (List.mem_of_getElem? (i := 70) rfl)
theorem wk71 {Z : State} {a0 : Array Value} (hw : ∀ d ∈ tables_1, d.before a0 Z = true) : (Jvm.Cond.fieldLink "com/example/tidemark/tidemark/RecencyList" (13 : Nat) "com/example/tidemark/tidemark/MemoryEntry" "newer" "Lcom/example/tidemark/tidemark/MemoryEntry;").before a0 Z = true := hw _ (List.mem_of_getElem? (i := 71) rfl)
theorem wk72 {Z : State} {a0 : Array Value} (hw : ∀ d ∈ tables_1, d.before a0 Z = true) : (Jvm.Cond.lays "com/example/tidemark/tidemark/MemoryEntry" "com/example/tidemark/tidemark/MemoryEntry" "newer" "Lcom/example/tidemark/tidemark/MemoryEntry;").before a0 Z = true := hw _ (List.mem_of_getElem? (i := 72) rfl)
theorem wk73 {Z : State} {a0 : Array Value} (hw : ∀ d ∈ tables_1, d.before a0 Z = true) : (Jvm.Cond.fieldLink "com/example/tidemark/tidemark/RecencyList" (7 : Nat) "com/example/tidemark/tidemark/RecencyList" "oldest" "Lcom/example/tidemark/tidemark/MemoryEntry;").before a0 Z = true := hw _ (List.mem_of_getElem? (i := 73) rfl)
theorem wk74 {Z : State} {a0 : Array Value} (hw : ∀ d ∈ tables_1, d.before a0 Z = true) : (Jvm.Cond.lays "com/example/tidemark/tidemark/RecencyList" "com/example/tidemark/tidemark/RecencyList" "oldest" "Lcom/example/tidemark/tidemark/MemoryEntry;").before a0 Z = true := hw _ (List.mem_of_getElem? (i := 74) rfl)
theorem wk75 {Z : State} {a0 : Array Value} (hw : ∀ d ∈ tables_1, d.before a0 Z = true) : (Jvm.Cond.fieldLink "com/example/tidemark/tidemark/RecencyList" (18 : Nat) "com/example/tidemark/tidemark/RecencyList" "size" "J").before a0 Z = true := hw _ (List.mem_of_getElem? (i := 75) rfl)
theorem wk76 {Z : State} {a0 : Array Value} (hw : ∀ d ∈ tables_1, d.before a0 Z = true) : (Jvm.Cond.lays "com/example/tidemark/tidemark/RecencyList" "com/example/tidemark/tidemark/RecencyList" "size" "J").before a0 Z = true := hw _ (List.mem_of_getElem? (i := 76) rfl)
theorem wk77 {Z : State} {a0 : Array Value} (hw : ∀ d ∈ tables_1, d.before a0 Z = true) : (Jvm.Cond.fieldLink "com/example/tidemark/tidemark/RecencyList" (22 : Nat) "com/example/tidemark/tidemark/RecencyList" "weight" "J").before a0 Z = true := hw _ (List.mem_of_getElem? (i := 77) rfl)
theorem wk78 {Z : State} {a0 : Array Value} (hw : ∀ d ∈ tables_1, d.before a0 Z = true) : (Jvm.Cond.lays "com/example/tidemark/tidemark/RecencyList" "com/example/tidemark/tidemark/RecencyList" "weight" "J").before a0 Z = true := hw _ (List.mem_of_getElem? (i := 78) rfl)
theorem wk79 {Z : State} {a0 : Array Value} (hw : ∀ d ∈ tables_1, d.before a0 Z = true) : (Jvm.Cond.fieldLink "com/example/tidemark/tidemark/RecencyList" (41 : Nat) "com/example/tidemark/tidemark/MemoryEntry" "charge" "J").before a0 Z = true := hw _ (List.mem_of_getElem? (i := 79) rfl)
theorem wk80 {Z : State} {a0 : Array Value} (hw : ∀ d ∈ tables_1, d.before a0 Z = true) : (Jvm.Cond.methodLink "com/example/tidemark/tidemark/RecencyListRemovePinLaw" (26 : Nat) ({ cls := "com/example/tidemark/tidemark/RecencyList", name := "remove", desc := "(Lcom/example/tidemark/tidemark/MemoryEntry;)V" } : Jvm.MethodName)).before a0 Z = true := hw _ (List.mem_of_getElem? (i := 80) rfl)
theorem wk81 {Z : State} {a0 : Array Value} (hw : ∀ d ∈ tables_1, d.before a0 Z = true) : (Jvm.Cond.declares ({ cls := "com/example/tidemark/tidemark/RecencyList", name := "remove", desc := "(Lcom/example/tidemark/tidemark/MemoryEntry;)V" } : Jvm.MethodName)).before a0 Z = true := hw _ (List.mem_of_getElem? (i := 81) rfl)
theorem wk82 {Z : State} {a0 : Array Value} (hw : ∀ d ∈ tables_1, d.before a0 Z = true) : (Jvm.Cond.instanceMethod ({ cls := "com/example/tidemark/tidemark/RecencyList", name := "remove", desc := "(Lcom/example/tidemark/tidemark/MemoryEntry;)V" } : Jvm.MethodName)).before a0 Z = true := hw _ (List.mem_of_getElem? (i := 82) rfl)
theorem wk83 {Z : State} {a0 : Array Value} (hw : ∀ d ∈ tables_1, d.before a0 Z = true) : (Jvm.Cond.selects "com/example/tidemark/tidemark/RecencyList" ({ cls := "com/example/tidemark/tidemark/RecencyList", name := "remove", desc := "(Lcom/example/tidemark/tidemark/MemoryEntry;)V" } : Jvm.MethodName) ({ cls := "com/example/tidemark/tidemark/RecencyList", name := "remove", desc := "(Lcom/example/tidemark/tidemark/MemoryEntry;)V" } : Jvm.MethodName)).before a0 Z = true := hw _ (List.mem_of_getElem? (i := 83) rfl)
theorem wk84 {Z : State} {a0 : Array Value} (hw : ∀ d ∈ tables_1, d.before a0 Z = true) : (Jvm.Cond.code ({ cls := "com/example/tidemark/tidemark/RecencyList", name := "remove", desc := "(Lcom/example/tidemark/tidemark/MemoryEntry;)V" } : Jvm.MethodName) prog_41_method_10_code (2 : Nat) (Option.none : Option Jvm.ClassFile.FieldType)).before a0 Z = true := hw _ (List.mem_of_getElem? (i := 84) rfl)
theorem wk85 {Z : State} {a0 : Array Value} (hw : ∀ d ∈ tables_1, d.before a0 Z = true) : (Jvm.Cond.methodLink "com/example/tidemark/tidemark/RecencyListRemovePinLaw" (29 : Nat) ({ cls := "com/example/tidemark/tidemark/RecencyList", name := "size", desc := "()J" } : Jvm.MethodName)).before a0 Z = true := hw _ (List.mem_of_getElem? (i := 85) rfl)
theorem wk86 {Z : State} {a0 : Array Value} (hw : ∀ d ∈ tables_1, d.before a0 Z = true) : (Jvm.Cond.declares ({ cls := "com/example/tidemark/tidemark/RecencyList", name := "size", desc := "()J" } : Jvm.MethodName)).before a0 Z = true := hw _ (List.mem_of_getElem? (i := 86) rfl)
theorem wk87 {Z : State} {a0 : Array Value} (hw : ∀ d ∈ tables_1, d.before a0 Z = true) : (Jvm.Cond.instanceMethod ({ cls := "com/example/tidemark/tidemark/RecencyList", name := "size", desc := "()J" } : Jvm.MethodName)).before a0 Z = true := hw _ (List.mem_of_getElem? (i := 87) rfl)
theorem wk88 {Z : State} {a0 : Array Value} (hw : ∀ d ∈ tables_1, d.before a0 Z = true) : (Jvm.Cond.selects "com/example/tidemark/tidemark/RecencyList" ({ cls := "com/example/tidemark/tidemark/RecencyList", name := "size", desc := "()J" } : Jvm.MethodName) ({ cls := "com/example/tidemark/tidemark/RecencyList", name := "size", desc := "()J" } : Jvm.MethodName)).before a0 Z = true := hw _ (List.mem_of_getElem? (i := 88) rfl)
theorem wk89 {Z : State} {a0 : Array Value} (hw : ∀ d ∈ tables_1, d.before a0 Z = true) : (Jvm.Cond.code ({ cls := "com/example/tidemark/tidemark/RecencyList", name := "size", desc := "()J" } : Jvm.MethodName) prog_41_method_4_code (1 : Nat) (Option.some Jvm.ClassFile.FieldType.long)).before a0 Z = true := hw _ (List.mem_of_getElem? (i := 89) rfl)
theorem wk90 {Z : State} {a0 : Array Value} (hw : ∀ d ∈ tables_1, d.before a0 Z = true) : (Jvm.Cond.methodLink "com/example/tidemark/tidemark/RecencyListRemovePinLaw" (33 : Nat) ({ cls := "com/example/tidemark/tidemark/RecencyList", name := "weight", desc := "()J" } : Jvm.MethodName)).before a0 Z = true := hw _ (List.mem_of_getElem? (i := 90) rfl)
theorem wk91 {Z : State} {a0 : Array Value} (hw : ∀ d ∈ tables_1, d.before a0 Z = true) : (Jvm.Cond.declares ({ cls := "com/example/tidemark/tidemark/RecencyList", name := "weight", desc := "()J" } : Jvm.MethodName)).before a0 Z = true := hw _ (List.mem_of_getElem? (i := 91) rfl)
theorem wk92 {Z : State} {a0 : Array Value} (hw : ∀ d ∈ tables_1, d.before a0 Z = true) : (Jvm.Cond.instanceMethod ({ cls := "com/example/tidemark/tidemark/RecencyList", name := "weight", desc := "()J" } : Jvm.MethodName)).before a0 Z = true := hw _ (List.mem_of_getElem? (i := 92) rfl)
theorem wk93 {Z : State} {a0 : Array Value} (hw : ∀ d ∈ tables_1, d.before a0 Z = true) : (Jvm.Cond.selects "com/example/tidemark/tidemark/RecencyList" ({ cls := "com/example/tidemark/tidemark/RecencyList", name := "weight", desc := "()J" } : Jvm.MethodName) ({ cls := "com/example/tidemark/tidemark/RecencyList", name := "weight", desc := "()J" } : Jvm.MethodName)).before a0 Z = true := hw _ (List.mem_of_getElem? (i := 93) rfl)
theorem wk94 {Z : State} {a0 : Array Value} (hw : ∀ d ∈ tables_1, d.before a0 Z = true) : (Jvm.Cond.code ({ cls := "com/example/tidemark/tidemark/RecencyList", name := "weight", desc := "()J" } : Jvm.MethodName) prog_41_method_5_code (1 : Nat) (Option.some Jvm.ClassFile.FieldType.long)).before a0 Z = true := hw _ (List.mem_of_getElem? (i := 94) rfl)
theorem wk95 {Z : State} {a0 : Array Value} (hw : ∀ d ∈ tables_1, d.before a0 Z = true) : (Jvm.Cond.methodLink "com/example/tidemark/tidemark/RecencyListRemovePinLaw" (36 : Nat) ({ cls := "com/example/tidemark/tidemark/RecencyList", name := "oldest", desc := "()Lcom/example/tidemark/tidemark/MemoryEntry;" } : Jvm.MethodName)).before a0 Z = true := hw _ (List.mem_of_getElem? (i := 95) rfl)
theorem wk96 {Z : State} {a0 : Array Value} (hw : ∀ d ∈ tables_1, d.before a0 Z = true) : (Jvm.Cond.declares ({ cls := "com/example/tidemark/tidemark/RecencyList", name := "oldest", desc := "()Lcom/example/tidemark/tidemark/MemoryEntry;" } : Jvm.MethodName)).before a0 Z = true := hw _ (List.mem_of_getElem? (i := 96) rfl)
theorem wk97 {Z : State} {a0 : Array Value} (hw : ∀ d ∈ tables_1, d.before a0 Z = true) : (Jvm.Cond.instanceMethod ({ cls := "com/example/tidemark/tidemark/RecencyList", name := "oldest", desc := "()Lcom/example/tidemark/tidemark/MemoryEntry;" } : Jvm.MethodName)).before a0 Z = true := hw _ (List.mem_of_getElem? (i := 97) rfl)
theorem wk98 {Z : State} {a0 : Array Value} (hw : ∀ d ∈ tables_1, d.before a0 Z = true) : (Jvm.Cond.selects "com/example/tidemark/tidemark/RecencyList" ({ cls := "com/example/tidemark/tidemark/RecencyList", name := "oldest", desc := "()Lcom/example/tidemark/tidemark/MemoryEntry;" } : Jvm.MethodName) ({ cls := "com/example/tidemark/tidemark/RecencyList", name := "oldest", desc := "()Lcom/example/tidemark/tidemark/MemoryEntry;" } : Jvm.MethodName)).before a0 Z = true := hw _ (List.mem_of_getElem? (i := 98) rfl)
theorem wk99 {Z : State} {a0 : Array Value} (hw : ∀ d ∈ tables_1, d.before a0 Z = true) : (Jvm.Cond.code ({ cls := "com/example/tidemark/tidemark/RecencyList", name := "oldest", desc := "()Lcom/example/tidemark/tidemark/MemoryEntry;" } : Jvm.MethodName) prog_41_method_2_code (1 : Nat) (Option.some (Jvm.ClassFile.FieldType.object "com/example/tidemark/tidemark/MemoryEntry"))).before a0 Z = true := hw _ (List.mem_of_getElem? (i := 99) rfl)
theorem wk100 {Z : State} {a0 : Array Value} (hw : ∀ d ∈ tables_1, d.before a0 Z = true) : (Jvm.Cond.fieldLink "com/example/tidemark/tidemark/RecencyListRemovePinLaw" (40 : Nat) "com/example/tidemark/tidemark/MemoryEntry" "older" "Lcom/example/tidemark/tidemark/MemoryEntry;").before a0 Z = true := hw _ (List.mem_of_getElem? (i := 100) rfl)
theorem wk101 {Z : State} {a0 : Array Value} (hw : ∀ d ∈ tables_1, d.before a0 Z = true) : (Jvm.Cond.fieldLink "com/example/tidemark/tidemark/RecencyListRemovePinLaw" (44 : Nat) "com/example/tidemark/tidemark/MemoryEntry" "newer" "Lcom/example/tidemark/tidemark/MemoryEntry;").before a0 Z = true := hw _ (List.mem_of_getElem? (i := 101) rfl)
theorem wk102 {Z : State} {a0 : Array Value} (hw : ∀ d ∈ tables_1, d.before a0 Z = true) : (Jvm.Cond.fieldLink "com/example/tidemark/tidemark/RecencyListRemovePinLaw" (47 : Nat) "com/example/tidemark/tidemark/MemoryEntry" "list" "Lcom/example/tidemark/tidemark/RecencyList;").before a0 Z = true := hw _ (List.mem_of_getElem? (i := 102) rfl)
theorem sn0 {Z : State} {a0 : Array Value} (hw : ∀ d ∈ tables_1, d.before a0 Z = true) : Jvm.RoadKit.slotOf Z "com/example/tidemark/tidemark/MemoryEntry" "key" "Ljava/lang/Object;" ≠ Jvm.RoadKit.slotOf Z "com/example/tidemark/tidemark/MemoryEntry" "slot" "I" := slot_ne (Or.inr (wk23 hw)) (Or.inl (wk21 hw)) (by decide +kernel) pf0 pf1
theorem sn1 {Z : State} {a0 : Array Value} (hw : ∀ d ∈ tables_1, d.before a0 Z = true) : Jvm.RoadKit.slotOf Z "com/example/tidemark/tidemark/MemoryEntry" "charge" "J" ≠ Jvm.RoadKit.slotOf Z "com/example/tidemark/tidemark/MemoryEntry" "slot" "I" := slot_ne (Or.inl (wk25 hw)) (Or.inl (wk21 hw)) (by decide +kernel) pf2 pf1
theorem sn2 {Z : State} {a0 : Array Value} (hw : ∀ d ∈ tables_1, d.before a0 Z = true) : Jvm.RoadKit.slotOf Z "com/example/tidemark/tidemark/MemoryEntry" "charge" "J" ≠ Jvm.RoadKit.slotOf Z "com/example/tidemark/tidemark/MemoryEntry" "key" "Ljava/lang/Object;" := slot_ne (Or.inl (wk25 hw)) (Or.inr (wk23 hw)) (by decide +kernel) pf2 pf0
theorem sn3 {Z : State} {a0 : Array Value} (hw : ∀ d ∈ tables_1, d.before a0 Z = true) : Jvm.RoadKit.slotOf Z "com/example/tidemark/tidemark/MemoryEntry" "expiry" "Lcom/example/tidemark/tidemark/Expiry;" ≠ Jvm.RoadKit.slotOf Z "com/example/tidemark/tidemark/MemoryEntry" "value" "Ljava/lang/Object;" := slot_ne (Or.inl (wk34 hw)) (Or.inl (wk32 hw)) (by decide +kernel) pf3 pf0
theorem sn4 {Z : State} {a0 : Array Value} (hw : ∀ d ∈ tables_1, d.before a0 Z = true) : Jvm.RoadKit.slotOf Z "com/example/tidemark/tidemark/MemoryEntry" "lastUsed" "J" ≠ Jvm.RoadKit.slotOf Z "com/example/tidemark/tidemark/MemoryEntry" "created" "J" := slot_ne (Or.inl (wk43 hw)) (Or.inl (wk41 hw)) (by decide +kernel) pf2 pf2
theorem sn5 {Z : State} {a0 : Array Value} (hw : ∀ d ∈ tables_1, d.before a0 Z = true) : Jvm.RoadKit.slotOf Z "com/example/tidemark/tidemark/MemoryEntry" "created" "J" ≠ Jvm.RoadKit.slotOf Z "com/example/tidemark/tidemark/MemoryEntry" "lastUsed" "J" := slot_ne (Or.inl (wk41 hw)) (Or.inl (wk43 hw)) (by decide +kernel) pf2 pf2
theorem sn6 {Z : State} {a0 : Array Value} (hw : ∀ d ∈ tables_1, d.before a0 Z = true) : Jvm.RoadKit.slotOf Z "com/example/tidemark/tidemark/MemoryEntry" "created" "J" ≠ Jvm.RoadKit.slotOf Z "com/example/tidemark/tidemark/MemoryEntry" "value" "Ljava/lang/Object;" := slot_ne (Or.inl (wk41 hw)) (Or.inl (wk32 hw)) (by decide +kernel) pf2 pf0
theorem sn7 {Z : State} {a0 : Array Value} (hw : ∀ d ∈ tables_1, d.before a0 Z = true) : Jvm.RoadKit.slotOf Z "com/example/tidemark/tidemark/MemoryEntry" "created" "J" ≠ Jvm.RoadKit.slotOf Z "com/example/tidemark/tidemark/MemoryEntry" "expiry" "Lcom/example/tidemark/tidemark/Expiry;" := slot_ne (Or.inl (wk41 hw)) (Or.inl (wk34 hw)) (by decide +kernel) pf2 pf3
theorem sn8 {Z : State} {a0 : Array Value} (hw : ∀ d ∈ tables_1, d.before a0 Z = true) : Jvm.RoadKit.slotOf Z "com/example/tidemark/tidemark/MemoryEntry" "lastUsed" "J" ≠ Jvm.RoadKit.slotOf Z "com/example/tidemark/tidemark/MemoryEntry" "value" "Ljava/lang/Object;" := slot_ne (Or.inl (wk43 hw)) (Or.inl (wk32 hw)) (by decide +kernel) pf2 pf0
theorem sn9 {Z : State} {a0 : Array Value} (hw : ∀ d ∈ tables_1, d.before a0 Z = true) : Jvm.RoadKit.slotOf Z "com/example/tidemark/tidemark/MemoryEntry" "lastUsed" "J" ≠ Jvm.RoadKit.slotOf Z "com/example/tidemark/tidemark/MemoryEntry" "expiry" "Lcom/example/tidemark/tidemark/Expiry;" := slot_ne (Or.inl (wk43 hw)) (Or.inl (wk34 hw)) (by decide +kernel) pf2 pf3
theorem sn10 {Z : State} {a0 : Array Value} (hw : ∀ d ∈ tables_1, d.before a0 Z = true) : Jvm.RoadKit.slotOf Z "com/example/tidemark/tidemark/MemoryEntry" "expiry" "Lcom/example/tidemark/tidemark/Expiry;" ≠ Jvm.RoadKit.slotOf Z "com/example/tidemark/tidemark/MemoryEntry" "lastUsed" "J" := slot_ne (Or.inl (wk34 hw)) (Or.inl (wk43 hw)) (by decide +kernel) pf3 pf2
theorem sn11 {Z : State} {a0 : Array Value} (hw : ∀ d ∈ tables_1, d.before a0 Z = true) : Jvm.RoadKit.slotOf Z "com/example/tidemark/tidemark/MemoryEntry" "expiry" "Lcom/example/tidemark/tidemark/Expiry;" ≠ Jvm.RoadKit.slotOf Z "com/example/tidemark/tidemark/MemoryEntry" "created" "J" := slot_ne (Or.inl (wk34 hw)) (Or.inl (wk41 hw)) (by decide +kernel) pf3 pf2
theorem sn12 {Z : State} {a0 : Array Value} (hw : ∀ d ∈ tables_1, d.before a0 Z = true) : Jvm.RoadKit.slotOf Z "com/example/tidemark/tidemark/MemoryEntry" "lockFreeValue" "Ljava/lang/Object;" ≠ Jvm.RoadKit.slotOf Z "com/example/tidemark/tidemark/MemoryEntry" "value" "Ljava/lang/Object;" := slot_ne (Or.inl (wk55 hw)) (Or.inl (wk32 hw)) (by decide +kernel) pf0 pf0
theorem sn13 {Z : State} {a0 : Array Value} (hw : ∀ d ∈ tables_1, d.before a0 Z = true) : Jvm.RoadKit.slotOf Z "com/example/tidemark/tidemark/MemoryEntry" "lockFreeValue" "Ljava/lang/Object;" ≠ Jvm.RoadKit.slotOf Z "com/example/tidemark/tidemark/MemoryEntry" "expiry" "Lcom/example/tidemark/tidemark/Expiry;" := slot_ne (Or.inl (wk55 hw)) (Or.inl (wk34 hw)) (by decide +kernel) pf0 pf3
theorem sn14 {Z : State} {a0 : Array Value} (hw : ∀ d ∈ tables_1, d.before a0 Z = true) : Jvm.RoadKit.slotOf Z "com/example/tidemark/tidemark/MemoryEntry" "lockFreeValue" "Ljava/lang/Object;" ≠ Jvm.RoadKit.slotOf Z "com/example/tidemark/tidemark/MemoryEntry" "lastUsed" "J" := slot_ne (Or.inl (wk55 hw)) (Or.inl (wk43 hw)) (by decide +kernel) pf0 pf2
theorem sn15 {Z : State} {a0 : Array Value} (hw : ∀ d ∈ tables_1, d.before a0 Z = true) : Jvm.RoadKit.slotOf Z "com/example/tidemark/tidemark/MemoryEntry" "lockFreeValue" "Ljava/lang/Object;" ≠ Jvm.RoadKit.slotOf Z "com/example/tidemark/tidemark/MemoryEntry" "created" "J" := slot_ne (Or.inl (wk55 hw)) (Or.inl (wk41 hw)) (by decide +kernel) pf0 pf2
theorem sn16 {Z : State} {a0 : Array Value} (hw : ∀ d ∈ tables_1, d.before a0 Z = true) : Jvm.RoadKit.slotOf Z "com/example/tidemark/tidemark/MemoryEntry" "value" "Ljava/lang/Object;" ≠ Jvm.RoadKit.slotOf Z "com/example/tidemark/tidemark/MemoryEntry" "expiry" "Lcom/example/tidemark/tidemark/Expiry;" := slot_ne (Or.inl (wk32 hw)) (Or.inl (wk34 hw)) (by decide +kernel) pf0 pf3
theorem sn17 {Z : State} {a0 : Array Value} (hw : ∀ d ∈ tables_1, d.before a0 Z = true) : Jvm.RoadKit.slotOf Z "com/example/tidemark/tidemark/MemoryEntry" "value" "Ljava/lang/Object;" ≠ Jvm.RoadKit.slotOf Z "com/example/tidemark/tidemark/MemoryEntry" "lastUsed" "J" := slot_ne (Or.inl (wk32 hw)) (Or.inl (wk43 hw)) (by decide +kernel) pf0 pf2
theorem sn18 {Z : State} {a0 : Array Value} (hw : ∀ d ∈ tables_1, d.before a0 Z = true) : Jvm.RoadKit.slotOf Z "com/example/tidemark/tidemark/MemoryEntry" "value" "Ljava/lang/Object;" ≠ Jvm.RoadKit.slotOf Z "com/example/tidemark/tidemark/MemoryEntry" "created" "J" := slot_ne (Or.inl (wk32 hw)) (Or.inl (wk41 hw)) (by decide +kernel) pf0 pf2
theorem sn19 {Z : State} {a0 : Array Value} (hw : ∀ d ∈ tables_1, d.before a0 Z = true) : Jvm.RoadKit.slotOf Z "com/example/tidemark/tidemark/MemoryEntry" "value" "Ljava/lang/Object;" ≠ Jvm.RoadKit.slotOf Z "com/example/tidemark/tidemark/MemoryEntry" "lockFreeValue" "Ljava/lang/Object;" := slot_ne (Or.inl (wk32 hw)) (Or.inl (wk55 hw)) (by decide +kernel) pf0 pf0
theorem sn20 {Z : State} {a0 : Array Value} (hw : ∀ d ∈ tables_1, d.before a0 Z = true) : Jvm.RoadKit.slotOf Z "com/example/tidemark/tidemark/MemoryEntry" "expiry" "Lcom/example/tidemark/tidemark/Expiry;" ≠ Jvm.RoadKit.slotOf Z "com/example/tidemark/tidemark/MemoryEntry" "lockFreeValue" "Ljava/lang/Object;" := slot_ne (Or.inl (wk34 hw)) (Or.inl (wk55 hw)) (by decide +kernel) pf3 pf0
theorem sn21 {Z : State} {a0 : Array Value} (hw : ∀ d ∈ tables_1, d.before a0 Z = true) : Jvm.RoadKit.slotOf Z "com/example/tidemark/tidemark/MemoryEntry" "created" "J" ≠ Jvm.RoadKit.slotOf Z "com/example/tidemark/tidemark/MemoryEntry" "lockFreeValue" "Ljava/lang/Object;" := slot_ne (Or.inl (wk41 hw)) (Or.inl (wk55 hw)) (by decide +kernel) pf2 pf0
theorem sn22 {Z : State} {a0 : Array Value} (hw : ∀ d ∈ tables_1, d.before a0 Z = true) : Jvm.RoadKit.slotOf Z "com/example/tidemark/tidemark/MemoryEntry" "lastUsed" "J" ≠ Jvm.RoadKit.slotOf Z "com/example/tidemark/tidemark/MemoryEntry" "lockFreeValue" "Ljava/lang/Object;" := slot_ne (Or.inl (wk43 hw)) (Or.inl (wk55 hw)) (by decide +kernel) pf2 pf0
theorem sn23 {Z : State} {a0 : Array Value} (hw : ∀ d ∈ tables_1, d.before a0 Z = true) : Jvm.RoadKit.slotOf Z "com/example/tidemark/tidemark/MemoryEntry" "value" "Ljava/lang/Object;" ≠ Jvm.RoadKit.slotOf Z "com/example/tidemark/tidemark/MemoryEntry" "slot" "I" := slot_ne (Or.inl (wk32 hw)) (Or.inl (wk21 hw)) (by decide +kernel) pf0 pf1
theorem sn24 {Z : State} {a0 : Array Value} (hw : ∀ d ∈ tables_1, d.before a0 Z = true) : Jvm.RoadKit.slotOf Z "com/example/tidemark/tidemark/MemoryEntry" "value" "Ljava/lang/Object;" ≠ Jvm.RoadKit.slotOf Z "com/example/tidemark/tidemark/MemoryEntry" "key" "Ljava/lang/Object;" := slot_ne (Or.inl (wk32 hw)) (Or.inr (wk23 hw)) (by decide +kernel) pf0 pf0
theorem sn25 {Z : State} {a0 : Array Value} (hw : ∀ d ∈ tables_1, d.before a0 Z = true) : Jvm.RoadKit.slotOf Z "com/example/tidemark/tidemark/MemoryEntry" "value" "Ljava/lang/Object;" ≠ Jvm.RoadKit.slotOf Z "com/example/tidemark/tidemark/MemoryEntry" "charge" "J" := slot_ne (Or.inl (wk32 hw)) (Or.inl (wk25 hw)) (by decide +kernel) pf0 pf2
theorem sn26 {Z : State} {a0 : Array Value} (hw : ∀ d ∈ tables_1, d.before a0 Z = true) : Jvm.RoadKit.slotOf Z "com/example/tidemark/tidemark/MemoryEntry" "expiry" "Lcom/example/tidemark/tidemark/Expiry;" ≠ Jvm.RoadKit.slotOf Z "com/example/tidemark/tidemark/MemoryEntry" "slot" "I" := slot_ne (Or.inl (wk34 hw)) (Or.inl (wk21 hw)) (by decide +kernel) pf3 pf1
theorem sn27 {Z : State} {a0 : Array Value} (hw : ∀ d ∈ tables_1, d.before a0 Z = true) : Jvm.RoadKit.slotOf Z "com/example/tidemark/tidemark/MemoryEntry" "expiry" "Lcom/example/tidemark/tidemark/Expiry;" ≠ Jvm.RoadKit.slotOf Z "com/example/tidemark/tidemark/MemoryEntry" "key" "Ljava/lang/Object;" := slot_ne (Or.inl (wk34 hw)) (Or.inr (wk23 hw)) (by decide +kernel) pf3 pf0
theorem sn28 {Z : State} {a0 : Array Value} (hw : ∀ d ∈ tables_1, d.before a0 Z = true) : Jvm.RoadKit.slotOf Z "com/example/tidemark/tidemark/MemoryEntry" "expiry" "Lcom/example/tidemark/tidemark/Expiry;" ≠ Jvm.RoadKit.slotOf Z "com/example/tidemark/tidemark/MemoryEntry" "charge" "J" := slot_ne (Or.inl (wk34 hw)) (Or.inl (wk25 hw)) (by decide +kernel) pf3 pf2
theorem sn29 {Z : State} {a0 : Array Value} (hw : ∀ d ∈ tables_1, d.before a0 Z = true) : Jvm.RoadKit.slotOf Z "com/example/tidemark/tidemark/MemoryEntry" "created" "J" ≠ Jvm.RoadKit.slotOf Z "com/example/tidemark/tidemark/MemoryEntry" "slot" "I" := slot_ne (Or.inl (wk41 hw)) (Or.inl (wk21 hw)) (by decide +kernel) pf2 pf1
theorem sn30 {Z : State} {a0 : Array Value} (hw : ∀ d ∈ tables_1, d.before a0 Z = true) : Jvm.RoadKit.slotOf Z "com/example/tidemark/tidemark/MemoryEntry" "created" "J" ≠ Jvm.RoadKit.slotOf Z "com/example/tidemark/tidemark/MemoryEntry" "key" "Ljava/lang/Object;" := slot_ne (Or.inl (wk41 hw)) (Or.inr (wk23 hw)) (by decide +kernel) pf2 pf0
theorem sn31 {Z : State} {a0 : Array Value} (hw : ∀ d ∈ tables_1, d.before a0 Z = true) : Jvm.RoadKit.slotOf Z "com/example/tidemark/tidemark/MemoryEntry" "created" "J" ≠ Jvm.RoadKit.slotOf Z "com/example/tidemark/tidemark/MemoryEntry" "charge" "J" := slot_ne (Or.inl (wk41 hw)) (Or.inl (wk25 hw)) (by decide +kernel) pf2 pf2
theorem sn32 {Z : State} {a0 : Array Value} (hw : ∀ d ∈ tables_1, d.before a0 Z = true) : Jvm.RoadKit.slotOf Z "com/example/tidemark/tidemark/MemoryEntry" "lastUsed" "J" ≠ Jvm.RoadKit.slotOf Z "com/example/tidemark/tidemark/MemoryEntry" "slot" "I" := slot_ne (Or.inl (wk43 hw)) (Or.inl (wk21 hw)) (by decide +kernel) pf2 pf1
theorem sn33 {Z : State} {a0 : Array Value} (hw : ∀ d ∈ tables_1, d.before a0 Z = true) : Jvm.RoadKit.slotOf Z "com/example/tidemark/tidemark/MemoryEntry" "lastUsed" "J" ≠ Jvm.RoadKit.slotOf Z "com/example/tidemark/tidemark/MemoryEntry" "key" "Ljava/lang/Object;" := slot_ne (Or.inl (wk43 hw)) (Or.inr (wk23 hw)) (by decide +kernel) pf2 pf0
theorem sn34 {Z : State} {a0 : Array Value} (hw : ∀ d ∈ tables_1, d.before a0 Z = true) : Jvm.RoadKit.slotOf Z "com/example/tidemark/tidemark/MemoryEntry" "lastUsed" "J" ≠ Jvm.RoadKit.slotOf Z "com/example/tidemark/tidemark/MemoryEntry" "charge" "J" := slot_ne (Or.inl (wk43 hw)) (Or.inl (wk25 hw)) (by decide +kernel) pf2 pf2
theorem sn35 {Z : State} {a0 : Array Value} (hw : ∀ d ∈ tables_1, d.before a0 Z = true) : Jvm.RoadKit.slotOf Z "com/example/tidemark/tidemark/MemoryEntry" "lockFreeValue" "Ljava/lang/Object;" ≠ Jvm.RoadKit.slotOf Z "com/example/tidemark/tidemark/MemoryEntry" "slot" "I" := slot_ne (Or.inl (wk55 hw)) (Or.inl (wk21 hw)) (by decide +kernel) pf0 pf1
theorem sn36 {Z : State} {a0 : Array Value} (hw : ∀ d ∈ tables_1, d.before a0 Z = true) : Jvm.RoadKit.slotOf Z "com/example/tidemark/tidemark/MemoryEntry" "lockFreeValue" "Ljava/lang/Object;" ≠ Jvm.RoadKit.slotOf Z "com/example/tidemark/tidemark/MemoryEntry" "key" "Ljava/lang/Object;" := slot_ne (Or.inl (wk55 hw)) (Or.inr (wk23 hw)) (by decide +kernel) pf0 pf0
theorem sn37 {Z : State} {a0 : Array Value} (hw : ∀ d ∈ tables_1, d.before a0 Z = true) : Jvm.RoadKit.slotOf Z "com/example/tidemark/tidemark/MemoryEntry" "lockFreeValue" "Ljava/lang/Object;" ≠ Jvm.RoadKit.slotOf Z "com/example/tidemark/tidemark/MemoryEntry" "charge" "J" := slot_ne (Or.inl (wk55 hw)) (Or.inl (wk25 hw)) (by decide +kernel) pf0 pf2
theorem sn38 {Z : State} {a0 : Array Value} (hw : ∀ d ∈ tables_1, d.before a0 Z = true) : Jvm.RoadKit.slotOf Z "com/example/tidemark/tidemark/MemoryEntry" "slot" "I" ≠ Jvm.RoadKit.slotOf Z "com/example/tidemark/tidemark/MemoryEntry" "key" "Ljava/lang/Object;" := slot_ne (Or.inl (wk21 hw)) (Or.inr (wk23 hw)) (by decide +kernel) pf1 pf0
theorem sn39 {Z : State} {a0 : Array Value} (hw : ∀ d ∈ tables_1, d.before a0 Z = true) : Jvm.RoadKit.slotOf Z "com/example/tidemark/tidemark/MemoryEntry" "slot" "I" ≠ Jvm.RoadKit.slotOf Z "com/example/tidemark/tidemark/MemoryEntry" "charge" "J" := slot_ne (Or.inl (wk21 hw)) (Or.inl (wk25 hw)) (by decide +kernel) pf1 pf2
theorem sn40 {Z : State} {a0 : Array Value} (hw : ∀ d ∈ tables_1, d.before a0 Z = true) : Jvm.RoadKit.slotOf Z "com/example/tidemark/tidemark/MemoryEntry" "slot" "I" ≠ Jvm.RoadKit.slotOf Z "com/example/tidemark/tidemark/MemoryEntry" "lockFreeValue" "Ljava/lang/Object;" := slot_ne (Or.inl (wk21 hw)) (Or.inl (wk55 hw)) (by decide +kernel) pf1 pf0
theorem sn41 {Z : State} {a0 : Array Value} (hw : ∀ d ∈ tables_1, d.before a0 Z = true) : Jvm.RoadKit.slotOf Z "com/example/tidemark/tidemark/MemoryEntry" "slot" "I" ≠ Jvm.RoadKit.slotOf Z "com/example/tidemark/tidemark/MemoryEntry" "lastUsed" "J" := slot_ne (Or.inl (wk21 hw)) (Or.inl (wk43 hw)) (by decide +kernel) pf1 pf2
theorem sn42 {Z : State} {a0 : Array Value} (hw : ∀ d ∈ tables_1, d.before a0 Z = true) : Jvm.RoadKit.slotOf Z "com/example/tidemark/tidemark/MemoryEntry" "slot" "I" ≠ Jvm.RoadKit.slotOf Z "com/example/tidemark/tidemark/MemoryEntry" "created" "J" := slot_ne (Or.inl (wk21 hw)) (Or.inl (wk41 hw)) (by decide +kernel) pf1 pf2
theorem sn43 {Z : State} {a0 : Array Value} (hw : ∀ d ∈ tables_1, d.before a0 Z = true) : Jvm.RoadKit.slotOf Z "com/example/tidemark/tidemark/MemoryEntry" "slot" "I" ≠ Jvm.RoadKit.slotOf Z "com/example/tidemark/tidemark/MemoryEntry" "expiry" "Lcom/example/tidemark/tidemark/Expiry;" := slot_ne (Or.inl (wk21 hw)) (Or.inl (wk34 hw)) (by decide +kernel) pf1 pf3
theorem sn44 {Z : State} {a0 : Array Value} (hw : ∀ d ∈ tables_1, d.before a0 Z = true) : Jvm.RoadKit.slotOf Z "com/example/tidemark/tidemark/MemoryEntry" "slot" "I" ≠ Jvm.RoadKit.slotOf Z "com/example/tidemark/tidemark/MemoryEntry" "value" "Ljava/lang/Object;" := slot_ne (Or.inl (wk21 hw)) (Or.inl (wk32 hw)) (by decide +kernel) pf1 pf0
theorem sn45 {Z : State} {a0 : Array Value} (hw : ∀ d ∈ tables_1, d.before a0 Z = true) : Jvm.RoadKit.slotOf Z "com/example/tidemark/tidemark/MemoryEntry" "key" "Ljava/lang/Object;" ≠ Jvm.RoadKit.slotOf Z "com/example/tidemark/tidemark/MemoryEntry" "charge" "J" := slot_ne (Or.inr (wk23 hw)) (Or.inl (wk25 hw)) (by decide +kernel) pf0 pf2
theorem sn46 {Z : State} {a0 : Array Value} (hw : ∀ d ∈ tables_1, d.before a0 Z = true) : Jvm.RoadKit.slotOf Z "com/example/tidemark/tidemark/MemoryEntry" "key" "Ljava/lang/Object;" ≠ Jvm.RoadKit.slotOf Z "com/example/tidemark/tidemark/MemoryEntry" "lockFreeValue" "Ljava/lang/Object;" := slot_ne (Or.inr (wk23 hw)) (Or.inl (wk55 hw)) (by decide +kernel) pf0 pf0
theorem sn47 {Z : State} {a0 : Array Value} (hw : ∀ d ∈ tables_1, d.before a0 Z = true) : Jvm.RoadKit.slotOf Z "com/example/tidemark/tidemark/MemoryEntry" "key" "Ljava/lang/Object;" ≠ Jvm.RoadKit.slotOf Z "com/example/tidemark/tidemark/MemoryEntry" "lastUsed" "J" := slot_ne (Or.inr (wk23 hw)) (Or.inl (wk43 hw)) (by decide +kernel) pf0 pf2
theorem sn48 {Z : State} {a0 : Array Value} (hw : ∀ d ∈ tables_1, d.before a0 Z = true) : Jvm.RoadKit.slotOf Z "com/example/tidemark/tidemark/MemoryEntry" "key" "Ljava/lang/Object;" ≠ Jvm.RoadKit.slotOf Z "com/example/tidemark/tidemark/MemoryEntry" "created" "J" := slot_ne (Or.inr (wk23 hw)) (Or.inl (wk41 hw)) (by decide +kernel) pf0 pf2
theorem sn49 {Z : State} {a0 : Array Value} (hw : ∀ d ∈ tables_1, d.before a0 Z = true) : Jvm.RoadKit.slotOf Z "com/example/tidemark/tidemark/MemoryEntry" "key" "Ljava/lang/Object;" ≠ Jvm.RoadKit.slotOf Z "com/example/tidemark/tidemark/MemoryEntry" "expiry" "Lcom/example/tidemark/tidemark/Expiry;" := slot_ne (Or.inr (wk23 hw)) (Or.inl (wk34 hw)) (by decide +kernel) pf0 pf3
theorem sn50 {Z : State} {a0 : Array Value} (hw : ∀ d ∈ tables_1, d.before a0 Z = true) : Jvm.RoadKit.slotOf Z "com/example/tidemark/tidemark/MemoryEntry" "key" "Ljava/lang/Object;" ≠ Jvm.RoadKit.slotOf Z "com/example/tidemark/tidemark/MemoryEntry" "value" "Ljava/lang/Object;" := slot_ne (Or.inr (wk23 hw)) (Or.inl (wk32 hw)) (by decide +kernel) pf0 pf0
theorem sn51 {Z : State} {a0 : Array Value} (hw : ∀ d ∈ tables_1, d.before a0 Z = true) : Jvm.RoadKit.slotOf Z "com/example/tidemark/tidemark/MemoryEntry" "charge" "J" ≠ Jvm.RoadKit.slotOf Z "com/example/tidemark/tidemark/MemoryEntry" "lockFreeValue" "Ljava/lang/Object;" := slot_ne (Or.inl (wk25 hw)) (Or.inl (wk55 hw)) (by decide +kernel) pf2 pf0
theorem sn52 {Z : State} {a0 : Array Value} (hw : ∀ d ∈ tables_1, d.before a0 Z = true) : Jvm.RoadKit.slotOf Z "com/example/tidemark/tidemark/MemoryEntry" "charge" "J" ≠ Jvm.RoadKit.slotOf Z "com/example/tidemark/tidemark/MemoryEntry" "lastUsed" "J" := slot_ne (Or.inl (wk25 hw)) (Or.inl (wk43 hw)) (by decide +kernel) pf2 pf2
theorem sn53 {Z : State} {a0 : Array Value} (hw : ∀ d ∈ tables_1, d.before a0 Z = true) : Jvm.RoadKit.slotOf Z "com/example/tidemark/tidemark/MemoryEntry" "charge" "J" ≠ Jvm.RoadKit.slotOf Z "com/example/tidemark/tidemark/MemoryEntry" "created" "J" := slot_ne (Or.inl (wk25 hw)) (Or.inl (wk41 hw)) (by decide +kernel) pf2 pf2
theorem sn54 {Z : State} {a0 : Array Value} (hw : ∀ d ∈ tables_1, d.before a0 Z = true) : Jvm.RoadKit.slotOf Z "com/example/tidemark/tidemark/MemoryEntry" "charge" "J" ≠ Jvm.RoadKit.slotOf Z "com/example/tidemark/tidemark/MemoryEntry" "expiry" "Lcom/example/tidemark/tidemark/Expiry;" := slot_ne (Or.inl (wk25 hw)) (Or.inl (wk34 hw)) (by decide +kernel) pf2 pf3
theorem sn55 {Z : State} {a0 : Array Value} (hw : ∀ d ∈ tables_1, d.before a0 Z = true) : Jvm.RoadKit.slotOf Z "com/example/tidemark/tidemark/MemoryEntry" "charge" "J" ≠ Jvm.RoadKit.slotOf Z "com/example/tidemark/tidemark/MemoryEntry" "value" "Ljava/lang/Object;" := slot_ne (Or.inl (wk25 hw)) (Or.inl (wk32 hw)) (by decide +kernel) pf2 pf0
theorem sn56 {Z : State} {a0 : Array Value} (hw : ∀ d ∈ tables_1, d.before a0 Z = true) : Jvm.RoadKit.slotOf Z "com/example/tidemark/tidemark/MemoryEntry" "list" "Lcom/example/tidemark/tidemark/RecencyList;" ≠ Jvm.RoadKit.slotOf Z "com/example/tidemark/tidemark/MemoryEntry" "stamp" "J" := slot_ne (Or.inl (wk66 hw)) (Or.inl (wk64 hw)) (by decide +kernel) pf4 pf2
theorem sn57 {Z : State} {a0 : Array Value} (hw : ∀ d ∈ tables_1, d.before a0 Z = true) : Jvm.RoadKit.slotOf Z "com/example/tidemark/tidemark/RecencyList" "newest" "Lcom/example/tidemark/tidemark/MemoryEntry;" ≠ Jvm.RoadKit.slotOf Z "com/example/tidemark/tidemark/RecencyList" "stamps" "J" := slot_ne (Or.inl (wk68 hw)) (Or.inl (wk62 hw)) (by decide +kernel) pf5 pf2
theorem sn58 {Z : State} {a0 : Array Value} (hw : ∀ d ∈ tables_1, d.before a0 Z = true) : Jvm.RoadKit.slotOf Z "com/example/tidemark/tidemark/MemoryEntry" "older" "Lcom/example/tidemark/tidemark/MemoryEntry;" ≠ Jvm.RoadKit.slotOf Z "com/example/tidemark/tidemark/MemoryEntry" "stamp" "J" := slot_ne (Or.inl (wk70 hw)) (Or.inl (wk64 hw)) (by decide +kernel) pf5 pf2
theorem sn59 {Z : State} {a0 : Array Value} (hw : ∀ d ∈ tables_1, d.before a0 Z = true) : Jvm.RoadKit.slotOf Z "com/example/tidemark/tidemark/MemoryEntry" "older" "Lcom/example/tidemark/tidemark/MemoryEntry;" ≠ Jvm.RoadKit.slotOf Z "com/example/tidemark/tidemark/MemoryEntry" "list" "Lcom/example/tidemark/tidemark/RecencyList;" := slot_ne (Or.inl (wk70 hw)) (Or.inl (wk66 hw)) (by decide +kernel) pf5 pf4
theorem sn60 {Z : State} {a0 : Array Value} (hw : ∀ d ∈ tables_1, d.before a0 Z = true) : Jvm.RoadKit.slotOf Z "com/example/tidemark/tidemark/MemoryEntry" "newer" "Lcom/example/tidemark/tidemark/MemoryEntry;" ≠ Jvm.RoadKit.slotOf Z "com/example/tidemark/tidemark/MemoryEntry" "stamp" "J" := slot_ne (Or.inl (wk72 hw)) (Or.inl (wk64 hw)) (by decide +kernel) pf5 pf2
theorem sn61 {Z : State} {a0 : Array Value} (hw : ∀ d ∈ tables_1, d.before a0 Z = true) : Jvm.RoadKit.slotOf Z "com/example/tidemark/tidemark/MemoryEntry" "newer" "Lcom/example/tidemark/tidemark/MemoryEntry;" ≠ Jvm.RoadKit.slotOf Z "com/example/tidemark/tidemark/MemoryEntry" "list" "Lcom/example/tidemark/tidemark/RecencyList;" := slot_ne (Or.inl (wk72 hw)) (Or.inl (wk66 hw)) (by decide +kernel) pf5 pf4
theorem sn62 {Z : State} {a0 : Array Value} (hw : ∀ d ∈ tables_1, d.before a0 Z = true) : Jvm.RoadKit.slotOf Z "com/example/tidemark/tidemark/MemoryEntry" "newer" "Lcom/example/tidemark/tidemark/MemoryEntry;" ≠ Jvm.RoadKit.slotOf Z "com/example/tidemark/tidemark/MemoryEntry" "older" "Lcom/example/tidemark/tidemark/MemoryEntry;" := slot_ne (Or.inl (wk72 hw)) (Or.inl (wk70 hw)) (by decide +kernel) pf5 pf5
theorem sn63 {Z : State} {a0 : Array Value} (hw : ∀ d ∈ tables_1, d.before a0 Z = true) : Jvm.RoadKit.slotOf Z "com/example/tidemark/tidemark/RecencyList" "oldest" "Lcom/example/tidemark/tidemark/MemoryEntry;" ≠ Jvm.RoadKit.slotOf Z "com/example/tidemark/tidemark/RecencyList" "stamps" "J" := slot_ne (Or.inl (wk74 hw)) (Or.inl (wk62 hw)) (by decide +kernel) pf5 pf2
theorem sn64 {Z : State} {a0 : Array Value} (hw : ∀ d ∈ tables_1, d.before a0 Z = true) : Jvm.RoadKit.slotOf Z "com/example/tidemark/tidemark/RecencyList" "newest" "Lcom/example/tidemark/tidemark/MemoryEntry;" ≠ Jvm.RoadKit.slotOf Z "com/example/tidemark/tidemark/RecencyList" "oldest" "Lcom/example/tidemark/tidemark/MemoryEntry;" := slot_ne (Or.inl (wk68 hw)) (Or.inl (wk74 hw)) (by decide +kernel) pf5 pf5
theorem sn65 {Z : State} {a0 : Array Value} (hw : ∀ d ∈ tables_1, d.before a0 Z = true) : Jvm.RoadKit.slotOf Z "com/example/tidemark/tidemark/RecencyList" "size" "J" ≠ Jvm.RoadKit.slotOf Z "com/example/tidemark/tidemark/RecencyList" "stamps" "J" := slot_ne (Or.inl (wk76 hw)) (Or.inl (wk62 hw)) (by decide +kernel) pf2 pf2
theorem sn66 {Z : State} {a0 : Array Value} (hw : ∀ d ∈ tables_1, d.before a0 Z = true) : Jvm.RoadKit.slotOf Z "com/example/tidemark/tidemark/RecencyList" "size" "J" ≠ Jvm.RoadKit.slotOf Z "com/example/tidemark/tidemark/RecencyList" "oldest" "Lcom/example/tidemark/tidemark/MemoryEntry;" := slot_ne (Or.inl (wk76 hw)) (Or.inl (wk74 hw)) (by decide +kernel) pf2 pf5
theorem sn67 {Z : State} {a0 : Array Value} (hw : ∀ d ∈ tables_1, d.before a0 Z = true) : Jvm.RoadKit.slotOf Z "com/example/tidemark/tidemark/RecencyList" "size" "J" ≠ Jvm.RoadKit.slotOf Z "com/example/tidemark/tidemark/RecencyList" "newest" "Lcom/example/tidemark/tidemark/MemoryEntry;" := slot_ne (Or.inl (wk76 hw)) (Or.inl (wk68 hw)) (by decide +kernel) pf2 pf5
theorem sn68 {Z : State} {a0 : Array Value} (hw : ∀ d ∈ tables_1, d.before a0 Z = true) : Jvm.RoadKit.slotOf Z "com/example/tidemark/tidemark/RecencyList" "weight" "J" ≠ Jvm.RoadKit.slotOf Z "com/example/tidemark/tidemark/RecencyList" "stamps" "J" := slot_ne (Or.inl (wk78 hw)) (Or.inl (wk62 hw)) (by decide +kernel) pf2 pf2
theorem sn69 {Z : State} {a0 : Array Value} (hw : ∀ d ∈ tables_1, d.before a0 Z = true) : Jvm.RoadKit.slotOf Z "com/example/tidemark/tidemark/RecencyList" "weight" "J" ≠ Jvm.RoadKit.slotOf Z "com/example/tidemark/tidemark/RecencyList" "oldest" "Lcom/example/tidemark/tidemark/MemoryEntry;" := slot_ne (Or.inl (wk78 hw)) (Or.inl (wk74 hw)) (by decide +kernel) pf2 pf5
theorem sn70 {Z : State} {a0 : Array Value} (hw : ∀ d ∈ tables_1, d.before a0 Z = true) : Jvm.RoadKit.slotOf Z "com/example/tidemark/tidemark/RecencyList" "weight" "J" ≠ Jvm.RoadKit.slotOf Z "com/example/tidemark/tidemark/RecencyList" "newest" "Lcom/example/tidemark/tidemark/MemoryEntry;" := slot_ne (Or.inl (wk78 hw)) (Or.inl (wk68 hw)) (by decide +kernel) pf2 pf5
theorem sn71 {Z : State} {a0 : Array Value} (hw : ∀ d ∈ tables_1, d.before a0 Z = true) : Jvm.RoadKit.slotOf Z "com/example/tidemark/tidemark/RecencyList" "weight" "J" ≠ Jvm.RoadKit.slotOf Z "com/example/tidemark/tidemark/RecencyList" "size" "J" := slot_ne (Or.inl (wk78 hw)) (Or.inl (wk76 hw)) (by decide +kernel) pf2 pf2
theorem sn72 {Z : State} {a0 : Array Value} (hw : ∀ d ∈ tables_1, d.before a0 Z = true) : Jvm.RoadKit.slotOf Z "com/example/tidemark/tidemark/MemoryEntry" "charge" "J" ≠ Jvm.RoadKit.slotOf Z "com/example/tidemark/tidemark/MemoryEntry" "stamp" "J" := slot_ne (Or.inl (wk25 hw)) (Or.inl (wk64 hw)) (by decide +kernel) pf2 pf2
theorem sn73 {Z : State} {a0 : Array Value} (hw : ∀ d ∈ tables_1, d.before a0 Z = true) : Jvm.RoadKit.slotOf Z "com/example/tidemark/tidemark/MemoryEntry" "charge" "J" ≠ Jvm.RoadKit.slotOf Z "com/example/tidemark/tidemark/MemoryEntry" "list" "Lcom/example/tidemark/tidemark/RecencyList;" := slot_ne (Or.inl (wk25 hw)) (Or.inl (wk66 hw)) (by decide +kernel) pf2 pf4
theorem sn74 {Z : State} {a0 : Array Value} (hw : ∀ d ∈ tables_1, d.before a0 Z = true) : Jvm.RoadKit.slotOf Z "com/example/tidemark/tidemark/MemoryEntry" "charge" "J" ≠ Jvm.RoadKit.slotOf Z "com/example/tidemark/tidemark/MemoryEntry" "older" "Lcom/example/tidemark/tidemark/MemoryEntry;" := slot_ne (Or.inl (wk25 hw)) (Or.inl (wk70 hw)) (by decide +kernel) pf2 pf5
theorem sn75 {Z : State} {a0 : Array Value} (hw : ∀ d ∈ tables_1, d.before a0 Z = true) : Jvm.RoadKit.slotOf Z "com/example/tidemark/tidemark/MemoryEntry" "charge" "J" ≠ Jvm.RoadKit.slotOf Z "com/example/tidemark/tidemark/MemoryEntry" "newer" "Lcom/example/tidemark/tidemark/MemoryEntry;" := slot_ne (Or.inl (wk25 hw)) (Or.inl (wk72 hw)) (by decide +kernel) pf2 pf5
theorem sn76 {Z : State} {a0 : Array Value} (hw : ∀ d ∈ tables_1, d.before a0 Z = true) : Jvm.RoadKit.slotOf Z "com/example/tidemark/tidemark/RecencyList" "stamps" "J" ≠ Jvm.RoadKit.slotOf Z "com/example/tidemark/tidemark/RecencyList" "oldest" "Lcom/example/tidemark/tidemark/MemoryEntry;" := slot_ne (Or.inl (wk62 hw)) (Or.inl (wk74 hw)) (by decide +kernel) pf2 pf5
theorem sn77 {Z : State} {a0 : Array Value} (hw : ∀ d ∈ tables_1, d.before a0 Z = true) : Jvm.RoadKit.slotOf Z "com/example/tidemark/tidemark/RecencyList" "stamps" "J" ≠ Jvm.RoadKit.slotOf Z "com/example/tidemark/tidemark/RecencyList" "newest" "Lcom/example/tidemark/tidemark/MemoryEntry;" := slot_ne (Or.inl (wk62 hw)) (Or.inl (wk68 hw)) (by decide +kernel) pf2 pf5
theorem sn78 {Z : State} {a0 : Array Value} (hw : ∀ d ∈ tables_1, d.before a0 Z = true) : Jvm.RoadKit.slotOf Z "com/example/tidemark/tidemark/RecencyList" "stamps" "J" ≠ Jvm.RoadKit.slotOf Z "com/example/tidemark/tidemark/RecencyList" "size" "J" := slot_ne (Or.inl (wk62 hw)) (Or.inl (wk76 hw)) (by decide +kernel) pf2 pf2
theorem sn79 {Z : State} {a0 : Array Value} (hw : ∀ d ∈ tables_1, d.before a0 Z = true) : Jvm.RoadKit.slotOf Z "com/example/tidemark/tidemark/RecencyList" "stamps" "J" ≠ Jvm.RoadKit.slotOf Z "com/example/tidemark/tidemark/RecencyList" "weight" "J" := slot_ne (Or.inl (wk62 hw)) (Or.inl (wk78 hw)) (by decide +kernel) pf2 pf2
theorem sn80 {Z : State} {a0 : Array Value} (hw : ∀ d ∈ tables_1, d.before a0 Z = true) : Jvm.RoadKit.slotOf Z "com/example/tidemark/tidemark/MemoryEntry" "stamp" "J" ≠ Jvm.RoadKit.slotOf Z "com/example/tidemark/tidemark/MemoryEntry" "list" "Lcom/example/tidemark/tidemark/RecencyList;" := slot_ne (Or.inl (wk64 hw)) (Or.inl (wk66 hw)) (by decide +kernel) pf2 pf4
theorem sn81 {Z : State} {a0 : Array Value} (hw : ∀ d ∈ tables_1, d.before a0 Z = true) : Jvm.RoadKit.slotOf Z "com/example/tidemark/tidemark/MemoryEntry" "stamp" "J" ≠ Jvm.RoadKit.slotOf Z "com/example/tidemark/tidemark/MemoryEntry" "older" "Lcom/example/tidemark/tidemark/MemoryEntry;" := slot_ne (Or.inl (wk64 hw)) (Or.inl (wk70 hw)) (by decide +kernel) pf2 pf5
theorem sn82 {Z : State} {a0 : Array Value} (hw : ∀ d ∈ tables_1, d.before a0 Z = true) : Jvm.RoadKit.slotOf Z "com/example/tidemark/tidemark/MemoryEntry" "stamp" "J" ≠ Jvm.RoadKit.slotOf Z "com/example/tidemark/tidemark/MemoryEntry" "newer" "Lcom/example/tidemark/tidemark/MemoryEntry;" := slot_ne (Or.inl (wk64 hw)) (Or.inl (wk72 hw)) (by decide +kernel) pf2 pf5
theorem sn83 {Z : State} {a0 : Array Value} (hw : ∀ d ∈ tables_1, d.before a0 Z = true) : Jvm.RoadKit.slotOf Z "com/example/tidemark/tidemark/MemoryEntry" "list" "Lcom/example/tidemark/tidemark/RecencyList;" ≠ Jvm.RoadKit.slotOf Z "com/example/tidemark/tidemark/MemoryEntry" "older" "Lcom/example/tidemark/tidemark/MemoryEntry;" := slot_ne (Or.inl (wk66 hw)) (Or.inl (wk70 hw)) (by decide +kernel) pf4 pf5
theorem sn84 {Z : State} {a0 : Array Value} (hw : ∀ d ∈ tables_1, d.before a0 Z = true) : Jvm.RoadKit.slotOf Z "com/example/tidemark/tidemark/MemoryEntry" "list" "Lcom/example/tidemark/tidemark/RecencyList;" ≠ Jvm.RoadKit.slotOf Z "com/example/tidemark/tidemark/MemoryEntry" "newer" "Lcom/example/tidemark/tidemark/MemoryEntry;" := slot_ne (Or.inl (wk66 hw)) (Or.inl (wk72 hw)) (by decide +kernel) pf4 pf5
theorem sn85 {Z : State} {a0 : Array Value} (hw : ∀ d ∈ tables_1, d.before a0 Z = true) : Jvm.RoadKit.slotOf Z "com/example/tidemark/tidemark/RecencyList" "newest" "Lcom/example/tidemark/tidemark/MemoryEntry;" ≠ Jvm.RoadKit.slotOf Z "com/example/tidemark/tidemark/RecencyList" "size" "J" := slot_ne (Or.inl (wk68 hw)) (Or.inl (wk76 hw)) (by decide +kernel) pf5 pf2
theorem sn86 {Z : State} {a0 : Array Value} (hw : ∀ d ∈ tables_1, d.before a0 Z = true) : Jvm.RoadKit.slotOf Z "com/example/tidemark/tidemark/RecencyList" "newest" "Lcom/example/tidemark/tidemark/MemoryEntry;" ≠ Jvm.RoadKit.slotOf Z "com/example/tidemark/tidemark/RecencyList" "weight" "J" := slot_ne (Or.inl (wk68 hw)) (Or.inl (wk78 hw)) (by decide +kernel) pf5 pf2
theorem sn87 {Z : State} {a0 : Array Value} (hw : ∀ d ∈ tables_1, d.before a0 Z = true) : Jvm.RoadKit.slotOf Z "com/example/tidemark/tidemark/MemoryEntry" "older" "Lcom/example/tidemark/tidemark/MemoryEntry;" ≠ Jvm.RoadKit.slotOf Z "com/example/tidemark/tidemark/MemoryEntry" "newer" "Lcom/example/tidemark/tidemark/MemoryEntry;" := slot_ne (Or.inl (wk70 hw)) (Or.inl (wk72 hw)) (by decide +kernel) pf5 pf5
theorem sn88 {Z : State} {a0 : Array Value} (hw : ∀ d ∈ tables_1, d.before a0 Z = true) : Jvm.RoadKit.slotOf Z "com/example/tidemark/tidemark/RecencyList" "oldest" "Lcom/example/tidemark/tidemark/MemoryEntry;" ≠ Jvm.RoadKit.slotOf Z "com/example/tidemark/tidemark/RecencyList" "newest" "Lcom/example/tidemark/tidemark/MemoryEntry;" := slot_ne (Or.inl (wk74 hw)) (Or.inl (wk68 hw)) (by decide +kernel) pf5 pf5
theorem sn89 {Z : State} {a0 : Array Value} (hw : ∀ d ∈ tables_1, d.before a0 Z = true) : Jvm.RoadKit.slotOf Z "com/example/tidemark/tidemark/RecencyList" "oldest" "Lcom/example/tidemark/tidemark/MemoryEntry;" ≠ Jvm.RoadKit.slotOf Z "com/example/tidemark/tidemark/RecencyList" "size" "J" := slot_ne (Or.inl (wk74 hw)) (Or.inl (wk76 hw)) (by decide +kernel) pf5 pf2
theorem sn90 {Z : State} {a0 : Array Value} (hw : ∀ d ∈ tables_1, d.before a0 Z = true) : Jvm.RoadKit.slotOf Z "com/example/tidemark/tidemark/RecencyList" "oldest" "Lcom/example/tidemark/tidemark/MemoryEntry;" ≠ Jvm.RoadKit.slotOf Z "com/example/tidemark/tidemark/RecencyList" "weight" "J" := slot_ne (Or.inl (wk74 hw)) (Or.inl (wk78 hw)) (by decide +kernel) pf5 pf2
theorem sn91 {Z : State} {a0 : Array Value} (hw : ∀ d ∈ tables_1, d.before a0 Z = true) : Jvm.RoadKit.slotOf Z "com/example/tidemark/tidemark/RecencyList" "size" "J" ≠ Jvm.RoadKit.slotOf Z "com/example/tidemark/tidemark/RecencyList" "weight" "J" := slot_ne (Or.inl (wk76 hw)) (Or.inl (wk78 hw)) (by decide +kernel) pf2 pf2
theorem sn92 {Z : State} {a0 : Array Value} (hw : ∀ d ∈ tables_1, d.before a0 Z = true) : Jvm.RoadKit.slotOf Z "com/example/tidemark/tidemark/MemoryEntry" "stamp" "J" ≠ Jvm.RoadKit.slotOf Z "com/example/tidemark/tidemark/MemoryEntry" "lockFreeValue" "Ljava/lang/Object;" := slot_ne (Or.inl (wk64 hw)) (Or.inl (wk55 hw)) (by decide +kernel) pf2 pf0
theorem sn93 {Z : State} {a0 : Array Value} (hw : ∀ d ∈ tables_1, d.before a0 Z = true) : Jvm.RoadKit.slotOf Z "com/example/tidemark/tidemark/MemoryEntry" "stamp" "J" ≠ Jvm.RoadKit.slotOf Z "com/example/tidemark/tidemark/MemoryEntry" "lastUsed" "J" := slot_ne (Or.inl (wk64 hw)) (Or.inl (wk43 hw)) (by decide +kernel) pf2 pf2
theorem sn94 {Z : State} {a0 : Array Value} (hw : ∀ d ∈ tables_1, d.before a0 Z = true) : Jvm.RoadKit.slotOf Z "com/example/tidemark/tidemark/MemoryEntry" "stamp" "J" ≠ Jvm.RoadKit.slotOf Z "com/example/tidemark/tidemark/MemoryEntry" "created" "J" := slot_ne (Or.inl (wk64 hw)) (Or.inl (wk41 hw)) (by decide +kernel) pf2 pf2
theorem sn95 {Z : State} {a0 : Array Value} (hw : ∀ d ∈ tables_1, d.before a0 Z = true) : Jvm.RoadKit.slotOf Z "com/example/tidemark/tidemark/MemoryEntry" "stamp" "J" ≠ Jvm.RoadKit.slotOf Z "com/example/tidemark/tidemark/MemoryEntry" "expiry" "Lcom/example/tidemark/tidemark/Expiry;" := slot_ne (Or.inl (wk64 hw)) (Or.inl (wk34 hw)) (by decide +kernel) pf2 pf3
theorem sn96 {Z : State} {a0 : Array Value} (hw : ∀ d ∈ tables_1, d.before a0 Z = true) : Jvm.RoadKit.slotOf Z "com/example/tidemark/tidemark/MemoryEntry" "stamp" "J" ≠ Jvm.RoadKit.slotOf Z "com/example/tidemark/tidemark/MemoryEntry" "value" "Ljava/lang/Object;" := slot_ne (Or.inl (wk64 hw)) (Or.inl (wk32 hw)) (by decide +kernel) pf2 pf0
theorem sn97 {Z : State} {a0 : Array Value} (hw : ∀ d ∈ tables_1, d.before a0 Z = true) : Jvm.RoadKit.slotOf Z "com/example/tidemark/tidemark/MemoryEntry" "stamp" "J" ≠ Jvm.RoadKit.slotOf Z "com/example/tidemark/tidemark/MemoryEntry" "charge" "J" := slot_ne (Or.inl (wk64 hw)) (Or.inl (wk25 hw)) (by decide +kernel) pf2 pf2
theorem sn98 {Z : State} {a0 : Array Value} (hw : ∀ d ∈ tables_1, d.before a0 Z = true) : Jvm.RoadKit.slotOf Z "com/example/tidemark/tidemark/MemoryEntry" "stamp" "J" ≠ Jvm.RoadKit.slotOf Z "com/example/tidemark/tidemark/MemoryEntry" "key" "Ljava/lang/Object;" := slot_ne (Or.inl (wk64 hw)) (Or.inr (wk23 hw)) (by decide +kernel) pf2 pf0
theorem sn99 {Z : State} {a0 : Array Value} (hw : ∀ d ∈ tables_1, d.before a0 Z = true) : Jvm.RoadKit.slotOf Z "com/example/tidemark/tidemark/MemoryEntry" "stamp" "J" ≠ Jvm.RoadKit.slotOf Z "com/example/tidemark/tidemark/MemoryEntry" "slot" "I" := slot_ne (Or.inl (wk64 hw)) (Or.inl (wk21 hw)) (by decide +kernel) pf2 pf1
theorem sn100 {Z : State} {a0 : Array Value} (hw : ∀ d ∈ tables_1, d.before a0 Z = true) : Jvm.RoadKit.slotOf Z "com/example/tidemark/tidemark/MemoryEntry" "list" "Lcom/example/tidemark/tidemark/RecencyList;" ≠ Jvm.RoadKit.slotOf Z "com/example/tidemark/tidemark/MemoryEntry" "lockFreeValue" "Ljava/lang/Object;" := slot_ne (Or.inl (wk66 hw)) (Or.inl (wk55 hw)) (by decide +kernel) pf4 pf0
theorem sn101 {Z : State} {a0 : Array Value} (hw : ∀ d ∈ tables_1, d.before a0 Z = true) : Jvm.RoadKit.slotOf Z "com/example/tidemark/tidemark/MemoryEntry" "list" "Lcom/example/tidemark/tidemark/RecencyList;" ≠ Jvm.RoadKit.slotOf Z "com/example/tidemark/tidemark/MemoryEntry" "lastUsed" "J" := slot_ne (Or.inl (wk66 hw)) (Or.inl (wk43 hw)) (by decide +kernel) pf4 pf2
theorem sn102 {Z : State} {a0 : Array Value} (hw : ∀ d ∈ tables_1, d.before a0 Z = true) : Jvm.RoadKit.slotOf Z "com/example/tidemark/tidemark/MemoryEntry" "list" "Lcom/example/tidemark/tidemark/RecencyList;" ≠ Jvm.RoadKit.slotOf Z "com/example/tidemark/tidemark/MemoryEntry" "created" "J" := slot_ne (Or.inl (wk66 hw)) (Or.inl (wk41 hw)) (by decide +kernel) pf4 pf2
theorem sn103 {Z : State} {a0 : Array Value} (hw : ∀ d ∈ tables_1, d.before a0 Z = true) : Jvm.RoadKit.slotOf Z "com/example/tidemark/tidemark/MemoryEntry" "list" "Lcom/example/tidemark/tidemark/RecencyList;" ≠ Jvm.RoadKit.slotOf Z "com/example/tidemark/tidemark/MemoryEntry" "expiry" "Lcom/example/tidemark/tidemark/Expiry;" := slot_ne (Or.inl (wk66 hw)) (Or.inl (wk34 hw)) (by decide +kernel) pf4 pf3
theorem sn104 {Z : State} {a0 : Array Value} (hw : ∀ d ∈ tables_1, d.before a0 Z = true) : Jvm.RoadKit.slotOf Z "com/example/tidemark/tidemark/MemoryEntry" "list" "Lcom/example/tidemark/tidemark/RecencyList;" ≠ Jvm.RoadKit.slotOf Z "com/example/tidemark/tidemark/MemoryEntry" "value" "Ljava/lang/Object;" := slot_ne (Or.inl (wk66 hw)) (Or.inl (wk32 hw)) (by decide +kernel) pf4 pf0
theorem sn105 {Z : State} {a0 : Array Value} (hw : ∀ d ∈ tables_1, d.before a0 Z = true) : Jvm.RoadKit.slotOf Z "com/example/tidemark/tidemark/MemoryEntry" "list" "Lcom/example/tidemark/tidemark/RecencyList;" ≠ Jvm.RoadKit.slotOf Z "com/example/tidemark/tidemark/MemoryEntry" "charge" "J" := slot_ne (Or.inl (wk66 hw)) (Or.inl (wk25 hw)) (by decide +kernel) pf4 pf2
theorem sn106 {Z : State} {a0 : Array Value} (hw : ∀ d ∈ tables_1, d.before a0 Z = true) : Jvm.RoadKit.slotOf Z "com/example/tidemark/tidemark/MemoryEntry" "list" "Lcom/example/tidemark/tidemark/RecencyList;" ≠ Jvm.RoadKit.slotOf Z "com/example/tidemark/tidemark/MemoryEntry" "key" "Ljava/lang/Object;" := slot_ne (Or.inl (wk66 hw)) (Or.inr (wk23 hw)) (by decide +kernel) pf4 pf0
theorem sn107 {Z : State} {a0 : Array Value} (hw : ∀ d ∈ tables_1, d.before a0 Z = true) : Jvm.RoadKit.slotOf Z "com/example/tidemark/tidemark/MemoryEntry" "list" "Lcom/example/tidemark/tidemark/RecencyList;" ≠ Jvm.RoadKit.slotOf Z "com/example/tidemark/tidemark/MemoryEntry" "slot" "I" := slot_ne (Or.inl (wk66 hw)) (Or.inl (wk21 hw)) (by decide +kernel) pf4 pf1
theorem sn108 {Z : State} {a0 : Array Value} (hw : ∀ d ∈ tables_1, d.before a0 Z = true) : Jvm.RoadKit.slotOf Z "com/example/tidemark/tidemark/MemoryEntry" "older" "Lcom/example/tidemark/tidemark/MemoryEntry;" ≠ Jvm.RoadKit.slotOf Z "com/example/tidemark/tidemark/MemoryEntry" "lockFreeValue" "Ljava/lang/Object;" := slot_ne (Or.inl (wk70 hw)) (Or.inl (wk55 hw)) (by decide +kernel) pf5 pf0
theorem sn109 {Z : State} {a0 : Array Value} (hw : ∀ d ∈ tables_1, d.before a0 Z = true) : Jvm.RoadKit.slotOf Z "com/example/tidemark/tidemark/MemoryEntry" "older" "Lcom/example/tidemark/tidemark/MemoryEntry;" ≠ Jvm.RoadKit.slotOf Z "com/example/tidemark/tidemark/MemoryEntry" "lastUsed" "J" := slot_ne (Or.inl (wk70 hw)) (Or.inl (wk43 hw)) (by decide +kernel) pf5 pf2
theorem sn110 {Z : State} {a0 : Array Value} (hw : ∀ d ∈ tables_1, d.before a0 Z = true) : Jvm.RoadKit.slotOf Z "com/example/tidemark/tidemark/MemoryEntry" "older" "Lcom/example/tidemark/tidemark/MemoryEntry;" ≠ Jvm.RoadKit.slotOf Z "com/example/tidemark/tidemark/MemoryEntry" "created" "J" := slot_ne (Or.inl (wk70 hw)) (Or.inl (wk41 hw)) (by decide +kernel) pf5 pf2
theorem sn111 {Z : State} {a0 : Array Value} (hw : ∀ d ∈ tables_1, d.before a0 Z = true) : Jvm.RoadKit.slotOf Z "com/example/tidemark/tidemark/MemoryEntry" "older" "Lcom/example/tidemark/tidemark/MemoryEntry;" ≠ Jvm.RoadKit.slotOf Z "com/example/tidemark/tidemark/MemoryEntry" "expiry" "Lcom/example/tidemark/tidemark/Expiry;" := slot_ne (Or.inl (wk70 hw)) (Or.inl (wk34 hw)) (by decide +kernel) pf5 pf3
theorem sn112 {Z : State} {a0 : Array Value} (hw : ∀ d ∈ tables_1, d.before a0 Z = true) : Jvm.RoadKit.slotOf Z "com/example/tidemark/tidemark/MemoryEntry" "older" "Lcom/example/tidemark/tidemark/MemoryEntry;" ≠ Jvm.RoadKit.slotOf Z "com/example/tidemark/tidemark/MemoryEntry" "value" "Ljava/lang/Object;" := slot_ne (Or.inl (wk70 hw)) (Or.inl (wk32 hw)) (by decide +kernel) pf5 pf0
theorem sn113 {Z : State} {a0 : Array Value} (hw : ∀ d ∈ tables_1, d.before a0 Z = true) : Jvm.RoadKit.slotOf Z "com/example/tidemark/tidemark/MemoryEntry" "older" "Lcom/example/tidemark/tidemark/MemoryEntry;" ≠ Jvm.RoadKit.slotOf Z "com/example/tidemark/tidemark/MemoryEntry" "charge" "J" := slot_ne (Or.inl (wk70 hw)) (Or.inl (wk25 hw)) (by decide +kernel) pf5 pf2
theorem sn114 {Z : State} {a0 : Array Value} (hw : ∀ d ∈ tables_1, d.before a0 Z = true) : Jvm.RoadKit.slotOf Z "com/example/tidemark/tidemark/MemoryEntry" "older" "Lcom/example/tidemark/tidemark/MemoryEntry;" ≠ Jvm.RoadKit.slotOf Z "com/example/tidemark/tidemark/MemoryEntry" "key" "Ljava/lang/Object;" := slot_ne (Or.inl (wk70 hw)) (Or.inr (wk23 hw)) (by decide +kernel) pf5 pf0
theorem sn115 {Z : State} {a0 : Array Value} (hw : ∀ d ∈ tables_1, d.before a0 Z = true) : Jvm.RoadKit.slotOf Z "com/example/tidemark/tidemark/MemoryEntry" "older" "Lcom/example/tidemark/tidemark/MemoryEntry;" ≠ Jvm.RoadKit.slotOf Z "com/example/tidemark/tidemark/MemoryEntry" "slot" "I" := slot_ne (Or.inl (wk70 hw)) (Or.inl (wk21 hw)) (by decide +kernel) pf5 pf1
theorem sn116 {Z : State} {a0 : Array Value} (hw : ∀ d ∈ tables_1, d.before a0 Z = true) : Jvm.RoadKit.slotOf Z "com/example/tidemark/tidemark/MemoryEntry" "newer" "Lcom/example/tidemark/tidemark/MemoryEntry;" ≠ Jvm.RoadKit.slotOf Z "com/example/tidemark/tidemark/MemoryEntry" "lockFreeValue" "Ljava/lang/Object;" := slot_ne (Or.inl (wk72 hw)) (Or.inl (wk55 hw)) (by decide +kernel) pf5 pf0
theorem sn117 {Z : State} {a0 : Array Value} (hw : ∀ d ∈ tables_1, d.before a0 Z = true) : Jvm.RoadKit.slotOf Z "com/example/tidemark/tidemark/MemoryEntry" "newer" "Lcom/example/tidemark/tidemark/MemoryEntry;" ≠ Jvm.RoadKit.slotOf Z "com/example/tidemark/tidemark/MemoryEntry" "lastUsed" "J" := slot_ne (Or.inl (wk72 hw)) (Or.inl (wk43 hw)) (by decide +kernel) pf5 pf2
theorem sn118 {Z : State} {a0 : Array Value} (hw : ∀ d ∈ tables_1, d.before a0 Z = true) : Jvm.RoadKit.slotOf Z "com/example/tidemark/tidemark/MemoryEntry" "newer" "Lcom/example/tidemark/tidemark/MemoryEntry;" ≠ Jvm.RoadKit.slotOf Z "com/example/tidemark/tidemark/MemoryEntry" "created" "J" := slot_ne (Or.inl (wk72 hw)) (Or.inl (wk41 hw)) (by decide +kernel) pf5 pf2
theorem sn119 {Z : State} {a0 : Array Value} (hw : ∀ d ∈ tables_1, d.before a0 Z = true) : Jvm.RoadKit.slotOf Z "com/example/tidemark/tidemark/MemoryEntry" "newer" "Lcom/example/tidemark/tidemark/MemoryEntry;" ≠ Jvm.RoadKit.slotOf Z "com/example/tidemark/tidemark/MemoryEntry" "expiry" "Lcom/example/tidemark/tidemark/Expiry;" := slot_ne (Or.inl (wk72 hw)) (Or.inl (wk34 hw)) (by decide +kernel) pf5 pf3
theorem sn120 {Z : State} {a0 : Array Value} (hw : ∀ d ∈ tables_1, d.before a0 Z = true) : Jvm.RoadKit.slotOf Z "com/example/tidemark/tidemark/MemoryEntry" "newer" "Lcom/example/tidemark/tidemark/MemoryEntry;" ≠ Jvm.RoadKit.slotOf Z "com/example/tidemark/tidemark/MemoryEntry" "value" "Ljava/lang/Object;" := slot_ne (Or.inl (wk72 hw)) (Or.inl (wk32 hw)) (by decide +kernel) pf5 pf0
theorem sn121 {Z : State} {a0 : Array Value} (hw : ∀ d ∈ tables_1, d.before a0 Z = true) : Jvm.RoadKit.slotOf Z "com/example/tidemark/tidemark/MemoryEntry" "newer" "Lcom/example/tidemark/tidemark/MemoryEntry;" ≠ Jvm.RoadKit.slotOf Z "com/example/tidemark/tidemark/MemoryEntry" "charge" "J" := slot_ne (Or.inl (wk72 hw)) (Or.inl (wk25 hw)) (by decide +kernel) pf5 pf2
theorem sn122 {Z : State} {a0 : Array Value} (hw : ∀ d ∈ tables_1, d.before a0 Z = true) : Jvm.RoadKit.slotOf Z "com/example/tidemark/tidemark/MemoryEntry" "newer" "Lcom/example/tidemark/tidemark/MemoryEntry;" ≠ Jvm.RoadKit.slotOf Z "com/example/tidemark/tidemark/MemoryEntry" "key" "Ljava/lang/Object;" := slot_ne (Or.inl (wk72 hw)) (Or.inr (wk23 hw)) (by decide +kernel) pf5 pf0
theorem sn123 {Z : State} {a0 : Array Value} (hw : ∀ d ∈ tables_1, d.before a0 Z = true) : Jvm.RoadKit.slotOf Z "com/example/tidemark/tidemark/MemoryEntry" "newer" "Lcom/example/tidemark/tidemark/MemoryEntry;" ≠ Jvm.RoadKit.slotOf Z "com/example/tidemark/tidemark/MemoryEntry" "slot" "I" := slot_ne (Or.inl (wk72 hw)) (Or.inl (wk21 hw)) (by decide +kernel) pf5 pf1
def Wd (Z : State) (w : Nat → Addr) : Prop := Sta Z Z.heap "com/example/tidemark/tidemark/Expiry" "NEVER" "Lcom/example/tidemark/tidemark/Expiry;" (.ref (w 0)) ∧ Exa Z Z.heap (w 0) "com/example/tidemark/tidemark/Expiry" ∧ Fld Z Z.heap (w 0) "com/example/tidemark/tidemark/Expiry" "lifespan" "J" (.long (-1 : Int64)) ∧ Fld Z Z.heap (w 0) "com/example/tidemark/tidemark/Expiry" "maxIdle" "J" (.long (-1 : Int64)) ∧ True
theorem wd0 {Z : State} {w : Nat → Addr} (hW : Wd Z w) : Sta Z Z.heap "com/example/tidemark/tidemark/Expiry" "NEVER" "Lcom/example/tidemark/tidemark/Expiry;" (.ref (w 0)) := hW.1
theorem wd1 {Z : State} {w : Nat → Addr} (hW : Wd Z w) : Exa Z Z.heap (w 0) "com/example/tidemark/tidemark/Expiry" := hW.2.1
theorem wd2 {Z : State} {w : Nat → Addr} (hW : Wd Z w) : Fld Z Z.heap (w 0) "com/example/tidemark/tidemark/Expiry" "lifespan" "J" (.long (-1 : Int64)) := hW.2.2.1
theorem wd3 {Z : State} {w : Nat → Addr} (hW : Wd Z w) : Fld Z Z.heap (w 0) "com/example/tidemark/tidemark/Expiry" "maxIdle" "J" (.long (-1 : Int64)) := hW.2.2.2.1
theorem d1_0 : decode prog_41_method_1_code 0 = .ok (.aload_n 0, 1) := by decide +kernel
theorem d1_1 : decode prog_41_method_1_code 1 = .ok (.invokespecial 1, 3) := by decide +kernel
theorem d1_4 : decode prog_41_method_1_code 4 = .ok (.return_, 1) := by decide +kernel
theorem ef_1_1 (m : MethodId) (o1 : Addr) : entryFrame m #[(.ref o1)] 1 = mkF m 0 #[.val (.ref o1)] [] := by first | (simp [entryFrame, mkF, argsToLocals, Value.category]; done) | rfl
theorem pnc_0 : plainName "com/example/tidemark/tidemark/RecencyList" = true := by first | (simp [plainName, overriddenIn]; done) | decide +kernel
def Q1_1 (Z : State) (w : Nat → Addr) (o1 : Addr) (h0 : Heap) (n0 : Nat) (v : Option Value) (h : Heap) (L : List Loc) : Prop := v = none ∧ Fr n0 L ∧ h = h0
set_option maxRecDepth 65536 in
set_option maxHeartbeats 40000000 in
theorem rm1_1 (l : Launch) (Z : State) (a0 : Array Value) (hw : ∀ d ∈ tables_1, d.before a0 Z = true) (w : Nat → Addr) (hW : Wd Z w) (ws : List Jvm.Cond) (o1 : Addr) (h0 : Heap) (n0 : Nat) (O0 : Old Z n0 h0) :
    MetFree l ym0 (head1 (Jvm.Cond.code ym0 prog_41_method_1_code 1 none :: ws) ({ frames := 1, cells := 0, slots := 0, locals := 12 } : Room)) (fun a U => a = #[(.ref o1)] ∧ Z.Warmed39 U.vm ∧ U.heap = h0) (fun _ _ _ _ _ => True) (fun _ U o U' => ∃ v L, o = .returned v ∧ Q1_1 Z w o1 h0 n0 v U'.heap L ∧ FrameEnd U o U' L ({ frames := 1, cells := 0, slots := 0, locals := 12 } : Room).cells ({ frames := 1, cells := 0, slots := 0, locals := 12 } : Room).slots) := by
  refine MetFree.of_bodySF (plainFor_of_name pnc_0) hisR ?_
  intro p e s m args below meth c s₁ Bd hml0 hP hK
  obtain ⟨rfl, hZ, hh⟩ := hP
  have hx := Bd.exec
  have hby := Bd.bytes
  have hml : c.maxLocals = 1 := hml0
  have hown : s.vm.findClass "com/example/tidemark/tidemark/RecencyList" = some m.cls := findClass_of_methodNamed Bd.named
  have hnm := (name_of_methodNamed Bd.named Bd.method).1
  have X0 : Stand p l e ({ frames := 1, cells := 0, slots := 0, locals := 12 } : Room) s m #[(.ref o1)] below meth c s₁ [] 0 0 := Stand.of_body Bd
  have e0 : s₁.heap = h0 := by rw [← hh, Bd.state]; rfl
  have N0 := Fr.nil n0
  skip
  have pre0 : ∀ t, Steps p.tables e below (s₁.setTop (mkF m 0 #[.val (.ref o1)] [])) t → Steps p.tables e below (s₁.setTop (entryFrame m #[(.ref o1)] 1)) t := fun t k => castTop (ef_1_1 m o1) k
  obtain ⟨T1, X1, e1, st1⟩ := initO X0 hx hZ hown (wk7 hw) (wk8 hw) (wk9 hw) e0 (g := (mkF m 1 #[.val (.ref o1)] [(.ref o1)])) rfl (by rw [hml]; rfl) rfl (hb hby d1_1) (by decide) (W := 0) (by show 2 * 0 + _ ≤ _; exact Nat.le_of_eq rfl) (by decide)
  obtain ⟨fs, hr, hrun, hended, hWm, hsame⟩ := X1.leave (v := none) (fun _ => rfl)
  refine ⟨_, _, pre0 _ ?_, hrun, hended, _, _, rfl, ?_, ⟨_, rfl⟩, hWm, hsame.mono (by decide) (by decide)⟩
  · show Steps p.tables e below (s₁.setTop (mkF m 0 #[.val (.ref o1)] [])) _
    refine sA X0 hx hby d1_0 rfl rfl ?_
    refine st1 _ ?_
    exact X1.returnOut hx Bd.returns (hb hby d1_4) hr
  · show Q1_1 Z w o1 h0 n0 _ T1.heap _
    rw [e1]
    exact ⟨rfl, N0, rfl⟩
theorem pds_0 : parseMethodDescriptor "()V" = some ⟨[], none⟩ := by decide +kernel
theorem d3_0 : decode prog_40_method_1_code 0 = .ok (.aload_n 0, 1) := by decide +kernel
theorem d3_1 : decode prog_40_method_1_code 1 = .ok (.invokespecial 1, 3) := by decide +kernel
theorem d3_4 : decode prog_40_method_1_code 4 = .ok (.aload_n 0, 1) := by decide +kernel
theorem d3_5 : decode prog_40_method_1_code 5 = .ok (.iconst (-1), 1) := by decide +kernel
theorem d3_6 : decode prog_40_method_1_code 6 = .ok (.putfield 9, 3) := by decide +kernel
theorem d3_9 : decode prog_40_method_1_code 9 = .ok (.aload_n 0, 1) := by decide +kernel
theorem d3_10 : decode prog_40_method_1_code 10 = .ok (.aload_n 1, 1) := by decide +kernel
theorem d3_11 : decode prog_40_method_1_code 11 = .ok (.putfield 15, 3) := by decide +kernel
theorem d3_14 : decode prog_40_method_1_code 14 = .ok (.aload_n 0, 1) := by decide +kernel
theorem d3_15 : decode prog_40_method_1_code 15 = .ok (.lload 6, 2) := by decide +kernel
theorem d3_17 : decode prog_40_method_1_code 17 = .ok (.putfield 19, 3) := by decide +kernel
theorem d3_20 : decode prog_40_method_1_code 20 = .ok (.aload_n 0, 1) := by decide +kernel
theorem d3_21 : decode prog_40_method_1_code 21 = .ok (.aload_n 2, 1) := by decide +kernel
theorem d3_22 : decode prog_40_method_1_code 22 = .ok (.aload_n 3, 1) := by decide +kernel
theorem d3_23 : decode prog_40_method_1_code 23 = .ok (.lload 4, 2) := by decide +kernel
theorem d3_25 : decode prog_40_method_1_code 25 = .ok (.invokevirtual 23, 3) := by decide +kernel
theorem d4_0 : decode prog_40_method_2_code 0 = .ok (.aload_n 0, 1) := by decide +kernel
theorem d4_1 : decode prog_40_method_2_code 1 = .ok (.aload_n 1, 1) := by decide +kernel
theorem d4_2 : decode prog_40_method_2_code 2 = .ok (.putfield 27, 3) := by decide +kernel
theorem d4_5 : decode prog_40_method_2_code 5 = .ok (.aload_n 2, 1) := by decide +kernel
theorem d4_6 : decode prog_40_method_2_code 6 = .ok (.ifnonnull 11, 3) := by decide +kernel
theorem d4_17 : decode prog_40_method_2_code 17 = .ok (.aload_n 0, 1) := by decide +kernel
theorem d4_18 : decode prog_40_method_2_code 18 = .ok (.aload_n 2, 1) := by decide +kernel
theorem d4_19 : decode prog_40_method_2_code 19 = .ok (.putfield 33, 3) := by decide +kernel
theorem d4_22 : decode prog_40_method_2_code 22 = .ok (.aload_n 0, 1) := by decide +kernel
theorem d4_23 : decode prog_40_method_2_code 23 = .ok (.lload_n 3, 1) := by decide +kernel
theorem d4_24 : decode prog_40_method_2_code 24 = .ok (.invokevirtual 37, 3) := by decide +kernel
theorem d5_0 : decode prog_40_method_6_code 0 = .ok (.aload_n 0, 1) := by decide +kernel
theorem d5_1 : decode prog_40_method_6_code 1 = .ok (.lload_n 1, 1) := by decide +kernel
theorem d5_2 : decode prog_40_method_6_code 2 = .ok (.putfield 67, 3) := by decide +kernel
theorem d5_5 : decode prog_40_method_6_code 5 = .ok (.aload_n 0, 1) := by decide +kernel
theorem d5_6 : decode prog_40_method_6_code 6 = .ok (.lload_n 1, 1) := by decide +kernel
theorem d5_7 : decode prog_40_method_6_code 7 = .ok (.putfield 30, 3) := by decide +kernel
theorem d5_10 : decode prog_40_method_6_code 10 = .ok (.return_, 1) := by decide +kernel
theorem ef_5_2 (m : MethodId) (o1 : Addr) : entryFrame m #[(.ref o1), (.long (0 : Int64))] 3 = mkF m 0 #[.val (.ref o1), .val (.long (0 : Int64)), .second] [] := by first | (simp [entryFrame, mkF, argsToLocals, Value.category]; done) | rfl
theorem pnc_1 : plainName "com/example/tidemark/tidemark/MemoryEntry" = true := by first | (simp [plainName, overriddenIn]; done) | decide +kernel
def Q5_2 (Z : State) (w : Nat → Addr) (o1 : Addr) (h0 : Heap) (n0 : Nat) (v : Option Value) (h : Heap) (L : List Loc) : Prop := v = none ∧ Fr n0 L ∧ own_KL h0 h [⟨o1, Jvm.RoadKit.slotOf Z "com/example/tidemark/tidemark/MemoryEntry" "created" "J"⟩, ⟨o1, Jvm.RoadKit.slotOf Z "com/example/tidemark/tidemark/MemoryEntry" "lastUsed" "J"⟩] ∧ Fld Z h o1 "com/example/tidemark/tidemark/MemoryEntry" "created" "J" (.long (0 : Int64)) ∧ Fld Z h o1 "com/example/tidemark/tidemark/MemoryEntry" "lastUsed" "J" (.long (0 : Int64))
set_option maxRecDepth 65536 in
set_option maxHeartbeats 40000000 in
theorem rm5_2 (l : Launch) (Z : State) (a0 : Array Value) (hw : ∀ d ∈ tables_1, d.before a0 Z = true) (w : Nat → Addr) (hW : Wd Z w) (ws : List Jvm.Cond) (o1 : Addr) (h0 : Heap) (n0 : Nat) (O0 : Old Z n0 h0) (f1 : Exa Z h0 o1 "com/example/tidemark/tidemark/MemoryEntry") (f2 : Fld Z h0 o1 "com/example/tidemark/tidemark/MemoryEntry" "created" "J" (.long (0 : Int64))) (g3 : n0 ≤ o1) (f4 : Fld Z h0 o1 "com/example/tidemark/tidemark/MemoryEntry" "lastUsed" "J" (.long (0 : Int64))) :
    MetFree l ym1 (head1 (Jvm.Cond.code ym1 prog_40_method_6_code 3 none :: ws) ({ frames := 0, cells := 0, slots := 0, locals := 0 } : Room)) (fun a U => a = #[(.ref o1), (.long (0 : Int64))] ∧ Z.Warmed39 U.vm ∧ U.heap = h0) (fun _ _ _ _ _ => True) (fun _ U o U' => ∃ v L, o = .returned v ∧ Q5_2 Z w o1 h0 n0 v U'.heap L ∧ FrameEnd U o U' L ({ frames := 0, cells := 0, slots := 0, locals := 0 } : Room).cells ({ frames := 0, cells := 0, slots := 0, locals := 0 } : Room).slots) := by
  refine MetFree.of_bodySF (plainFor_of_name pnc_1) hisR ?_
  intro p e s m args below meth c s₁ Bd hml0 hP hK
  obtain ⟨rfl, hZ, hh⟩ := hP
  have hx := Bd.exec
  have hby := Bd.bytes
  have hml : c.maxLocals = 3 := hml0
  have hown : s.vm.findClass "com/example/tidemark/tidemark/MemoryEntry" = some m.cls := findClass_of_methodNamed Bd.named
  have hnm := (name_of_methodNamed Bd.named Bd.method).1
  have X0 : Stand p l e ({ frames := 0, cells := 0, slots := 0, locals := 0 } : Room) s m #[(.ref o1), (.long (0 : Int64))] below meth c s₁ [] 0 0 := Stand.of_body Bd
  have e0 : s₁.heap = h0 := by rw [← hh, Bd.state]; rfl
  have N0 := Fr.nil n0
  let La : Array Slot := #[.val (.ref o1), .val (.long (0 : Int64)), .second]
  have pre0 : ∀ t, Steps p.tables e below (s₁.setTop (mkF m 0 #[.val (.ref o1), .val (.long (0 : Int64)), .second] [])) t → Steps p.tables e below (s₁.setTop (entryFrame m #[(.ref o1), (.long (0 : Int64))] 3)) t := fun t k => castTop (ef_5_2 m o1) k
  obtain ⟨T1, h1, X1, e1, W1, st1⟩ := putF X0 hx hZ hown (host := "") (Or.inl (wk40 hw)) Via.refl e0 f2 f1 (Or.inl (wk41 hw)) (wk11 hw) (ty := .long) (by decide) rfl rfl (g := (mkF m 2 La [(.long (0 : Int64)), (.ref o1)])) rfl rfl (hb hby d5_2)
  have F1 : Fld Z h1 o1 "com/example/tidemark/tidemark/MemoryEntry" "created" "J" (.long (0 : Int64)) := f2.same W1
  have N1 := Fr.snoc X1 N0 g3
  have O2 := O0.wr W1 g3
  have t3 := (f4.other W1 (Or.inr (sn4 hw)))
  have t4 := (f1.wr W1)
  obtain ⟨T5, h5, X5, e5, W5, st5⟩ := putF X1 hx hZ hown (host := "") (Or.inl (wk42 hw)) Via.refl e1 t3 t4 (Or.inl (wk43 hw)) (wk11 hw) (ty := .long) (by decide) rfl rfl (g := (mkF m 7 La [(.long (0 : Int64)), (.ref o1)])) rfl rfl (hb hby d5_7)
  have F5 : Fld Z h5 o1 "com/example/tidemark/tidemark/MemoryEntry" "lastUsed" "J" (.long (0 : Int64)) := t3.same W5
  have N5 := Fr.snoc X5 N1 g3
  have O6 := O2.wr W5 g3
  obtain ⟨fs, hr, hrun, hended, hWm, hsame⟩ := X5.leave (v := none) (fun _ => rfl)
  have Kf7 : own_KL h0 h5 [⟨o1, Jvm.RoadKit.slotOf Z "com/example/tidemark/tidemark/MemoryEntry" "created" "J"⟩, ⟨o1, Jvm.RoadKit.slotOf Z "com/example/tidemark/tidemark/MemoryEntry" "lastUsed" "J"⟩] := (own_klW (own_klW (own_kl0 h0 [⟨o1, Jvm.RoadKit.slotOf Z "com/example/tidemark/tidemark/MemoryEntry" "created" "J"⟩, ⟨o1, Jvm.RoadKit.slotOf Z "com/example/tidemark/tidemark/MemoryEntry" "lastUsed" "J"⟩]) W1 (Or.inl (List.mem_of_getElem? (i := 0) rfl))) W5 (Or.inl (List.mem_of_getElem? (i := 1) rfl)))
  have t8 := (F1.other W5 (Or.inr (sn5 hw)))
  refine ⟨_, _, pre0 _ ?_, hrun, hended, _, _, rfl, ?_, ⟨_, rfl⟩, hWm, hsame.mono (by decide) (by decide)⟩
  · show Steps p.tables e below (s₁.setTop (mkF m 0 La [])) _
    refine sA X0 hx hby d5_0 rfl rfl ?_
    refine sL X0 hx hby d5_1 rfl ?_
    refine st1 _ ?_
    refine sA X1 hx hby d5_5 rfl rfl ?_
    refine sL X1 hx hby d5_6 rfl ?_
    refine st5 _ ?_
    exact X5.returnOut hx Bd.returns (hb hby d5_10) hr
  · show Q5_2 Z w o1 h0 n0 _ T5.heap _
    rw [e5]
    exact ⟨rfl, N5, Kf7, t8, F5⟩
theorem pds_1 : parseMethodDescriptor "(J)V" = some ⟨[.long], none⟩ := by decide +kernel
theorem d4_27 : decode prog_40_method_2_code 27 = .ok (.aload_n 0, 1) := by decide +kernel
theorem d4_28 : decode prog_40_method_2_code 28 = .ok (.aload_n 0, 1) := by decide +kernel
theorem d4_29 : decode prog_40_method_2_code 29 = .ok (.getfield 33, 3) := by decide +kernel
theorem d4_32 : decode prog_40_method_2_code 32 = .ok (.invokevirtual 41, 3) := by decide +kernel
theorem d6_0 : decode prog_21_method_5_code 0 = .ok (.aload_n 0, 1) := by decide +kernel
theorem d6_1 : decode prog_21_method_5_code 1 = .ok (.getfield 17, 3) := by decide +kernel
theorem d6_4 : decode prog_21_method_5_code 4 = .ok (.ldc2_w 29, 3) := by decide +kernel
theorem d6_7 : decode prog_21_method_5_code 7 = .ok (.lcmp, 1) := by decide +kernel
theorem d6_8 : decode prog_21_method_5_code 8 = .ok (.ifCond .ne 14, 3) := by decide +kernel
theorem d6_11 : decode prog_21_method_5_code 11 = .ok (.aload_n 0, 1) := by decide +kernel
theorem d6_12 : decode prog_21_method_5_code 12 = .ok (.getfield 20, 3) := by decide +kernel
theorem d6_15 : decode prog_21_method_5_code 15 = .ok (.ldc2_w 29, 3) := by decide +kernel
theorem d6_18 : decode prog_21_method_5_code 18 = .ok (.lcmp, 1) := by decide +kernel
theorem d6_19 : decode prog_21_method_5_code 19 = .ok (.ifCond .eq 7, 3) := by decide +kernel
theorem d6_26 : decode prog_21_method_5_code 26 = .ok (.iconst 0, 1) := by decide +kernel
theorem d6_27 : decode prog_21_method_5_code 27 = .ok (.ireturn, 1) := by decide +kernel
theorem ef_6_3 (m : MethodId) (w : Nat → Addr) : entryFrame m #[(.ref (w 0))] 1 = mkF m 0 #[.val (.ref (w 0))] [] := by first | (simp [entryFrame, mkF, argsToLocals, Value.category]; done) | rfl
theorem pnc_2 : plainName "com/example/tidemark/tidemark/Expiry" = true := by first | (simp [plainName, overriddenIn]; done) | decide +kernel
def Q6_3 (Z : State) (w : Nat → Addr) (h0 : Heap) (n0 : Nat) (v : Option Value) (h : Heap) (L : List Loc) : Prop := v = some (.int (0 : Int32)) ∧ Fr n0 L ∧ h = h0
set_option maxRecDepth 65536 in
set_option maxHeartbeats 40000000 in
theorem rm6_3 (l : Launch) (Z : State) (a0 : Array Value) (hw : ∀ d ∈ tables_1, d.before a0 Z = true) (w : Nat → Addr) (hW : Wd Z w) (ws : List Jvm.Cond) (h0 : Heap) (n0 : Nat) (O0 : Old Z n0 h0) :
    MetFree l ym2 (head1 (Jvm.Cond.code ym2 prog_21_method_5_code 1 (some .boolean) :: ws) ({ frames := 0, cells := 0, slots := 0, locals := 0 } : Room)) (fun a U => a = #[(.ref (w 0))] ∧ Z.Warmed39 U.vm ∧ U.heap = h0) (fun _ _ _ _ _ => True) (fun _ U o U' => ∃ v L, o = .returned v ∧ Q6_3 Z w h0 n0 v U'.heap L ∧ FrameEnd U o U' L ({ frames := 0, cells := 0, slots := 0, locals := 0 } : Room).cells ({ frames := 0, cells := 0, slots := 0, locals := 0 } : Room).slots) := by
  refine MetFree.of_bodySF (plainFor_of_name pnc_2) hisR ?_
  intro p e s m args below meth c s₁ Bd hml0 hP hK
  obtain ⟨rfl, hZ, hh⟩ := hP
  have hx := Bd.exec
  have hby := Bd.bytes
  have hml : c.maxLocals = 1 := hml0
  have hown : s.vm.findClass "com/example/tidemark/tidemark/Expiry" = some m.cls := findClass_of_methodNamed Bd.named
  have hnm := (name_of_methodNamed Bd.named Bd.method).1
  have X0 : Stand p l e ({ frames := 0, cells := 0, slots := 0, locals := 0 } : Room) s m #[(.ref (w 0))] below meth c s₁ [] 0 0 := Stand.of_body Bd
  have e0 : s₁.heap = h0 := by rw [← hh, Bd.state]; rfl
  have N0 := Fr.nil n0
  skip
  have pre0 : ∀ t, Steps p.tables e below (s₁.setTop (mkF m 0 #[.val (.ref (w 0))] [])) t → Steps p.tables e below (s₁.setTop (entryFrame m #[(.ref (w 0))] 1)) t := fun t k => castTop (ef_6_3 m w) k
  obtain ⟨T1, X1, e1, st1⟩ := getF X0 hx hZ hown (host := "") (Or.inl (wk49 hw)) Via.refl e0 ((wd2 hW).ext O0.2) (g := (mkF m 1 #[.val (.ref (w 0))] [(.ref (w 0))])) rfl rfl (hb hby d6_1)
  obtain ⟨T2, X2, e2, st2⟩ := getF X1 hx hZ hown (host := "") (Or.inl (wk52 hw)) Via.refl e1 ((wd3 hW).ext O0.2) (g := (mkF m 12 #[.val (.ref (w 0))] [(.ref (w 0))])) rfl rfl (hb hby d6_12)
  obtain ⟨fs, hr, hrun, hended, hWm, hsame⟩ := X2.leave (v := some (.int (0 : Int32))) (fun h => by rw [Bd.returns] at h; cases h)
  refine ⟨_, _, pre0 _ ?_, hrun, hended, _, _, rfl, ?_, ⟨_, rfl⟩, hWm, hsame.mono (by decide) (by decide)⟩
  · show Steps p.tables e below (s₁.setTop (mkF m 0 #[.val (.ref (w 0))] [])) _
    refine sA X0 hx hby d6_0 rfl rfl ?_
    refine st1 _ ?_
    refine X1.ldc2Long hx hown (mvT hZ (wk51 hw)) (g := (mkF m 4 #[.val (.ref (w 0))] [(.long (-1 : Int64))])) rfl (hb hby d6_4) _ ?_
    refine XS.lcmp X1.here hx rfl (hb hby d6_7) rfl ?_
    refine sN X1 hx hby d6_8 (by decide) ?_
    refine sA X1 hx hby d6_11 rfl rfl ?_
    refine st2 _ ?_
    refine X2.ldc2Long hx hown (mvT hZ (wk51 hw)) (g := (mkF m 15 #[.val (.ref (w 0))] [(.long (-1 : Int64))])) rfl (hb hby d6_15) _ ?_
    refine XS.lcmp X2.here hx rfl (hb hby d6_18) rfl ?_
    refine XS.ifYes X2.here hx rfl (pc0 := 19) (pc' := 26) rfl (hb hby d6_19) rfl (by decide) (by decide) (by decide) ?_
    refine sc X2 hx hby d6_26 ?_
    exact retN X2 hx (t := .boolean) Bd.returns (by simp) (hb hby d6_27) hr
  · show Q6_3 Z w h0 n0 _ T2.heap _
    rw [e2]
    exact ⟨rfl, N0, rfl⟩
theorem pds_2 : parseMethodDescriptor "()Z" = some ⟨[], some .boolean⟩ := by decide +kernel
theorem d4_35 : decode prog_40_method_2_code 35 = .ok (.ifCond .eq 7, 3) := by decide +kernel
theorem d4_42 : decode prog_40_method_2_code 42 = .ok (.aload_n 1, 1) := by decide +kernel
theorem d4_43 : decode prog_40_method_2_code 43 = .ok (.putfield 47, 3) := by decide +kernel
theorem d4_46 : decode prog_40_method_2_code 46 = .ok (.return_, 1) := by decide +kernel
theorem ef_4_4 (m : MethodId) (w : Nat → Addr) (o1 : Addr) : entryFrame m #[(.ref o1), .null, (.ref (w 0)), (.long (0 : Int64))] 5 = mkF m 0 #[.val (.ref o1), .val .null, .val (.ref (w 0)), .val (.long (0 : Int64)), .second] [] := by first | (simp [entryFrame, mkF, argsToLocals, Value.category]; done) | rfl
def Q4_4 (Z : State) (w : Nat → Addr) (o1 : Addr) (h0 : Heap) (n0 : Nat) (v : Option Value) (h : Heap) (L : List Loc) : Prop := v = none ∧ Fr n0 L ∧ own_KL h0 h [⟨o1, Jvm.RoadKit.slotOf Z "com/example/tidemark/tidemark/MemoryEntry" "value" "Ljava/lang/Object;"⟩, ⟨o1, Jvm.RoadKit.slotOf Z "com/example/tidemark/tidemark/MemoryEntry" "expiry" "Lcom/example/tidemark/tidemark/Expiry;"⟩, ⟨o1, Jvm.RoadKit.slotOf Z "com/example/tidemark/tidemark/MemoryEntry" "created" "J"⟩, ⟨o1, Jvm.RoadKit.slotOf Z "com/example/tidemark/tidemark/MemoryEntry" "lastUsed" "J"⟩, ⟨o1, Jvm.RoadKit.slotOf Z "com/example/tidemark/tidemark/MemoryEntry" "lockFreeValue" "Ljava/lang/Object;"⟩] ∧ Fld Z h o1 "com/example/tidemark/tidemark/MemoryEntry" "value" "Ljava/lang/Object;" .null ∧ Fld Z h o1 "com/example/tidemark/tidemark/MemoryEntry" "expiry" "Lcom/example/tidemark/tidemark/Expiry;" (.ref (w 0)) ∧ Fld Z h o1 "com/example/tidemark/tidemark/MemoryEntry" "created" "J" (.long (0 : Int64)) ∧ Fld Z h o1 "com/example/tidemark/tidemark/MemoryEntry" "lastUsed" "J" (.long (0 : Int64)) ∧ Fld Z h o1 "com/example/tidemark/tidemark/MemoryEntry" "lockFreeValue" "Ljava/lang/Object;" .null
set_option maxRecDepth 65536 in
set_option maxHeartbeats 40000000 in
theorem rm4_4 (l : Launch) (Z : State) (a0 : Array Value) (hw : ∀ d ∈ tables_1, d.before a0 Z = true) (w : Nat → Addr) (hW : Wd Z w) (ws : List Jvm.Cond) (o1 : Addr) (h0 : Heap) (n0 : Nat) (O0 : Old Z n0 h0) (f1 : Exa Z h0 o1 "com/example/tidemark/tidemark/MemoryEntry") (f2 : Fld Z h0 o1 "com/example/tidemark/tidemark/MemoryEntry" "value" "Ljava/lang/Object;" .null) (g3 : n0 ≤ o1) (f4 : Fld Z h0 o1 "com/example/tidemark/tidemark/MemoryEntry" "expiry" "Lcom/example/tidemark/tidemark/Expiry;" .null) (f5 : Fld Z h0 o1 "com/example/tidemark/tidemark/MemoryEntry" "created" "J" (.long (0 : Int64))) (f6 : Fld Z h0 o1 "com/example/tidemark/tidemark/MemoryEntry" "lastUsed" "J" (.long (0 : Int64))) (f7 : Fld Z h0 o1 "com/example/tidemark/tidemark/MemoryEntry" "lockFreeValue" "Ljava/lang/Object;" .null) :
    MetFree l ym3 (head1 (Jvm.Cond.code ym3 prog_40_method_2_code 5 none :: ws) ({ frames := 1, cells := 0, slots := 0, locals := 14 } : Room)) (fun a U => a = #[(.ref o1), .null, (.ref (w 0)), (.long (0 : Int64))] ∧ Z.Warmed39 U.vm ∧ U.heap = h0) (fun _ _ _ _ _ => True) (fun _ U o U' => ∃ v L, o = .returned v ∧ Q4_4 Z w o1 h0 n0 v U'.heap L ∧ FrameEnd U o U' L ({ frames := 1, cells := 0, slots := 0, locals := 14 } : Room).cells ({ frames := 1, cells := 0, slots := 0, locals := 14 } : Room).slots) := by
  refine MetFree.of_bodySF (plainFor_of_name pnc_1) hisR ?_
  intro p e s m args below meth c s₁ Bd hml0 hP hK
  obtain ⟨rfl, hZ, hh⟩ := hP
  have hx := Bd.exec
  have hby := Bd.bytes
  have hml : c.maxLocals = 5 := hml0
  have hown : s.vm.findClass "com/example/tidemark/tidemark/MemoryEntry" = some m.cls := findClass_of_methodNamed Bd.named
  have hnm := (name_of_methodNamed Bd.named Bd.method).1
  have X0 : Stand p l e ({ frames := 1, cells := 0, slots := 0, locals := 14 } : Room) s m #[(.ref o1), .null, (.ref (w 0)), (.long (0 : Int64))] below meth c s₁ [] 0 0 := Stand.of_body Bd
  have e0 : s₁.heap = h0 := by rw [← hh, Bd.state]; rfl
  have N0 := Fr.nil n0
  let La : Array Slot := #[.val (.ref o1), .val .null, .val (.ref (w 0)), .val (.long (0 : Int64)), .second]
  have pre0 : ∀ t, Steps p.tables e below (s₁.setTop (mkF m 0 #[.val (.ref o1), .val .null, .val (.ref (w 0)), .val (.long (0 : Int64)), .second] [])) t → Steps p.tables e below (s₁.setTop (entryFrame m #[(.ref o1), .null, (.ref (w 0)), (.long (0 : Int64))] 5)) t := fun t k => castTop (ef_4_4 m w o1) k
  obtain ⟨T1, h1, X1, e1, W1, st1⟩ := putF X0 hx hZ hown (host := "") (Or.inl (wk31 hw)) Via.refl e0 f2 f1 (Or.inl (wk32 hw)) (wk11 hw) (ty := (.object "java/lang/Object")) (by decide) rfl rfl (g := (mkF m 2 La [.null, (.ref o1)])) rfl rfl (hb hby d4_2)
  have F1 : Fld Z h1 o1 "com/example/tidemark/tidemark/MemoryEntry" "value" "Ljava/lang/Object;" .null := f2.same W1
  have N1 := Fr.snoc X1 N0 g3
  have O2 := O0.wr W1 g3
  have t3 := (f4.other W1 (Or.inr (sn3 hw)))
  have t4 := (f1.wr W1)
  obtain ⟨T5, h5, X5, e5, W5, st5⟩ := putF X1 hx hZ hown (host := "") (Or.inl (wk33 hw)) Via.refl e1 t3 t4 (Or.inl (wk34 hw)) (wk11 hw) (ty := (.object "com/example/tidemark/tidemark/Expiry")) (by decide) rfl rfl (g := (mkF m 19 La [(.ref (w 0)), (.ref o1)])) rfl rfl (hb hby d4_19)
  have F5 : Fld Z h5 o1 "com/example/tidemark/tidemark/MemoryEntry" "expiry" "Lcom/example/tidemark/tidemark/Expiry;" (.ref (w 0)) := t3.same W5
  have N5 := Fr.snoc X5 N1 g3
  have O6 := O2.wr W5 g3
  have t7 := (t4.wr W5)
  have t8 := ((f5.other W1 (Or.inr (sn6 hw))).other W5 (Or.inr (sn7 hw)))
  have t9 := ((f6.other W1 (Or.inr (sn8 hw))).other W5 (Or.inr (sn9 hw)))
  obtain ⟨cq10, kq10, q10a, q10b, q10c⟩ := isOf hZ e5 t7
  obtain ⟨_, _, ⟨T10, L10, kk10, nn10⟩, -, X10, ⟨Lc10, hQ10, l10, y10, z10⟩, st10⟩ := X5.virtualBack hx (y := ym1) (z := ym1) hown (mvT hZ (wk35 hw)) (mvT hZ (wk36 hw)) (notFace_of_selects (args := #[]) (mvT hZ (wk38 hw))) (mvT hZ (wk38 hw)) (mvT hZ (wk37 hw)) (by decide) (backOf (W := 0) (rm5_2 l Z a0 hw w hW [] o1 h5 n0 O6 t7 t8 g3 t9) hZ (wk39 hw) (wk12 hw) (by decide) (by decide)) q10a q10c (g := (mkF m 24 La [(.long (0 : Int64)), (.ref o1)])) rfl (by rw [hml]; rfl) (Steps.refl _) (argsL := [(.long (0 : Int64))]) (rest := []) (lenOf pds_1 rfl) rfl (by show 2 * 0 + _ ≤ _; exact Nat.le_of_eq rfl) (hb hby d4_24) (fun _ _ => ⟨rfl, e5, (by decide : 0 + 0 ≤ _), (by decide : 0 + 0 ≤ _)⟩)
  dsimp only [Pt.U, Pt.locs, Pt.cells, Pt.slots] at X10 l10 y10 z10 st10 hQ10
  rw [l10, y10, z10] at X10
  obtain ⟨rfl, N10q, K10, r10_0, r10_1⟩ := hQ10
  have N10 := Fr.app N5 N10q
  have O11 := own_old O6 K10 (own_ngc g3 (own_ngc g3 own_ng0))
  have t12 := (own_fld F5 K10 (own_nls (sn11 hw) (own_nls (sn10 hw) own_nl0)))
  obtain ⟨T13, X13, e13, st13⟩ := getF X10 hx hZ hown (host := "") (Or.inl (wk33 hw)) Via.refl rfl t12 (g := (mkF m 29 La [(.ref o1), (.ref o1)])) rfl rfl (hb hby d4_29)
  obtain ⟨cq14, kq14, q14a, q14b, q14c⟩ := isOf hZ e13 ((wd1 hW).ext O11.2)
  obtain ⟨_, _, ⟨T14, L14, kk14, nn14⟩, -, X14, ⟨Lc14, hQ14, l14, y14, z14⟩, st14⟩ := X13.virtualBack hx (y := ym2) (z := ym2) hown (mvT hZ (wk44 hw)) (mvT hZ (wk45 hw)) (notFace_of_selects (args := #[]) (mvT hZ (wk47 hw))) (mvT hZ (wk47 hw)) (mvT hZ (wk46 hw)) (by decide) (backOf (W := 1) (rm6_3 l Z a0 hw w hW []  T10.heap n0 O11 ) hZ (wk48 hw) (wk14 hw) (by decide) (by decide)) q14a q14c (g := (mkF m 32 La [(.ref (w 0)), (.ref o1)])) rfl (by rw [hml]; rfl) (Steps.refl _) (argsL := []) (rest := [(.ref o1)]) (lenOf pds_2 rfl) rfl (by show 2 * 0 + _ ≤ _; exact Nat.le_of_eq rfl) (hb hby d4_32) (fun _ _ => ⟨rfl, e13, (by decide : 0 + 0 ≤ _), (by decide : 0 + 0 ≤ _)⟩)
  dsimp only [Pt.U, Pt.locs, Pt.cells, Pt.slots] at X14 l14 y14 z14 st14 hQ14
  rw [l14, y14, z14] at X14
  obtain ⟨rfl, N14q, e14⟩ := hQ14
  have N14 := Fr.app N10 N14q
  have t15 := (own_fld ((f7.other W1 (Or.inr (sn12 hw))).other W5 (Or.inr (sn13 hw))) K10 (own_nls (sn15 hw) (own_nls (sn14 hw) own_nl0)))
  have t16 := (own_exa t7 K10)
  obtain ⟨T17, h17, X17, e17, W17, st17⟩ := putF X14 hx hZ hown (host := "") (Or.inl (wk54 hw)) Via.refl e14 t15 t16 (Or.inl (wk55 hw)) (wk11 hw) (ty := (.object "java/lang/Object")) (by decide) rfl rfl (g := (mkF m 43 La [.null, (.ref o1)])) rfl rfl (hb hby d4_43)
  have F17 : Fld Z h17 o1 "com/example/tidemark/tidemark/MemoryEntry" "lockFreeValue" "Ljava/lang/Object;" .null := t15.same W17
  have N17 := Fr.snoc X17 N14 g3
  have O18 := O11.wr W17 g3
  obtain ⟨fs, hr, hrun, hended, hWm, hsame⟩ := X17.leave (v := none) (fun _ => rfl)
  have Kf19 : own_KL h0 h17 [⟨o1, Jvm.RoadKit.slotOf Z "com/example/tidemark/tidemark/MemoryEntry" "value" "Ljava/lang/Object;"⟩, ⟨o1, Jvm.RoadKit.slotOf Z "com/example/tidemark/tidemark/MemoryEntry" "expiry" "Lcom/example/tidemark/tidemark/Expiry;"⟩, ⟨o1, Jvm.RoadKit.slotOf Z "com/example/tidemark/tidemark/MemoryEntry" "created" "J"⟩, ⟨o1, Jvm.RoadKit.slotOf Z "com/example/tidemark/tidemark/MemoryEntry" "lastUsed" "J"⟩, ⟨o1, Jvm.RoadKit.slotOf Z "com/example/tidemark/tidemark/MemoryEntry" "lockFreeValue" "Ljava/lang/Object;"⟩] := (own_klW (own_klT (own_klW (own_klW (own_kl0 h0 [⟨o1, Jvm.RoadKit.slotOf Z "com/example/tidemark/tidemark/MemoryEntry" "value" "Ljava/lang/Object;"⟩, ⟨o1, Jvm.RoadKit.slotOf Z "com/example/tidemark/tidemark/MemoryEntry" "expiry" "Lcom/example/tidemark/tidemark/Expiry;"⟩, ⟨o1, Jvm.RoadKit.slotOf Z "com/example/tidemark/tidemark/MemoryEntry" "created" "J"⟩, ⟨o1, Jvm.RoadKit.slotOf Z "com/example/tidemark/tidemark/MemoryEntry" "lastUsed" "J"⟩, ⟨o1, Jvm.RoadKit.slotOf Z "com/example/tidemark/tidemark/MemoryEntry" "lockFreeValue" "Ljava/lang/Object;"⟩]) W1 (Or.inl (List.mem_of_getElem? (i := 0) rfl))) W5 (Or.inl (List.mem_of_getElem? (i := 1) rfl))) K10 (own_kac (Or.inl (List.mem_of_getElem? (i := 2) rfl)) (own_kac (Or.inl (List.mem_of_getElem? (i := 3) rfl)) own_ka0))) W17 (Or.inl (List.mem_of_getElem? (i := 4) rfl)))
  have t20 := ((own_fld (F1.other W5 (Or.inr (sn16 hw))) K10 (own_nls (sn18 hw) (own_nls (sn17 hw) own_nl0))).other W17 (Or.inr (sn19 hw)))
  have t21 := (t12.other W17 (Or.inr (sn20 hw)))
  have t22 := (r10_0.other W17 (Or.inr (sn21 hw)))
  have t23 := (r10_1.other W17 (Or.inr (sn22 hw)))
  refine ⟨_, _, pre0 _ ?_, hrun, hended, _, _, rfl, ?_, ⟨_, rfl⟩, hWm, hsame.mono (by decide) (by decide)⟩
  · show Steps p.tables e below (s₁.setTop (mkF m 0 La [])) _
    refine sA X0 hx hby d4_0 rfl rfl ?_
    refine sA X0 hx hby d4_1 rfl rfl ?_
    refine st1 _ ?_
    refine sA X1 hx hby d4_5 rfl rfl ?_
    refine XS.ifnonnullYes X1.here hx rfl (pc0 := 6) (pc' := 17) rfl (hb hby d4_6) rfl (by decide) (by decide) ?_
    refine sA X1 hx hby d4_17 rfl rfl ?_
    refine sA X1 hx hby d4_18 rfl rfl ?_
    refine st5 _ ?_
    refine sA X5 hx hby d4_22 rfl rfl ?_
    refine sL X5 hx hby d4_23 rfl ?_
    refine st10.trans ?_
    refine sA X10 hx hby d4_27 rfl rfl ?_
    refine sA X10 hx hby d4_28 rfl rfl ?_
    refine st13 _ ?_
    refine st14.trans ?_
    refine XS.ifYes X14.here hx rfl (pc0 := 35) (pc' := 42) rfl (hb hby d4_35) rfl (by decide) (by decide) (by decide) ?_
    refine sA X14 hx hby d4_42 rfl rfl ?_
    refine st17 _ ?_
    exact X17.returnOut hx Bd.returns (hb hby d4_46) hr
  · show Q4_4 Z w o1 h0 n0 _ T17.heap _
    rw [e17]
    exact ⟨rfl, N17, Kf19, t20, t21, t22, t23, F17⟩
theorem pds_3 : parseMethodDescriptor "(Ljava/lang/Object;Lcom/example/tidemark/tidemark/Expiry;J)V" = some ⟨[(.object "java/lang/Object"), (.object "com/example/tidemark/tidemark/Expiry"), .long], none⟩ := by decide +kernel
theorem d3_28 : decode prog_40_method_1_code 28 = .ok (.return_, 1) := by decide +kernel
theorem ef_3_5 (m : MethodId) (w : Nat → Addr) (o1 : Addr) (q2 : Int64) : entryFrame m #[(.ref o1), .null, .null, (.ref (w 0)), (.long (0 : Int64)), (.long q2)] 8 = mkF m 0 #[.val (.ref o1), .val .null, .val .null, .val (.ref (w 0)), .val (.long (0 : Int64)), .second, .val (.long q2), .second] [] := by first | (simp [entryFrame, mkF, argsToLocals, Value.category]; done) | rfl
def Q3_5 (Z : State) (w : Nat → Addr) (o1 : Addr) (q2 : Int64) (h0 : Heap) (n0 : Nat) (v : Option Value) (h : Heap) (L : List Loc) : Prop := v = none ∧ Fr n0 L ∧ own_KL h0 h [⟨o1, Jvm.RoadKit.slotOf Z "com/example/tidemark/tidemark/MemoryEntry" "slot" "I"⟩, ⟨o1, Jvm.RoadKit.slotOf Z "com/example/tidemark/tidemark/MemoryEntry" "key" "Ljava/lang/Object;"⟩, ⟨o1, Jvm.RoadKit.slotOf Z "com/example/tidemark/tidemark/MemoryEntry" "charge" "J"⟩, ⟨o1, Jvm.RoadKit.slotOf Z "com/example/tidemark/tidemark/MemoryEntry" "value" "Ljava/lang/Object;"⟩, ⟨o1, Jvm.RoadKit.slotOf Z "com/example/tidemark/tidemark/MemoryEntry" "expiry" "Lcom/example/tidemark/tidemark/Expiry;"⟩, ⟨o1, Jvm.RoadKit.slotOf Z "com/example/tidemark/tidemark/MemoryEntry" "created" "J"⟩, ⟨o1, Jvm.RoadKit.slotOf Z "com/example/tidemark/tidemark/MemoryEntry" "lastUsed" "J"⟩, ⟨o1, Jvm.RoadKit.slotOf Z "com/example/tidemark/tidemark/MemoryEntry" "lockFreeValue" "Ljava/lang/Object;"⟩] ∧ Fld Z h o1 "com/example/tidemark/tidemark/MemoryEntry" "slot" "I" (.int (-1 : Int32)) ∧ Fld Z h o1 "com/example/tidemark/tidemark/MemoryEntry" "key" "Ljava/lang/Object;" .null ∧ Fld Z h o1 "com/example/tidemark/tidemark/MemoryEntry" "charge" "J" (.long q2) ∧ Fld Z h o1 "com/example/tidemark/tidemark/MemoryEntry" "value" "Ljava/lang/Object;" .null ∧ Fld Z h o1 "com/example/tidemark/tidemark/MemoryEntry" "expiry" "Lcom/example/tidemark/tidemark/Expiry;" (.ref (w 0)) ∧ Fld Z h o1 "com/example/tidemark/tidemark/MemoryEntry" "created" "J" (.long (0 : Int64)) ∧ Fld Z h o1 "com/example/tidemark/tidemark/MemoryEntry" "lastUsed" "J" (.long (0 : Int64)) ∧ Fld Z h o1 "com/example/tidemark/tidemark/MemoryEntry" "lockFreeValue" "Ljava/lang/Object;" .null
set_option maxRecDepth 65536 in
set_option maxHeartbeats 40000000 in
theorem rm3_5 (l : Launch) (Z : State) (a0 : Array Value) (hw : ∀ d ∈ tables_1, d.before a0 Z = true) (w : Nat → Addr) (hW : Wd Z w) (ws : List Jvm.Cond) (o1 : Addr) (q2 : Int64) (h0 : Heap) (n0 : Nat) (O0 : Old Z n0 h0) (f1 : Exa Z h0 o1 "com/example/tidemark/tidemark/MemoryEntry") (f2 : Fld Z h0 o1 "com/example/tidemark/tidemark/MemoryEntry" "slot" "I" (.int (0 : Int32))) (g3 : n0 ≤ o1) (f4 : Fld Z h0 o1 "com/example/tidemark/tidemark/MemoryEntry" "key" "Ljava/lang/Object;" .null) (f5 : Fld Z h0 o1 "com/example/tidemark/tidemark/MemoryEntry" "charge" "J" (.long (0 : Int64))) (f6 : Fld Z h0 o1 "com/example/tidemark/tidemark/MemoryEntry" "value" "Ljava/lang/Object;" .null) (f7 : Fld Z h0 o1 "com/example/tidemark/tidemark/MemoryEntry" "expiry" "Lcom/example/tidemark/tidemark/Expiry;" .null) (f8 : Fld Z h0 o1 "com/example/tidemark/tidemark/MemoryEntry" "created" "J" (.long (0 : Int64))) (f9 : Fld Z h0 o1 "com/example/tidemark/tidemark/MemoryEntry" "lastUsed" "J" (.long (0 : Int64))) (f10 : Fld Z h0 o1 "com/example/tidemark/tidemark/MemoryEntry" "lockFreeValue" "Ljava/lang/Object;" .null) :
    MetFree l ym4 (head1 (Jvm.Cond.code ym4 prog_40_method_1_code 8 none :: ws) ({ frames := 2, cells := 0, slots := 0, locals := 30 } : Room)) (fun a U => a = #[(.ref o1), .null, .null, (.ref (w 0)), (.long (0 : Int64)), (.long q2)] ∧ Z.Warmed39 U.vm ∧ U.heap = h0) (fun _ _ _ _ _ => True) (fun _ U o U' => ∃ v L, o = .returned v ∧ Q3_5 Z w o1 q2 h0 n0 v U'.heap L ∧ FrameEnd U o U' L ({ frames := 2, cells := 0, slots := 0, locals := 30 } : Room).cells ({ frames := 2, cells := 0, slots := 0, locals := 30 } : Room).slots) := by
  refine MetFree.of_bodySF (plainFor_of_name pnc_1) hisR ?_
  intro p e s m args below meth c s₁ Bd hml0 hP hK
  obtain ⟨rfl, hZ, hh⟩ := hP
  have hx := Bd.exec
  have hby := Bd.bytes
  have hml : c.maxLocals = 8 := hml0
  have hown : s.vm.findClass "com/example/tidemark/tidemark/MemoryEntry" = some m.cls := findClass_of_methodNamed Bd.named
  have hnm := (name_of_methodNamed Bd.named Bd.method).1
  have X0 : Stand p l e ({ frames := 2, cells := 0, slots := 0, locals := 30 } : Room) s m #[(.ref o1), .null, .null, (.ref (w 0)), (.long (0 : Int64)), (.long q2)] below meth c s₁ [] 0 0 := Stand.of_body Bd
  have e0 : s₁.heap = h0 := by rw [← hh, Bd.state]; rfl
  have N0 := Fr.nil n0
  let La : Array Slot := #[.val (.ref o1), .val .null, .val .null, .val (.ref (w 0)), .val (.long (0 : Int64)), .second, .val (.long q2), .second]
  have pre0 : ∀ t, Steps p.tables e below (s₁.setTop (mkF m 0 #[.val (.ref o1), .val .null, .val .null, .val (.ref (w 0)), .val (.long (0 : Int64)), .second, .val (.long q2), .second] [])) t → Steps p.tables e below (s₁.setTop (entryFrame m #[(.ref o1), .null, .null, (.ref (w 0)), (.long (0 : Int64)), (.long q2)] 8)) t := fun t k => castTop (ef_3_5 m w o1 q2) k
  obtain ⟨T1, X1, e1, st1⟩ := initO X0 hx hZ hown (wk19 hw) (wk8 hw) (wk9 hw) e0 (g := (mkF m 1 La [(.ref o1)])) rfl (by rw [hml]; rfl) rfl (hb hby d3_1) (by decide) (W := 0) (by show 2 * 0 + _ ≤ _; exact Nat.le_of_eq rfl) (by decide)
  obtain ⟨T2, h2, X2, e2, W2, st2⟩ := putF X1 hx hZ hown (host := "") (Or.inl (wk20 hw)) Via.refl e1 f2 f1 (Or.inl (wk21 hw)) (wk11 hw) (ty := .int) (by decide) rfl rfl (g := (mkF m 6 La [(.int (-1 : Int32)), (.ref o1)])) rfl rfl (hb hby d3_6)
  have F2 : Fld Z h2 o1 "com/example/tidemark/tidemark/MemoryEntry" "slot" "I" (.int (-1 : Int32)) := f2.same W2
  have N2 := Fr.snoc X2 N0 g3
  have O3 := O0.wr W2 g3
  have t4 := (f4.other W2 (Or.inr (sn0 hw)))
  have t5 := (f1.wr W2)
  obtain ⟨T6, h6, X6, e6, W6, st6⟩ := putF X2 hx hZ hown (host := "") (Or.inl (wk22 hw)) Via.refl e2 t4 t5 (Or.inr ⟨(wk23 hw), rfl, hnm⟩) (wk11 hw) (ty := (.object "java/lang/Object")) (by decide) rfl rfl (g := (mkF m 11 La [.null, (.ref o1)])) rfl rfl (hb hby d3_11)
  have F6 : Fld Z h6 o1 "com/example/tidemark/tidemark/MemoryEntry" "key" "Ljava/lang/Object;" .null := t4.same W6
  have N6 := Fr.snoc X6 N2 g3
  have O7 := O3.wr W6 g3
  have t8 := ((f5.other W2 (Or.inr (sn1 hw))).other W6 (Or.inr (sn2 hw)))
  have t9 := (t5.wr W6)
  obtain ⟨T10, h10, X10, e10, W10, st10⟩ := putF X6 hx hZ hown (host := "") (Or.inl (wk24 hw)) Via.refl e6 t8 t9 (Or.inl (wk25 hw)) (wk11 hw) (ty := .long) (by decide) rfl rfl (g := (mkF m 17 La [(.long q2), (.ref o1)])) rfl rfl (hb hby d3_17)
  have F10 : Fld Z h10 o1 "com/example/tidemark/tidemark/MemoryEntry" "charge" "J" (.long q2) := t8.same W10
  have N10 := Fr.snoc X10 N6 g3
  have O11 := O7.wr W10 g3
  have t12 := (t9.wr W10)
  have t13 := (((f6.other W2 (Or.inr (sn23 hw))).other W6 (Or.inr (sn24 hw))).other W10 (Or.inr (sn25 hw)))
  have t14 := (((f7.other W2 (Or.inr (sn26 hw))).other W6 (Or.inr (sn27 hw))).other W10 (Or.inr (sn28 hw)))
  have t15 := (((f8.other W2 (Or.inr (sn29 hw))).other W6 (Or.inr (sn30 hw))).other W10 (Or.inr (sn31 hw)))
  have t16 := (((f9.other W2 (Or.inr (sn32 hw))).other W6 (Or.inr (sn33 hw))).other W10 (Or.inr (sn34 hw)))
  have t17 := (((f10.other W2 (Or.inr (sn35 hw))).other W6 (Or.inr (sn36 hw))).other W10 (Or.inr (sn37 hw)))
  obtain ⟨cq18, kq18, q18a, q18b, q18c⟩ := isOf hZ e10 t12
  obtain ⟨_, _, ⟨T18, L18, kk18, nn18⟩, -, X18, ⟨Lc18, hQ18, l18, y18, z18⟩, st18⟩ := X10.virtualBack hx (y := ym3) (z := ym3) hown (mvT hZ (wk26 hw)) (mvT hZ (wk27 hw)) (notFace_of_selects (args := #[]) (mvT hZ (wk29 hw))) (mvT hZ (wk29 hw)) (mvT hZ (wk28 hw)) (by decide) (backOf (W := 0) (rm4_4 l Z a0 hw w hW [] o1 h10 n0 O11 t12 t13 g3 t14 t15 t16 t17) hZ (wk30 hw) (wk12 hw) (by decide) (by decide)) q18a q18c (g := (mkF m 25 La [(.long (0 : Int64)), (.ref (w 0)), .null, (.ref o1)])) rfl (by rw [hml]; rfl) (Steps.refl _) (argsL := [.null, (.ref (w 0)), (.long (0 : Int64))]) (rest := []) (lenOf pds_3 rfl) rfl (by show 2 * 0 + _ ≤ _; exact Nat.le_of_eq rfl) (hb hby d3_25) (fun _ _ => ⟨rfl, e10, (by decide : 0 + 0 ≤ _), (by decide : 0 + 0 ≤ _)⟩)
  dsimp only [Pt.U, Pt.locs, Pt.cells, Pt.slots] at X18 l18 y18 z18 st18 hQ18
  rw [l18, y18, z18] at X18
  obtain ⟨rfl, N18q, K18, r18_0, r18_1, r18_2, r18_3, r18_4⟩ := hQ18
  have N18 := Fr.app N10 N18q
  have O19 := own_old O11 K18 (own_ngc g3 (own_ngc g3 (own_ngc g3 (own_ngc g3 (own_ngc g3 own_ng0)))))
  obtain ⟨fs, hr, hrun, hended, hWm, hsame⟩ := X18.leave (v := none) (fun _ => rfl)
  have Kf20 : own_KL h0 T18.heap [⟨o1, Jvm.RoadKit.slotOf Z "com/example/tidemark/tidemark/MemoryEntry" "slot" "I"⟩, ⟨o1, Jvm.RoadKit.slotOf Z "com/example/tidemark/tidemark/MemoryEntry" "key" "Ljava/lang/Object;"⟩, ⟨o1, Jvm.RoadKit.slotOf Z "com/example/tidemark/tidemark/MemoryEntry" "charge" "J"⟩, ⟨o1, Jvm.RoadKit.slotOf Z "com/example/tidemark/tidemark/MemoryEntry" "value" "Ljava/lang/Object;"⟩, ⟨o1, Jvm.RoadKit.slotOf Z "com/example/tidemark/tidemark/MemoryEntry" "expiry" "Lcom/example/tidemark/tidemark/Expiry;"⟩, ⟨o1, Jvm.RoadKit.slotOf Z "com/example/tidemark/tidemark/MemoryEntry" "created" "J"⟩, ⟨o1, Jvm.RoadKit.slotOf Z "com/example/tidemark/tidemark/MemoryEntry" "lastUsed" "J"⟩, ⟨o1, Jvm.RoadKit.slotOf Z "com/example/tidemark/tidemark/MemoryEntry" "lockFreeValue" "Ljava/lang/Object;"⟩] := (own_klT (own_klW (own_klW (own_klW (own_kl0 h0 [⟨o1, Jvm.RoadKit.slotOf Z "com/example/tidemark/tidemark/MemoryEntry" "slot" "I"⟩, ⟨o1, Jvm.RoadKit.slotOf Z "com/example/tidemark/tidemark/MemoryEntry" "key" "Ljava/lang/Object;"⟩, ⟨o1, Jvm.RoadKit.slotOf Z "com/example/tidemark/tidemark/MemoryEntry" "charge" "J"⟩, ⟨o1, Jvm.RoadKit.slotOf Z "com/example/tidemark/tidemark/MemoryEntry" "value" "Ljava/lang/Object;"⟩, ⟨o1, Jvm.RoadKit.slotOf Z "com/example/tidemark/tidemark/MemoryEntry" "expiry" "Lcom/example/tidemark/tidemark/Expiry;"⟩, ⟨o1, Jvm.RoadKit.slotOf Z "com/example/tidemark/tidemark/MemoryEntry" "created" "J"⟩, ⟨o1, Jvm.RoadKit.slotOf Z "com/example/tidemark/tidemark/MemoryEntry" "lastUsed" "J"⟩, ⟨o1, Jvm.RoadKit.slotOf Z "com/example/tidemark/tidemark/MemoryEntry" "lockFreeValue" "Ljava/lang/Object;"⟩]) W2 (Or.inl (List.mem_of_getElem? (i := 0) rfl))) W6 (Or.inl (List.mem_of_getElem? (i := 1) rfl))) W10 (Or.inl (List.mem_of_getElem? (i := 2) rfl))) K18 (own_kac (Or.inl (List.mem_of_getElem? (i := 3) rfl)) (own_kac (Or.inl (List.mem_of_getElem? (i := 4) rfl)) (own_kac (Or.inl (List.mem_of_getElem? (i := 5) rfl)) (own_kac (Or.inl (List.mem_of_getElem? (i := 6) rfl)) (own_kac (Or.inl (List.mem_of_getElem? (i := 7) rfl)) own_ka0))))))
  have t21 := (own_fld ((F2.other W6 (Or.inr (sn38 hw))).other W10 (Or.inr (sn39 hw))) K18 (own_nls (sn44 hw) (own_nls (sn43 hw) (own_nls (sn42 hw) (own_nls (sn41 hw) (own_nls (sn40 hw) own_nl0))))))
  have t22 := (own_fld (F6.other W10 (Or.inr (sn45 hw))) K18 (own_nls (sn50 hw) (own_nls (sn49 hw) (own_nls (sn48 hw) (own_nls (sn47 hw) (own_nls (sn46 hw) own_nl0))))))
  have t23 := (own_fld F10 K18 (own_nls (sn55 hw) (own_nls (sn54 hw) (own_nls (sn53 hw) (own_nls (sn52 hw) (own_nls (sn51 hw) own_nl0))))))
  refine ⟨_, _, pre0 _ ?_, hrun, hended, _, _, rfl, ?_, ⟨_, rfl⟩, hWm, hsame.mono (by decide) (by decide)⟩
  · show Steps p.tables e below (s₁.setTop (mkF m 0 La [])) _
    refine sA X0 hx hby d3_0 rfl rfl ?_
    refine st1 _ ?_
    refine sA X1 hx hby d3_4 rfl rfl ?_
    refine sc X1 hx hby d3_5 ?_
    refine st2 _ ?_
    refine sA X2 hx hby d3_9 rfl rfl ?_
    refine sA X2 hx hby d3_10 rfl rfl ?_
    refine st6 _ ?_
    refine sA X6 hx hby d3_14 rfl rfl ?_
    refine XS.lload X6.here hx rfl (hb hby d3_15) rfl ?_
    refine st10 _ ?_
    refine sA X10 hx hby d3_20 rfl rfl ?_
    refine sA X10 hx hby d3_21 rfl rfl ?_
    refine sA X10 hx hby d3_22 rfl rfl ?_
    refine XS.lload X10.here hx rfl (hb hby d3_23) rfl ?_
    refine st18.trans ?_
    exact X18.returnOut hx Bd.returns (hb hby d3_28) hr
  · show Q3_5 Z w o1 q2 h0 n0 _ T18.heap _
    exact ⟨rfl, N18, Kf20, t21, t22, t23, r18_0, r18_1, r18_2, r18_3, r18_4⟩
theorem pds_4 : parseMethodDescriptor "(Ljava/lang/Object;Ljava/lang/Object;Lcom/example/tidemark/tidemark/Expiry;JJ)V" = some ⟨[(.object "java/lang/Object"), (.object "java/lang/Object"), (.object "com/example/tidemark/tidemark/Expiry"), .long, .long], none⟩ := by decide +kernel
theorem d7_0 : decode prog_41_method_7_code 0 = .ok (.aload_n 1, 1) := by decide +kernel
theorem d7_1 : decode prog_41_method_7_code 1 = .ok (.aload_n 0, 1) := by decide +kernel
theorem d7_2 : decode prog_41_method_7_code 2 = .ok (.dup, 1) := by decide +kernel
theorem d7_3 : decode prog_41_method_7_code 3 = .ok (.getfield 25, 3) := by decide +kernel
theorem d7_6 : decode prog_41_method_7_code 6 = .ok (.lconst 1, 1) := by decide +kernel
theorem d7_7 : decode prog_41_method_7_code 7 = .ok (.ladd, 1) := by decide +kernel
theorem d7_8 : decode prog_41_method_7_code 8 = .ok (.dup2_x1, 1) := by decide +kernel
theorem d7_9 : decode prog_41_method_7_code 9 = .ok (.putfield 25, 3) := by decide +kernel
theorem d7_12 : decode prog_41_method_7_code 12 = .ok (.putfield 28, 3) := by decide +kernel
theorem d7_15 : decode prog_41_method_7_code 15 = .ok (.aload_n 1, 1) := by decide +kernel
theorem d7_16 : decode prog_41_method_7_code 16 = .ok (.aload_n 0, 1) := by decide +kernel
theorem d7_17 : decode prog_41_method_7_code 17 = .ok (.putfield 31, 3) := by decide +kernel
theorem d7_20 : decode prog_41_method_7_code 20 = .ok (.aload_n 1, 1) := by decide +kernel
theorem d7_21 : decode prog_41_method_7_code 21 = .ok (.aload_n 0, 1) := by decide +kernel
theorem d7_22 : decode prog_41_method_7_code 22 = .ok (.getfield 35, 3) := by decide +kernel
theorem d7_25 : decode prog_41_method_7_code 25 = .ok (.putfield 38, 3) := by decide +kernel
theorem d7_28 : decode prog_41_method_7_code 28 = .ok (.aload_n 1, 1) := by decide +kernel
theorem d7_29 : decode prog_41_method_7_code 29 = .ok (.aconst_null, 1) := by decide +kernel
theorem d7_30 : decode prog_41_method_7_code 30 = .ok (.putfield 13, 3) := by decide +kernel
theorem d7_33 : decode prog_41_method_7_code 33 = .ok (.aload_n 0, 1) := by decide +kernel
theorem d7_34 : decode prog_41_method_7_code 34 = .ok (.getfield 35, 3) := by decide +kernel
theorem d7_37 : decode prog_41_method_7_code 37 = .ok (.ifnonnull 11, 3) := by decide +kernel
theorem d7_40 : decode prog_41_method_7_code 40 = .ok (.aload_n 0, 1) := by decide +kernel
theorem d7_41 : decode prog_41_method_7_code 41 = .ok (.aload_n 1, 1) := by decide +kernel
theorem d7_42 : decode prog_41_method_7_code 42 = .ok (.putfield 7, 3) := by decide +kernel
theorem d7_45 : decode prog_41_method_7_code 45 = .ok (.goto 11, 3) := by decide +kernel
theorem d7_56 : decode prog_41_method_7_code 56 = .ok (.aload_n 0, 1) := by decide +kernel
theorem d7_57 : decode prog_41_method_7_code 57 = .ok (.aload_n 1, 1) := by decide +kernel
theorem d7_58 : decode prog_41_method_7_code 58 = .ok (.putfield 35, 3) := by decide +kernel
theorem d7_61 : decode prog_41_method_7_code 61 = .ok (.aload_n 0, 1) := by decide +kernel
theorem d7_62 : decode prog_41_method_7_code 62 = .ok (.dup, 1) := by decide +kernel
theorem d7_63 : decode prog_41_method_7_code 63 = .ok (.getfield 18, 3) := by decide +kernel
theorem d7_66 : decode prog_41_method_7_code 66 = .ok (.lconst 1, 1) := by decide +kernel
theorem d7_67 : decode prog_41_method_7_code 67 = .ok (.ladd, 1) := by decide +kernel
theorem d7_68 : decode prog_41_method_7_code 68 = .ok (.putfield 18, 3) := by decide +kernel
theorem d7_71 : decode prog_41_method_7_code 71 = .ok (.aload_n 0, 1) := by decide +kernel
theorem d7_72 : decode prog_41_method_7_code 72 = .ok (.dup, 1) := by decide +kernel
theorem d7_73 : decode prog_41_method_7_code 73 = .ok (.getfield 22, 3) := by decide +kernel
theorem d7_76 : decode prog_41_method_7_code 76 = .ok (.aload_n 1, 1) := by decide +kernel
theorem d7_77 : decode prog_41_method_7_code 77 = .ok (.getfield 41, 3) := by decide +kernel
theorem d7_80 : decode prog_41_method_7_code 80 = .ok (.ladd, 1) := by decide +kernel
theorem d7_81 : decode prog_41_method_7_code 81 = .ok (.putfield 22, 3) := by decide +kernel
theorem d7_84 : decode prog_41_method_7_code 84 = .ok (.return_, 1) := by decide +kernel
theorem ef_7_6 (m : MethodId) (o1 : Addr) (o2 : Addr) : entryFrame m #[(.ref o1), (.ref o2)] 2 = mkF m 0 #[.val (.ref o1), .val (.ref o2)] [] := by first | (simp [entryFrame, mkF, argsToLocals, Value.category]; done) | rfl
def Q7_6 (Z : State) (w : Nat → Addr) (o1 : Addr) (o2 : Addr) (q3 : Int64) (h0 : Heap) (n0 : Nat) (v : Option Value) (h : Heap) (L : List Loc) : Prop := v = none ∧ Fr n0 L ∧ own_KL h0 h [⟨o1, Jvm.RoadKit.slotOf Z "com/example/tidemark/tidemark/RecencyList" "stamps" "J"⟩, ⟨o2, Jvm.RoadKit.slotOf Z "com/example/tidemark/tidemark/MemoryEntry" "stamp" "J"⟩, ⟨o2, Jvm.RoadKit.slotOf Z "com/example/tidemark/tidemark/MemoryEntry" "list" "Lcom/example/tidemark/tidemark/RecencyList;"⟩, ⟨o2, Jvm.RoadKit.slotOf Z "com/example/tidemark/tidemark/MemoryEntry" "older" "Lcom/example/tidemark/tidemark/MemoryEntry;"⟩, ⟨o2, Jvm.RoadKit.slotOf Z "com/example/tidemark/tidemark/MemoryEntry" "newer" "Lcom/example/tidemark/tidemark/MemoryEntry;"⟩, ⟨o1, Jvm.RoadKit.slotOf Z "com/example/tidemark/tidemark/RecencyList" "oldest" "Lcom/example/tidemark/tidemark/MemoryEntry;"⟩, ⟨o1, Jvm.RoadKit.slotOf Z "com/example/tidemark/tidemark/RecencyList" "newest" "Lcom/example/tidemark/tidemark/MemoryEntry;"⟩, ⟨o1, Jvm.RoadKit.slotOf Z "com/example/tidemark/tidemark/RecencyList" "size" "J"⟩, ⟨o1, Jvm.RoadKit.slotOf Z "com/example/tidemark/tidemark/RecencyList" "weight" "J"⟩] ∧ Fld Z h o1 "com/example/tidemark/tidemark/RecencyList" "stamps" "J" (.long (1 : Int64)) ∧ Fld Z h o2 "com/example/tidemark/tidemark/MemoryEntry" "stamp" "J" (.long (1 : Int64)) ∧ Fld Z h o2 "com/example/tidemark/tidemark/MemoryEntry" "list" "Lcom/example/tidemark/tidemark/RecencyList;" (.ref o1) ∧ Fld Z h o1 "com/example/tidemark/tidemark/RecencyList" "newest" "Lcom/example/tidemark/tidemark/MemoryEntry;" (.ref o2) ∧ Fld Z h o2 "com/example/tidemark/tidemark/MemoryEntry" "older" "Lcom/example/tidemark/tidemark/MemoryEntry;" .null ∧ Fld Z h o2 "com/example/tidemark/tidemark/MemoryEntry" "newer" "Lcom/example/tidemark/tidemark/MemoryEntry;" .null ∧ Fld Z h o1 "com/example/tidemark/tidemark/RecencyList" "oldest" "Lcom/example/tidemark/tidemark/MemoryEntry;" (.ref o2) ∧ Fld Z h o1 "com/example/tidemark/tidemark/RecencyList" "size" "J" (.long (1 : Int64)) ∧ Fld Z h o1 "com/example/tidemark/tidemark/RecencyList" "weight" "J" (.long ((0 : Int64) + q3))
set_option maxRecDepth 65536 in
set_option maxHeartbeats 40000000 in
theorem rm7_6 (l : Launch) (Z : State) (a0 : Array Value) (hw : ∀ d ∈ tables_1, d.before a0 Z = true) (w : Nat → Addr) (hW : Wd Z w) (ws : List Jvm.Cond) (o1 : Addr) (o2 : Addr) (q3 : Int64) (h0 : Heap) (n0 : Nat) (O0 : Old Z n0 h0) (f1 : Fld Z h0 o1 "com/example/tidemark/tidemark/RecencyList" "stamps" "J" (.long (0 : Int64))) (f2 : Exa Z h0 o1 "com/example/tidemark/tidemark/RecencyList") (g3 : n0 ≤ o1) (f4 : Exa Z h0 o2 "com/example/tidemark/tidemark/MemoryEntry") (f5 : Fld Z h0 o2 "com/example/tidemark/tidemark/MemoryEntry" "stamp" "J" (.long (0 : Int64))) (u6 : o2 ≠ o1) (g7 : n0 ≤ o2) (f8 : Fld Z h0 o2 "com/example/tidemark/tidemark/MemoryEntry" "list" "Lcom/example/tidemark/tidemark/RecencyList;" .null) (f9 : Fld Z h0 o1 "com/example/tidemark/tidemark/RecencyList" "newest" "Lcom/example/tidemark/tidemark/MemoryEntry;" .null) (f10 : Fld Z h0 o2 "com/example/tidemark/tidemark/MemoryEntry" "older" "Lcom/example/tidemark/tidemark/MemoryEntry;" .null) (f11 : Fld Z h0 o2 "com/example/tidemark/tidemark/MemoryEntry" "newer" "Lcom/example/tidemark/tidemark/MemoryEntry;" .null) (f12 : Fld Z h0 o1 "com/example/tidemark/tidemark/RecencyList" "oldest" "Lcom/example/tidemark/tidemark/MemoryEntry;" .null) (f13 : Fld Z h0 o1 "com/example/tidemark/tidemark/RecencyList" "size" "J" (.long (0 : Int64))) (f14 : Fld Z h0 o1 "com/example/tidemark/tidemark/RecencyList" "weight" "J" (.long (0 : Int64))) (f15 : Fld Z h0 o2 "com/example/tidemark/tidemark/MemoryEntry" "charge" "J" (.long q3)) :
    MetFree l ym5 (head1 (Jvm.Cond.code ym5 prog_41_method_7_code 2 none :: ws) ({ frames := 0, cells := 0, slots := 0, locals := 0 } : Room)) (fun a U => a = #[(.ref o1), (.ref o2)] ∧ Z.Warmed39 U.vm ∧ U.heap = h0) (fun _ _ _ _ _ => True) (fun _ U o U' => ∃ v L, o = .returned v ∧ Q7_6 Z w o1 o2 q3 h0 n0 v U'.heap L ∧ FrameEnd U o U' L ({ frames := 0, cells := 0, slots := 0, locals := 0 } : Room).cells ({ frames := 0, cells := 0, slots := 0, locals := 0 } : Room).slots) := by
  refine MetFree.of_bodySF (plainFor_of_name pnc_0) hisR ?_
  intro p e s m args below meth c s₁ Bd hml0 hP hK
  obtain ⟨rfl, hZ, hh⟩ := hP
  have hx := Bd.exec
  have hby := Bd.bytes
  have hml : c.maxLocals = 2 := hml0
  have hown : s.vm.findClass "com/example/tidemark/tidemark/RecencyList" = some m.cls := findClass_of_methodNamed Bd.named
  have hnm := (name_of_methodNamed Bd.named Bd.method).1
  have X0 : Stand p l e ({ frames := 0, cells := 0, slots := 0, locals := 0 } : Room) s m #[(.ref o1), (.ref o2)] below meth c s₁ [] 0 0 := Stand.of_body Bd
  have e0 : s₁.heap = h0 := by rw [← hh, Bd.state]; rfl
  have N0 := Fr.nil n0
  skip
  have pre0 : ∀ t, Steps p.tables e below (s₁.setTop (mkF m 0 #[.val (.ref o1), .val (.ref o2)] [])) t → Steps p.tables e below (s₁.setTop (entryFrame m #[(.ref o1), (.ref o2)] 2)) t := fun t k => castTop (ef_7_6 m o1 o2) k
  obtain ⟨T1, X1, e1, st1⟩ := getF X0 hx hZ hown (host := "") (Or.inl (wk61 hw)) Via.refl e0 f1 (g := (mkF m 3 #[.val (.ref o1), .val (.ref o2)] [(.ref o1), (.ref o1), (.ref o2)])) rfl rfl (hb hby d7_3)
  obtain ⟨T2, h2, X2, e2, W2, st2⟩ := putF X1 hx hZ hown (host := "") (Or.inl (wk61 hw)) Via.refl e1 f1 f2 (Or.inl (wk62 hw)) (wk2 hw) (ty := .long) (by decide) rfl rfl (g := (mkF m 9 #[.val (.ref o1), .val (.ref o2)] [(.long (1 : Int64)), (.ref o1), (.long (1 : Int64)), (.ref o2)])) rfl rfl (hb hby d7_9)
  have F2 : Fld Z h2 o1 "com/example/tidemark/tidemark/RecencyList" "stamps" "J" (.long (1 : Int64)) := f1.same W2
  have N2 := Fr.snoc X2 N0 g3
  have O3 := O0.wr W2 g3
  have t4 := (f5.other W2 (Or.inl u6))
  have t5 := (f4.wr W2)
  obtain ⟨T6, h6, X6, e6, W6, st6⟩ := putF X2 hx hZ hown (host := "") (Or.inl (wk63 hw)) Via.refl e2 t4 t5 (Or.inl (wk64 hw)) (wk11 hw) (ty := .long) (by decide) rfl rfl (g := (mkF m 12 #[.val (.ref o1), .val (.ref o2)] [(.long (1 : Int64)), (.ref o2)])) rfl rfl (hb hby d7_12)
  have F6 : Fld Z h6 o2 "com/example/tidemark/tidemark/MemoryEntry" "stamp" "J" (.long (1 : Int64)) := t4.same W6
  have N6 := Fr.snoc X6 N2 g7
  have O7 := O3.wr W6 g7
  have t8 := ((f8.other W2 (Or.inl u6)).other W6 (Or.inr (sn56 hw)))
  have t9 := (t5.wr W6)
  obtain ⟨T10, h10, X10, e10, W10, st10⟩ := putF X6 hx hZ hown (host := "") (Or.inl (wk65 hw)) Via.refl e6 t8 t9 (Or.inl (wk66 hw)) (wk11 hw) (ty := (.object "com/example/tidemark/tidemark/RecencyList")) (by decide) rfl rfl (g := (mkF m 17 #[.val (.ref o1), .val (.ref o2)] [(.ref o1), (.ref o2)])) rfl rfl (hb hby d7_17)
  have F10 : Fld Z h10 o2 "com/example/tidemark/tidemark/MemoryEntry" "list" "Lcom/example/tidemark/tidemark/RecencyList;" (.ref o1) := t8.same W10
  have N10 := Fr.snoc X10 N6 g7
  have O11 := O7.wr W10 g7
  have t12 := (((f9.other W2 (Or.inr (sn57 hw))).other W6 (Or.inl (Ne.symm u6))).other W10 (Or.inl (Ne.symm u6)))
  obtain ⟨T13, X13, e13, st13⟩ := getF X10 hx hZ hown (host := "") (Or.inl (wk67 hw)) Via.refl e10 t12 (g := (mkF m 22 #[.val (.ref o1), .val (.ref o2)] [(.ref o1), (.ref o2)])) rfl rfl (hb hby d7_22)
  have t14 := (((f10.other W2 (Or.inl u6)).other W6 (Or.inr (sn58 hw))).other W10 (Or.inr (sn59 hw)))
  have t15 := (t9.wr W10)
  obtain ⟨T16, h16, X16, e16, W16, st16⟩ := putF X13 hx hZ hown (host := "") (Or.inl (wk69 hw)) Via.refl e13 t14 t15 (Or.inl (wk70 hw)) (wk11 hw) (ty := (.object "com/example/tidemark/tidemark/MemoryEntry")) (by decide) rfl rfl (g := (mkF m 25 #[.val (.ref o1), .val (.ref o2)] [.null, (.ref o2)])) rfl rfl (hb hby d7_25)
  have F16 : Fld Z h16 o2 "com/example/tidemark/tidemark/MemoryEntry" "older" "Lcom/example/tidemark/tidemark/MemoryEntry;" .null := t14.same W16
  have N16 := Fr.snoc X16 N10 g7
  have O17 := O11.wr W16 g7
  have t18 := ((((f11.other W2 (Or.inl u6)).other W6 (Or.inr (sn60 hw))).other W10 (Or.inr (sn61 hw))).other W16 (Or.inr (sn62 hw)))
  have t19 := (t15.wr W16)
  obtain ⟨T20, h20, X20, e20, W20, st20⟩ := putF X16 hx hZ hown (host := "") (Or.inl (wk71 hw)) Via.refl e16 t18 t19 (Or.inl (wk72 hw)) (wk11 hw) (ty := (.object "com/example/tidemark/tidemark/MemoryEntry")) (by decide) rfl rfl (g := (mkF m 30 #[.val (.ref o1), .val (.ref o2)] [.null, (.ref o2)])) rfl rfl (hb hby d7_30)
  have F20 : Fld Z h20 o2 "com/example/tidemark/tidemark/MemoryEntry" "newer" "Lcom/example/tidemark/tidemark/MemoryEntry;" .null := t18.same W20
  have N20 := Fr.snoc X20 N16 g7
  have O21 := O17.wr W20 g7
  have t22 := ((t12.other W16 (Or.inl (Ne.symm u6))).other W20 (Or.inl (Ne.symm u6)))
  obtain ⟨T23, X23, e23, st23⟩ := getF X20 hx hZ hown (host := "") (Or.inl (wk67 hw)) Via.refl e20 t22 (g := (mkF m 34 #[.val (.ref o1), .val (.ref o2)] [(.ref o1)])) rfl rfl (hb hby d7_34)
  have t24 := (((((f12.other W2 (Or.inr (sn63 hw))).other W6 (Or.inl (Ne.symm u6))).other W10 (Or.inl (Ne.symm u6))).other W16 (Or.inl (Ne.symm u6))).other W20 (Or.inl (Ne.symm u6)))
  have t25 := (((((f2.wr W2).wr W6).wr W10).wr W16).wr W20)
  obtain ⟨T26, h26, X26, e26, W26, st26⟩ := putF X23 hx hZ hown (host := "") (Or.inl (wk73 hw)) Via.refl e23 t24 t25 (Or.inl (wk74 hw)) (wk2 hw) (ty := (.object "com/example/tidemark/tidemark/MemoryEntry")) (by decide) rfl rfl (g := (mkF m 42 #[.val (.ref o1), .val (.ref o2)] [(.ref o2), (.ref o1)])) rfl rfl (hb hby d7_42)
  have F26 : Fld Z h26 o1 "com/example/tidemark/tidemark/RecencyList" "oldest" "Lcom/example/tidemark/tidemark/MemoryEntry;" (.ref o2) := t24.same W26
  have N26 := Fr.snoc X26 N20 g3
  have O27 := O21.wr W26 g3
  have t28 := (t22.other W26 (Or.inr (sn64 hw)))
  have t29 := (t25.wr W26)
  obtain ⟨T30, h30, X30, e30, W30, st30⟩ := putF X26 hx hZ hown (host := "") (Or.inl (wk67 hw)) Via.refl e26 t28 t29 (Or.inl (wk68 hw)) (wk2 hw) (ty := (.object "com/example/tidemark/tidemark/MemoryEntry")) (by decide) rfl rfl (g := (mkF m 58 #[.val (.ref o1), .val (.ref o2)] [(.ref o2), (.ref o1)])) rfl rfl (hb hby d7_58)
  have F30 : Fld Z h30 o1 "com/example/tidemark/tidemark/RecencyList" "newest" "Lcom/example/tidemark/tidemark/MemoryEntry;" (.ref o2) := t28.same W30
  have N30 := Fr.snoc X30 N26 g3
  have O31 := O27.wr W30 g3
  have t32 := (((((((f13.other W2 (Or.inr (sn65 hw))).other W6 (Or.inl (Ne.symm u6))).other W10 (Or.inl (Ne.symm u6))).other W16 (Or.inl (Ne.symm u6))).other W20 (Or.inl (Ne.symm u6))).other W26 (Or.inr (sn66 hw))).other W30 (Or.inr (sn67 hw)))
  obtain ⟨T33, X33, e33, st33⟩ := getF X30 hx hZ hown (host := "") (Or.inl (wk75 hw)) Via.refl e30 t32 (g := (mkF m 63 #[.val (.ref o1), .val (.ref o2)] [(.ref o1), (.ref o1)])) rfl rfl (hb hby d7_63)
  have t34 := (t29.wr W30)
  obtain ⟨T35, h35, X35, e35, W35, st35⟩ := putF X33 hx hZ hown (host := "") (Or.inl (wk75 hw)) Via.refl e33 t32 t34 (Or.inl (wk76 hw)) (wk2 hw) (ty := .long) (by decide) rfl rfl (g := (mkF m 68 #[.val (.ref o1), .val (.ref o2)] [(.long (1 : Int64)), (.ref o1)])) rfl rfl (hb hby d7_68)
  have F35 : Fld Z h35 o1 "com/example/tidemark/tidemark/RecencyList" "size" "J" (.long (1 : Int64)) := t32.same W35
  have N35 := Fr.snoc X35 N30 g3
  have O36 := O31.wr W35 g3
  have t37 := ((((((((f14.other W2 (Or.inr (sn68 hw))).other W6 (Or.inl (Ne.symm u6))).other W10 (Or.inl (Ne.symm u6))).other W16 (Or.inl (Ne.symm u6))).other W20 (Or.inl (Ne.symm u6))).other W26 (Or.inr (sn69 hw))).other W30 (Or.inr (sn70 hw))).other W35 (Or.inr (sn71 hw)))
  obtain ⟨T38, X38, e38, st38⟩ := getF X35 hx hZ hown (host := "") (Or.inl (wk77 hw)) Via.refl e35 t37 (g := (mkF m 73 #[.val (.ref o1), .val (.ref o2)] [(.ref o1), (.ref o1)])) rfl rfl (hb hby d7_73)
  have t39 := ((((((((f15.other W2 (Or.inl u6)).other W6 (Or.inr (sn72 hw))).other W10 (Or.inr (sn73 hw))).other W16 (Or.inr (sn74 hw))).other W20 (Or.inr (sn75 hw))).other W26 (Or.inl u6)).other W30 (Or.inl u6)).other W35 (Or.inl u6))
  obtain ⟨T40, X40, e40, st40⟩ := getF X38 hx hZ hown (host := "") (Or.inl (wk79 hw)) Via.refl e38 t39 (g := (mkF m 77 #[.val (.ref o1), .val (.ref o2)] [(.ref o2), (.long (0 : Int64)), (.ref o1)])) rfl rfl (hb hby d7_77)
  have t41 := (t34.wr W35)
  obtain ⟨T42, h42, X42, e42, W42, st42⟩ := putF X40 hx hZ hown (host := "") (Or.inl (wk77 hw)) Via.refl e40 t37 t41 (Or.inl (wk78 hw)) (wk2 hw) (ty := .long) (by decide) rfl rfl (g := (mkF m 81 #[.val (.ref o1), .val (.ref o2)] [(.long ((0 : Int64) + q3)), (.ref o1)])) rfl rfl (hb hby d7_81)
  have F42 : Fld Z h42 o1 "com/example/tidemark/tidemark/RecencyList" "weight" "J" (.long ((0 : Int64) + q3)) := t37.same W42
  have N42 := Fr.snoc X42 N35 g3
  have O43 := O36.wr W42 g3
  obtain ⟨fs, hr, hrun, hended, hWm, hsame⟩ := X42.leave (v := none) (fun _ => rfl)
  have Kf44 : own_KL h0 h42 [⟨o1, Jvm.RoadKit.slotOf Z "com/example/tidemark/tidemark/RecencyList" "stamps" "J"⟩, ⟨o2, Jvm.RoadKit.slotOf Z "com/example/tidemark/tidemark/MemoryEntry" "stamp" "J"⟩, ⟨o2, Jvm.RoadKit.slotOf Z "com/example/tidemark/tidemark/MemoryEntry" "list" "Lcom/example/tidemark/tidemark/RecencyList;"⟩, ⟨o2, Jvm.RoadKit.slotOf Z "com/example/tidemark/tidemark/MemoryEntry" "older" "Lcom/example/tidemark/tidemark/MemoryEntry;"⟩, ⟨o2, Jvm.RoadKit.slotOf Z "com/example/tidemark/tidemark/MemoryEntry" "newer" "Lcom/example/tidemark/tidemark/MemoryEntry;"⟩, ⟨o1, Jvm.RoadKit.slotOf Z "com/example/tidemark/tidemark/RecencyList" "oldest" "Lcom/example/tidemark/tidemark/MemoryEntry;"⟩, ⟨o1, Jvm.RoadKit.slotOf Z "com/example/tidemark/tidemark/RecencyList" "newest" "Lcom/example/tidemark/tidemark/MemoryEntry;"⟩, ⟨o1, Jvm.RoadKit.slotOf Z "com/example/tidemark/tidemark/RecencyList" "size" "J"⟩, ⟨o1, Jvm.RoadKit.slotOf Z "com/example/tidemark/tidemark/RecencyList" "weight" "J"⟩] := (own_klW (own_klW (own_klW (own_klW (own_klW (own_klW (own_klW (own_klW (own_klW (own_kl0 h0 [⟨o1, Jvm.RoadKit.slotOf Z "com/example/tidemark/tidemark/RecencyList" "stamps" "J"⟩, ⟨o2, Jvm.RoadKit.slotOf Z "com/example/tidemark/tidemark/MemoryEntry" "stamp" "J"⟩, ⟨o2, Jvm.RoadKit.slotOf Z "com/example/tidemark/tidemark/MemoryEntry" "list" "Lcom/example/tidemark/tidemark/RecencyList;"⟩, ⟨o2, Jvm.RoadKit.slotOf Z "com/example/tidemark/tidemark/MemoryEntry" "older" "Lcom/example/tidemark/tidemark/MemoryEntry;"⟩, ⟨o2, Jvm.RoadKit.slotOf Z "com/example/tidemark/tidemark/MemoryEntry" "newer" "Lcom/example/tidemark/tidemark/MemoryEntry;"⟩, ⟨o1, Jvm.RoadKit.slotOf Z "com/example/tidemark/tidemark/RecencyList" "oldest" "Lcom/example/tidemark/tidemark/MemoryEntry;"⟩, ⟨o1, Jvm.RoadKit.slotOf Z "com/example/tidemark/tidemark/RecencyList" "newest" "Lcom/example/tidemark/tidemark/MemoryEntry;"⟩, ⟨o1, Jvm.RoadKit.slotOf Z "com/example/tidemark/tidemark/RecencyList" "size" "J"⟩, ⟨o1, Jvm.RoadKit.slotOf Z "com/example/tidemark/tidemark/RecencyList" "weight" "J"⟩]) W2 (Or.inl (List.mem_of_getElem? (i := 0) rfl))) W6 (Or.inl (List.mem_of_getElem? (i := 1) rfl))) W10 (Or.inl (List.mem_of_getElem? (i := 2) rfl))) W16 (Or.inl (List.mem_of_getElem? (i := 3) rfl))) W20 (Or.inl (List.mem_of_getElem? (i := 4) rfl))) W26 (Or.inl (List.mem_of_getElem? (i := 5) rfl))) W30 (Or.inl (List.mem_of_getElem? (i := 6) rfl))) W35 (Or.inl (List.mem_of_getElem? (i := 7) rfl))) W42 (Or.inl (List.mem_of_getElem? (i := 8) rfl)))
  have t45 := ((((((((F2.other W6 (Or.inl (Ne.symm u6))).other W10 (Or.inl (Ne.symm u6))).other W16 (Or.inl (Ne.symm u6))).other W20 (Or.inl (Ne.symm u6))).other W26 (Or.inr (sn76 hw))).other W30 (Or.inr (sn77 hw))).other W35 (Or.inr (sn78 hw))).other W42 (Or.inr (sn79 hw)))
  have t46 := (((((((F6.other W10 (Or.inr (sn80 hw))).other W16 (Or.inr (sn81 hw))).other W20 (Or.inr (sn82 hw))).other W26 (Or.inl u6)).other W30 (Or.inl u6)).other W35 (Or.inl u6)).other W42 (Or.inl u6))
  have t47 := ((((((F10.other W16 (Or.inr (sn83 hw))).other W20 (Or.inr (sn84 hw))).other W26 (Or.inl u6)).other W30 (Or.inl u6)).other W35 (Or.inl u6)).other W42 (Or.inl u6))
  have t48 := ((F30.other W35 (Or.inr (sn85 hw))).other W42 (Or.inr (sn86 hw)))
  have t49 := (((((F16.other W20 (Or.inr (sn87 hw))).other W26 (Or.inl u6)).other W30 (Or.inl u6)).other W35 (Or.inl u6)).other W42 (Or.inl u6))
  have t50 := ((((F20.other W26 (Or.inl u6)).other W30 (Or.inl u6)).other W35 (Or.inl u6)).other W42 (Or.inl u6))
  have t51 := (((F26.other W30 (Or.inr (sn88 hw))).other W35 (Or.inr (sn89 hw))).other W42 (Or.inr (sn90 hw)))
  have t52 := (F35.other W42 (Or.inr (sn91 hw)))
  refine ⟨_, _, pre0 _ ?_, hrun, hended, _, _, rfl, ?_, ⟨_, rfl⟩, hWm, hsame.mono (by decide) (by decide)⟩
  · show Steps p.tables e below (s₁.setTop (mkF m 0 #[.val (.ref o1), .val (.ref o2)] [])) _
    refine sA X0 hx hby d7_0 rfl rfl ?_
    refine sA X0 hx hby d7_1 rfl rfl ?_
    refine XS.dup X0.here hx rfl (hb hby d7_2) rfl rfl ?_
    refine st1 _ ?_
    refine XS.lconst X1.here hx rfl (hb hby d7_6) ?_
    refine XS.ladd X1.here hx rfl (hb hby d7_7) rfl ?_
    jvm_step X1.here [X1.here.top, hx, (hb hby d7_8), Value.category]
    show Steps p.tables e below (T1.setTop (mkF m 9 #[.val (.ref o1), .val (.ref o2)] [(.long (1 : Int64)), (.ref o1), (.long (1 : Int64)), (.ref o2)])) _
    refine st2 _ ?_
    refine st6 _ ?_
    refine sA X6 hx hby d7_15 rfl rfl ?_
    refine sA X6 hx hby d7_16 rfl rfl ?_
    refine st10 _ ?_
    refine sA X10 hx hby d7_20 rfl rfl ?_
    refine sA X10 hx hby d7_21 rfl rfl ?_
    refine st13 _ ?_
    refine st16 _ ?_
    refine sA X16 hx hby d7_28 rfl rfl ?_
    refine XS.aconstNull X16.here hx rfl (hb hby d7_29) ?_
    refine st20 _ ?_
    refine sA X20 hx hby d7_33 rfl rfl ?_
    refine st23 _ ?_
    refine XS.ifnonnullNo X23.here hx rfl (hb hby d7_37) rfl ?_
    refine sA X23 hx hby d7_40 rfl rfl ?_
    refine sA X23 hx hby d7_41 rfl rfl ?_
    refine st26 _ ?_
    refine sg (pc := 45) (pc' := 56) X26 hx hby d7_45 (by decide) (by decide) ?_
    refine sA X26 hx hby d7_56 rfl rfl ?_
    refine sA X26 hx hby d7_57 rfl rfl ?_
    refine st30 _ ?_
    refine sA X30 hx hby d7_61 rfl rfl ?_
    refine XS.dup X30.here hx rfl (hb hby d7_62) rfl rfl ?_
    refine st33 _ ?_
    refine XS.lconst X33.here hx rfl (hb hby d7_66) ?_
    refine XS.ladd X33.here hx rfl (hb hby d7_67) rfl ?_
    refine st35 _ ?_
    refine sA X35 hx hby d7_71 rfl rfl ?_
    refine XS.dup X35.here hx rfl (hb hby d7_72) rfl rfl ?_
    refine st38 _ ?_
    refine sA X38 hx hby d7_76 rfl rfl ?_
    refine st40 _ ?_
    refine XS.ladd X40.here hx rfl (hb hby d7_80) rfl ?_
    refine st42 _ ?_
    exact X42.returnOut hx Bd.returns (hb hby d7_84) hr
  · show Q7_6 Z w o1 o2 q3 h0 n0 _ T42.heap _
    rw [e42]
    exact ⟨rfl, N42, Kf44, t45, t46, t47, t48, t49, t50, t51, t52, F42⟩
theorem pds_5 : parseMethodDescriptor "(Lcom/example/tidemark/tidemark/MemoryEntry;)V" = some ⟨[(.object "com/example/tidemark/tidemark/MemoryEntry")], none⟩ := by decide +kernel
theorem d8_0 : decode prog_41_method_10_code 0 = .ok (.aload_n 1, 1) := by decide +kernel
theorem d8_1 : decode prog_41_method_10_code 1 = .ok (.getfield 38, 3) := by decide +kernel
theorem d8_4 : decode prog_41_method_10_code 4 = .ok (.ifnonnull 14, 3) := by decide +kernel
theorem d8_7 : decode prog_41_method_10_code 7 = .ok (.aload_n 0, 1) := by decide +kernel
theorem d8_8 : decode prog_41_method_10_code 8 = .ok (.aload_n 1, 1) := by decide +kernel
theorem d8_9 : decode prog_41_method_10_code 9 = .ok (.getfield 13, 3) := by decide +kernel
theorem d8_12 : decode prog_41_method_10_code 12 = .ok (.putfield 7, 3) := by decide +kernel
theorem d8_15 : decode prog_41_method_10_code 15 = .ok (.goto 14, 3) := by decide +kernel
theorem d8_29 : decode prog_41_method_10_code 29 = .ok (.aload_n 1, 1) := by decide +kernel
theorem d8_30 : decode prog_41_method_10_code 30 = .ok (.getfield 13, 3) := by decide +kernel
theorem d8_33 : decode prog_41_method_10_code 33 = .ok (.ifnonnull 14, 3) := by decide +kernel
theorem d8_36 : decode prog_41_method_10_code 36 = .ok (.aload_n 0, 1) := by decide +kernel
theorem d8_37 : decode prog_41_method_10_code 37 = .ok (.aload_n 1, 1) := by decide +kernel
theorem d8_38 : decode prog_41_method_10_code 38 = .ok (.getfield 38, 3) := by decide +kernel
theorem d8_41 : decode prog_41_method_10_code 41 = .ok (.putfield 35, 3) := by decide +kernel
theorem d8_44 : decode prog_41_method_10_code 44 = .ok (.goto 14, 3) := by decide +kernel
theorem d8_58 : decode prog_41_method_10_code 58 = .ok (.aload_n 1, 1) := by decide +kernel
theorem d8_59 : decode prog_41_method_10_code 59 = .ok (.aconst_null, 1) := by decide +kernel
theorem d8_60 : decode prog_41_method_10_code 60 = .ok (.putfield 38, 3) := by decide +kernel
theorem d8_63 : decode prog_41_method_10_code 63 = .ok (.aload_n 1, 1) := by decide +kernel
theorem d8_64 : decode prog_41_method_10_code 64 = .ok (.aconst_null, 1) := by decide +kernel
theorem d8_65 : decode prog_41_method_10_code 65 = .ok (.putfield 13, 3) := by decide +kernel
theorem d8_68 : decode prog_41_method_10_code 68 = .ok (.aload_n 1, 1) := by decide +kernel
theorem d8_69 : decode prog_41_method_10_code 69 = .ok (.aconst_null, 1) := by decide +kernel
theorem d8_70 : decode prog_41_method_10_code 70 = .ok (.putfield 31, 3) := by decide +kernel
theorem d8_73 : decode prog_41_method_10_code 73 = .ok (.aload_n 0, 1) := by decide +kernel
theorem d8_74 : decode prog_41_method_10_code 74 = .ok (.dup, 1) := by decide +kernel
theorem d8_75 : decode prog_41_method_10_code 75 = .ok (.getfield 18, 3) := by decide +kernel
theorem d8_78 : decode prog_41_method_10_code 78 = .ok (.lconst 1, 1) := by decide +kernel
theorem d8_79 : decode prog_41_method_10_code 79 = .ok (.lsub, 1) := by decide +kernel
theorem d8_80 : decode prog_41_method_10_code 80 = .ok (.putfield 18, 3) := by decide +kernel
theorem d8_83 : decode prog_41_method_10_code 83 = .ok (.aload_n 0, 1) := by decide +kernel
theorem d8_84 : decode prog_41_method_10_code 84 = .ok (.dup, 1) := by decide +kernel
theorem d8_85 : decode prog_41_method_10_code 85 = .ok (.getfield 22, 3) := by decide +kernel
theorem d8_88 : decode prog_41_method_10_code 88 = .ok (.aload_n 1, 1) := by decide +kernel
theorem d8_89 : decode prog_41_method_10_code 89 = .ok (.getfield 41, 3) := by decide +kernel
theorem d8_92 : decode prog_41_method_10_code 92 = .ok (.lsub, 1) := by decide +kernel
theorem d8_93 : decode prog_41_method_10_code 93 = .ok (.putfield 22, 3) := by decide +kernel
theorem d8_96 : decode prog_41_method_10_code 96 = .ok (.return_, 1) := by decide +kernel
theorem ef_8_7 (m : MethodId) (o1 : Addr) (o2 : Addr) : entryFrame m #[(.ref o1), (.ref o2)] 2 = mkF m 0 #[.val (.ref o1), .val (.ref o2)] [] := by first | (simp [entryFrame, mkF, argsToLocals, Value.category]; done) | rfl
def Q8_7 (Z : State) (w : Nat → Addr) (o1 : Addr) (o2 : Addr) (q3 : Int64) (q4 : Int64) (h0 : Heap) (n0 : Nat) (v : Option Value) (h : Heap) (L : List Loc) : Prop := v = none ∧ Fr n0 L ∧ own_KL h0 h [⟨o1, Jvm.RoadKit.slotOf Z "com/example/tidemark/tidemark/RecencyList" "oldest" "Lcom/example/tidemark/tidemark/MemoryEntry;"⟩, ⟨o1, Jvm.RoadKit.slotOf Z "com/example/tidemark/tidemark/RecencyList" "newest" "Lcom/example/tidemark/tidemark/MemoryEntry;"⟩, ⟨o2, Jvm.RoadKit.slotOf Z "com/example/tidemark/tidemark/MemoryEntry" "older" "Lcom/example/tidemark/tidemark/MemoryEntry;"⟩, ⟨o2, Jvm.RoadKit.slotOf Z "com/example/tidemark/tidemark/MemoryEntry" "newer" "Lcom/example/tidemark/tidemark/MemoryEntry;"⟩, ⟨o2, Jvm.RoadKit.slotOf Z "com/example/tidemark/tidemark/MemoryEntry" "list" "Lcom/example/tidemark/tidemark/RecencyList;"⟩, ⟨o1, Jvm.RoadKit.slotOf Z "com/example/tidemark/tidemark/RecencyList" "size" "J"⟩, ⟨o1, Jvm.RoadKit.slotOf Z "com/example/tidemark/tidemark/RecencyList" "weight" "J"⟩] ∧ Fld Z h o2 "com/example/tidemark/tidemark/MemoryEntry" "older" "Lcom/example/tidemark/tidemark/MemoryEntry;" .null ∧ Fld Z h o2 "com/example/tidemark/tidemark/MemoryEntry" "newer" "Lcom/example/tidemark/tidemark/MemoryEntry;" .null ∧ Fld Z h o1 "com/example/tidemark/tidemark/RecencyList" "oldest" "Lcom/example/tidemark/tidemark/MemoryEntry;" .null ∧ Fld Z h o1 "com/example/tidemark/tidemark/RecencyList" "newest" "Lcom/example/tidemark/tidemark/MemoryEntry;" .null ∧ Fld Z h o2 "com/example/tidemark/tidemark/MemoryEntry" "list" "Lcom/example/tidemark/tidemark/RecencyList;" .null ∧ Fld Z h o1 "com/example/tidemark/tidemark/RecencyList" "size" "J" (.long (0 : Int64)) ∧ Fld Z h o1 "com/example/tidemark/tidemark/RecencyList" "weight" "J" (.long (q3 - q4))
set_option maxRecDepth 65536 in
set_option maxHeartbeats 40000000 in
theorem rm8_7 (l : Launch) (Z : State) (a0 : Array Value) (hw : ∀ d ∈ tables_1, d.before a0 Z = true) (w : Nat → Addr) (hW : Wd Z w) (ws : List Jvm.Cond) (o1 : Addr) (o2 : Addr) (q3 : Int64) (q4 : Int64) (h0 : Heap) (n0 : Nat) (O0 : Old Z n0 h0) (f1 : Fld Z h0 o2 "com/example/tidemark/tidemark/MemoryEntry" "older" "Lcom/example/tidemark/tidemark/MemoryEntry;" .null) (f2 : Fld Z h0 o2 "com/example/tidemark/tidemark/MemoryEntry" "newer" "Lcom/example/tidemark/tidemark/MemoryEntry;" .null) (f3 : Exa Z h0 o1 "com/example/tidemark/tidemark/RecencyList") (f4 : Fld Z h0 o1 "com/example/tidemark/tidemark/RecencyList" "oldest" "Lcom/example/tidemark/tidemark/MemoryEntry;" (.ref o2)) (g5 : n0 ≤ o1) (u6 : o2 ≠ o1) (f7 : Fld Z h0 o1 "com/example/tidemark/tidemark/RecencyList" "newest" "Lcom/example/tidemark/tidemark/MemoryEntry;" (.ref o2)) (f8 : Exa Z h0 o2 "com/example/tidemark/tidemark/MemoryEntry") (g9 : n0 ≤ o2) (f10 : Fld Z h0 o2 "com/example/tidemark/tidemark/MemoryEntry" "list" "Lcom/example/tidemark/tidemark/RecencyList;" (.ref o1)) (f11 : Fld Z h0 o1 "com/example/tidemark/tidemark/RecencyList" "size" "J" (.long (1 : Int64))) (f12 : Fld Z h0 o1 "com/example/tidemark/tidemark/RecencyList" "weight" "J" (.long q3)) (f13 : Fld Z h0 o2 "com/example/tidemark/tidemark/MemoryEntry" "charge" "J" (.long q4)) :
    MetFree l ym6 (head1 (Jvm.Cond.code ym6 prog_41_method_10_code 2 none :: ws) ({ frames := 0, cells := 0, slots := 0, locals := 0 } : Room)) (fun a U => a = #[(.ref o1), (.ref o2)] ∧ Z.Warmed39 U.vm ∧ U.heap = h0) (fun _ _ _ _ _ => True) (fun _ U o U' => ∃ v L, o = .returned v ∧ Q8_7 Z w o1 o2 q3 q4 h0 n0 v U'.heap L ∧ FrameEnd U o U' L ({ frames := 0, cells := 0, slots := 0, locals := 0 } : Room).cells ({ frames := 0, cells := 0, slots := 0, locals := 0 } : Room).slots) := by
  refine MetFree.of_bodySF (plainFor_of_name pnc_0) hisR ?_
  intro p e s m args below meth c s₁ Bd hml0 hP hK
  obtain ⟨rfl, hZ, hh⟩ := hP
  have hx := Bd.exec
  have hby := Bd.bytes
  have hml : c.maxLocals = 2 := hml0
  have hown : s.vm.findClass "com/example/tidemark/tidemark/RecencyList" = some m.cls := findClass_of_methodNamed Bd.named
  have hnm := (name_of_methodNamed Bd.named Bd.method).1
  have X0 : Stand p l e ({ frames := 0, cells := 0, slots := 0, locals := 0 } : Room) s m #[(.ref o1), (.ref o2)] below meth c s₁ [] 0 0 := Stand.of_body Bd
  have e0 : s₁.heap = h0 := by rw [← hh, Bd.state]; rfl
  have N0 := Fr.nil n0
  skip
  have pre0 : ∀ t, Steps p.tables e below (s₁.setTop (mkF m 0 #[.val (.ref o1), .val (.ref o2)] [])) t → Steps p.tables e below (s₁.setTop (entryFrame m #[(.ref o1), (.ref o2)] 2)) t := fun t k => castTop (ef_8_7 m o1 o2) k
  obtain ⟨T1, X1, e1, st1⟩ := getF X0 hx hZ hown (host := "") (Or.inl (wk69 hw)) Via.refl e0 f1 (g := (mkF m 1 #[.val (.ref o1), .val (.ref o2)] [(.ref o2)])) rfl rfl (hb hby d8_1)
  obtain ⟨T2, X2, e2, st2⟩ := getF X1 hx hZ hown (host := "") (Or.inl (wk71 hw)) Via.refl e1 f2 (g := (mkF m 9 #[.val (.ref o1), .val (.ref o2)] [(.ref o2), (.ref o1)])) rfl rfl (hb hby d8_9)
  obtain ⟨T3, h3, X3, e3, W3, st3⟩ := putF X2 hx hZ hown (host := "") (Or.inl (wk73 hw)) Via.refl e2 f4 f3 (Or.inl (wk74 hw)) (wk2 hw) (ty := (.object "com/example/tidemark/tidemark/MemoryEntry")) (by decide) rfl rfl (g := (mkF m 12 #[.val (.ref o1), .val (.ref o2)] [.null, (.ref o1)])) rfl rfl (hb hby d8_12)
  have F3 : Fld Z h3 o1 "com/example/tidemark/tidemark/RecencyList" "oldest" "Lcom/example/tidemark/tidemark/MemoryEntry;" .null := f4.same W3
  have N3 := Fr.snoc X3 N0 g5
  have O4 := O0.wr W3 g5
  have t5 := (f2.other W3 (Or.inl u6))
  obtain ⟨T6, X6, e6, st6⟩ := getF X3 hx hZ hown (host := "") (Or.inl (wk71 hw)) Via.refl e3 t5 (g := (mkF m 30 #[.val (.ref o1), .val (.ref o2)] [(.ref o2)])) rfl rfl (hb hby d8_30)
  have t7 := (f1.other W3 (Or.inl u6))
  obtain ⟨T8, X8, e8, st8⟩ := getF X6 hx hZ hown (host := "") (Or.inl (wk69 hw)) Via.refl e6 t7 (g := (mkF m 38 #[.val (.ref o1), .val (.ref o2)] [(.ref o2), (.ref o1)])) rfl rfl (hb hby d8_38)
  have t9 := (f7.other W3 (Or.inr (sn64 hw)))
  have t10 := (f3.wr W3)
  obtain ⟨T11, h11, X11, e11, W11, st11⟩ := putF X8 hx hZ hown (host := "") (Or.inl (wk67 hw)) Via.refl e8 t9 t10 (Or.inl (wk68 hw)) (wk2 hw) (ty := (.object "com/example/tidemark/tidemark/MemoryEntry")) (by decide) rfl rfl (g := (mkF m 41 #[.val (.ref o1), .val (.ref o2)] [.null, (.ref o1)])) rfl rfl (hb hby d8_41)
  have F11 : Fld Z h11 o1 "com/example/tidemark/tidemark/RecencyList" "newest" "Lcom/example/tidemark/tidemark/MemoryEntry;" .null := t9.same W11
  have N11 := Fr.snoc X11 N3 g5
  have O12 := O4.wr W11 g5
  have t13 := (t7.other W11 (Or.inl u6))
  have t14 := ((f8.wr W3).wr W11)
  obtain ⟨T15, h15, X15, e15, W15, st15⟩ := putF X11 hx hZ hown (host := "") (Or.inl (wk69 hw)) Via.refl e11 t13 t14 (Or.inl (wk70 hw)) (wk11 hw) (ty := (.object "com/example/tidemark/tidemark/MemoryEntry")) (by decide) rfl rfl (g := (mkF m 60 #[.val (.ref o1), .val (.ref o2)] [.null, (.ref o2)])) rfl rfl (hb hby d8_60)
  have F15 : Fld Z h15 o2 "com/example/tidemark/tidemark/MemoryEntry" "older" "Lcom/example/tidemark/tidemark/MemoryEntry;" .null := t13.same W15
  have N15 := Fr.snoc X15 N11 g9
  have O16 := O12.wr W15 g9
  have t17 := ((t5.other W11 (Or.inl u6)).other W15 (Or.inr (sn62 hw)))
  have t18 := (t14.wr W15)
  obtain ⟨T19, h19, X19, e19, W19, st19⟩ := putF X15 hx hZ hown (host := "") (Or.inl (wk71 hw)) Via.refl e15 t17 t18 (Or.inl (wk72 hw)) (wk11 hw) (ty := (.object "com/example/tidemark/tidemark/MemoryEntry")) (by decide) rfl rfl (g := (mkF m 65 #[.val (.ref o1), .val (.ref o2)] [.null, (.ref o2)])) rfl rfl (hb hby d8_65)
  have F19 : Fld Z h19 o2 "com/example/tidemark/tidemark/MemoryEntry" "newer" "Lcom/example/tidemark/tidemark/MemoryEntry;" .null := t17.same W19
  have N19 := Fr.snoc X19 N15 g9
  have O20 := O16.wr W19 g9
  have t21 := ((((f10.other W3 (Or.inl u6)).other W11 (Or.inl u6)).other W15 (Or.inr (sn83 hw))).other W19 (Or.inr (sn84 hw)))
  have t22 := (t18.wr W19)
  obtain ⟨T23, h23, X23, e23, W23, st23⟩ := putF X19 hx hZ hown (host := "") (Or.inl (wk65 hw)) Via.refl e19 t21 t22 (Or.inl (wk66 hw)) (wk11 hw) (ty := (.object "com/example/tidemark/tidemark/RecencyList")) (by decide) rfl rfl (g := (mkF m 70 #[.val (.ref o1), .val (.ref o2)] [.null, (.ref o2)])) rfl rfl (hb hby d8_70)
  have F23 : Fld Z h23 o2 "com/example/tidemark/tidemark/MemoryEntry" "list" "Lcom/example/tidemark/tidemark/RecencyList;" .null := t21.same W23
  have N23 := Fr.snoc X23 N19 g9
  have O24 := O20.wr W23 g9
  have t25 := (((((f11.other W3 (Or.inr (sn66 hw))).other W11 (Or.inr (sn67 hw))).other W15 (Or.inl (Ne.symm u6))).other W19 (Or.inl (Ne.symm u6))).other W23 (Or.inl (Ne.symm u6)))
  obtain ⟨T26, X26, e26, st26⟩ := getF X23 hx hZ hown (host := "") (Or.inl (wk75 hw)) Via.refl e23 t25 (g := (mkF m 75 #[.val (.ref o1), .val (.ref o2)] [(.ref o1), (.ref o1)])) rfl rfl (hb hby d8_75)
  have t27 := ((((t10.wr W11).wr W15).wr W19).wr W23)
  obtain ⟨T28, h28, X28, e28, W28, st28⟩ := putF X26 hx hZ hown (host := "") (Or.inl (wk75 hw)) Via.refl e26 t25 t27 (Or.inl (wk76 hw)) (wk2 hw) (ty := .long) (by decide) rfl rfl (g := (mkF m 80 #[.val (.ref o1), .val (.ref o2)] [(.long (0 : Int64)), (.ref o1)])) rfl rfl (hb hby d8_80)
  have F28 : Fld Z h28 o1 "com/example/tidemark/tidemark/RecencyList" "size" "J" (.long (0 : Int64)) := t25.same W28
  have N28 := Fr.snoc X28 N23 g5
  have O29 := O24.wr W28 g5
  have t30 := ((((((f12.other W3 (Or.inr (sn69 hw))).other W11 (Or.inr (sn70 hw))).other W15 (Or.inl (Ne.symm u6))).other W19 (Or.inl (Ne.symm u6))).other W23 (Or.inl (Ne.symm u6))).other W28 (Or.inr (sn71 hw)))
  obtain ⟨T31, X31, e31, st31⟩ := getF X28 hx hZ hown (host := "") (Or.inl (wk77 hw)) Via.refl e28 t30 (g := (mkF m 85 #[.val (.ref o1), .val (.ref o2)] [(.ref o1), (.ref o1)])) rfl rfl (hb hby d8_85)
  have t32 := ((((((f13.other W3 (Or.inl u6)).other W11 (Or.inl u6)).other W15 (Or.inr (sn74 hw))).other W19 (Or.inr (sn75 hw))).other W23 (Or.inr (sn73 hw))).other W28 (Or.inl u6))
  obtain ⟨T33, X33, e33, st33⟩ := getF X31 hx hZ hown (host := "") (Or.inl (wk79 hw)) Via.refl e31 t32 (g := (mkF m 89 #[.val (.ref o1), .val (.ref o2)] [(.ref o2), (.long q3), (.ref o1)])) rfl rfl (hb hby d8_89)
  have t34 := (t27.wr W28)
  obtain ⟨T35, h35, X35, e35, W35, st35⟩ := putF X33 hx hZ hown (host := "") (Or.inl (wk77 hw)) Via.refl e33 t30 t34 (Or.inl (wk78 hw)) (wk2 hw) (ty := .long) (by decide) rfl rfl (g := (mkF m 93 #[.val (.ref o1), .val (.ref o2)] [(.long (q3 - q4)), (.ref o1)])) rfl rfl (hb hby d8_93)
  have F35 : Fld Z h35 o1 "com/example/tidemark/tidemark/RecencyList" "weight" "J" (.long (q3 - q4)) := t30.same W35
  have N35 := Fr.snoc X35 N28 g5
  have O36 := O29.wr W35 g5
  obtain ⟨fs, hr, hrun, hended, hWm, hsame⟩ := X35.leave (v := none) (fun _ => rfl)
  have Kf37 : own_KL h0 h35 [⟨o1, Jvm.RoadKit.slotOf Z "com/example/tidemark/tidemark/RecencyList" "oldest" "Lcom/example/tidemark/tidemark/MemoryEntry;"⟩, ⟨o1, Jvm.RoadKit.slotOf Z "com/example/tidemark/tidemark/RecencyList" "newest" "Lcom/example/tidemark/tidemark/MemoryEntry;"⟩, ⟨o2, Jvm.RoadKit.slotOf Z "com/example/tidemark/tidemark/MemoryEntry" "older" "Lcom/example/tidemark/tidemark/MemoryEntry;"⟩, ⟨o2, Jvm.RoadKit.slotOf Z "com/example/tidemark/tidemark/MemoryEntry" "newer" "Lcom/example/tidemark/tidemark/MemoryEntry;"⟩, ⟨o2, Jvm.RoadKit.slotOf Z "com/example/tidemark/tidemark/MemoryEntry" "list" "Lcom/example/tidemark/tidemark/RecencyList;"⟩, ⟨o1, Jvm.RoadKit.slotOf Z "com/example/tidemark/tidemark/RecencyList" "size" "J"⟩, ⟨o1, Jvm.RoadKit.slotOf Z "com/example/tidemark/tidemark/RecencyList" "weight" "J"⟩] := (own_klW (own_klW (own_klW (own_klW (own_klW (own_klW (own_klW (own_kl0 h0 [⟨o1, Jvm.RoadKit.slotOf Z "com/example/tidemark/tidemark/RecencyList" "oldest" "Lcom/example/tidemark/tidemark/MemoryEntry;"⟩, ⟨o1, Jvm.RoadKit.slotOf Z "com/example/tidemark/tidemark/RecencyList" "newest" "Lcom/example/tidemark/tidemark/MemoryEntry;"⟩, ⟨o2, Jvm.RoadKit.slotOf Z "com/example/tidemark/tidemark/MemoryEntry" "older" "Lcom/example/tidemark/tidemark/MemoryEntry;"⟩, ⟨o2, Jvm.RoadKit.slotOf Z "com/example/tidemark/tidemark/MemoryEntry" "newer" "Lcom/example/tidemark/tidemark/MemoryEntry;"⟩, ⟨o2, Jvm.RoadKit.slotOf Z "com/example/tidemark/tidemark/MemoryEntry" "list" "Lcom/example/tidemark/tidemark/RecencyList;"⟩, ⟨o1, Jvm.RoadKit.slotOf Z "com/example/tidemark/tidemark/RecencyList" "size" "J"⟩, ⟨o1, Jvm.RoadKit.slotOf Z "com/example/tidemark/tidemark/RecencyList" "weight" "J"⟩]) W3 (Or.inl (List.mem_of_getElem? (i := 0) rfl))) W11 (Or.inl (List.mem_of_getElem? (i := 1) rfl))) W15 (Or.inl (List.mem_of_getElem? (i := 2) rfl))) W19 (Or.inl (List.mem_of_getElem? (i := 3) rfl))) W23 (Or.inl (List.mem_of_getElem? (i := 4) rfl))) W28 (Or.inl (List.mem_of_getElem? (i := 5) rfl))) W35 (Or.inl (List.mem_of_getElem? (i := 6) rfl)))
  have t38 := ((((F15.other W19 (Or.inr (sn87 hw))).other W23 (Or.inr (sn59 hw))).other W28 (Or.inl u6)).other W35 (Or.inl u6))
  have t39 := (((F19.other W23 (Or.inr (sn61 hw))).other W28 (Or.inl u6)).other W35 (Or.inl u6))
  have t40 := ((((((F3.other W11 (Or.inr (sn88 hw))).other W15 (Or.inl (Ne.symm u6))).other W19 (Or.inl (Ne.symm u6))).other W23 (Or.inl (Ne.symm u6))).other W28 (Or.inr (sn89 hw))).other W35 (Or.inr (sn90 hw)))
  have t41 := (((((F11.other W15 (Or.inl (Ne.symm u6))).other W19 (Or.inl (Ne.symm u6))).other W23 (Or.inl (Ne.symm u6))).other W28 (Or.inr (sn85 hw))).other W35 (Or.inr (sn86 hw)))
  have t42 := ((F23.other W28 (Or.inl u6)).other W35 (Or.inl u6))
  have t43 := (F28.other W35 (Or.inr (sn91 hw)))
  refine ⟨_, _, pre0 _ ?_, hrun, hended, _, _, rfl, ?_, ⟨_, rfl⟩, hWm, hsame.mono (by decide) (by decide)⟩
  · show Steps p.tables e below (s₁.setTop (mkF m 0 #[.val (.ref o1), .val (.ref o2)] [])) _
    refine sA X0 hx hby d8_0 rfl rfl ?_
    refine st1 _ ?_
    refine XS.ifnonnullNo X1.here hx rfl (hb hby d8_4) rfl ?_
    refine sA X1 hx hby d8_7 rfl rfl ?_
    refine sA X1 hx hby d8_8 rfl rfl ?_
    refine st2 _ ?_
    refine st3 _ ?_
    refine sg (pc := 15) (pc' := 29) X3 hx hby d8_15 (by decide) (by decide) ?_
    refine sA X3 hx hby d8_29 rfl rfl ?_
    refine st6 _ ?_
    refine XS.ifnonnullNo X6.here hx rfl (hb hby d8_33) rfl ?_
    refine sA X6 hx hby d8_36 rfl rfl ?_
    refine sA X6 hx hby d8_37 rfl rfl ?_
    refine st8 _ ?_
    refine st11 _ ?_
    refine sg (pc := 44) (pc' := 58) X11 hx hby d8_44 (by decide) (by decide) ?_
    refine sA X11 hx hby d8_58 rfl rfl ?_
    refine XS.aconstNull X11.here hx rfl (hb hby d8_59) ?_
    refine st15 _ ?_
    refine sA X15 hx hby d8_63 rfl rfl ?_
    refine XS.aconstNull X15.here hx rfl (hb hby d8_64) ?_
    refine st19 _ ?_
    refine sA X19 hx hby d8_68 rfl rfl ?_
    refine XS.aconstNull X19.here hx rfl (hb hby d8_69) ?_
    refine st23 _ ?_
    refine sA X23 hx hby d8_73 rfl rfl ?_
    refine XS.dup X23.here hx rfl (hb hby d8_74) rfl rfl ?_
    refine st26 _ ?_
    refine XS.lconst X26.here hx rfl (hb hby d8_78) ?_
    refine XS.lsub X26.here hx rfl (hb hby d8_79) rfl ?_
    refine st28 _ ?_
    refine sA X28 hx hby d8_83 rfl rfl ?_
    refine XS.dup X28.here hx rfl (hb hby d8_84) rfl rfl ?_
    refine st31 _ ?_
    refine sA X31 hx hby d8_88 rfl rfl ?_
    refine st33 _ ?_
    refine XS.lsub X33.here hx rfl (hb hby d8_92) rfl ?_
    refine st35 _ ?_
    exact X35.returnOut hx Bd.returns (hb hby d8_96) hr
  · show Q8_7 Z w o1 o2 q3 q4 h0 n0 _ T35.heap _
    rw [e35]
    exact ⟨rfl, N35, Kf37, t38, t39, t40, t41, t42, t43, F35⟩
theorem d9_0 : decode prog_41_method_4_code 0 = .ok (.aload_n 0, 1) := by decide +kernel
theorem d9_1 : decode prog_41_method_4_code 1 = .ok (.getfield 18, 3) := by decide +kernel
theorem d9_4 : decode prog_41_method_4_code 4 = .ok (.lreturn, 1) := by decide +kernel
theorem ef_9_8 (m : MethodId) (o1 : Addr) : entryFrame m #[(.ref o1)] 1 = mkF m 0 #[.val (.ref o1)] [] := by first | (simp [entryFrame, mkF, argsToLocals, Value.category]; done) | rfl
def Q9_8 (Z : State) (w : Nat → Addr) (o1 : Addr) (h0 : Heap) (n0 : Nat) (v : Option Value) (h : Heap) (L : List Loc) : Prop := v = some (.long (0 : Int64)) ∧ Fr n0 L ∧ h = h0
set_option maxRecDepth 65536 in
set_option maxHeartbeats 40000000 in
theorem rm9_8 (l : Launch) (Z : State) (a0 : Array Value) (hw : ∀ d ∈ tables_1, d.before a0 Z = true) (w : Nat → Addr) (hW : Wd Z w) (ws : List Jvm.Cond) (o1 : Addr) (h0 : Heap) (n0 : Nat) (O0 : Old Z n0 h0) (f1 : Fld Z h0 o1 "com/example/tidemark/tidemark/RecencyList" "size" "J" (.long (0 : Int64))) :
    MetFree l ym7 (head1 (Jvm.Cond.code ym7 prog_41_method_4_code 1 (some .long) :: ws) ({ frames := 0, cells := 0, slots := 0, locals := 0 } : Room)) (fun a U => a = #[(.ref o1)] ∧ Z.Warmed39 U.vm ∧ U.heap = h0) (fun _ _ _ _ _ => True) (fun _ U o U' => ∃ v L, o = .returned v ∧ Q9_8 Z w o1 h0 n0 v U'.heap L ∧ FrameEnd U o U' L ({ frames := 0, cells := 0, slots := 0, locals := 0 } : Room).cells ({ frames := 0, cells := 0, slots := 0, locals := 0 } : Room).slots) := by
  refine MetFree.of_bodySF (plainFor_of_name pnc_0) hisR ?_
  intro p e s m args below meth c s₁ Bd hml0 hP hK
  obtain ⟨rfl, hZ, hh⟩ := hP
  have hx := Bd.exec
  have hby := Bd.bytes
  have hml : c.maxLocals = 1 := hml0
  have hown : s.vm.findClass "com/example/tidemark/tidemark/RecencyList" = some m.cls := findClass_of_methodNamed Bd.named
  have hnm := (name_of_methodNamed Bd.named Bd.method).1
  have X0 : Stand p l e ({ frames := 0, cells := 0, slots := 0, locals := 0 } : Room) s m #[(.ref o1)] below meth c s₁ [] 0 0 := Stand.of_body Bd
  have e0 : s₁.heap = h0 := by rw [← hh, Bd.state]; rfl
  have N0 := Fr.nil n0
  skip
  have pre0 : ∀ t, Steps p.tables e below (s₁.setTop (mkF m 0 #[.val (.ref o1)] [])) t → Steps p.tables e below (s₁.setTop (entryFrame m #[(.ref o1)] 1)) t := fun t k => castTop (ef_9_8 m o1) k
  obtain ⟨T1, X1, e1, st1⟩ := getF X0 hx hZ hown (host := "") (Or.inl (wk75 hw)) Via.refl e0 f1 (g := (mkF m 1 #[.val (.ref o1)] [(.ref o1)])) rfl rfl (hb hby d9_1)
  obtain ⟨fs, hr, hrun, hended, hWm, hsame⟩ := X1.leave (v := some (.long (0 : Int64))) (fun h => by rw [Bd.returns] at h; cases h)
  refine ⟨_, _, pre0 _ ?_, hrun, hended, _, _, rfl, ?_, ⟨_, rfl⟩, hWm, hsame.mono (by decide) (by decide)⟩
  · show Steps p.tables e below (s₁.setTop (mkF m 0 #[.val (.ref o1)] [])) _
    refine sA X0 hx hby d9_0 rfl rfl ?_
    refine st1 _ ?_
    jvm_step X1.here [X1.here.top, hx, (hb hby d9_4), X1.method', Bd.returns, narrow]
    first | (intro acts; rw [hr _ acts rfl rfl rfl]) | rw [hr _ _ rfl rfl rfl]
    exact Steps.refl _
  · show Q9_8 Z w o1 h0 n0 _ T1.heap _
    rw [e1]
    exact ⟨rfl, N0, rfl⟩
theorem pds_6 : parseMethodDescriptor "()J" = some ⟨[], some .long⟩ := by decide +kernel
theorem d10_0 : decode prog_41_method_5_code 0 = .ok (.aload_n 0, 1) := by decide +kernel
theorem d10_1 : decode prog_41_method_5_code 1 = .ok (.getfield 22, 3) := by decide +kernel
theorem d10_4 : decode prog_41_method_5_code 4 = .ok (.lreturn, 1) := by decide +kernel
theorem ef_10_9 (m : MethodId) (o1 : Addr) : entryFrame m #[(.ref o1)] 1 = mkF m 0 #[.val (.ref o1)] [] := by first | (simp [entryFrame, mkF, argsToLocals, Value.category]; done) | rfl
def Q10_9 (Z : State) (w : Nat → Addr) (o1 : Addr) (q2 : Int64) (h0 : Heap) (n0 : Nat) (v : Option Value) (h : Heap) (L : List Loc) : Prop := v = some (.long q2) ∧ Fr n0 L ∧ h = h0
set_option maxRecDepth 65536 in
set_option maxHeartbeats 40000000 in
theorem rm10_9 (l : Launch) (Z : State) (a0 : Array Value) (hw : ∀ d ∈ tables_1, d.before a0 Z = true) (w : Nat → Addr) (hW : Wd Z w) (ws : List Jvm.Cond) (o1 : Addr) (q2 : Int64) (h0 : Heap) (n0 : Nat) (O0 : Old Z n0 h0) (f1 : Fld Z h0 o1 "com/example/tidemark/tidemark/RecencyList" "weight" "J" (.long q2)) :
    MetFree l ym8 (head1 (Jvm.Cond.code ym8 prog_41_method_5_code 1 (some .long) :: ws) ({ frames := 0, cells := 0, slots := 0, locals := 0 } : Room)) (fun a U => a = #[(.ref o1)] ∧ Z.Warmed39 U.vm ∧ U.heap = h0) (fun _ _ _ _ _ => True) (fun _ U o U' => ∃ v L, o = .returned v ∧ Q10_9 Z w o1 q2 h0 n0 v U'.heap L ∧ FrameEnd U o U' L ({ frames := 0, cells := 0, slots := 0, locals := 0 } : Room).cells ({ frames := 0, cells := 0, slots := 0, locals := 0 } : Room).slots) := by
  refine MetFree.of_bodySF (plainFor_of_name pnc_0) hisR ?_
  intro p e s m args below meth c s₁ Bd hml0 hP hK
  obtain ⟨rfl, hZ, hh⟩ := hP
  have hx := Bd.exec
  have hby := Bd.bytes
  have hml : c.maxLocals = 1 := hml0
  have hown : s.vm.findClass "com/example/tidemark/tidemark/RecencyList" = some m.cls := findClass_of_methodNamed Bd.named
  have hnm := (name_of_methodNamed Bd.named Bd.method).1
  have X0 : Stand p l e ({ frames := 0, cells := 0, slots := 0, locals := 0 } : Room) s m #[(.ref o1)] below meth c s₁ [] 0 0 := Stand.of_body Bd
  have e0 : s₁.heap = h0 := by rw [← hh, Bd.state]; rfl
  have N0 := Fr.nil n0
  skip
  have pre0 : ∀ t, Steps p.tables e below (s₁.setTop (mkF m 0 #[.val (.ref o1)] [])) t → Steps p.tables e below (s₁.setTop (entryFrame m #[(.ref o1)] 1)) t := fun t k => castTop (ef_10_9 m o1) k
  obtain ⟨T1, X1, e1, st1⟩ := getF X0 hx hZ hown (host := "") (Or.inl (wk77 hw)) Via.refl e0 f1 (g := (mkF m 1 #[.val (.ref o1)] [(.ref o1)])) rfl rfl (hb hby d10_1)
  obtain ⟨fs, hr, hrun, hended, hWm, hsame⟩ := X1.leave (v := some (.long q2)) (fun h => by rw [Bd.returns] at h; cases h)
  refine ⟨_, _, pre0 _ ?_, hrun, hended, _, _, rfl, ?_, ⟨_, rfl⟩, hWm, hsame.mono (by decide) (by decide)⟩
  · show Steps p.tables e below (s₁.setTop (mkF m 0 #[.val (.ref o1)] [])) _
    refine sA X0 hx hby d10_0 rfl rfl ?_
    refine st1 _ ?_
    jvm_step X1.here [X1.here.top, hx, (hb hby d10_4), X1.method', Bd.returns, narrow]
    first | (intro acts; rw [hr _ acts rfl rfl rfl]) | rw [hr _ _ rfl rfl rfl]
    exact Steps.refl _
  · show Q10_9 Z w o1 q2 h0 n0 _ T1.heap _
    rw [e1]
    exact ⟨rfl, N0, rfl⟩
theorem d11_0 : decode prog_41_method_2_code 0 = .ok (.aload_n 0, 1) := by decide +kernel
theorem d11_1 : decode prog_41_method_2_code 1 = .ok (.getfield 7, 3) := by decide +kernel
theorem d11_4 : decode prog_41_method_2_code 4 = .ok (.areturn, 1) := by decide +kernel
theorem ef_11_10 (m : MethodId) (o1 : Addr) : entryFrame m #[(.ref o1)] 1 = mkF m 0 #[.val (.ref o1)] [] := by first | (simp [entryFrame, mkF, argsToLocals, Value.category]; done) | rfl
def Q11_10 (Z : State) (w : Nat → Addr) (o1 : Addr) (h0 : Heap) (n0 : Nat) (v : Option Value) (h : Heap) (L : List Loc) : Prop := v = some .null ∧ Fr n0 L ∧ h = h0
set_option maxRecDepth 65536 in
set_option maxHeartbeats 40000000 in
theorem rm11_10 (l : Launch) (Z : State) (a0 : Array Value) (hw : ∀ d ∈ tables_1, d.before a0 Z = true) (w : Nat → Addr) (hW : Wd Z w) (ws : List Jvm.Cond) (o1 : Addr) (h0 : Heap) (n0 : Nat) (O0 : Old Z n0 h0) (f1 : Fld Z h0 o1 "com/example/tidemark/tidemark/RecencyList" "oldest" "Lcom/example/tidemark/tidemark/MemoryEntry;" .null) :
    MetFree l ym9 (head1 (Jvm.Cond.code ym9 prog_41_method_2_code 1 (some (.object "com/example/tidemark/tidemark/MemoryEntry")) :: ws) ({ frames := 0, cells := 0, slots := 0, locals := 0 } : Room)) (fun a U => a = #[(.ref o1)] ∧ Z.Warmed39 U.vm ∧ U.heap = h0) (fun _ _ _ _ _ => True) (fun _ U o U' => ∃ v L, o = .returned v ∧ Q11_10 Z w o1 h0 n0 v U'.heap L ∧ FrameEnd U o U' L ({ frames := 0, cells := 0, slots := 0, locals := 0 } : Room).cells ({ frames := 0, cells := 0, slots := 0, locals := 0 } : Room).slots) := by
  refine MetFree.of_bodySF (plainFor_of_name pnc_0) hisR ?_
  intro p e s m args below meth c s₁ Bd hml0 hP hK
  obtain ⟨rfl, hZ, hh⟩ := hP
  have hx := Bd.exec
  have hby := Bd.bytes
  have hml : c.maxLocals = 1 := hml0
  have hown : s.vm.findClass "com/example/tidemark/tidemark/RecencyList" = some m.cls := findClass_of_methodNamed Bd.named
  have hnm := (name_of_methodNamed Bd.named Bd.method).1
  have X0 : Stand p l e ({ frames := 0, cells := 0, slots := 0, locals := 0 } : Room) s m #[(.ref o1)] below meth c s₁ [] 0 0 := Stand.of_body Bd
  have e0 : s₁.heap = h0 := by rw [← hh, Bd.state]; rfl
  have N0 := Fr.nil n0
  skip
  have pre0 : ∀ t, Steps p.tables e below (s₁.setTop (mkF m 0 #[.val (.ref o1)] [])) t → Steps p.tables e below (s₁.setTop (entryFrame m #[(.ref o1)] 1)) t := fun t k => castTop (ef_11_10 m o1) k
  obtain ⟨T1, X1, e1, st1⟩ := getF X0 hx hZ hown (host := "") (Or.inl (wk73 hw)) Via.refl e0 f1 (g := (mkF m 1 #[.val (.ref o1)] [(.ref o1)])) rfl rfl (hb hby d11_1)
  obtain ⟨fs, hr, hrun, hended, hWm, hsame⟩ := X1.leave (v := some .null) (fun h => by rw [Bd.returns] at h; cases h)
  refine ⟨_, _, pre0 _ ?_, hrun, hended, _, _, rfl, ?_, ⟨_, rfl⟩, hWm, hsame.mono (by decide) (by decide)⟩
  · show Steps p.tables e below (s₁.setTop (mkF m 0 #[.val (.ref o1)] [])) _
    refine sA X0 hx hby d11_0 rfl rfl ?_
    refine st1 _ ?_
    jvm_step X1.here [X1.here.top, hx, (hb hby d11_4), X1.method', Bd.returns, Value.isRef, FieldType.isReference]
    first | (intro acts; rw [hr _ acts rfl rfl rfl]) | rw [hr _ _ rfl rfl rfl]
    exact Steps.refl _
  · show Q11_10 Z w o1 h0 n0 _ T1.heap _
    rw [e1]
    exact ⟨rfl, N0, rfl⟩
theorem pds_7 : parseMethodDescriptor "()Lcom/example/tidemark/tidemark/MemoryEntry;" = some ⟨[], some (.object "com/example/tidemark/tidemark/MemoryEntry")⟩ := by decide +kernel
theorem ef_7_11 (m : MethodId) (o1 : Addr) (o2 : Addr) : entryFrame m #[(.ref o1), (.ref o2)] 2 = mkF m 0 #[.val (.ref o1), .val (.ref o2)] [] := by first | (simp [entryFrame, mkF, argsToLocals, Value.category]; done) | rfl
def Q7_11 (Z : State) (w : Nat → Addr) (o1 : Addr) (o2 : Addr) (q3 : Int64) (q4 : Int64) (h0 : Heap) (n0 : Nat) (v : Option Value) (h : Heap) (L : List Loc) : Prop := v = none ∧ Fr n0 L ∧ own_KL h0 h [⟨o1, Jvm.RoadKit.slotOf Z "com/example/tidemark/tidemark/RecencyList" "stamps" "J"⟩, ⟨o2, Jvm.RoadKit.slotOf Z "com/example/tidemark/tidemark/MemoryEntry" "stamp" "J"⟩, ⟨o2, Jvm.RoadKit.slotOf Z "com/example/tidemark/tidemark/MemoryEntry" "list" "Lcom/example/tidemark/tidemark/RecencyList;"⟩, ⟨o2, Jvm.RoadKit.slotOf Z "com/example/tidemark/tidemark/MemoryEntry" "older" "Lcom/example/tidemark/tidemark/MemoryEntry;"⟩, ⟨o2, Jvm.RoadKit.slotOf Z "com/example/tidemark/tidemark/MemoryEntry" "newer" "Lcom/example/tidemark/tidemark/MemoryEntry;"⟩, ⟨o1, Jvm.RoadKit.slotOf Z "com/example/tidemark/tidemark/RecencyList" "oldest" "Lcom/example/tidemark/tidemark/MemoryEntry;"⟩, ⟨o1, Jvm.RoadKit.slotOf Z "com/example/tidemark/tidemark/RecencyList" "newest" "Lcom/example/tidemark/tidemark/MemoryEntry;"⟩, ⟨o1, Jvm.RoadKit.slotOf Z "com/example/tidemark/tidemark/RecencyList" "size" "J"⟩, ⟨o1, Jvm.RoadKit.slotOf Z "com/example/tidemark/tidemark/RecencyList" "weight" "J"⟩] ∧ Fld Z h o1 "com/example/tidemark/tidemark/RecencyList" "stamps" "J" (.long (2 : Int64)) ∧ Fld Z h o2 "com/example/tidemark/tidemark/MemoryEntry" "stamp" "J" (.long (2 : Int64)) ∧ Fld Z h o2 "com/example/tidemark/tidemark/MemoryEntry" "list" "Lcom/example/tidemark/tidemark/RecencyList;" (.ref o1) ∧ Fld Z h o1 "com/example/tidemark/tidemark/RecencyList" "newest" "Lcom/example/tidemark/tidemark/MemoryEntry;" (.ref o2) ∧ Fld Z h o2 "com/example/tidemark/tidemark/MemoryEntry" "older" "Lcom/example/tidemark/tidemark/MemoryEntry;" .null ∧ Fld Z h o2 "com/example/tidemark/tidemark/MemoryEntry" "newer" "Lcom/example/tidemark/tidemark/MemoryEntry;" .null ∧ Fld Z h o1 "com/example/tidemark/tidemark/RecencyList" "oldest" "Lcom/example/tidemark/tidemark/MemoryEntry;" (.ref o2) ∧ Fld Z h o1 "com/example/tidemark/tidemark/RecencyList" "size" "J" (.long (1 : Int64)) ∧ Fld Z h o1 "com/example/tidemark/tidemark/RecencyList" "weight" "J" (.long (q3 + q4))
set_option maxRecDepth 65536 in
set_option maxHeartbeats 40000000 in
theorem rm7_11 (l : Launch) (Z : State) (a0 : Array Value) (hw : ∀ d ∈ tables_1, d.before a0 Z = true) (w : Nat → Addr) (hW : Wd Z w) (ws : List Jvm.Cond) (o1 : Addr) (o2 : Addr) (q3 : Int64) (q4 : Int64) (h0 : Heap) (n0 : Nat) (O0 : Old Z n0 h0) (f1 : Fld Z h0 o1 "com/example/tidemark/tidemark/RecencyList" "stamps" "J" (.long (1 : Int64))) (f2 : Exa Z h0 o1 "com/example/tidemark/tidemark/RecencyList") (g3 : n0 ≤ o1) (f4 : Exa Z h0 o2 "com/example/tidemark/tidemark/MemoryEntry") (f5 : Fld Z h0 o2 "com/example/tidemark/tidemark/MemoryEntry" "stamp" "J" (.long (1 : Int64))) (u6 : o2 ≠ o1) (g7 : n0 ≤ o2) (f8 : Fld Z h0 o2 "com/example/tidemark/tidemark/MemoryEntry" "list" "Lcom/example/tidemark/tidemark/RecencyList;" .null) (f9 : Fld Z h0 o1 "com/example/tidemark/tidemark/RecencyList" "newest" "Lcom/example/tidemark/tidemark/MemoryEntry;" .null) (f10 : Fld Z h0 o2 "com/example/tidemark/tidemark/MemoryEntry" "older" "Lcom/example/tidemark/tidemark/MemoryEntry;" .null) (f11 : Fld Z h0 o2 "com/example/tidemark/tidemark/MemoryEntry" "newer" "Lcom/example/tidemark/tidemark/MemoryEntry;" .null) (f12 : Fld Z h0 o1 "com/example/tidemark/tidemark/RecencyList" "oldest" "Lcom/example/tidemark/tidemark/MemoryEntry;" .null) (f13 : Fld Z h0 o1 "com/example/tidemark/tidemark/RecencyList" "size" "J" (.long (0 : Int64))) (f14 : Fld Z h0 o1 "com/example/tidemark/tidemark/RecencyList" "weight" "J" (.long q3)) (f15 : Fld Z h0 o2 "com/example/tidemark/tidemark/MemoryEntry" "charge" "J" (.long q4)) :
    MetFree l ym5 (head1 (Jvm.Cond.code ym5 prog_41_method_7_code 2 none :: ws) ({ frames := 0, cells := 0, slots := 0, locals := 0 } : Room)) (fun a U => a = #[(.ref o1), (.ref o2)] ∧ Z.Warmed39 U.vm ∧ U.heap = h0) (fun _ _ _ _ _ => True) (fun _ U o U' => ∃ v L, o = .returned v ∧ Q7_11 Z w o1 o2 q3 q4 h0 n0 v U'.heap L ∧ FrameEnd U o U' L ({ frames := 0, cells := 0, slots := 0, locals := 0 } : Room).cells ({ frames := 0, cells := 0, slots := 0, locals := 0 } : Room).slots) := by
  refine MetFree.of_bodySF (plainFor_of_name pnc_0) hisR ?_
  intro p e s m args below meth c s₁ Bd hml0 hP hK
  obtain ⟨rfl, hZ, hh⟩ := hP
  have hx := Bd.exec
  have hby := Bd.bytes
  have hml : c.maxLocals = 2 := hml0
  have hown : s.vm.findClass "com/example/tidemark/tidemark/RecencyList" = some m.cls := findClass_of_methodNamed Bd.named
  have hnm := (name_of_methodNamed Bd.named Bd.method).1
  have X0 : Stand p l e ({ frames := 0, cells := 0, slots := 0, locals := 0 } : Room) s m #[(.ref o1), (.ref o2)] below meth c s₁ [] 0 0 := Stand.of_body Bd
  have e0 : s₁.heap = h0 := by rw [← hh, Bd.state]; rfl
  have N0 := Fr.nil n0
  skip
  have pre0 : ∀ t, Steps p.tables e below (s₁.setTop (mkF m 0 #[.val (.ref o1), .val (.ref o2)] [])) t → Steps p.tables e below (s₁.setTop (entryFrame m #[(.ref o1), (.ref o2)] 2)) t := fun t k => castTop (ef_7_11 m o1 o2) k
  obtain ⟨T1, X1, e1, st1⟩ := getF X0 hx hZ hown (host := "") (Or.inl (wk61 hw)) Via.refl e0 f1 (g := (mkF m 3 #[.val (.ref o1), .val (.ref o2)] [(.ref o1), (.ref o1), (.ref o2)])) rfl rfl (hb hby d7_3)
  obtain ⟨T2, h2, X2, e2, W2, st2⟩ := putF X1 hx hZ hown (host := "") (Or.inl (wk61 hw)) Via.refl e1 f1 f2 (Or.inl (wk62 hw)) (wk2 hw) (ty := .long) (by decide) rfl rfl (g := (mkF m 9 #[.val (.ref o1), .val (.ref o2)] [(.long (2 : Int64)), (.ref o1), (.long (2 : Int64)), (.ref o2)])) rfl rfl (hb hby d7_9)
  have F2 : Fld Z h2 o1 "com/example/tidemark/tidemark/RecencyList" "stamps" "J" (.long (2 : Int64)) := f1.same W2
  have N2 := Fr.snoc X2 N0 g3
  have O3 := O0.wr W2 g3
  have t4 := (f5.other W2 (Or.inl u6))
  have t5 := (f4.wr W2)
  obtain ⟨T6, h6, X6, e6, W6, st6⟩ := putF X2 hx hZ hown (host := "") (Or.inl (wk63 hw)) Via.refl e2 t4 t5 (Or.inl (wk64 hw)) (wk11 hw) (ty := .long) (by decide) rfl rfl (g := (mkF m 12 #[.val (.ref o1), .val (.ref o2)] [(.long (2 : Int64)), (.ref o2)])) rfl rfl (hb hby d7_12)
  have F6 : Fld Z h6 o2 "com/example/tidemark/tidemark/MemoryEntry" "stamp" "J" (.long (2 : Int64)) := t4.same W6
  have N6 := Fr.snoc X6 N2 g7
  have O7 := O3.wr W6 g7
  have t8 := ((f8.other W2 (Or.inl u6)).other W6 (Or.inr (sn56 hw)))
  have t9 := (t5.wr W6)
  obtain ⟨T10, h10, X10, e10, W10, st10⟩ := putF X6 hx hZ hown (host := "") (Or.inl (wk65 hw)) Via.refl e6 t8 t9 (Or.inl (wk66 hw)) (wk11 hw) (ty := (.object "com/example/tidemark/tidemark/RecencyList")) (by decide) rfl rfl (g := (mkF m 17 #[.val (.ref o1), .val (.ref o2)] [(.ref o1), (.ref o2)])) rfl rfl (hb hby d7_17)
  have F10 : Fld Z h10 o2 "com/example/tidemark/tidemark/MemoryEntry" "list" "Lcom/example/tidemark/tidemark/RecencyList;" (.ref o1) := t8.same W10
  have N10 := Fr.snoc X10 N6 g7
  have O11 := O7.wr W10 g7
  have t12 := (((f9.other W2 (Or.inr (sn57 hw))).other W6 (Or.inl (Ne.symm u6))).other W10 (Or.inl (Ne.symm u6)))
  obtain ⟨T13, X13, e13, st13⟩ := getF X10 hx hZ hown (host := "") (Or.inl (wk67 hw)) Via.refl e10 t12 (g := (mkF m 22 #[.val (.ref o1), .val (.ref o2)] [(.ref o1), (.ref o2)])) rfl rfl (hb hby d7_22)
  have t14 := (((f10.other W2 (Or.inl u6)).other W6 (Or.inr (sn58 hw))).other W10 (Or.inr (sn59 hw)))
  have t15 := (t9.wr W10)
  obtain ⟨T16, h16, X16, e16, W16, st16⟩ := putF X13 hx hZ hown (host := "") (Or.inl (wk69 hw)) Via.refl e13 t14 t15 (Or.inl (wk70 hw)) (wk11 hw) (ty := (.object "com/example/tidemark/tidemark/MemoryEntry")) (by decide) rfl rfl (g := (mkF m 25 #[.val (.ref o1), .val (.ref o2)] [.null, (.ref o2)])) rfl rfl (hb hby d7_25)
  have F16 : Fld Z h16 o2 "com/example/tidemark/tidemark/MemoryEntry" "older" "Lcom/example/tidemark/tidemark/MemoryEntry;" .null := t14.same W16
  have N16 := Fr.snoc X16 N10 g7
  have O17 := O11.wr W16 g7
  have t18 := ((((f11.other W2 (Or.inl u6)).other W6 (Or.inr (sn60 hw))).other W10 (Or.inr (sn61 hw))).other W16 (Or.inr (sn62 hw)))
  have t19 := (t15.wr W16)
  obtain ⟨T20, h20, X20, e20, W20, st20⟩ := putF X16 hx hZ hown (host := "") (Or.inl (wk71 hw)) Via.refl e16 t18 t19 (Or.inl (wk72 hw)) (wk11 hw) (ty := (.object "com/example/tidemark/tidemark/MemoryEntry")) (by decide) rfl rfl (g := (mkF m 30 #[.val (.ref o1), .val (.ref o2)] [.null, (.ref o2)])) rfl rfl (hb hby d7_30)
  have F20 : Fld Z h20 o2 "com/example/tidemark/tidemark/MemoryEntry" "newer" "Lcom/example/tidemark/tidemark/MemoryEntry;" .null := t18.same W20
  have N20 := Fr.snoc X20 N16 g7
  have O21 := O17.wr W20 g7
  have t22 := ((t12.other W16 (Or.inl (Ne.symm u6))).other W20 (Or.inl (Ne.symm u6)))
  obtain ⟨T23, X23, e23, st23⟩ := getF X20 hx hZ hown (host := "") (Or.inl (wk67 hw)) Via.refl e20 t22 (g := (mkF m 34 #[.val (.ref o1), .val (.ref o2)] [(.ref o1)])) rfl rfl (hb hby d7_34)
  have t24 := (((((f12.other W2 (Or.inr (sn63 hw))).other W6 (Or.inl (Ne.symm u6))).other W10 (Or.inl (Ne.symm u6))).other W16 (Or.inl (Ne.symm u6))).other W20 (Or.inl (Ne.symm u6)))
  have t25 := (((((f2.wr W2).wr W6).wr W10).wr W16).wr W20)
  obtain ⟨T26, h26, X26, e26, W26, st26⟩ := putF X23 hx hZ hown (host := "") (Or.inl (wk73 hw)) Via.refl e23 t24 t25 (Or.inl (wk74 hw)) (wk2 hw) (ty := (.object "com/example/tidemark/tidemark/MemoryEntry")) (by decide) rfl rfl (g := (mkF m 42 #[.val (.ref o1), .val (.ref o2)] [(.ref o2), (.ref o1)])) rfl rfl (hb hby d7_42)
  have F26 : Fld Z h26 o1 "com/example/tidemark/tidemark/RecencyList" "oldest" "Lcom/example/tidemark/tidemark/MemoryEntry;" (.ref o2) := t24.same W26
  have N26 := Fr.snoc X26 N20 g3
  have O27 := O21.wr W26 g3
  have t28 := (t22.other W26 (Or.inr (sn64 hw)))
  have t29 := (t25.wr W26)
  obtain ⟨T30, h30, X30, e30, W30, st30⟩ := putF X26 hx hZ hown (host := "") (Or.inl (wk67 hw)) Via.refl e26 t28 t29 (Or.inl (wk68 hw)) (wk2 hw) (ty := (.object "com/example/tidemark/tidemark/MemoryEntry")) (by decide) rfl rfl (g := (mkF m 58 #[.val (.ref o1), .val (.ref o2)] [(.ref o2), (.ref o1)])) rfl rfl (hb hby d7_58)
  have F30 : Fld Z h30 o1 "com/example/tidemark/tidemark/RecencyList" "newest" "Lcom/example/tidemark/tidemark/MemoryEntry;" (.ref o2) := t28.same W30
  have N30 := Fr.snoc X30 N26 g3
  have O31 := O27.wr W30 g3
  have t32 := (((((((f13.other W2 (Or.inr (sn65 hw))).other W6 (Or.inl (Ne.symm u6))).other W10 (Or.inl (Ne.symm u6))).other W16 (Or.inl (Ne.symm u6))).other W20 (Or.inl (Ne.symm u6))).other W26 (Or.inr (sn66 hw))).other W30 (Or.inr (sn67 hw)))
  obtain ⟨T33, X33, e33, st33⟩ := getF X30 hx hZ hown (host := "") (Or.inl (wk75 hw)) Via.refl e30 t32 (g := (mkF m 63 #[.val (.ref o1), .val (.ref o2)] [(.ref o1), (.ref o1)])) rfl rfl (hb hby d7_63)
  have t34 := (t29.wr W30)
  obtain ⟨T35, h35, X35, e35, W35, st35⟩ := putF X33 hx hZ hown (host := "") (Or.inl (wk75 hw)) Via.refl e33 t32 t34 (Or.inl (wk76 hw)) (wk2 hw) (ty := .long) (by decide) rfl rfl (g := (mkF m 68 #[.val (.ref o1), .val (.ref o2)] [(.long (1 : Int64)), (.ref o1)])) rfl rfl (hb hby d7_68)
  have F35 : Fld Z h35 o1 "com/example/tidemark/tidemark/RecencyList" "size" "J" (.long (1 : Int64)) := t32.same W35
  have N35 := Fr.snoc X35 N30 g3
  have O36 := O31.wr W35 g3
  have t37 := ((((((((f14.other W2 (Or.inr (sn68 hw))).other W6 (Or.inl (Ne.symm u6))).other W10 (Or.inl (Ne.symm u6))).other W16 (Or.inl (Ne.symm u6))).other W20 (Or.inl (Ne.symm u6))).other W26 (Or.inr (sn69 hw))).other W30 (Or.inr (sn70 hw))).other W35 (Or.inr (sn71 hw)))
  obtain ⟨T38, X38, e38, st38⟩ := getF X35 hx hZ hown (host := "") (Or.inl (wk77 hw)) Via.refl e35 t37 (g := (mkF m 73 #[.val (.ref o1), .val (.ref o2)] [(.ref o1), (.ref o1)])) rfl rfl (hb hby d7_73)
  have t39 := ((((((((f15.other W2 (Or.inl u6)).other W6 (Or.inr (sn72 hw))).other W10 (Or.inr (sn73 hw))).other W16 (Or.inr (sn74 hw))).other W20 (Or.inr (sn75 hw))).other W26 (Or.inl u6)).other W30 (Or.inl u6)).other W35 (Or.inl u6))
  obtain ⟨T40, X40, e40, st40⟩ := getF X38 hx hZ hown (host := "") (Or.inl (wk79 hw)) Via.refl e38 t39 (g := (mkF m 77 #[.val (.ref o1), .val (.ref o2)] [(.ref o2), (.long q3), (.ref o1)])) rfl rfl (hb hby d7_77)
  have t41 := (t34.wr W35)
  obtain ⟨T42, h42, X42, e42, W42, st42⟩ := putF X40 hx hZ hown (host := "") (Or.inl (wk77 hw)) Via.refl e40 t37 t41 (Or.inl (wk78 hw)) (wk2 hw) (ty := .long) (by decide) rfl rfl (g := (mkF m 81 #[.val (.ref o1), .val (.ref o2)] [(.long (q3 + q4)), (.ref o1)])) rfl rfl (hb hby d7_81)
  have F42 : Fld Z h42 o1 "com/example/tidemark/tidemark/RecencyList" "weight" "J" (.long (q3 + q4)) := t37.same W42
  have N42 := Fr.snoc X42 N35 g3
  have O43 := O36.wr W42 g3
  obtain ⟨fs, hr, hrun, hended, hWm, hsame⟩ := X42.leave (v := none) (fun _ => rfl)
  have Kf44 : own_KL h0 h42 [⟨o1, Jvm.RoadKit.slotOf Z "com/example/tidemark/tidemark/RecencyList" "stamps" "J"⟩, ⟨o2, Jvm.RoadKit.slotOf Z "com/example/tidemark/tidemark/MemoryEntry" "stamp" "J"⟩, ⟨o2, Jvm.RoadKit.slotOf Z "com/example/tidemark/tidemark/MemoryEntry" "list" "Lcom/example/tidemark/tidemark/RecencyList;"⟩, ⟨o2, Jvm.RoadKit.slotOf Z "com/example/tidemark/tidemark/MemoryEntry" "older" "Lcom/example/tidemark/tidemark/MemoryEntry;"⟩, ⟨o2, Jvm.RoadKit.slotOf Z "com/example/tidemark/tidemark/MemoryEntry" "newer" "Lcom/example/tidemark/tidemark/MemoryEntry;"⟩, ⟨o1, Jvm.RoadKit.slotOf Z "com/example/tidemark/tidemark/RecencyList" "oldest" "Lcom/example/tidemark/tidemark/MemoryEntry;"⟩, ⟨o1, Jvm.RoadKit.slotOf Z "com/example/tidemark/tidemark/RecencyList" "newest" "Lcom/example/tidemark/tidemark/MemoryEntry;"⟩, ⟨o1, Jvm.RoadKit.slotOf Z "com/example/tidemark/tidemark/RecencyList" "size" "J"⟩, ⟨o1, Jvm.RoadKit.slotOf Z "com/example/tidemark/tidemark/RecencyList" "weight" "J"⟩] := (own_klW (own_klW (own_klW (own_klW (own_klW (own_klW (own_klW (own_klW (own_klW (own_kl0 h0 [⟨o1, Jvm.RoadKit.slotOf Z "com/example/tidemark/tidemark/RecencyList" "stamps" "J"⟩, ⟨o2, Jvm.RoadKit.slotOf Z "com/example/tidemark/tidemark/MemoryEntry" "stamp" "J"⟩, ⟨o2, Jvm.RoadKit.slotOf Z "com/example/tidemark/tidemark/MemoryEntry" "list" "Lcom/example/tidemark/tidemark/RecencyList;"⟩, ⟨o2, Jvm.RoadKit.slotOf Z "com/example/tidemark/tidemark/MemoryEntry" "older" "Lcom/example/tidemark/tidemark/MemoryEntry;"⟩, ⟨o2, Jvm.RoadKit.slotOf Z "com/example/tidemark/tidemark/MemoryEntry" "newer" "Lcom/example/tidemark/tidemark/MemoryEntry;"⟩, ⟨o1, Jvm.RoadKit.slotOf Z "com/example/tidemark/tidemark/RecencyList" "oldest" "Lcom/example/tidemark/tidemark/MemoryEntry;"⟩, ⟨o1, Jvm.RoadKit.slotOf Z "com/example/tidemark/tidemark/RecencyList" "newest" "Lcom/example/tidemark/tidemark/MemoryEntry;"⟩, ⟨o1, Jvm.RoadKit.slotOf Z "com/example/tidemark/tidemark/RecencyList" "size" "J"⟩, ⟨o1, Jvm.RoadKit.slotOf Z "com/example/tidemark/tidemark/RecencyList" "weight" "J"⟩]) W2 (Or.inl (List.mem_of_getElem? (i := 0) rfl))) W6 (Or.inl (List.mem_of_getElem? (i := 1) rfl))) W10 (Or.inl (List.mem_of_getElem? (i := 2) rfl))) W16 (Or.inl (List.mem_of_getElem? (i := 3) rfl))) W20 (Or.inl (List.mem_of_getElem? (i := 4) rfl))) W26 (Or.inl (List.mem_of_getElem? (i := 5) rfl))) W30 (Or.inl (List.mem_of_getElem? (i := 6) rfl))) W35 (Or.inl (List.mem_of_getElem? (i := 7) rfl))) W42 (Or.inl (List.mem_of_getElem? (i := 8) rfl)))
  have t45 := ((((((((F2.other W6 (Or.inl (Ne.symm u6))).other W10 (Or.inl (Ne.symm u6))).other W16 (Or.inl (Ne.symm u6))).other W20 (Or.inl (Ne.symm u6))).other W26 (Or.inr (sn76 hw))).other W30 (Or.inr (sn77 hw))).other W35 (Or.inr (sn78 hw))).other W42 (Or.inr (sn79 hw)))
  have t46 := (((((((F6.other W10 (Or.inr (sn80 hw))).other W16 (Or.inr (sn81 hw))).other W20 (Or.inr (sn82 hw))).other W26 (Or.inl u6)).other W30 (Or.inl u6)).other W35 (Or.inl u6)).other W42 (Or.inl u6))
  have t47 := ((((((F10.other W16 (Or.inr (sn83 hw))).other W20 (Or.inr (sn84 hw))).other W26 (Or.inl u6)).other W30 (Or.inl u6)).other W35 (Or.inl u6)).other W42 (Or.inl u6))
  have t48 := ((F30.other W35 (Or.inr (sn85 hw))).other W42 (Or.inr (sn86 hw)))
  have t49 := (((((F16.other W20 (Or.inr (sn87 hw))).other W26 (Or.inl u6)).other W30 (Or.inl u6)).other W35 (Or.inl u6)).other W42 (Or.inl u6))
  have t50 := ((((F20.other W26 (Or.inl u6)).other W30 (Or.inl u6)).other W35 (Or.inl u6)).other W42 (Or.inl u6))
  have t51 := (((F26.other W30 (Or.inr (sn88 hw))).other W35 (Or.inr (sn89 hw))).other W42 (Or.inr (sn90 hw)))
  have t52 := (F35.other W42 (Or.inr (sn91 hw)))
  refine ⟨_, _, pre0 _ ?_, hrun, hended, _, _, rfl, ?_, ⟨_, rfl⟩, hWm, hsame.mono (by decide) (by decide)⟩
  · show Steps p.tables e below (s₁.setTop (mkF m 0 #[.val (.ref o1), .val (.ref o2)] [])) _
    refine sA X0 hx hby d7_0 rfl rfl ?_
    refine sA X0 hx hby d7_1 rfl rfl ?_
    refine XS.dup X0.here hx rfl (hb hby d7_2) rfl rfl ?_
    refine st1 _ ?_
    refine XS.lconst X1.here hx rfl (hb hby d7_6) ?_
    refine XS.ladd X1.here hx rfl (hb hby d7_7) rfl ?_
    jvm_step X1.here [X1.here.top, hx, (hb hby d7_8), Value.category]
    show Steps p.tables e below (T1.setTop (mkF m 9 #[.val (.ref o1), .val (.ref o2)] [(.long (2 : Int64)), (.ref o1), (.long (2 : Int64)), (.ref o2)])) _
    refine st2 _ ?_
    refine st6 _ ?_
    refine sA X6 hx hby d7_15 rfl rfl ?_
    refine sA X6 hx hby d7_16 rfl rfl ?_
    refine st10 _ ?_
    refine sA X10 hx hby d7_20 rfl rfl ?_
    refine sA X10 hx hby d7_21 rfl rfl ?_
    refine st13 _ ?_
    refine st16 _ ?_
    refine sA X16 hx hby d7_28 rfl rfl ?_
    refine XS.aconstNull X16.here hx rfl (hb hby d7_29) ?_
    refine st20 _ ?_
    refine sA X20 hx hby d7_33 rfl rfl ?_
    refine st23 _ ?_
    refine XS.ifnonnullNo X23.here hx rfl (hb hby d7_37) rfl ?_
    refine sA X23 hx hby d7_40 rfl rfl ?_
    refine sA X23 hx hby d7_41 rfl rfl ?_
    refine st26 _ ?_
    refine sg (pc := 45) (pc' := 56) X26 hx hby d7_45 (by decide) (by decide) ?_
    refine sA X26 hx hby d7_56 rfl rfl ?_
    refine sA X26 hx hby d7_57 rfl rfl ?_
    refine st30 _ ?_
    refine sA X30 hx hby d7_61 rfl rfl ?_
    refine XS.dup X30.here hx rfl (hb hby d7_62) rfl rfl ?_
    refine st33 _ ?_
    refine XS.lconst X33.here hx rfl (hb hby d7_66) ?_
    refine XS.ladd X33.here hx rfl (hb hby d7_67) rfl ?_
    refine st35 _ ?_
    refine sA X35 hx hby d7_71 rfl rfl ?_
    refine XS.dup X35.here hx rfl (hb hby d7_72) rfl rfl ?_
    refine st38 _ ?_
    refine sA X38 hx hby d7_76 rfl rfl ?_
    refine st40 _ ?_
    refine XS.ladd X40.here hx rfl (hb hby d7_80) rfl ?_
    refine st42 _ ?_
    exact X42.returnOut hx Bd.returns (hb hby d7_84) hr
  · show Q7_11 Z w o1 o2 q3 q4 h0 n0 _ T42.heap _
    rw [e42]
    exact ⟨rfl, N42, Kf44, t45, t46, t47, t48, t49, t50, t51, t52, F42⟩
theorem ef_11_12 (m : MethodId) (o1 : Addr) : entryFrame m #[(.ref o1)] 1 = mkF m 0 #[.val (.ref o1)] [] := by first | (simp [entryFrame, mkF, argsToLocals, Value.category]; done) | rfl
def Q11_12 (Z : State) (w : Nat → Addr) (o1 : Addr) (o2 : Addr) (h0 : Heap) (n0 : Nat) (v : Option Value) (h : Heap) (L : List Loc) : Prop := v = some (.ref o2) ∧ Fr n0 L ∧ h = h0
set_option maxRecDepth 65536 in
set_option maxHeartbeats 40000000 in
theorem rm11_12 (l : Launch) (Z : State) (a0 : Array Value) (hw : ∀ d ∈ tables_1, d.before a0 Z = true) (w : Nat → Addr) (hW : Wd Z w) (ws : List Jvm.Cond) (o1 : Addr) (o2 : Addr) (h0 : Heap) (n0 : Nat) (O0 : Old Z n0 h0) (f1 : Fld Z h0 o1 "com/example/tidemark/tidemark/RecencyList" "oldest" "Lcom/example/tidemark/tidemark/MemoryEntry;" (.ref o2)) :
    MetFree l ym9 (head1 (Jvm.Cond.code ym9 prog_41_method_2_code 1 (some (.object "com/example/tidemark/tidemark/MemoryEntry")) :: ws) ({ frames := 0, cells := 0, slots := 0, locals := 0 } : Room)) (fun a U => a = #[(.ref o1)] ∧ Z.Warmed39 U.vm ∧ U.heap = h0) (fun _ _ _ _ _ => True) (fun _ U o U' => ∃ v L, o = .returned v ∧ Q11_12 Z w o1 o2 h0 n0 v U'.heap L ∧ FrameEnd U o U' L ({ frames := 0, cells := 0, slots := 0, locals := 0 } : Room).cells ({ frames := 0, cells := 0, slots := 0, locals := 0 } : Room).slots) := by
  refine MetFree.of_bodySF (plainFor_of_name pnc_0) hisR ?_
  intro p e s m args below meth c s₁ Bd hml0 hP hK
  obtain ⟨rfl, hZ, hh⟩ := hP
  have hx := Bd.exec
  have hby := Bd.bytes
  have hml : c.maxLocals = 1 := hml0
  have hown : s.vm.findClass "com/example/tidemark/tidemark/RecencyList" = some m.cls := findClass_of_methodNamed Bd.named
  have hnm := (name_of_methodNamed Bd.named Bd.method).1
  have X0 : Stand p l e ({ frames := 0, cells := 0, slots := 0, locals := 0 } : Room) s m #[(.ref o1)] below meth c s₁ [] 0 0 := Stand.of_body Bd
  have e0 : s₁.heap = h0 := by rw [← hh, Bd.state]; rfl
  have N0 := Fr.nil n0
  skip
  have pre0 : ∀ t, Steps p.tables e below (s₁.setTop (mkF m 0 #[.val (.ref o1)] [])) t → Steps p.tables e below (s₁.setTop (entryFrame m #[(.ref o1)] 1)) t := fun t k => castTop (ef_11_12 m o1) k
  obtain ⟨T1, X1, e1, st1⟩ := getF X0 hx hZ hown (host := "") (Or.inl (wk73 hw)) Via.refl e0 f1 (g := (mkF m 1 #[.val (.ref o1)] [(.ref o1)])) rfl rfl (hb hby d11_1)
  obtain ⟨fs, hr, hrun, hended, hWm, hsame⟩ := X1.leave (v := some (.ref o2)) (fun h => by rw [Bd.returns] at h; cases h)
  refine ⟨_, _, pre0 _ ?_, hrun, hended, _, _, rfl, ?_, ⟨_, rfl⟩, hWm, hsame.mono (by decide) (by decide)⟩
  · show Steps p.tables e below (s₁.setTop (mkF m 0 #[.val (.ref o1)] [])) _
    refine sA X0 hx hby d11_0 rfl rfl ?_
    refine st1 _ ?_
    jvm_step X1.here [X1.here.top, hx, (hb hby d11_4), X1.method', Bd.returns, Value.isRef, FieldType.isReference]
    first | (intro acts; rw [hr _ acts rfl rfl rfl]) | rw [hr _ _ rfl rfl rfl]
    exact Steps.refl _
  · show Q11_12 Z w o1 o2 h0 n0 _ T1.heap _
    rw [e1]
    exact ⟨rfl, N0, rfl⟩
theorem d7_48 : decode prog_41_method_7_code 48 = .ok (.aload_n 0, 1) := by decide +kernel
theorem d7_49 : decode prog_41_method_7_code 49 = .ok (.getfield 35, 3) := by decide +kernel
theorem d7_52 : decode prog_41_method_7_code 52 = .ok (.aload_n 1, 1) := by decide +kernel
theorem d7_53 : decode prog_41_method_7_code 53 = .ok (.putfield 13, 3) := by decide +kernel
theorem ef_7_13 (m : MethodId) (o1 : Addr) (o2 : Addr) : entryFrame m #[(.ref o1), (.ref o2)] 2 = mkF m 0 #[.val (.ref o1), .val (.ref o2)] [] := by first | (simp [entryFrame, mkF, argsToLocals, Value.category]; done) | rfl
def Q7_13 (Z : State) (w : Nat → Addr) (o1 : Addr) (o2 : Addr) (o3 : Addr) (q4 : Int64) (q5 : Int64) (h0 : Heap) (n0 : Nat) (v : Option Value) (h : Heap) (L : List Loc) : Prop := v = none ∧ Fr n0 L ∧ own_KL h0 h [⟨o1, Jvm.RoadKit.slotOf Z "com/example/tidemark/tidemark/RecencyList" "stamps" "J"⟩, ⟨o2, Jvm.RoadKit.slotOf Z "com/example/tidemark/tidemark/MemoryEntry" "stamp" "J"⟩, ⟨o2, Jvm.RoadKit.slotOf Z "com/example/tidemark/tidemark/MemoryEntry" "list" "Lcom/example/tidemark/tidemark/RecencyList;"⟩, ⟨o2, Jvm.RoadKit.slotOf Z "com/example/tidemark/tidemark/MemoryEntry" "older" "Lcom/example/tidemark/tidemark/MemoryEntry;"⟩, ⟨o2, Jvm.RoadKit.slotOf Z "com/example/tidemark/tidemark/MemoryEntry" "newer" "Lcom/example/tidemark/tidemark/MemoryEntry;"⟩, ⟨o3, Jvm.RoadKit.slotOf Z "com/example/tidemark/tidemark/MemoryEntry" "newer" "Lcom/example/tidemark/tidemark/MemoryEntry;"⟩, ⟨o1, Jvm.RoadKit.slotOf Z "com/example/tidemark/tidemark/RecencyList" "newest" "Lcom/example/tidemark/tidemark/MemoryEntry;"⟩, ⟨o1, Jvm.RoadKit.slotOf Z "com/example/tidemark/tidemark/RecencyList" "size" "J"⟩, ⟨o1, Jvm.RoadKit.slotOf Z "com/example/tidemark/tidemark/RecencyList" "weight" "J"⟩] ∧ Fld Z h o1 "com/example/tidemark/tidemark/RecencyList" "stamps" "J" (.long (2 : Int64)) ∧ Fld Z h o2 "com/example/tidemark/tidemark/MemoryEntry" "stamp" "J" (.long (2 : Int64)) ∧ Fld Z h o2 "com/example/tidemark/tidemark/MemoryEntry" "list" "Lcom/example/tidemark/tidemark/RecencyList;" (.ref o1) ∧ Fld Z h o1 "com/example/tidemark/tidemark/RecencyList" "newest" "Lcom/example/tidemark/tidemark/MemoryEntry;" (.ref o2) ∧ Fld Z h o2 "com/example/tidemark/tidemark/MemoryEntry" "older" "Lcom/example/tidemark/tidemark/MemoryEntry;" (.ref o3) ∧ Fld Z h o2 "com/example/tidemark/tidemark/MemoryEntry" "newer" "Lcom/example/tidemark/tidemark/MemoryEntry;" .null ∧ Fld Z h o3 "com/example/tidemark/tidemark/MemoryEntry" "newer" "Lcom/example/tidemark/tidemark/MemoryEntry;" (.ref o2) ∧ Fld Z h o1 "com/example/tidemark/tidemark/RecencyList" "size" "J" (.long (2 : Int64)) ∧ Fld Z h o1 "com/example/tidemark/tidemark/RecencyList" "weight" "J" (.long (q4 + q5))
set_option maxRecDepth 65536 in
set_option maxHeartbeats 40000000 in
theorem rm7_13 (l : Launch) (Z : State) (a0 : Array Value) (hw : ∀ d ∈ tables_1, d.before a0 Z = true) (w : Nat → Addr) (hW : Wd Z w) (ws : List Jvm.Cond) (o1 : Addr) (o2 : Addr) (o3 : Addr) (q4 : Int64) (q5 : Int64) (h0 : Heap) (n0 : Nat) (O0 : Old Z n0 h0) (f1 : Fld Z h0 o1 "com/example/tidemark/tidemark/RecencyList" "stamps" "J" (.long (1 : Int64))) (f2 : Exa Z h0 o1 "com/example/tidemark/tidemark/RecencyList") (g3 : n0 ≤ o1) (f4 : Exa Z h0 o2 "com/example/tidemark/tidemark/MemoryEntry") (f5 : Fld Z h0 o2 "com/example/tidemark/tidemark/MemoryEntry" "stamp" "J" (.long (0 : Int64))) (u6 : o2 ≠ o1) (g7 : n0 ≤ o2) (f8 : Fld Z h0 o2 "com/example/tidemark/tidemark/MemoryEntry" "list" "Lcom/example/tidemark/tidemark/RecencyList;" .null) (f9 : Fld Z h0 o1 "com/example/tidemark/tidemark/RecencyList" "newest" "Lcom/example/tidemark/tidemark/MemoryEntry;" (.ref o3)) (f10 : Fld Z h0 o2 "com/example/tidemark/tidemark/MemoryEntry" "older" "Lcom/example/tidemark/tidemark/MemoryEntry;" .null) (f11 : Fld Z h0 o2 "com/example/tidemark/tidemark/MemoryEntry" "newer" "Lcom/example/tidemark/tidemark/MemoryEntry;" .null) (f12 : Exa Z h0 o3 "com/example/tidemark/tidemark/MemoryEntry") (f13 : Fld Z h0 o3 "com/example/tidemark/tidemark/MemoryEntry" "newer" "Lcom/example/tidemark/tidemark/MemoryEntry;" .null) (u14 : o3 ≠ o1) (u15 : o3 ≠ o2) (g16 : n0 ≤ o3) (f17 : Fld Z h0 o1 "com/example/tidemark/tidemark/RecencyList" "size" "J" (.long (1 : Int64))) (f18 : Fld Z h0 o1 "com/example/tidemark/tidemark/RecencyList" "weight" "J" (.long q4)) (f19 : Fld Z h0 o2 "com/example/tidemark/tidemark/MemoryEntry" "charge" "J" (.long q5)) :
    MetFree l ym5 (head1 (Jvm.Cond.code ym5 prog_41_method_7_code 2 none :: ws) ({ frames := 0, cells := 0, slots := 0, locals := 0 } : Room)) (fun a U => a = #[(.ref o1), (.ref o2)] ∧ Z.Warmed39 U.vm ∧ U.heap = h0) (fun _ _ _ _ _ => True) (fun _ U o U' => ∃ v L, o = .returned v ∧ Q7_13 Z w o1 o2 o3 q4 q5 h0 n0 v U'.heap L ∧ FrameEnd U o U' L ({ frames := 0, cells := 0, slots := 0, locals := 0 } : Room).cells ({ frames := 0, cells := 0, slots := 0, locals := 0 } : Room).slots) := by
  refine MetFree.of_bodySF (plainFor_of_name pnc_0) hisR ?_
  intro p e s m args below meth c s₁ Bd hml0 hP hK
  obtain ⟨rfl, hZ, hh⟩ := hP
  have hx := Bd.exec
  have hby := Bd.bytes
  have hml : c.maxLocals = 2 := hml0
  have hown : s.vm.findClass "com/example/tidemark/tidemark/RecencyList" = some m.cls := findClass_of_methodNamed Bd.named
  have hnm := (name_of_methodNamed Bd.named Bd.method).1
  have X0 : Stand p l e ({ frames := 0, cells := 0, slots := 0, locals := 0 } : Room) s m #[(.ref o1), (.ref o2)] below meth c s₁ [] 0 0 := Stand.of_body Bd
  have e0 : s₁.heap = h0 := by rw [← hh, Bd.state]; rfl
  have N0 := Fr.nil n0
  skip
  have pre0 : ∀ t, Steps p.tables e below (s₁.setTop (mkF m 0 #[.val (.ref o1), .val (.ref o2)] [])) t → Steps p.tables e below (s₁.setTop (entryFrame m #[(.ref o1), (.ref o2)] 2)) t := fun t k => castTop (ef_7_13 m o1 o2) k
  obtain ⟨T1, X1, e1, st1⟩ := getF X0 hx hZ hown (host := "") (Or.inl (wk61 hw)) Via.refl e0 f1 (g := (mkF m 3 #[.val (.ref o1), .val (.ref o2)] [(.ref o1), (.ref o1), (.ref o2)])) rfl rfl (hb hby d7_3)
  obtain ⟨T2, h2, X2, e2, W2, st2⟩ := putF X1 hx hZ hown (host := "") (Or.inl (wk61 hw)) Via.refl e1 f1 f2 (Or.inl (wk62 hw)) (wk2 hw) (ty := .long) (by decide) rfl rfl (g := (mkF m 9 #[.val (.ref o1), .val (.ref o2)] [(.long (2 : Int64)), (.ref o1), (.long (2 : Int64)), (.ref o2)])) rfl rfl (hb hby d7_9)
  have F2 : Fld Z h2 o1 "com/example/tidemark/tidemark/RecencyList" "stamps" "J" (.long (2 : Int64)) := f1.same W2
  have N2 := Fr.snoc X2 N0 g3
  have O3 := O0.wr W2 g3
  have t4 := (f5.other W2 (Or.inl u6))
  have t5 := (f4.wr W2)
  obtain ⟨T6, h6, X6, e6, W6, st6⟩ := putF X2 hx hZ hown (host := "") (Or.inl (wk63 hw)) Via.refl e2 t4 t5 (Or.inl (wk64 hw)) (wk11 hw) (ty := .long) (by decide) rfl rfl (g := (mkF m 12 #[.val (.ref o1), .val (.ref o2)] [(.long (2 : Int64)), (.ref o2)])) rfl rfl (hb hby d7_12)
  have F6 : Fld Z h6 o2 "com/example/tidemark/tidemark/MemoryEntry" "stamp" "J" (.long (2 : Int64)) := t4.same W6
  have N6 := Fr.snoc X6 N2 g7
  have O7 := O3.wr W6 g7
  have t8 := ((f8.other W2 (Or.inl u6)).other W6 (Or.inr (sn56 hw)))
  have t9 := (t5.wr W6)
  obtain ⟨T10, h10, X10, e10, W10, st10⟩ := putF X6 hx hZ hown (host := "") (Or.inl (wk65 hw)) Via.refl e6 t8 t9 (Or.inl (wk66 hw)) (wk11 hw) (ty := (.object "com/example/tidemark/tidemark/RecencyList")) (by decide) rfl rfl (g := (mkF m 17 #[.val (.ref o1), .val (.ref o2)] [(.ref o1), (.ref o2)])) rfl rfl (hb hby d7_17)
  have F10 : Fld Z h10 o2 "com/example/tidemark/tidemark/MemoryEntry" "list" "Lcom/example/tidemark/tidemark/RecencyList;" (.ref o1) := t8.same W10
  have N10 := Fr.snoc X10 N6 g7
  have O11 := O7.wr W10 g7
  have t12 := (((f9.other W2 (Or.inr (sn57 hw))).other W6 (Or.inl (Ne.symm u6))).other W10 (Or.inl (Ne.symm u6)))
  obtain ⟨T13, X13, e13, st13⟩ := getF X10 hx hZ hown (host := "") (Or.inl (wk67 hw)) Via.refl e10 t12 (g := (mkF m 22 #[.val (.ref o1), .val (.ref o2)] [(.ref o1), (.ref o2)])) rfl rfl (hb hby d7_22)
  have t14 := (((f10.other W2 (Or.inl u6)).other W6 (Or.inr (sn58 hw))).other W10 (Or.inr (sn59 hw)))
  have t15 := (t9.wr W10)
  obtain ⟨T16, h16, X16, e16, W16, st16⟩ := putF X13 hx hZ hown (host := "") (Or.inl (wk69 hw)) Via.refl e13 t14 t15 (Or.inl (wk70 hw)) (wk11 hw) (ty := (.object "com/example/tidemark/tidemark/MemoryEntry")) (by decide) rfl rfl (g := (mkF m 25 #[.val (.ref o1), .val (.ref o2)] [(.ref o3), (.ref o2)])) rfl rfl (hb hby d7_25)
  have F16 : Fld Z h16 o2 "com/example/tidemark/tidemark/MemoryEntry" "older" "Lcom/example/tidemark/tidemark/MemoryEntry;" (.ref o3) := t14.same W16
  have N16 := Fr.snoc X16 N10 g7
  have O17 := O11.wr W16 g7
  have t18 := ((((f11.other W2 (Or.inl u6)).other W6 (Or.inr (sn60 hw))).other W10 (Or.inr (sn61 hw))).other W16 (Or.inr (sn62 hw)))
  have t19 := (t15.wr W16)
  obtain ⟨T20, h20, X20, e20, W20, st20⟩ := putF X16 hx hZ hown (host := "") (Or.inl (wk71 hw)) Via.refl e16 t18 t19 (Or.inl (wk72 hw)) (wk11 hw) (ty := (.object "com/example/tidemark/tidemark/MemoryEntry")) (by decide) rfl rfl (g := (mkF m 30 #[.val (.ref o1), .val (.ref o2)] [.null, (.ref o2)])) rfl rfl (hb hby d7_30)
  have F20 : Fld Z h20 o2 "com/example/tidemark/tidemark/MemoryEntry" "newer" "Lcom/example/tidemark/tidemark/MemoryEntry;" .null := t18.same W20
  have N20 := Fr.snoc X20 N16 g7
  have O21 := O17.wr W20 g7
  have t22 := ((t12.other W16 (Or.inl (Ne.symm u6))).other W20 (Or.inl (Ne.symm u6)))
  obtain ⟨T23, X23, e23, st23⟩ := getF X20 hx hZ hown (host := "") (Or.inl (wk67 hw)) Via.refl e20 t22 (g := (mkF m 34 #[.val (.ref o1), .val (.ref o2)] [(.ref o1)])) rfl rfl (hb hby d7_34)
  obtain ⟨T24, X24, e24, st24⟩ := getF X23 hx hZ hown (host := "") (Or.inl (wk67 hw)) Via.refl e23 t22 (g := (mkF m 49 #[.val (.ref o1), .val (.ref o2)] [(.ref o1)])) rfl rfl (hb hby d7_49)
  have t25 := (((((f13.other W2 (Or.inl u14)).other W6 (Or.inl u15)).other W10 (Or.inl u15)).other W16 (Or.inl u15)).other W20 (Or.inl u15))
  have t26 := (((((f12.wr W2).wr W6).wr W10).wr W16).wr W20)
  obtain ⟨T27, h27, X27, e27, W27, st27⟩ := putF X24 hx hZ hown (host := "") (Or.inl (wk71 hw)) Via.refl e24 t25 t26 (Or.inl (wk72 hw)) (wk11 hw) (ty := (.object "com/example/tidemark/tidemark/MemoryEntry")) (by decide) rfl rfl (g := (mkF m 53 #[.val (.ref o1), .val (.ref o2)] [(.ref o2), (.ref o3)])) rfl rfl (hb hby d7_53)
  have F27 : Fld Z h27 o3 "com/example/tidemark/tidemark/MemoryEntry" "newer" "Lcom/example/tidemark/tidemark/MemoryEntry;" (.ref o2) := t25.same W27
  have N27 := Fr.snoc X27 N20 g16
  have O28 := O21.wr W27 g16
  have t29 := (t22.other W27 (Or.inl (Ne.symm u14)))
  have t30 := ((((((f2.wr W2).wr W6).wr W10).wr W16).wr W20).wr W27)
  obtain ⟨T31, h31, X31, e31, W31, st31⟩ := putF X27 hx hZ hown (host := "") (Or.inl (wk67 hw)) Via.refl e27 t29 t30 (Or.inl (wk68 hw)) (wk2 hw) (ty := (.object "com/example/tidemark/tidemark/MemoryEntry")) (by decide) rfl rfl (g := (mkF m 58 #[.val (.ref o1), .val (.ref o2)] [(.ref o2), (.ref o1)])) rfl rfl (hb hby d7_58)
  have F31 : Fld Z h31 o1 "com/example/tidemark/tidemark/RecencyList" "newest" "Lcom/example/tidemark/tidemark/MemoryEntry;" (.ref o2) := t29.same W31
  have N31 := Fr.snoc X31 N27 g3
  have O32 := O28.wr W31 g3
  have t33 := (((((((f17.other W2 (Or.inr (sn65 hw))).other W6 (Or.inl (Ne.symm u6))).other W10 (Or.inl (Ne.symm u6))).other W16 (Or.inl (Ne.symm u6))).other W20 (Or.inl (Ne.symm u6))).other W27 (Or.inl (Ne.symm u14))).other W31 (Or.inr (sn67 hw)))
  obtain ⟨T34, X34, e34, st34⟩ := getF X31 hx hZ hown (host := "") (Or.inl (wk75 hw)) Via.refl e31 t33 (g := (mkF m 63 #[.val (.ref o1), .val (.ref o2)] [(.ref o1), (.ref o1)])) rfl rfl (hb hby d7_63)
  have t35 := (t30.wr W31)
  obtain ⟨T36, h36, X36, e36, W36, st36⟩ := putF X34 hx hZ hown (host := "") (Or.inl (wk75 hw)) Via.refl e34 t33 t35 (Or.inl (wk76 hw)) (wk2 hw) (ty := .long) (by decide) rfl rfl (g := (mkF m 68 #[.val (.ref o1), .val (.ref o2)] [(.long (2 : Int64)), (.ref o1)])) rfl rfl (hb hby d7_68)
  have F36 : Fld Z h36 o1 "com/example/tidemark/tidemark/RecencyList" "size" "J" (.long (2 : Int64)) := t33.same W36
  have N36 := Fr.snoc X36 N31 g3
  have O37 := O32.wr W36 g3
  have t38 := ((((((((f18.other W2 (Or.inr (sn68 hw))).other W6 (Or.inl (Ne.symm u6))).other W10 (Or.inl (Ne.symm u6))).other W16 (Or.inl (Ne.symm u6))).other W20 (Or.inl (Ne.symm u6))).other W27 (Or.inl (Ne.symm u14))).other W31 (Or.inr (sn70 hw))).other W36 (Or.inr (sn71 hw)))
  obtain ⟨T39, X39, e39, st39⟩ := getF X36 hx hZ hown (host := "") (Or.inl (wk77 hw)) Via.refl e36 t38 (g := (mkF m 73 #[.val (.ref o1), .val (.ref o2)] [(.ref o1), (.ref o1)])) rfl rfl (hb hby d7_73)
  have t40 := ((((((((f19.other W2 (Or.inl u6)).other W6 (Or.inr (sn72 hw))).other W10 (Or.inr (sn73 hw))).other W16 (Or.inr (sn74 hw))).other W20 (Or.inr (sn75 hw))).other W27 (Or.inl (Ne.symm u15))).other W31 (Or.inl u6)).other W36 (Or.inl u6))
  obtain ⟨T41, X41, e41, st41⟩ := getF X39 hx hZ hown (host := "") (Or.inl (wk79 hw)) Via.refl e39 t40 (g := (mkF m 77 #[.val (.ref o1), .val (.ref o2)] [(.ref o2), (.long q4), (.ref o1)])) rfl rfl (hb hby d7_77)
  have t42 := (t35.wr W36)
  obtain ⟨T43, h43, X43, e43, W43, st43⟩ := putF X41 hx hZ hown (host := "") (Or.inl (wk77 hw)) Via.refl e41 t38 t42 (Or.inl (wk78 hw)) (wk2 hw) (ty := .long) (by decide) rfl rfl (g := (mkF m 81 #[.val (.ref o1), .val (.ref o2)] [(.long (q4 + q5)), (.ref o1)])) rfl rfl (hb hby d7_81)
  have F43 : Fld Z h43 o1 "com/example/tidemark/tidemark/RecencyList" "weight" "J" (.long (q4 + q5)) := t38.same W43
  have N43 := Fr.snoc X43 N36 g3
  have O44 := O37.wr W43 g3
  obtain ⟨fs, hr, hrun, hended, hWm, hsame⟩ := X43.leave (v := none) (fun _ => rfl)
  have Kf45 : own_KL h0 h43 [⟨o1, Jvm.RoadKit.slotOf Z "com/example/tidemark/tidemark/RecencyList" "stamps" "J"⟩, ⟨o2, Jvm.RoadKit.slotOf Z "com/example/tidemark/tidemark/MemoryEntry" "stamp" "J"⟩, ⟨o2, Jvm.RoadKit.slotOf Z "com/example/tidemark/tidemark/MemoryEntry" "list" "Lcom/example/tidemark/tidemark/RecencyList;"⟩, ⟨o2, Jvm.RoadKit.slotOf Z "com/example/tidemark/tidemark/MemoryEntry" "older" "Lcom/example/tidemark/tidemark/MemoryEntry;"⟩, ⟨o2, Jvm.RoadKit.slotOf Z "com/example/tidemark/tidemark/MemoryEntry" "newer" "Lcom/example/tidemark/tidemark/MemoryEntry;"⟩, ⟨o3, Jvm.RoadKit.slotOf Z "com/example/tidemark/tidemark/MemoryEntry" "newer" "Lcom/example/tidemark/tidemark/MemoryEntry;"⟩, ⟨o1, Jvm.RoadKit.slotOf Z "com/example/tidemark/tidemark/RecencyList" "newest" "Lcom/example/tidemark/tidemark/MemoryEntry;"⟩, ⟨o1, Jvm.RoadKit.slotOf Z "com/example/tidemark/tidemark/RecencyList" "size" "J"⟩, ⟨o1, Jvm.RoadKit.slotOf Z "com/example/tidemark/tidemark/RecencyList" "weight" "J"⟩] := (own_klW (own_klW (own_klW (own_klW (own_klW (own_klW (own_klW (own_klW (own_klW (own_kl0 h0 [⟨o1, Jvm.RoadKit.slotOf Z "com/example/tidemark/tidemark/RecencyList" "stamps" "J"⟩, ⟨o2, Jvm.RoadKit.slotOf Z "com/example/tidemark/tidemark/MemoryEntry" "stamp" "J"⟩, ⟨o2, Jvm.RoadKit.slotOf Z "com/example/tidemark/tidemark/MemoryEntry" "list" "Lcom/example/tidemark/tidemark/RecencyList;"⟩, ⟨o2, Jvm.RoadKit.slotOf Z "com/example/tidemark/tidemark/MemoryEntry" "older" "Lcom/example/tidemark/tidemark/MemoryEntry;"⟩, ⟨o2, Jvm.RoadKit.slotOf Z "com/example/tidemark/tidemark/MemoryEntry" "newer" "Lcom/example/tidemark/tidemark/MemoryEntry;"⟩, ⟨o3, Jvm.RoadKit.slotOf Z "com/example/tidemark/tidemark/MemoryEntry" "newer" "Lcom/example/tidemark/tidemark/MemoryEntry;"⟩, ⟨o1, Jvm.RoadKit.slotOf Z "com/example/tidemark/tidemark/RecencyList" "newest" "Lcom/example/tidemark/tidemark/MemoryEntry;"⟩, ⟨o1, Jvm.RoadKit.slotOf Z "com/example/tidemark/tidemark/RecencyList" "size" "J"⟩, ⟨o1, Jvm.RoadKit.slotOf Z "com/example/tidemark/tidemark/RecencyList" "weight" "J"⟩]) W2 (Or.inl (List.mem_of_getElem? (i := 0) rfl))) W6 (Or.inl (List.mem_of_getElem? (i := 1) rfl))) W10 (Or.inl (List.mem_of_getElem? (i := 2) rfl))) W16 (Or.inl (List.mem_of_getElem? (i := 3) rfl))) W20 (Or.inl (List.mem_of_getElem? (i := 4) rfl))) W27 (Or.inl (List.mem_of_getElem? (i := 5) rfl))) W31 (Or.inl (List.mem_of_getElem? (i := 6) rfl))) W36 (Or.inl (List.mem_of_getElem? (i := 7) rfl))) W43 (Or.inl (List.mem_of_getElem? (i := 8) rfl)))
  have t46 := ((((((((F2.other W6 (Or.inl (Ne.symm u6))).other W10 (Or.inl (Ne.symm u6))).other W16 (Or.inl (Ne.symm u6))).other W20 (Or.inl (Ne.symm u6))).other W27 (Or.inl (Ne.symm u14))).other W31 (Or.inr (sn77 hw))).other W36 (Or.inr (sn78 hw))).other W43 (Or.inr (sn79 hw)))
  have t47 := (((((((F6.other W10 (Or.inr (sn80 hw))).other W16 (Or.inr (sn81 hw))).other W20 (Or.inr (sn82 hw))).other W27 (Or.inl (Ne.symm u15))).other W31 (Or.inl u6)).other W36 (Or.inl u6)).other W43 (Or.inl u6))
  have t48 := ((((((F10.other W16 (Or.inr (sn83 hw))).other W20 (Or.inr (sn84 hw))).other W27 (Or.inl (Ne.symm u15))).other W31 (Or.inl u6)).other W36 (Or.inl u6)).other W43 (Or.inl u6))
  have t49 := ((F31.other W36 (Or.inr (sn85 hw))).other W43 (Or.inr (sn86 hw)))
  have t50 := (((((F16.other W20 (Or.inr (sn87 hw))).other W27 (Or.inl (Ne.symm u15))).other W31 (Or.inl u6)).other W36 (Or.inl u6)).other W43 (Or.inl u6))
  have t51 := ((((F20.other W27 (Or.inl (Ne.symm u15))).other W31 (Or.inl u6)).other W36 (Or.inl u6)).other W43 (Or.inl u6))
  have t52 := (((F27.other W31 (Or.inl u14)).other W36 (Or.inl u14)).other W43 (Or.inl u14))
  have t53 := (F36.other W43 (Or.inr (sn91 hw)))
  refine ⟨_, _, pre0 _ ?_, hrun, hended, _, _, rfl, ?_, ⟨_, rfl⟩, hWm, hsame.mono (by decide) (by decide)⟩
  · show Steps p.tables e below (s₁.setTop (mkF m 0 #[.val (.ref o1), .val (.ref o2)] [])) _
    refine sA X0 hx hby d7_0 rfl rfl ?_
    refine sA X0 hx hby d7_1 rfl rfl ?_
    refine XS.dup X0.here hx rfl (hb hby d7_2) rfl rfl ?_
    refine st1 _ ?_
    refine XS.lconst X1.here hx rfl (hb hby d7_6) ?_
    refine XS.ladd X1.here hx rfl (hb hby d7_7) rfl ?_
    jvm_step X1.here [X1.here.top, hx, (hb hby d7_8), Value.category]
    show Steps p.tables e below (T1.setTop (mkF m 9 #[.val (.ref o1), .val (.ref o2)] [(.long (2 : Int64)), (.ref o1), (.long (2 : Int64)), (.ref o2)])) _
    refine st2 _ ?_
    refine st6 _ ?_
    refine sA X6 hx hby d7_15 rfl rfl ?_
    refine sA X6 hx hby d7_16 rfl rfl ?_
    refine st10 _ ?_
    refine sA X10 hx hby d7_20 rfl rfl ?_
    refine sA X10 hx hby d7_21 rfl rfl ?_
    refine st13 _ ?_
    refine st16 _ ?_
    refine sA X16 hx hby d7_28 rfl rfl ?_
    refine XS.aconstNull X16.here hx rfl (hb hby d7_29) ?_
    refine st20 _ ?_
    refine sA X20 hx hby d7_33 rfl rfl ?_
    refine st23 _ ?_
    refine XS.ifnonnullYes X23.here hx rfl (pc0 := 37) (pc' := 48) rfl (hb hby d7_37) rfl (by decide) (by decide) ?_
    refine sA X23 hx hby d7_48 rfl rfl ?_
    refine st24 _ ?_
    refine sA X24 hx hby d7_52 rfl rfl ?_
    refine st27 _ ?_
    refine sA X27 hx hby d7_56 rfl rfl ?_
    refine sA X27 hx hby d7_57 rfl rfl ?_
    refine st31 _ ?_
    refine sA X31 hx hby d7_61 rfl rfl ?_
    refine XS.dup X31.here hx rfl (hb hby d7_62) rfl rfl ?_
    refine st34 _ ?_
    refine XS.lconst X34.here hx rfl (hb hby d7_66) ?_
    refine XS.ladd X34.here hx rfl (hb hby d7_67) rfl ?_
    refine st36 _ ?_
    refine sA X36 hx hby d7_71 rfl rfl ?_
    refine XS.dup X36.here hx rfl (hb hby d7_72) rfl rfl ?_
    refine st39 _ ?_
    refine sA X39 hx hby d7_76 rfl rfl ?_
    refine st41 _ ?_
    refine XS.ladd X41.here hx rfl (hb hby d7_80) rfl ?_
    refine st43 _ ?_
    exact X43.returnOut hx Bd.returns (hb hby d7_84) hr
  · show Q7_13 Z w o1 o2 o3 q4 q5 h0 n0 _ T43.heap _
    rw [e43]
    exact ⟨rfl, N43, Kf45, t46, t47, t48, t49, t50, t51, t52, t53, F43⟩
theorem d8_47 : decode prog_41_method_10_code 47 = .ok (.aload_n 1, 1) := by decide +kernel
theorem d8_48 : decode prog_41_method_10_code 48 = .ok (.getfield 13, 3) := by decide +kernel
theorem d8_51 : decode prog_41_method_10_code 51 = .ok (.aload_n 1, 1) := by decide +kernel
theorem d8_52 : decode prog_41_method_10_code 52 = .ok (.getfield 38, 3) := by decide +kernel
theorem d8_55 : decode prog_41_method_10_code 55 = .ok (.putfield 38, 3) := by decide +kernel
theorem ef_8_14 (m : MethodId) (o1 : Addr) (o2 : Addr) : entryFrame m #[(.ref o1), (.ref o2)] 2 = mkF m 0 #[.val (.ref o1), .val (.ref o2)] [] := by first | (simp [entryFrame, mkF, argsToLocals, Value.category]; done) | rfl
def Q8_14 (Z : State) (w : Nat → Addr) (o1 : Addr) (o2 : Addr) (o3 : Addr) (q4 : Int64) (q5 : Int64) (h0 : Heap) (n0 : Nat) (v : Option Value) (h : Heap) (L : List Loc) : Prop := v = none ∧ Fr n0 L ∧ own_KL h0 h [⟨o1, Jvm.RoadKit.slotOf Z "com/example/tidemark/tidemark/RecencyList" "oldest" "Lcom/example/tidemark/tidemark/MemoryEntry;"⟩, ⟨o3, Jvm.RoadKit.slotOf Z "com/example/tidemark/tidemark/MemoryEntry" "older" "Lcom/example/tidemark/tidemark/MemoryEntry;"⟩, ⟨o2, Jvm.RoadKit.slotOf Z "com/example/tidemark/tidemark/MemoryEntry" "older" "Lcom/example/tidemark/tidemark/MemoryEntry;"⟩, ⟨o2, Jvm.RoadKit.slotOf Z "com/example/tidemark/tidemark/MemoryEntry" "newer" "Lcom/example/tidemark/tidemark/MemoryEntry;"⟩, ⟨o2, Jvm.RoadKit.slotOf Z "com/example/tidemark/tidemark/MemoryEntry" "list" "Lcom/example/tidemark/tidemark/RecencyList;"⟩, ⟨o1, Jvm.RoadKit.slotOf Z "com/example/tidemark/tidemark/RecencyList" "size" "J"⟩, ⟨o1, Jvm.RoadKit.slotOf Z "com/example/tidemark/tidemark/RecencyList" "weight" "J"⟩] ∧ Fld Z h o2 "com/example/tidemark/tidemark/MemoryEntry" "older" "Lcom/example/tidemark/tidemark/MemoryEntry;" .null ∧ Fld Z h o2 "com/example/tidemark/tidemark/MemoryEntry" "newer" "Lcom/example/tidemark/tidemark/MemoryEntry;" .null ∧ Fld Z h o1 "com/example/tidemark/tidemark/RecencyList" "oldest" "Lcom/example/tidemark/tidemark/MemoryEntry;" (.ref o3) ∧ Fld Z h o3 "com/example/tidemark/tidemark/MemoryEntry" "older" "Lcom/example/tidemark/tidemark/MemoryEntry;" .null ∧ Fld Z h o2 "com/example/tidemark/tidemark/MemoryEntry" "list" "Lcom/example/tidemark/tidemark/RecencyList;" .null ∧ Fld Z h o1 "com/example/tidemark/tidemark/RecencyList" "size" "J" (.long (1 : Int64)) ∧ Fld Z h o1 "com/example/tidemark/tidemark/RecencyList" "weight" "J" (.long (q4 - q5))
set_option maxRecDepth 65536 in
set_option maxHeartbeats 40000000 in
theorem rm8_14 (l : Launch) (Z : State) (a0 : Array Value) (hw : ∀ d ∈ tables_1, d.before a0 Z = true) (w : Nat → Addr) (hW : Wd Z w) (ws : List Jvm.Cond) (o1 : Addr) (o2 : Addr) (o3 : Addr) (q4 : Int64) (q5 : Int64) (h0 : Heap) (n0 : Nat) (O0 : Old Z n0 h0) (f1 : Fld Z h0 o2 "com/example/tidemark/tidemark/MemoryEntry" "older" "Lcom/example/tidemark/tidemark/MemoryEntry;" .null) (f2 : Fld Z h0 o2 "com/example/tidemark/tidemark/MemoryEntry" "newer" "Lcom/example/tidemark/tidemark/MemoryEntry;" (.ref o3)) (f3 : Exa Z h0 o1 "com/example/tidemark/tidemark/RecencyList") (f4 : Fld Z h0 o1 "com/example/tidemark/tidemark/RecencyList" "oldest" "Lcom/example/tidemark/tidemark/MemoryEntry;" (.ref o2)) (g5 : n0 ≤ o1) (u6 : o2 ≠ o1) (f7 : Exa Z h0 o3 "com/example/tidemark/tidemark/MemoryEntry") (f8 : Fld Z h0 o3 "com/example/tidemark/tidemark/MemoryEntry" "older" "Lcom/example/tidemark/tidemark/MemoryEntry;" (.ref o2)) (u9 : o3 ≠ o1) (g10 : n0 ≤ o3) (f11 : Exa Z h0 o2 "com/example/tidemark/tidemark/MemoryEntry") (u12 : o2 ≠ o3) (g13 : n0 ≤ o2) (f14 : Fld Z h0 o2 "com/example/tidemark/tidemark/MemoryEntry" "list" "Lcom/example/tidemark/tidemark/RecencyList;" (.ref o1)) (f15 : Fld Z h0 o1 "com/example/tidemark/tidemark/RecencyList" "size" "J" (.long (2 : Int64))) (f16 : Fld Z h0 o1 "com/example/tidemark/tidemark/RecencyList" "weight" "J" (.long q4)) (f17 : Fld Z h0 o2 "com/example/tidemark/tidemark/MemoryEntry" "charge" "J" (.long q5)) :
    MetFree l ym6 (head1 (Jvm.Cond.code ym6 prog_41_method_10_code 2 none :: ws) ({ frames := 0, cells := 0, slots := 0, locals := 0 } : Room)) (fun a U => a = #[(.ref o1), (.ref o2)] ∧ Z.Warmed39 U.vm ∧ U.heap = h0) (fun _ _ _ _ _ => True) (fun _ U o U' => ∃ v L, o = .returned v ∧ Q8_14 Z w o1 o2 o3 q4 q5 h0 n0 v U'.heap L ∧ FrameEnd U o U' L ({ frames := 0, cells := 0, slots := 0, locals := 0 } : Room).cells ({ frames := 0, cells := 0, slots := 0, locals := 0 } : Room).slots) := by
  refine MetFree.of_bodySF (plainFor_of_name pnc_0) hisR ?_
  intro p e s m args below meth c s₁ Bd hml0 hP hK
  obtain ⟨rfl, hZ, hh⟩ := hP
  have hx := Bd.exec
  have hby := Bd.bytes
  have hml : c.maxLocals = 2 := hml0
  have hown : s.vm.findClass "com/example/tidemark/tidemark/RecencyList" = some m.cls := findClass_of_methodNamed Bd.named
  have hnm := (name_of_methodNamed Bd.named Bd.method).1
  have X0 : Stand p l e ({ frames := 0, cells := 0, slots := 0, locals := 0 } : Room) s m #[(.ref o1), (.ref o2)] below meth c s₁ [] 0 0 := Stand.of_body Bd
  have e0 : s₁.heap = h0 := by rw [← hh, Bd.state]; rfl
  have N0 := Fr.nil n0
  skip
  have pre0 : ∀ t, Steps p.tables e below (s₁.setTop (mkF m 0 #[.val (.ref o1), .val (.ref o2)] [])) t → Steps p.tables e below (s₁.setTop (entryFrame m #[(.ref o1), (.ref o2)] 2)) t := fun t k => castTop (ef_8_14 m o1 o2) k
  obtain ⟨T1, X1, e1, st1⟩ := getF X0 hx hZ hown (host := "") (Or.inl (wk69 hw)) Via.refl e0 f1 (g := (mkF m 1 #[.val (.ref o1), .val (.ref o2)] [(.ref o2)])) rfl rfl (hb hby d8_1)
  obtain ⟨T2, X2, e2, st2⟩ := getF X1 hx hZ hown (host := "") (Or.inl (wk71 hw)) Via.refl e1 f2 (g := (mkF m 9 #[.val (.ref o1), .val (.ref o2)] [(.ref o2), (.ref o1)])) rfl rfl (hb hby d8_9)
  obtain ⟨T3, h3, X3, e3, W3, st3⟩ := putF X2 hx hZ hown (host := "") (Or.inl (wk73 hw)) Via.refl e2 f4 f3 (Or.inl (wk74 hw)) (wk2 hw) (ty := (.object "com/example/tidemark/tidemark/MemoryEntry")) (by decide) rfl rfl (g := (mkF m 12 #[.val (.ref o1), .val (.ref o2)] [(.ref o3), (.ref o1)])) rfl rfl (hb hby d8_12)
  have F3 : Fld Z h3 o1 "com/example/tidemark/tidemark/RecencyList" "oldest" "Lcom/example/tidemark/tidemark/MemoryEntry;" (.ref o3) := f4.same W3
  have N3 := Fr.snoc X3 N0 g5
  have O4 := O0.wr W3 g5
  have t5 := (f2.other W3 (Or.inl u6))
  obtain ⟨T6, X6, e6, st6⟩ := getF X3 hx hZ hown (host := "") (Or.inl (wk71 hw)) Via.refl e3 t5 (g := (mkF m 30 #[.val (.ref o1), .val (.ref o2)] [(.ref o2)])) rfl rfl (hb hby d8_30)
  obtain ⟨T7, X7, e7, st7⟩ := getF X6 hx hZ hown (host := "") (Or.inl (wk71 hw)) Via.refl e6 t5 (g := (mkF m 48 #[.val (.ref o1), .val (.ref o2)] [(.ref o2)])) rfl rfl (hb hby d8_48)
  have t8 := (f1.other W3 (Or.inl u6))
  obtain ⟨T9, X9, e9, st9⟩ := getF X7 hx hZ hown (host := "") (Or.inl (wk69 hw)) Via.refl e7 t8 (g := (mkF m 52 #[.val (.ref o1), .val (.ref o2)] [(.ref o2), (.ref o3)])) rfl rfl (hb hby d8_52)
  have t10 := (f8.other W3 (Or.inl u9))
  have t11 := (f7.wr W3)
  obtain ⟨T12, h12, X12, e12, W12, st12⟩ := putF X9 hx hZ hown (host := "") (Or.inl (wk69 hw)) Via.refl e9 t10 t11 (Or.inl (wk70 hw)) (wk11 hw) (ty := (.object "com/example/tidemark/tidemark/MemoryEntry")) (by decide) rfl rfl (g := (mkF m 55 #[.val (.ref o1), .val (.ref o2)] [.null, (.ref o3)])) rfl rfl (hb hby d8_55)
  have F12 : Fld Z h12 o3 "com/example/tidemark/tidemark/MemoryEntry" "older" "Lcom/example/tidemark/tidemark/MemoryEntry;" .null := t10.same W12
  have N12 := Fr.snoc X12 N3 g10
  have O13 := O4.wr W12 g10
  have t14 := (t8.other W12 (Or.inl u12))
  have t15 := ((f11.wr W3).wr W12)
  obtain ⟨T16, h16, X16, e16, W16, st16⟩ := putF X12 hx hZ hown (host := "") (Or.inl (wk69 hw)) Via.refl e12 t14 t15 (Or.inl (wk70 hw)) (wk11 hw) (ty := (.object "com/example/tidemark/tidemark/MemoryEntry")) (by decide) rfl rfl (g := (mkF m 60 #[.val (.ref o1), .val (.ref o2)] [.null, (.ref o2)])) rfl rfl (hb hby d8_60)
  have F16 : Fld Z h16 o2 "com/example/tidemark/tidemark/MemoryEntry" "older" "Lcom/example/tidemark/tidemark/MemoryEntry;" .null := t14.same W16
  have N16 := Fr.snoc X16 N12 g13
  have O17 := O13.wr W16 g13
  have t18 := ((t5.other W12 (Or.inl u12)).other W16 (Or.inr (sn62 hw)))
  have t19 := (t15.wr W16)
  obtain ⟨T20, h20, X20, e20, W20, st20⟩ := putF X16 hx hZ hown (host := "") (Or.inl (wk71 hw)) Via.refl e16 t18 t19 (Or.inl (wk72 hw)) (wk11 hw) (ty := (.object "com/example/tidemark/tidemark/MemoryEntry")) (by decide) rfl rfl (g := (mkF m 65 #[.val (.ref o1), .val (.ref o2)] [.null, (.ref o2)])) rfl rfl (hb hby d8_65)
  have F20 : Fld Z h20 o2 "com/example/tidemark/tidemark/MemoryEntry" "newer" "Lcom/example/tidemark/tidemark/MemoryEntry;" .null := t18.same W20
  have N20 := Fr.snoc X20 N16 g13
  have O21 := O17.wr W20 g13
  have t22 := ((((f14.other W3 (Or.inl u6)).other W12 (Or.inl u12)).other W16 (Or.inr (sn83 hw))).other W20 (Or.inr (sn84 hw)))
  have t23 := (t19.wr W20)
  obtain ⟨T24, h24, X24, e24, W24, st24⟩ := putF X20 hx hZ hown (host := "") (Or.inl (wk65 hw)) Via.refl e20 t22 t23 (Or.inl (wk66 hw)) (wk11 hw) (ty := (.object "com/example/tidemark/tidemark/RecencyList")) (by decide) rfl rfl (g := (mkF m 70 #[.val (.ref o1), .val (.ref o2)] [.null, (.ref o2)])) rfl rfl (hb hby d8_70)
  have F24 : Fld Z h24 o2 "com/example/tidemark/tidemark/MemoryEntry" "list" "Lcom/example/tidemark/tidemark/RecencyList;" .null := t22.same W24
  have N24 := Fr.snoc X24 N20 g13
  have O25 := O21.wr W24 g13
  have t26 := (((((f15.other W3 (Or.inr (sn66 hw))).other W12 (Or.inl (Ne.symm u9))).other W16 (Or.inl (Ne.symm u6))).other W20 (Or.inl (Ne.symm u6))).other W24 (Or.inl (Ne.symm u6)))
  obtain ⟨T27, X27, e27, st27⟩ := getF X24 hx hZ hown (host := "") (Or.inl (wk75 hw)) Via.refl e24 t26 (g := (mkF m 75 #[.val (.ref o1), .val (.ref o2)] [(.ref o1), (.ref o1)])) rfl rfl (hb hby d8_75)
  have t28 := (((((f3.wr W3).wr W12).wr W16).wr W20).wr W24)
  obtain ⟨T29, h29, X29, e29, W29, st29⟩ := putF X27 hx hZ hown (host := "") (Or.inl (wk75 hw)) Via.refl e27 t26 t28 (Or.inl (wk76 hw)) (wk2 hw) (ty := .long) (by decide) rfl rfl (g := (mkF m 80 #[.val (.ref o1), .val (.ref o2)] [(.long (1 : Int64)), (.ref o1)])) rfl rfl (hb hby d8_80)
  have F29 : Fld Z h29 o1 "com/example/tidemark/tidemark/RecencyList" "size" "J" (.long (1 : Int64)) := t26.same W29
  have N29 := Fr.snoc X29 N24 g5
  have O30 := O25.wr W29 g5
  have t31 := ((((((f16.other W3 (Or.inr (sn69 hw))).other W12 (Or.inl (Ne.symm u9))).other W16 (Or.inl (Ne.symm u6))).other W20 (Or.inl (Ne.symm u6))).other W24 (Or.inl (Ne.symm u6))).other W29 (Or.inr (sn71 hw)))
  obtain ⟨T32, X32, e32, st32⟩ := getF X29 hx hZ hown (host := "") (Or.inl (wk77 hw)) Via.refl e29 t31 (g := (mkF m 85 #[.val (.ref o1), .val (.ref o2)] [(.ref o1), (.ref o1)])) rfl rfl (hb hby d8_85)
  have t33 := ((((((f17.other W3 (Or.inl u6)).other W12 (Or.inl u12)).other W16 (Or.inr (sn74 hw))).other W20 (Or.inr (sn75 hw))).other W24 (Or.inr (sn73 hw))).other W29 (Or.inl u6))
  obtain ⟨T34, X34, e34, st34⟩ := getF X32 hx hZ hown (host := "") (Or.inl (wk79 hw)) Via.refl e32 t33 (g := (mkF m 89 #[.val (.ref o1), .val (.ref o2)] [(.ref o2), (.long q4), (.ref o1)])) rfl rfl (hb hby d8_89)
  have t35 := (t28.wr W29)
  obtain ⟨T36, h36, X36, e36, W36, st36⟩ := putF X34 hx hZ hown (host := "") (Or.inl (wk77 hw)) Via.refl e34 t31 t35 (Or.inl (wk78 hw)) (wk2 hw) (ty := .long) (by decide) rfl rfl (g := (mkF m 93 #[.val (.ref o1), .val (.ref o2)] [(.long (q4 - q5)), (.ref o1)])) rfl rfl (hb hby d8_93)
  have F36 : Fld Z h36 o1 "com/example/tidemark/tidemark/RecencyList" "weight" "J" (.long (q4 - q5)) := t31.same W36
  have N36 := Fr.snoc X36 N29 g5
  have O37 := O30.wr W36 g5
  obtain ⟨fs, hr, hrun, hended, hWm, hsame⟩ := X36.leave (v := none) (fun _ => rfl)
  have Kf38 : own_KL h0 h36 [⟨o1, Jvm.RoadKit.slotOf Z "com/example/tidemark/tidemark/RecencyList" "oldest" "Lcom/example/tidemark/tidemark/MemoryEntry;"⟩, ⟨o3, Jvm.RoadKit.slotOf Z "com/example/tidemark/tidemark/MemoryEntry" "older" "Lcom/example/tidemark/tidemark/MemoryEntry;"⟩, ⟨o2, Jvm.RoadKit.slotOf Z "com/example/tidemark/tidemark/MemoryEntry" "older" "Lcom/example/tidemark/tidemark/MemoryEntry;"⟩, ⟨o2, Jvm.RoadKit.slotOf Z "com/example/tidemark/tidemark/MemoryEntry" "newer" "Lcom/example/tidemark/tidemark/MemoryEntry;"⟩, ⟨o2, Jvm.RoadKit.slotOf Z "com/example/tidemark/tidemark/MemoryEntry" "list" "Lcom/example/tidemark/tidemark/RecencyList;"⟩, ⟨o1, Jvm.RoadKit.slotOf Z "com/example/tidemark/tidemark/RecencyList" "size" "J"⟩, ⟨o1, Jvm.RoadKit.slotOf Z "com/example/tidemark/tidemark/RecencyList" "weight" "J"⟩] := (own_klW (own_klW (own_klW (own_klW (own_klW (own_klW (own_klW (own_kl0 h0 [⟨o1, Jvm.RoadKit.slotOf Z "com/example/tidemark/tidemark/RecencyList" "oldest" "Lcom/example/tidemark/tidemark/MemoryEntry;"⟩, ⟨o3, Jvm.RoadKit.slotOf Z "com/example/tidemark/tidemark/MemoryEntry" "older" "Lcom/example/tidemark/tidemark/MemoryEntry;"⟩, ⟨o2, Jvm.RoadKit.slotOf Z "com/example/tidemark/tidemark/MemoryEntry" "older" "Lcom/example/tidemark/tidemark/MemoryEntry;"⟩, ⟨o2, Jvm.RoadKit.slotOf Z "com/example/tidemark/tidemark/MemoryEntry" "newer" "Lcom/example/tidemark/tidemark/MemoryEntry;"⟩, ⟨o2, Jvm.RoadKit.slotOf Z "com/example/tidemark/tidemark/MemoryEntry" "list" "Lcom/example/tidemark/tidemark/RecencyList;"⟩, ⟨o1, Jvm.RoadKit.slotOf Z "com/example/tidemark/tidemark/RecencyList" "size" "J"⟩, ⟨o1, Jvm.RoadKit.slotOf Z "com/example/tidemark/tidemark/RecencyList" "weight" "J"⟩]) W3 (Or.inl (List.mem_of_getElem? (i := 0) rfl))) W12 (Or.inl (List.mem_of_getElem? (i := 1) rfl))) W16 (Or.inl (List.mem_of_getElem? (i := 2) rfl))) W20 (Or.inl (List.mem_of_getElem? (i := 3) rfl))) W24 (Or.inl (List.mem_of_getElem? (i := 4) rfl))) W29 (Or.inl (List.mem_of_getElem? (i := 5) rfl))) W36 (Or.inl (List.mem_of_getElem? (i := 6) rfl)))
  have t39 := ((((F16.other W20 (Or.inr (sn87 hw))).other W24 (Or.inr (sn59 hw))).other W29 (Or.inl u6)).other W36 (Or.inl u6))
  have t40 := (((F20.other W24 (Or.inr (sn61 hw))).other W29 (Or.inl u6)).other W36 (Or.inl u6))
  have t41 := ((((((F3.other W12 (Or.inl (Ne.symm u9))).other W16 (Or.inl (Ne.symm u6))).other W20 (Or.inl (Ne.symm u6))).other W24 (Or.inl (Ne.symm u6))).other W29 (Or.inr (sn89 hw))).other W36 (Or.inr (sn90 hw)))
  have t42 := (((((F12.other W16 (Or.inl (Ne.symm u12))).other W20 (Or.inl (Ne.symm u12))).other W24 (Or.inl (Ne.symm u12))).other W29 (Or.inl u9)).other W36 (Or.inl u9))
  have t43 := ((F24.other W29 (Or.inl u6)).other W36 (Or.inl u6))
  have t44 := (F29.other W36 (Or.inr (sn91 hw)))
  refine ⟨_, _, pre0 _ ?_, hrun, hended, _, _, rfl, ?_, ⟨_, rfl⟩, hWm, hsame.mono (by decide) (by decide)⟩
  · show Steps p.tables e below (s₁.setTop (mkF m 0 #[.val (.ref o1), .val (.ref o2)] [])) _
    refine sA X0 hx hby d8_0 rfl rfl ?_
    refine st1 _ ?_
    refine XS.ifnonnullNo X1.here hx rfl (hb hby d8_4) rfl ?_
    refine sA X1 hx hby d8_7 rfl rfl ?_
    refine sA X1 hx hby d8_8 rfl rfl ?_
    refine st2 _ ?_
    refine st3 _ ?_
    refine sg (pc := 15) (pc' := 29) X3 hx hby d8_15 (by decide) (by decide) ?_
    refine sA X3 hx hby d8_29 rfl rfl ?_
    refine st6 _ ?_
    refine XS.ifnonnullYes X6.here hx rfl (pc0 := 33) (pc' := 47) rfl (hb hby d8_33) rfl (by decide) (by decide) ?_
    refine sA X6 hx hby d8_47 rfl rfl ?_
    refine st7 _ ?_
    refine sA X7 hx hby d8_51 rfl rfl ?_
    refine st9 _ ?_
    refine st12 _ ?_
    refine sA X12 hx hby d8_58 rfl rfl ?_
    refine XS.aconstNull X12.here hx rfl (hb hby d8_59) ?_
    refine st16 _ ?_
    refine sA X16 hx hby d8_63 rfl rfl ?_
    refine XS.aconstNull X16.here hx rfl (hb hby d8_64) ?_
    refine st20 _ ?_
    refine sA X20 hx hby d8_68 rfl rfl ?_
    refine XS.aconstNull X20.here hx rfl (hb hby d8_69) ?_
    refine st24 _ ?_
    refine sA X24 hx hby d8_73 rfl rfl ?_
    refine XS.dup X24.here hx rfl (hb hby d8_74) rfl rfl ?_
    refine st27 _ ?_
    refine XS.lconst X27.here hx rfl (hb hby d8_78) ?_
    refine XS.lsub X27.here hx rfl (hb hby d8_79) rfl ?_
    refine st29 _ ?_
    refine sA X29 hx hby d8_83 rfl rfl ?_
    refine XS.dup X29.here hx rfl (hb hby d8_84) rfl rfl ?_
    refine st32 _ ?_
    refine sA X32 hx hby d8_88 rfl rfl ?_
    refine st34 _ ?_
    refine XS.lsub X34.here hx rfl (hb hby d8_92) rfl ?_
    refine st36 _ ?_
    exact X36.returnOut hx Bd.returns (hb hby d8_96) hr
  · show Q8_14 Z w o1 o2 o3 q4 q5 h0 n0 _ T36.heap _
    rw [e36]
    exact ⟨rfl, N36, Kf38, t39, t40, t41, t42, t43, t44, F36⟩
theorem ef_9_15 (m : MethodId) (o1 : Addr) : entryFrame m #[(.ref o1)] 1 = mkF m 0 #[.val (.ref o1)] [] := by first | (simp [entryFrame, mkF, argsToLocals, Value.category]; done) | rfl
def Q9_15 (Z : State) (w : Nat → Addr) (o1 : Addr) (h0 : Heap) (n0 : Nat) (v : Option Value) (h : Heap) (L : List Loc) : Prop := v = some (.long (1 : Int64)) ∧ Fr n0 L ∧ h = h0
set_option maxRecDepth 65536 in
set_option maxHeartbeats 40000000 in
theorem rm9_15 (l : Launch) (Z : State) (a0 : Array Value) (hw : ∀ d ∈ tables_1, d.before a0 Z = true) (w : Nat → Addr) (hW : Wd Z w) (ws : List Jvm.Cond) (o1 : Addr) (h0 : Heap) (n0 : Nat) (O0 : Old Z n0 h0) (f1 : Fld Z h0 o1 "com/example/tidemark/tidemark/RecencyList" "size" "J" (.long (1 : Int64))) :
    MetFree l ym7 (head1 (Jvm.Cond.code ym7 prog_41_method_4_code 1 (some .long) :: ws) ({ frames := 0, cells := 0, slots := 0, locals := 0 } : Room)) (fun a U => a = #[(.ref o1)] ∧ Z.Warmed39 U.vm ∧ U.heap = h0) (fun _ _ _ _ _ => True) (fun _ U o U' => ∃ v L, o = .returned v ∧ Q9_15 Z w o1 h0 n0 v U'.heap L ∧ FrameEnd U o U' L ({ frames := 0, cells := 0, slots := 0, locals := 0 } : Room).cells ({ frames := 0, cells := 0, slots := 0, locals := 0 } : Room).slots) := by
  refine MetFree.of_bodySF (plainFor_of_name pnc_0) hisR ?_
  intro p e s m args below meth c s₁ Bd hml0 hP hK
  obtain ⟨rfl, hZ, hh⟩ := hP
  have hx := Bd.exec
  have hby := Bd.bytes
  have hml : c.maxLocals = 1 := hml0
  have hown : s.vm.findClass "com/example/tidemark/tidemark/RecencyList" = some m.cls := findClass_of_methodNamed Bd.named
  have hnm := (name_of_methodNamed Bd.named Bd.method).1
  have X0 : Stand p l e ({ frames := 0, cells := 0, slots := 0, locals := 0 } : Room) s m #[(.ref o1)] below meth c s₁ [] 0 0 := Stand.of_body Bd
  have e0 : s₁.heap = h0 := by rw [← hh, Bd.state]; rfl
  have N0 := Fr.nil n0
  skip
  have pre0 : ∀ t, Steps p.tables e below (s₁.setTop (mkF m 0 #[.val (.ref o1)] [])) t → Steps p.tables e below (s₁.setTop (entryFrame m #[(.ref o1)] 1)) t := fun t k => castTop (ef_9_15 m o1) k
  obtain ⟨T1, X1, e1, st1⟩ := getF X0 hx hZ hown (host := "") (Or.inl (wk75 hw)) Via.refl e0 f1 (g := (mkF m 1 #[.val (.ref o1)] [(.ref o1)])) rfl rfl (hb hby d9_1)
  obtain ⟨fs, hr, hrun, hended, hWm, hsame⟩ := X1.leave (v := some (.long (1 : Int64))) (fun h => by rw [Bd.returns] at h; cases h)
  refine ⟨_, _, pre0 _ ?_, hrun, hended, _, _, rfl, ?_, ⟨_, rfl⟩, hWm, hsame.mono (by decide) (by decide)⟩
  · show Steps p.tables e below (s₁.setTop (mkF m 0 #[.val (.ref o1)] [])) _
    refine sA X0 hx hby d9_0 rfl rfl ?_
    refine st1 _ ?_
    jvm_step X1.here [X1.here.top, hx, (hb hby d9_4), X1.method', Bd.returns, narrow]
    first | (intro acts; rw [hr _ acts rfl rfl rfl]) | rw [hr _ _ rfl rfl rfl]
    exact Steps.refl _
  · show Q9_15 Z w o1 h0 n0 _ T1.heap _
    rw [e1]
    exact ⟨rfl, N0, rfl⟩
theorem ef_7_16 (m : MethodId) (o1 : Addr) (o2 : Addr) : entryFrame m #[(.ref o1), (.ref o2)] 2 = mkF m 0 #[.val (.ref o1), .val (.ref o2)] [] := by first | (simp [entryFrame, mkF, argsToLocals, Value.category]; done) | rfl
def Q7_16 (Z : State) (w : Nat → Addr) (o1 : Addr) (o2 : Addr) (o3 : Addr) (q4 : Int64) (q5 : Int64) (h0 : Heap) (n0 : Nat) (v : Option Value) (h : Heap) (L : List Loc) : Prop := v = none ∧ Fr n0 L ∧ own_KL h0 h [⟨o1, Jvm.RoadKit.slotOf Z "com/example/tidemark/tidemark/RecencyList" "stamps" "J"⟩, ⟨o2, Jvm.RoadKit.slotOf Z "com/example/tidemark/tidemark/MemoryEntry" "stamp" "J"⟩, ⟨o2, Jvm.RoadKit.slotOf Z "com/example/tidemark/tidemark/MemoryEntry" "list" "Lcom/example/tidemark/tidemark/RecencyList;"⟩, ⟨o2, Jvm.RoadKit.slotOf Z "com/example/tidemark/tidemark/MemoryEntry" "older" "Lcom/example/tidemark/tidemark/MemoryEntry;"⟩, ⟨o2, Jvm.RoadKit.slotOf Z "com/example/tidemark/tidemark/MemoryEntry" "newer" "Lcom/example/tidemark/tidemark/MemoryEntry;"⟩, ⟨o3, Jvm.RoadKit.slotOf Z "com/example/tidemark/tidemark/MemoryEntry" "newer" "Lcom/example/tidemark/tidemark/MemoryEntry;"⟩, ⟨o1, Jvm.RoadKit.slotOf Z "com/example/tidemark/tidemark/RecencyList" "newest" "Lcom/example/tidemark/tidemark/MemoryEntry;"⟩, ⟨o1, Jvm.RoadKit.slotOf Z "com/example/tidemark/tidemark/RecencyList" "size" "J"⟩, ⟨o1, Jvm.RoadKit.slotOf Z "com/example/tidemark/tidemark/RecencyList" "weight" "J"⟩] ∧ Fld Z h o1 "com/example/tidemark/tidemark/RecencyList" "stamps" "J" (.long (3 : Int64)) ∧ Fld Z h o2 "com/example/tidemark/tidemark/MemoryEntry" "stamp" "J" (.long (3 : Int64)) ∧ Fld Z h o2 "com/example/tidemark/tidemark/MemoryEntry" "list" "Lcom/example/tidemark/tidemark/RecencyList;" (.ref o1) ∧ Fld Z h o1 "com/example/tidemark/tidemark/RecencyList" "newest" "Lcom/example/tidemark/tidemark/MemoryEntry;" (.ref o2) ∧ Fld Z h o2 "com/example/tidemark/tidemark/MemoryEntry" "older" "Lcom/example/tidemark/tidemark/MemoryEntry;" (.ref o3) ∧ Fld Z h o2 "com/example/tidemark/tidemark/MemoryEntry" "newer" "Lcom/example/tidemark/tidemark/MemoryEntry;" .null ∧ Fld Z h o3 "com/example/tidemark/tidemark/MemoryEntry" "newer" "Lcom/example/tidemark/tidemark/MemoryEntry;" (.ref o2) ∧ Fld Z h o1 "com/example/tidemark/tidemark/RecencyList" "size" "J" (.long (2 : Int64)) ∧ Fld Z h o1 "com/example/tidemark/tidemark/RecencyList" "weight" "J" (.long (q4 + q5))
set_option maxRecDepth 65536 in
set_option maxHeartbeats 40000000 in
theorem rm7_16 (l : Launch) (Z : State) (a0 : Array Value) (hw : ∀ d ∈ tables_1, d.before a0 Z = true) (w : Nat → Addr) (hW : Wd Z w) (ws : List Jvm.Cond) (o1 : Addr) (o2 : Addr) (o3 : Addr) (q4 : Int64) (q5 : Int64) (h0 : Heap) (n0 : Nat) (O0 : Old Z n0 h0) (f1 : Fld Z h0 o1 "com/example/tidemark/tidemark/RecencyList" "stamps" "J" (.long (2 : Int64))) (f2 : Exa Z h0 o1 "com/example/tidemark/tidemark/RecencyList") (g3 : n0 ≤ o1) (f4 : Exa Z h0 o2 "com/example/tidemark/tidemark/MemoryEntry") (f5 : Fld Z h0 o2 "com/example/tidemark/tidemark/MemoryEntry" "stamp" "J" (.long (1 : Int64))) (u6 : o2 ≠ o1) (g7 : n0 ≤ o2) (f8 : Fld Z h0 o2 "com/example/tidemark/tidemark/MemoryEntry" "list" "Lcom/example/tidemark/tidemark/RecencyList;" .null) (f9 : Fld Z h0 o1 "com/example/tidemark/tidemark/RecencyList" "newest" "Lcom/example/tidemark/tidemark/MemoryEntry;" (.ref o3)) (f10 : Fld Z h0 o2 "com/example/tidemark/tidemark/MemoryEntry" "older" "Lcom/example/tidemark/tidemark/MemoryEntry;" .null) (f11 : Fld Z h0 o2 "com/example/tidemark/tidemark/MemoryEntry" "newer" "Lcom/example/tidemark/tidemark/MemoryEntry;" .null) (f12 : Exa Z h0 o3 "com/example/tidemark/tidemark/MemoryEntry") (f13 : Fld Z h0 o3 "com/example/tidemark/tidemark/MemoryEntry" "newer" "Lcom/example/tidemark/tidemark/MemoryEntry;" .null) (u14 : o3 ≠ o1) (u15 : o3 ≠ o2) (g16 : n0 ≤ o3) (f17 : Fld Z h0 o1 "com/example/tidemark/tidemark/RecencyList" "size" "J" (.long (1 : Int64))) (f18 : Fld Z h0 o1 "com/example/tidemark/tidemark/RecencyList" "weight" "J" (.long q4)) (f19 : Fld Z h0 o2 "com/example/tidemark/tidemark/MemoryEntry" "charge" "J" (.long q5)) :
    MetFree l ym5 (head1 (Jvm.Cond.code ym5 prog_41_method_7_code 2 none :: ws) ({ frames := 0, cells := 0, slots := 0, locals := 0 } : Room)) (fun a U => a = #[(.ref o1), (.ref o2)] ∧ Z.Warmed39 U.vm ∧ U.heap = h0) (fun _ _ _ _ _ => True) (fun _ U o U' => ∃ v L, o = .returned v ∧ Q7_16 Z w o1 o2 o3 q4 q5 h0 n0 v U'.heap L ∧ FrameEnd U o U' L ({ frames := 0, cells := 0, slots := 0, locals := 0 } : Room).cells ({ frames := 0, cells := 0, slots := 0, locals := 0 } : Room).slots) := by
  refine MetFree.of_bodySF (plainFor_of_name pnc_0) hisR ?_
  intro p e s m args below meth c s₁ Bd hml0 hP hK
  obtain ⟨rfl, hZ, hh⟩ := hP
  have hx := Bd.exec
  have hby := Bd.bytes
  have hml : c.maxLocals = 2 := hml0
  have hown : s.vm.findClass "com/example/tidemark/tidemark/RecencyList" = some m.cls := findClass_of_methodNamed Bd.named
  have hnm := (name_of_methodNamed Bd.named Bd.method).1
  have X0 : Stand p l e ({ frames := 0, cells := 0, slots := 0, locals := 0 } : Room) s m #[(.ref o1), (.ref o2)] below meth c s₁ [] 0 0 := Stand.of_body Bd
  have e0 : s₁.heap = h0 := by rw [← hh, Bd.state]; rfl
  have N0 := Fr.nil n0
  skip
  have pre0 : ∀ t, Steps p.tables e below (s₁.setTop (mkF m 0 #[.val (.ref o1), .val (.ref o2)] [])) t → Steps p.tables e below (s₁.setTop (entryFrame m #[(.ref o1), (.ref o2)] 2)) t := fun t k => castTop (ef_7_16 m o1 o2) k
  obtain ⟨T1, X1, e1, st1⟩ := getF X0 hx hZ hown (host := "") (Or.inl (wk61 hw)) Via.refl e0 f1 (g := (mkF m 3 #[.val (.ref o1), .val (.ref o2)] [(.ref o1), (.ref o1), (.ref o2)])) rfl rfl (hb hby d7_3)
  obtain ⟨T2, h2, X2, e2, W2, st2⟩ := putF X1 hx hZ hown (host := "") (Or.inl (wk61 hw)) Via.refl e1 f1 f2 (Or.inl (wk62 hw)) (wk2 hw) (ty := .long) (by decide) rfl rfl (g := (mkF m 9 #[.val (.ref o1), .val (.ref o2)] [(.long (3 : Int64)), (.ref o1), (.long (3 : Int64)), (.ref o2)])) rfl rfl (hb hby d7_9)
  have F2 : Fld Z h2 o1 "com/example/tidemark/tidemark/RecencyList" "stamps" "J" (.long (3 : Int64)) := f1.same W2
  have N2 := Fr.snoc X2 N0 g3
  have O3 := O0.wr W2 g3
  have t4 := (f5.other W2 (Or.inl u6))
  have t5 := (f4.wr W2)
  obtain ⟨T6, h6, X6, e6, W6, st6⟩ := putF X2 hx hZ hown (host := "") (Or.inl (wk63 hw)) Via.refl e2 t4 t5 (Or.inl (wk64 hw)) (wk11 hw) (ty := .long) (by decide) rfl rfl (g := (mkF m 12 #[.val (.ref o1), .val (.ref o2)] [(.long (3 : Int64)), (.ref o2)])) rfl rfl (hb hby d7_12)
  have F6 : Fld Z h6 o2 "com/example/tidemark/tidemark/MemoryEntry" "stamp" "J" (.long (3 : Int64)) := t4.same W6
  have N6 := Fr.snoc X6 N2 g7
  have O7 := O3.wr W6 g7
  have t8 := ((f8.other W2 (Or.inl u6)).other W6 (Or.inr (sn56 hw)))
  have t9 := (t5.wr W6)
  obtain ⟨T10, h10, X10, e10, W10, st10⟩ := putF X6 hx hZ hown (host := "") (Or.inl (wk65 hw)) Via.refl e6 t8 t9 (Or.inl (wk66 hw)) (wk11 hw) (ty := (.object "com/example/tidemark/tidemark/RecencyList")) (by decide) rfl rfl (g := (mkF m 17 #[.val (.ref o1), .val (.ref o2)] [(.ref o1), (.ref o2)])) rfl rfl (hb hby d7_17)
  have F10 : Fld Z h10 o2 "com/example/tidemark/tidemark/MemoryEntry" "list" "Lcom/example/tidemark/tidemark/RecencyList;" (.ref o1) := t8.same W10
  have N10 := Fr.snoc X10 N6 g7
  have O11 := O7.wr W10 g7
  have t12 := (((f9.other W2 (Or.inr (sn57 hw))).other W6 (Or.inl (Ne.symm u6))).other W10 (Or.inl (Ne.symm u6)))
  obtain ⟨T13, X13, e13, st13⟩ := getF X10 hx hZ hown (host := "") (Or.inl (wk67 hw)) Via.refl e10 t12 (g := (mkF m 22 #[.val (.ref o1), .val (.ref o2)] [(.ref o1), (.ref o2)])) rfl rfl (hb hby d7_22)
  have t14 := (((f10.other W2 (Or.inl u6)).other W6 (Or.inr (sn58 hw))).other W10 (Or.inr (sn59 hw)))
  have t15 := (t9.wr W10)
  obtain ⟨T16, h16, X16, e16, W16, st16⟩ := putF X13 hx hZ hown (host := "") (Or.inl (wk69 hw)) Via.refl e13 t14 t15 (Or.inl (wk70 hw)) (wk11 hw) (ty := (.object "com/example/tidemark/tidemark/MemoryEntry")) (by decide) rfl rfl (g := (mkF m 25 #[.val (.ref o1), .val (.ref o2)] [(.ref o3), (.ref o2)])) rfl rfl (hb hby d7_25)
  have F16 : Fld Z h16 o2 "com/example/tidemark/tidemark/MemoryEntry" "older" "Lcom/example/tidemark/tidemark/MemoryEntry;" (.ref o3) := t14.same W16
  have N16 := Fr.snoc X16 N10 g7
  have O17 := O11.wr W16 g7
  have t18 := ((((f11.other W2 (Or.inl u6)).other W6 (Or.inr (sn60 hw))).other W10 (Or.inr (sn61 hw))).other W16 (Or.inr (sn62 hw)))
  have t19 := (t15.wr W16)
  obtain ⟨T20, h20, X20, e20, W20, st20⟩ := putF X16 hx hZ hown (host := "") (Or.inl (wk71 hw)) Via.refl e16 t18 t19 (Or.inl (wk72 hw)) (wk11 hw) (ty := (.object "com/example/tidemark/tidemark/MemoryEntry")) (by decide) rfl rfl (g := (mkF m 30 #[.val (.ref o1), .val (.ref o2)] [.null, (.ref o2)])) rfl rfl (hb hby d7_30)
  have F20 : Fld Z h20 o2 "com/example/tidemark/tidemark/MemoryEntry" "newer" "Lcom/example/tidemark/tidemark/MemoryEntry;" .null := t18.same W20
  have N20 := Fr.snoc X20 N16 g7
  have O21 := O17.wr W20 g7
  have t22 := ((t12.other W16 (Or.inl (Ne.symm u6))).other W20 (Or.inl (Ne.symm u6)))
  obtain ⟨T23, X23, e23, st23⟩ := getF X20 hx hZ hown (host := "") (Or.inl (wk67 hw)) Via.refl e20 t22 (g := (mkF m 34 #[.val (.ref o1), .val (.ref o2)] [(.ref o1)])) rfl rfl (hb hby d7_34)
  obtain ⟨T24, X24, e24, st24⟩ := getF X23 hx hZ hown (host := "") (Or.inl (wk67 hw)) Via.refl e23 t22 (g := (mkF m 49 #[.val (.ref o1), .val (.ref o2)] [(.ref o1)])) rfl rfl (hb hby d7_49)
  have t25 := (((((f13.other W2 (Or.inl u14)).other W6 (Or.inl u15)).other W10 (Or.inl u15)).other W16 (Or.inl u15)).other W20 (Or.inl u15))
  have t26 := (((((f12.wr W2).wr W6).wr W10).wr W16).wr W20)
  obtain ⟨T27, h27, X27, e27, W27, st27⟩ := putF X24 hx hZ hown (host := "") (Or.inl (wk71 hw)) Via.refl e24 t25 t26 (Or.inl (wk72 hw)) (wk11 hw) (ty := (.object "com/example/tidemark/tidemark/MemoryEntry")) (by decide) rfl rfl (g := (mkF m 53 #[.val (.ref o1), .val (.ref o2)] [(.ref o2), (.ref o3)])) rfl rfl (hb hby d7_53)
  have F27 : Fld Z h27 o3 "com/example/tidemark/tidemark/MemoryEntry" "newer" "Lcom/example/tidemark/tidemark/MemoryEntry;" (.ref o2) := t25.same W27
  have N27 := Fr.snoc X27 N20 g16
  have O28 := O21.wr W27 g16
  have t29 := (t22.other W27 (Or.inl (Ne.symm u14)))
  have t30 := ((((((f2.wr W2).wr W6).wr W10).wr W16).wr W20).wr W27)
  obtain ⟨T31, h31, X31, e31, W31, st31⟩ := putF X27 hx hZ hown (host := "") (Or.inl (wk67 hw)) Via.refl e27 t29 t30 (Or.inl (wk68 hw)) (wk2 hw) (ty := (.object "com/example/tidemark/tidemark/MemoryEntry")) (by decide) rfl rfl (g := (mkF m 58 #[.val (.ref o1), .val (.ref o2)] [(.ref o2), (.ref o1)])) rfl rfl (hb hby d7_58)
  have F31 : Fld Z h31 o1 "com/example/tidemark/tidemark/RecencyList" "newest" "Lcom/example/tidemark/tidemark/MemoryEntry;" (.ref o2) := t29.same W31
  have N31 := Fr.snoc X31 N27 g3
  have O32 := O28.wr W31 g3
  have t33 := (((((((f17.other W2 (Or.inr (sn65 hw))).other W6 (Or.inl (Ne.symm u6))).other W10 (Or.inl (Ne.symm u6))).other W16 (Or.inl (Ne.symm u6))).other W20 (Or.inl (Ne.symm u6))).other W27 (Or.inl (Ne.symm u14))).other W31 (Or.inr (sn67 hw)))
  obtain ⟨T34, X34, e34, st34⟩ := getF X31 hx hZ hown (host := "") (Or.inl (wk75 hw)) Via.refl e31 t33 (g := (mkF m 63 #[.val (.ref o1), .val (.ref o2)] [(.ref o1), (.ref o1)])) rfl rfl (hb hby d7_63)
  have t35 := (t30.wr W31)
  obtain ⟨T36, h36, X36, e36, W36, st36⟩ := putF X34 hx hZ hown (host := "") (Or.inl (wk75 hw)) Via.refl e34 t33 t35 (Or.inl (wk76 hw)) (wk2 hw) (ty := .long) (by decide) rfl rfl (g := (mkF m 68 #[.val (.ref o1), .val (.ref o2)] [(.long (2 : Int64)), (.ref o1)])) rfl rfl (hb hby d7_68)
  have F36 : Fld Z h36 o1 "com/example/tidemark/tidemark/RecencyList" "size" "J" (.long (2 : Int64)) := t33.same W36
  have N36 := Fr.snoc X36 N31 g3
  have O37 := O32.wr W36 g3
  have t38 := ((((((((f18.other W2 (Or.inr (sn68 hw))).other W6 (Or.inl (Ne.symm u6))).other W10 (Or.inl (Ne.symm u6))).other W16 (Or.inl (Ne.symm u6))).other W20 (Or.inl (Ne.symm u6))).other W27 (Or.inl (Ne.symm u14))).other W31 (Or.inr (sn70 hw))).other W36 (Or.inr (sn71 hw)))
  obtain ⟨T39, X39, e39, st39⟩ := getF X36 hx hZ hown (host := "") (Or.inl (wk77 hw)) Via.refl e36 t38 (g := (mkF m 73 #[.val (.ref o1), .val (.ref o2)] [(.ref o1), (.ref o1)])) rfl rfl (hb hby d7_73)
  have t40 := ((((((((f19.other W2 (Or.inl u6)).other W6 (Or.inr (sn72 hw))).other W10 (Or.inr (sn73 hw))).other W16 (Or.inr (sn74 hw))).other W20 (Or.inr (sn75 hw))).other W27 (Or.inl (Ne.symm u15))).other W31 (Or.inl u6)).other W36 (Or.inl u6))
  obtain ⟨T41, X41, e41, st41⟩ := getF X39 hx hZ hown (host := "") (Or.inl (wk79 hw)) Via.refl e39 t40 (g := (mkF m 77 #[.val (.ref o1), .val (.ref o2)] [(.ref o2), (.long q4), (.ref o1)])) rfl rfl (hb hby d7_77)
  have t42 := (t35.wr W36)
  obtain ⟨T43, h43, X43, e43, W43, st43⟩ := putF X41 hx hZ hown (host := "") (Or.inl (wk77 hw)) Via.refl e41 t38 t42 (Or.inl (wk78 hw)) (wk2 hw) (ty := .long) (by decide) rfl rfl (g := (mkF m 81 #[.val (.ref o1), .val (.ref o2)] [(.long (q4 + q5)), (.ref o1)])) rfl rfl (hb hby d7_81)
  have F43 : Fld Z h43 o1 "com/example/tidemark/tidemark/RecencyList" "weight" "J" (.long (q4 + q5)) := t38.same W43
  have N43 := Fr.snoc X43 N36 g3
  have O44 := O37.wr W43 g3
  obtain ⟨fs, hr, hrun, hended, hWm, hsame⟩ := X43.leave (v := none) (fun _ => rfl)
  have Kf45 : own_KL h0 h43 [⟨o1, Jvm.RoadKit.slotOf Z "com/example/tidemark/tidemark/RecencyList" "stamps" "J"⟩, ⟨o2, Jvm.RoadKit.slotOf Z "com/example/tidemark/tidemark/MemoryEntry" "stamp" "J"⟩, ⟨o2, Jvm.RoadKit.slotOf Z "com/example/tidemark/tidemark/MemoryEntry" "list" "Lcom/example/tidemark/tidemark/RecencyList;"⟩, ⟨o2, Jvm.RoadKit.slotOf Z "com/example/tidemark/tidemark/MemoryEntry" "older" "Lcom/example/tidemark/tidemark/MemoryEntry;"⟩, ⟨o2, Jvm.RoadKit.slotOf Z "com/example/tidemark/tidemark/MemoryEntry" "newer" "Lcom/example/tidemark/tidemark/MemoryEntry;"⟩, ⟨o3, Jvm.RoadKit.slotOf Z "com/example/tidemark/tidemark/MemoryEntry" "newer" "Lcom/example/tidemark/tidemark/MemoryEntry;"⟩, ⟨o1, Jvm.RoadKit.slotOf Z "com/example/tidemark/tidemark/RecencyList" "newest" "Lcom/example/tidemark/tidemark/MemoryEntry;"⟩, ⟨o1, Jvm.RoadKit.slotOf Z "com/example/tidemark/tidemark/RecencyList" "size" "J"⟩, ⟨o1, Jvm.RoadKit.slotOf Z "com/example/tidemark/tidemark/RecencyList" "weight" "J"⟩] := (own_klW (own_klW (own_klW (own_klW (own_klW (own_klW (own_klW (own_klW (own_klW (own_kl0 h0 [⟨o1, Jvm.RoadKit.slotOf Z "com/example/tidemark/tidemark/RecencyList" "stamps" "J"⟩, ⟨o2, Jvm.RoadKit.slotOf Z "com/example/tidemark/tidemark/MemoryEntry" "stamp" "J"⟩, ⟨o2, Jvm.RoadKit.slotOf Z "com/example/tidemark/tidemark/MemoryEntry" "list" "Lcom/example/tidemark/tidemark/RecencyList;"⟩, ⟨o2, Jvm.RoadKit.slotOf Z "com/example/tidemark/tidemark/MemoryEntry" "older" "Lcom/example/tidemark/tidemark/MemoryEntry;"⟩, ⟨o2, Jvm.RoadKit.slotOf Z "com/example/tidemark/tidemark/MemoryEntry" "newer" "Lcom/example/tidemark/tidemark/MemoryEntry;"⟩, ⟨o3, Jvm.RoadKit.slotOf Z "com/example/tidemark/tidemark/MemoryEntry" "newer" "Lcom/example/tidemark/tidemark/MemoryEntry;"⟩, ⟨o1, Jvm.RoadKit.slotOf Z "com/example/tidemark/tidemark/RecencyList" "newest" "Lcom/example/tidemark/tidemark/MemoryEntry;"⟩, ⟨o1, Jvm.RoadKit.slotOf Z "com/example/tidemark/tidemark/RecencyList" "size" "J"⟩, ⟨o1, Jvm.RoadKit.slotOf Z "com/example/tidemark/tidemark/RecencyList" "weight" "J"⟩]) W2 (Or.inl (List.mem_of_getElem? (i := 0) rfl))) W6 (Or.inl (List.mem_of_getElem? (i := 1) rfl))) W10 (Or.inl (List.mem_of_getElem? (i := 2) rfl))) W16 (Or.inl (List.mem_of_getElem? (i := 3) rfl))) W20 (Or.inl (List.mem_of_getElem? (i := 4) rfl))) W27 (Or.inl (List.mem_of_getElem? (i := 5) rfl))) W31 (Or.inl (List.mem_of_getElem? (i := 6) rfl))) W36 (Or.inl (List.mem_of_getElem? (i := 7) rfl))) W43 (Or.inl (List.mem_of_getElem? (i := 8) rfl)))
  have t46 := ((((((((F2.other W6 (Or.inl (Ne.symm u6))).other W10 (Or.inl (Ne.symm u6))).other W16 (Or.inl (Ne.symm u6))).other W20 (Or.inl (Ne.symm u6))).other W27 (Or.inl (Ne.symm u14))).other W31 (Or.inr (sn77 hw))).other W36 (Or.inr (sn78 hw))).other W43 (Or.inr (sn79 hw)))
  have t47 := (((((((F6.other W10 (Or.inr (sn80 hw))).other W16 (Or.inr (sn81 hw))).other W20 (Or.inr (sn82 hw))).other W27 (Or.inl (Ne.symm u15))).other W31 (Or.inl u6)).other W36 (Or.inl u6)).other W43 (Or.inl u6))
  have t48 := ((((((F10.other W16 (Or.inr (sn83 hw))).other W20 (Or.inr (sn84 hw))).other W27 (Or.inl (Ne.symm u15))).other W31 (Or.inl u6)).other W36 (Or.inl u6)).other W43 (Or.inl u6))
  have t49 := ((F31.other W36 (Or.inr (sn85 hw))).other W43 (Or.inr (sn86 hw)))
  have t50 := (((((F16.other W20 (Or.inr (sn87 hw))).other W27 (Or.inl (Ne.symm u15))).other W31 (Or.inl u6)).other W36 (Or.inl u6)).other W43 (Or.inl u6))
  have t51 := ((((F20.other W27 (Or.inl (Ne.symm u15))).other W31 (Or.inl u6)).other W36 (Or.inl u6)).other W43 (Or.inl u6))
  have t52 := (((F27.other W31 (Or.inl u14)).other W36 (Or.inl u14)).other W43 (Or.inl u14))
  have t53 := (F36.other W43 (Or.inr (sn91 hw)))
  refine ⟨_, _, pre0 _ ?_, hrun, hended, _, _, rfl, ?_, ⟨_, rfl⟩, hWm, hsame.mono (by decide) (by decide)⟩
  · show Steps p.tables e below (s₁.setTop (mkF m 0 #[.val (.ref o1), .val (.ref o2)] [])) _
    refine sA X0 hx hby d7_0 rfl rfl ?_
    refine sA X0 hx hby d7_1 rfl rfl ?_
    refine XS.dup X0.here hx rfl (hb hby d7_2) rfl rfl ?_
    refine st1 _ ?_
    refine XS.lconst X1.here hx rfl (hb hby d7_6) ?_
    refine XS.ladd X1.here hx rfl (hb hby d7_7) rfl ?_
    jvm_step X1.here [X1.here.top, hx, (hb hby d7_8), Value.category]
    show Steps p.tables e below (T1.setTop (mkF m 9 #[.val (.ref o1), .val (.ref o2)] [(.long (3 : Int64)), (.ref o1), (.long (3 : Int64)), (.ref o2)])) _
    refine st2 _ ?_
    refine st6 _ ?_
    refine sA X6 hx hby d7_15 rfl rfl ?_
    refine sA X6 hx hby d7_16 rfl rfl ?_
    refine st10 _ ?_
    refine sA X10 hx hby d7_20 rfl rfl ?_
    refine sA X10 hx hby d7_21 rfl rfl ?_
    refine st13 _ ?_
    refine st16 _ ?_
    refine sA X16 hx hby d7_28 rfl rfl ?_
    refine XS.aconstNull X16.here hx rfl (hb hby d7_29) ?_
    refine st20 _ ?_
    refine sA X20 hx hby d7_33 rfl rfl ?_
    refine st23 _ ?_
    refine XS.ifnonnullYes X23.here hx rfl (pc0 := 37) (pc' := 48) rfl (hb hby d7_37) rfl (by decide) (by decide) ?_
    refine sA X23 hx hby d7_48 rfl rfl ?_
    refine st24 _ ?_
    refine sA X24 hx hby d7_52 rfl rfl ?_
    refine st27 _ ?_
    refine sA X27 hx hby d7_56 rfl rfl ?_
    refine sA X27 hx hby d7_57 rfl rfl ?_
    refine st31 _ ?_
    refine sA X31 hx hby d7_61 rfl rfl ?_
    refine XS.dup X31.here hx rfl (hb hby d7_62) rfl rfl ?_
    refine st34 _ ?_
    refine XS.lconst X34.here hx rfl (hb hby d7_66) ?_
    refine XS.ladd X34.here hx rfl (hb hby d7_67) rfl ?_
    refine st36 _ ?_
    refine sA X36 hx hby d7_71 rfl rfl ?_
    refine XS.dup X36.here hx rfl (hb hby d7_72) rfl rfl ?_
    refine st39 _ ?_
    refine sA X39 hx hby d7_76 rfl rfl ?_
    refine st41 _ ?_
    refine XS.ladd X41.here hx rfl (hb hby d7_80) rfl ?_
    refine st43 _ ?_
    exact X43.returnOut hx Bd.returns (hb hby d7_84) hr
  · show Q7_16 Z w o1 o2 o3 q4 q5 h0 n0 _ T43.heap _
    rw [e43]
    exact ⟨rfl, N43, Kf45, t46, t47, t48, t49, t50, t51, t52, t53, F43⟩
theorem d8_18 : decode prog_41_method_10_code 18 = .ok (.aload_n 1, 1) := by decide +kernel
theorem d8_19 : decode prog_41_method_10_code 19 = .ok (.getfield 38, 3) := by decide +kernel
theorem d8_22 : decode prog_41_method_10_code 22 = .ok (.aload_n 1, 1) := by decide +kernel
theorem d8_23 : decode prog_41_method_10_code 23 = .ok (.getfield 13, 3) := by decide +kernel
theorem d8_26 : decode prog_41_method_10_code 26 = .ok (.putfield 13, 3) := by decide +kernel
theorem ef_8_17 (m : MethodId) (o1 : Addr) (o2 : Addr) : entryFrame m #[(.ref o1), (.ref o2)] 2 = mkF m 0 #[.val (.ref o1), .val (.ref o2)] [] := by first | (simp [entryFrame, mkF, argsToLocals, Value.category]; done) | rfl
def Q8_17 (Z : State) (w : Nat → Addr) (o1 : Addr) (o2 : Addr) (o3 : Addr) (q4 : Int64) (q5 : Int64) (h0 : Heap) (n0 : Nat) (v : Option Value) (h : Heap) (L : List Loc) : Prop := v = none ∧ Fr n0 L ∧ own_KL h0 h [⟨o3, Jvm.RoadKit.slotOf Z "com/example/tidemark/tidemark/MemoryEntry" "newer" "Lcom/example/tidemark/tidemark/MemoryEntry;"⟩, ⟨o1, Jvm.RoadKit.slotOf Z "com/example/tidemark/tidemark/RecencyList" "newest" "Lcom/example/tidemark/tidemark/MemoryEntry;"⟩, ⟨o2, Jvm.RoadKit.slotOf Z "com/example/tidemark/tidemark/MemoryEntry" "older" "Lcom/example/tidemark/tidemark/MemoryEntry;"⟩, ⟨o2, Jvm.RoadKit.slotOf Z "com/example/tidemark/tidemark/MemoryEntry" "newer" "Lcom/example/tidemark/tidemark/MemoryEntry;"⟩, ⟨o2, Jvm.RoadKit.slotOf Z "com/example/tidemark/tidemark/MemoryEntry" "list" "Lcom/example/tidemark/tidemark/RecencyList;"⟩, ⟨o1, Jvm.RoadKit.slotOf Z "com/example/tidemark/tidemark/RecencyList" "size" "J"⟩, ⟨o1, Jvm.RoadKit.slotOf Z "com/example/tidemark/tidemark/RecencyList" "weight" "J"⟩] ∧ Fld Z h o2 "com/example/tidemark/tidemark/MemoryEntry" "older" "Lcom/example/tidemark/tidemark/MemoryEntry;" .null ∧ Fld Z h o2 "com/example/tidemark/tidemark/MemoryEntry" "newer" "Lcom/example/tidemark/tidemark/MemoryEntry;" .null ∧ Fld Z h o3 "com/example/tidemark/tidemark/MemoryEntry" "newer" "Lcom/example/tidemark/tidemark/MemoryEntry;" .null ∧ Fld Z h o1 "com/example/tidemark/tidemark/RecencyList" "newest" "Lcom/example/tidemark/tidemark/MemoryEntry;" (.ref o3) ∧ Fld Z h o2 "com/example/tidemark/tidemark/MemoryEntry" "list" "Lcom/example/tidemark/tidemark/RecencyList;" .null ∧ Fld Z h o1 "com/example/tidemark/tidemark/RecencyList" "size" "J" (.long (1 : Int64)) ∧ Fld Z h o1 "com/example/tidemark/tidemark/RecencyList" "weight" "J" (.long (q4 - q5))
set_option maxRecDepth 65536 in
set_option maxHeartbeats 40000000 in
theorem rm8_17 (l : Launch) (Z : State) (a0 : Array Value) (hw : ∀ d ∈ tables_1, d.before a0 Z = true) (w : Nat → Addr) (hW : Wd Z w) (ws : List Jvm.Cond) (o1 : Addr) (o2 : Addr) (o3 : Addr) (q4 : Int64) (q5 : Int64) (h0 : Heap) (n0 : Nat) (O0 : Old Z n0 h0) (f1 : Fld Z h0 o2 "com/example/tidemark/tidemark/MemoryEntry" "older" "Lcom/example/tidemark/tidemark/MemoryEntry;" (.ref o3)) (f2 : Fld Z h0 o2 "com/example/tidemark/tidemark/MemoryEntry" "newer" "Lcom/example/tidemark/tidemark/MemoryEntry;" .null) (f3 : Exa Z h0 o3 "com/example/tidemark/tidemark/MemoryEntry") (f4 : Fld Z h0 o3 "com/example/tidemark/tidemark/MemoryEntry" "newer" "Lcom/example/tidemark/tidemark/MemoryEntry;" (.ref o2)) (g5 : n0 ≤ o3) (u6 : o2 ≠ o3) (f7 : Exa Z h0 o1 "com/example/tidemark/tidemark/RecencyList") (f8 : Fld Z h0 o1 "com/example/tidemark/tidemark/RecencyList" "newest" "Lcom/example/tidemark/tidemark/MemoryEntry;" (.ref o2)) (u9 : o1 ≠ o3) (g10 : n0 ≤ o1) (f11 : Exa Z h0 o2 "com/example/tidemark/tidemark/MemoryEntry") (u12 : o2 ≠ o1) (g13 : n0 ≤ o2) (f14 : Fld Z h0 o2 "com/example/tidemark/tidemark/MemoryEntry" "list" "Lcom/example/tidemark/tidemark/RecencyList;" (.ref o1)) (f15 : Fld Z h0 o1 "com/example/tidemark/tidemark/RecencyList" "size" "J" (.long (2 : Int64))) (f16 : Fld Z h0 o1 "com/example/tidemark/tidemark/RecencyList" "weight" "J" (.long q4)) (f17 : Fld Z h0 o2 "com/example/tidemark/tidemark/MemoryEntry" "charge" "J" (.long q5)) :
    MetFree l ym6 (head1 (Jvm.Cond.code ym6 prog_41_method_10_code 2 none :: ws) ({ frames := 0, cells := 0, slots := 0, locals := 0 } : Room)) (fun a U => a = #[(.ref o1), (.ref o2)] ∧ Z.Warmed39 U.vm ∧ U.heap = h0) (fun _ _ _ _ _ => True) (fun _ U o U' => ∃ v L, o = .returned v ∧ Q8_17 Z w o1 o2 o3 q4 q5 h0 n0 v U'.heap L ∧ FrameEnd U o U' L ({ frames := 0, cells := 0, slots := 0, locals := 0 } : Room).cells ({ frames := 0, cells := 0, slots := 0, locals := 0 } : Room).slots) := by
  refine MetFree.of_bodySF (plainFor_of_name pnc_0) hisR ?_
  intro p e s m args below meth c s₁ Bd hml0 hP hK
  obtain ⟨rfl, hZ, hh⟩ := hP
  have hx := Bd.exec
  have hby := Bd.bytes
  have hml : c.maxLocals = 2 := hml0
  have hown : s.vm.findClass "com/example/tidemark/tidemark/RecencyList" = some m.cls := findClass_of_methodNamed Bd.named
  have hnm := (name_of_methodNamed Bd.named Bd.method).1
  have X0 : Stand p l e ({ frames := 0, cells := 0, slots := 0, locals := 0 } : Room) s m #[(.ref o1), (.ref o2)] below meth c s₁ [] 0 0 := Stand.of_body Bd
  have e0 : s₁.heap = h0 := by rw [← hh, Bd.state]; rfl
  have N0 := Fr.nil n0
  skip
  have pre0 : ∀ t, Steps p.tables e below (s₁.setTop (mkF m 0 #[.val (.ref o1), .val (.ref o2)] [])) t → Steps p.tables e below (s₁.setTop (entryFrame m #[(.ref o1), (.ref o2)] 2)) t := fun t k => castTop (ef_8_17 m o1 o2) k
  obtain ⟨T1, X1, e1, st1⟩ := getF X0 hx hZ hown (host := "") (Or.inl (wk69 hw)) Via.refl e0 f1 (g := (mkF m 1 #[.val (.ref o1), .val (.ref o2)] [(.ref o2)])) rfl rfl (hb hby d8_1)
  obtain ⟨T2, X2, e2, st2⟩ := getF X1 hx hZ hown (host := "") (Or.inl (wk69 hw)) Via.refl e1 f1 (g := (mkF m 19 #[.val (.ref o1), .val (.ref o2)] [(.ref o2)])) rfl rfl (hb hby d8_19)
  obtain ⟨T3, X3, e3, st3⟩ := getF X2 hx hZ hown (host := "") (Or.inl (wk71 hw)) Via.refl e2 f2 (g := (mkF m 23 #[.val (.ref o1), .val (.ref o2)] [(.ref o2), (.ref o3)])) rfl rfl (hb hby d8_23)
  obtain ⟨T4, h4, X4, e4, W4, st4⟩ := putF X3 hx hZ hown (host := "") (Or.inl (wk71 hw)) Via.refl e3 f4 f3 (Or.inl (wk72 hw)) (wk11 hw) (ty := (.object "com/example/tidemark/tidemark/MemoryEntry")) (by decide) rfl rfl (g := (mkF m 26 #[.val (.ref o1), .val (.ref o2)] [.null, (.ref o3)])) rfl rfl (hb hby d8_26)
  have F4 : Fld Z h4 o3 "com/example/tidemark/tidemark/MemoryEntry" "newer" "Lcom/example/tidemark/tidemark/MemoryEntry;" .null := f4.same W4
  have N4 := Fr.snoc X4 N0 g5
  have O5 := O0.wr W4 g5
  have t6 := (f2.other W4 (Or.inl u6))
  obtain ⟨T7, X7, e7, st7⟩ := getF X4 hx hZ hown (host := "") (Or.inl (wk71 hw)) Via.refl e4 t6 (g := (mkF m 30 #[.val (.ref o1), .val (.ref o2)] [(.ref o2)])) rfl rfl (hb hby d8_30)
  have t8 := (f1.other W4 (Or.inl u6))
  obtain ⟨T9, X9, e9, st9⟩ := getF X7 hx hZ hown (host := "") (Or.inl (wk69 hw)) Via.refl e7 t8 (g := (mkF m 38 #[.val (.ref o1), .val (.ref o2)] [(.ref o2), (.ref o1)])) rfl rfl (hb hby d8_38)
  have t10 := (f8.other W4 (Or.inl u9))
  have t11 := (f7.wr W4)
  obtain ⟨T12, h12, X12, e12, W12, st12⟩ := putF X9 hx hZ hown (host := "") (Or.inl (wk67 hw)) Via.refl e9 t10 t11 (Or.inl (wk68 hw)) (wk2 hw) (ty := (.object "com/example/tidemark/tidemark/MemoryEntry")) (by decide) rfl rfl (g := (mkF m 41 #[.val (.ref o1), .val (.ref o2)] [(.ref o3), (.ref o1)])) rfl rfl (hb hby d8_41)
  have F12 : Fld Z h12 o1 "com/example/tidemark/tidemark/RecencyList" "newest" "Lcom/example/tidemark/tidemark/MemoryEntry;" (.ref o3) := t10.same W12
  have N12 := Fr.snoc X12 N4 g10
  have O13 := O5.wr W12 g10
  have t14 := (t8.other W12 (Or.inl u12))
  have t15 := ((f11.wr W4).wr W12)
  obtain ⟨T16, h16, X16, e16, W16, st16⟩ := putF X12 hx hZ hown (host := "") (Or.inl (wk69 hw)) Via.refl e12 t14 t15 (Or.inl (wk70 hw)) (wk11 hw) (ty := (.object "com/example/tidemark/tidemark/MemoryEntry")) (by decide) rfl rfl (g := (mkF m 60 #[.val (.ref o1), .val (.ref o2)] [.null, (.ref o2)])) rfl rfl (hb hby d8_60)
  have F16 : Fld Z h16 o2 "com/example/tidemark/tidemark/MemoryEntry" "older" "Lcom/example/tidemark/tidemark/MemoryEntry;" .null := t14.same W16
  have N16 := Fr.snoc X16 N12 g13
  have O17 := O13.wr W16 g13
  have t18 := ((t6.other W12 (Or.inl u12)).other W16 (Or.inr (sn62 hw)))
  have t19 := (t15.wr W16)
  obtain ⟨T20, h20, X20, e20, W20, st20⟩ := putF X16 hx hZ hown (host := "") (Or.inl (wk71 hw)) Via.refl e16 t18 t19 (Or.inl (wk72 hw)) (wk11 hw) (ty := (.object "com/example/tidemark/tidemark/MemoryEntry")) (by decide) rfl rfl (g := (mkF m 65 #[.val (.ref o1), .val (.ref o2)] [.null, (.ref o2)])) rfl rfl (hb hby d8_65)
  have F20 : Fld Z h20 o2 "com/example/tidemark/tidemark/MemoryEntry" "newer" "Lcom/example/tidemark/tidemark/MemoryEntry;" .null := t18.same W20
  have N20 := Fr.snoc X20 N16 g13
  have O21 := O17.wr W20 g13
  have t22 := ((((f14.other W4 (Or.inl u6)).other W12 (Or.inl u12)).other W16 (Or.inr (sn83 hw))).other W20 (Or.inr (sn84 hw)))
  have t23 := (t19.wr W20)
  obtain ⟨T24, h24, X24, e24, W24, st24⟩ := putF X20 hx hZ hown (host := "") (Or.inl (wk65 hw)) Via.refl e20 t22 t23 (Or.inl (wk66 hw)) (wk11 hw) (ty := (.object "com/example/tidemark/tidemark/RecencyList")) (by decide) rfl rfl (g := (mkF m 70 #[.val (.ref o1), .val (.ref o2)] [.null, (.ref o2)])) rfl rfl (hb hby d8_70)
  have F24 : Fld Z h24 o2 "com/example/tidemark/tidemark/MemoryEntry" "list" "Lcom/example/tidemark/tidemark/RecencyList;" .null := t22.same W24
  have N24 := Fr.snoc X24 N20 g13
  have O25 := O21.wr W24 g13
  have t26 := (((((f15.other W4 (Or.inl u9)).other W12 (Or.inr (sn67 hw))).other W16 (Or.inl (Ne.symm u12))).other W20 (Or.inl (Ne.symm u12))).other W24 (Or.inl (Ne.symm u12)))
  obtain ⟨T27, X27, e27, st27⟩ := getF X24 hx hZ hown (host := "") (Or.inl (wk75 hw)) Via.refl e24 t26 (g := (mkF m 75 #[.val (.ref o1), .val (.ref o2)] [(.ref o1), (.ref o1)])) rfl rfl (hb hby d8_75)
  have t28 := ((((t11.wr W12).wr W16).wr W20).wr W24)
  obtain ⟨T29, h29, X29, e29, W29, st29⟩ := putF X27 hx hZ hown (host := "") (Or.inl (wk75 hw)) Via.refl e27 t26 t28 (Or.inl (wk76 hw)) (wk2 hw) (ty := .long) (by decide) rfl rfl (g := (mkF m 80 #[.val (.ref o1), .val (.ref o2)] [(.long (1 : Int64)), (.ref o1)])) rfl rfl (hb hby d8_80)
  have F29 : Fld Z h29 o1 "com/example/tidemark/tidemark/RecencyList" "size" "J" (.long (1 : Int64)) := t26.same W29
  have N29 := Fr.snoc X29 N24 g10
  have O30 := O25.wr W29 g10
  have t31 := ((((((f16.other W4 (Or.inl u9)).other W12 (Or.inr (sn70 hw))).other W16 (Or.inl (Ne.symm u12))).other W20 (Or.inl (Ne.symm u12))).other W24 (Or.inl (Ne.symm u12))).other W29 (Or.inr (sn71 hw)))
  obtain ⟨T32, X32, e32, st32⟩ := getF X29 hx hZ hown (host := "") (Or.inl (wk77 hw)) Via.refl e29 t31 (g := (mkF m 85 #[.val (.ref o1), .val (.ref o2)] [(.ref o1), (.ref o1)])) rfl rfl (hb hby d8_85)
  have t33 := ((((((f17.other W4 (Or.inl u6)).other W12 (Or.inl u12)).other W16 (Or.inr (sn74 hw))).other W20 (Or.inr (sn75 hw))).other W24 (Or.inr (sn73 hw))).other W29 (Or.inl u12))
  obtain ⟨T34, X34, e34, st34⟩ := getF X32 hx hZ hown (host := "") (Or.inl (wk79 hw)) Via.refl e32 t33 (g := (mkF m 89 #[.val (.ref o1), .val (.ref o2)] [(.ref o2), (.long q4), (.ref o1)])) rfl rfl (hb hby d8_89)
  have t35 := (t28.wr W29)
  obtain ⟨T36, h36, X36, e36, W36, st36⟩ := putF X34 hx hZ hown (host := "") (Or.inl (wk77 hw)) Via.refl e34 t31 t35 (Or.inl (wk78 hw)) (wk2 hw) (ty := .long) (by decide) rfl rfl (g := (mkF m 93 #[.val (.ref o1), .val (.ref o2)] [(.long (q4 - q5)), (.ref o1)])) rfl rfl (hb hby d8_93)
  have F36 : Fld Z h36 o1 "com/example/tidemark/tidemark/RecencyList" "weight" "J" (.long (q4 - q5)) := t31.same W36
  have N36 := Fr.snoc X36 N29 g10
  have O37 := O30.wr W36 g10
  obtain ⟨fs, hr, hrun, hended, hWm, hsame⟩ := X36.leave (v := none) (fun _ => rfl)
  have Kf38 : own_KL h0 h36 [⟨o3, Jvm.RoadKit.slotOf Z "com/example/tidemark/tidemark/MemoryEntry" "newer" "Lcom/example/tidemark/tidemark/MemoryEntry;"⟩, ⟨o1, Jvm.RoadKit.slotOf Z "com/example/tidemark/tidemark/RecencyList" "newest" "Lcom/example/tidemark/tidemark/MemoryEntry;"⟩, ⟨o2, Jvm.RoadKit.slotOf Z "com/example/tidemark/tidemark/MemoryEntry" "older" "Lcom/example/tidemark/tidemark/MemoryEntry;"⟩, ⟨o2, Jvm.RoadKit.slotOf Z "com/example/tidemark/tidemark/MemoryEntry" "newer" "Lcom/example/tidemark/tidemark/MemoryEntry;"⟩, ⟨o2, Jvm.RoadKit.slotOf Z "com/example/tidemark/tidemark/MemoryEntry" "list" "Lcom/example/tidemark/tidemark/RecencyList;"⟩, ⟨o1, Jvm.RoadKit.slotOf Z "com/example/tidemark/tidemark/RecencyList" "size" "J"⟩, ⟨o1, Jvm.RoadKit.slotOf Z "com/example/tidemark/tidemark/RecencyList" "weight" "J"⟩] := (own_klW (own_klW (own_klW (own_klW (own_klW (own_klW (own_klW (own_kl0 h0 [⟨o3, Jvm.RoadKit.slotOf Z "com/example/tidemark/tidemark/MemoryEntry" "newer" "Lcom/example/tidemark/tidemark/MemoryEntry;"⟩, ⟨o1, Jvm.RoadKit.slotOf Z "com/example/tidemark/tidemark/RecencyList" "newest" "Lcom/example/tidemark/tidemark/MemoryEntry;"⟩, ⟨o2, Jvm.RoadKit.slotOf Z "com/example/tidemark/tidemark/MemoryEntry" "older" "Lcom/example/tidemark/tidemark/MemoryEntry;"⟩, ⟨o2, Jvm.RoadKit.slotOf Z "com/example/tidemark/tidemark/MemoryEntry" "newer" "Lcom/example/tidemark/tidemark/MemoryEntry;"⟩, ⟨o2, Jvm.RoadKit.slotOf Z "com/example/tidemark/tidemark/MemoryEntry" "list" "Lcom/example/tidemark/tidemark/RecencyList;"⟩, ⟨o1, Jvm.RoadKit.slotOf Z "com/example/tidemark/tidemark/RecencyList" "size" "J"⟩, ⟨o1, Jvm.RoadKit.slotOf Z "com/example/tidemark/tidemark/RecencyList" "weight" "J"⟩]) W4 (Or.inl (List.mem_of_getElem? (i := 0) rfl))) W12 (Or.inl (List.mem_of_getElem? (i := 1) rfl))) W16 (Or.inl (List.mem_of_getElem? (i := 2) rfl))) W20 (Or.inl (List.mem_of_getElem? (i := 3) rfl))) W24 (Or.inl (List.mem_of_getElem? (i := 4) rfl))) W29 (Or.inl (List.mem_of_getElem? (i := 5) rfl))) W36 (Or.inl (List.mem_of_getElem? (i := 6) rfl)))
  have t39 := ((((F16.other W20 (Or.inr (sn87 hw))).other W24 (Or.inr (sn59 hw))).other W29 (Or.inl u12)).other W36 (Or.inl u12))
  have t40 := (((F20.other W24 (Or.inr (sn61 hw))).other W29 (Or.inl u12)).other W36 (Or.inl u12))
  have t41 := ((((((F4.other W12 (Or.inl (Ne.symm u9))).other W16 (Or.inl (Ne.symm u6))).other W20 (Or.inl (Ne.symm u6))).other W24 (Or.inl (Ne.symm u6))).other W29 (Or.inl (Ne.symm u9))).other W36 (Or.inl (Ne.symm u9)))
  have t42 := (((((F12.other W16 (Or.inl (Ne.symm u12))).other W20 (Or.inl (Ne.symm u12))).other W24 (Or.inl (Ne.symm u12))).other W29 (Or.inr (sn85 hw))).other W36 (Or.inr (sn86 hw)))
  have t43 := ((F24.other W29 (Or.inl u12)).other W36 (Or.inl u12))
  have t44 := (F29.other W36 (Or.inr (sn91 hw)))
  refine ⟨_, _, pre0 _ ?_, hrun, hended, _, _, rfl, ?_, ⟨_, rfl⟩, hWm, hsame.mono (by decide) (by decide)⟩
  · show Steps p.tables e below (s₁.setTop (mkF m 0 #[.val (.ref o1), .val (.ref o2)] [])) _
    refine sA X0 hx hby d8_0 rfl rfl ?_
    refine st1 _ ?_
    refine XS.ifnonnullYes X1.here hx rfl (pc0 := 4) (pc' := 18) rfl (hb hby d8_4) rfl (by decide) (by decide) ?_
    refine sA X1 hx hby d8_18 rfl rfl ?_
    refine st2 _ ?_
    refine sA X2 hx hby d8_22 rfl rfl ?_
    refine st3 _ ?_
    refine st4 _ ?_
    refine sA X4 hx hby d8_29 rfl rfl ?_
    refine st7 _ ?_
    refine XS.ifnonnullNo X7.here hx rfl (hb hby d8_33) rfl ?_
    refine sA X7 hx hby d8_36 rfl rfl ?_
    refine sA X7 hx hby d8_37 rfl rfl ?_
    refine st9 _ ?_
    refine st12 _ ?_
    refine sg (pc := 44) (pc' := 58) X12 hx hby d8_44 (by decide) (by decide) ?_
    refine sA X12 hx hby d8_58 rfl rfl ?_
    refine XS.aconstNull X12.here hx rfl (hb hby d8_59) ?_
    refine st16 _ ?_
    refine sA X16 hx hby d8_63 rfl rfl ?_
    refine XS.aconstNull X16.here hx rfl (hb hby d8_64) ?_
    refine st20 _ ?_
    refine sA X20 hx hby d8_68 rfl rfl ?_
    refine XS.aconstNull X20.here hx rfl (hb hby d8_69) ?_
    refine st24 _ ?_
    refine sA X24 hx hby d8_73 rfl rfl ?_
    refine XS.dup X24.here hx rfl (hb hby d8_74) rfl rfl ?_
    refine st27 _ ?_
    refine XS.lconst X27.here hx rfl (hb hby d8_78) ?_
    refine XS.lsub X27.here hx rfl (hb hby d8_79) rfl ?_
    refine st29 _ ?_
    refine sA X29 hx hby d8_83 rfl rfl ?_
    refine XS.dup X29.here hx rfl (hb hby d8_84) rfl rfl ?_
    refine st32 _ ?_
    refine sA X32 hx hby d8_88 rfl rfl ?_
    refine st34 _ ?_
    refine XS.lsub X34.here hx rfl (hb hby d8_92) rfl ?_
    refine st36 _ ?_
    exact X36.returnOut hx Bd.returns (hb hby d8_96) hr
  · show Q8_17 Z w o1 o2 o3 q4 q5 h0 n0 _ T36.heap _
    rw [e36]
    exact ⟨rfl, N36, Kf38, t39, t40, t41, t42, t43, t44, F36⟩
theorem ef_7_18 (m : MethodId) (o1 : Addr) (o2 : Addr) : entryFrame m #[(.ref o1), (.ref o2)] 2 = mkF m 0 #[.val (.ref o1), .val (.ref o2)] [] := by first | (simp [entryFrame, mkF, argsToLocals, Value.category]; done) | rfl
def Q7_18 (Z : State) (w : Nat → Addr) (o1 : Addr) (o2 : Addr) (o3 : Addr) (q4 : Int64) (q5 : Int64) (h0 : Heap) (n0 : Nat) (v : Option Value) (h : Heap) (L : List Loc) : Prop := v = none ∧ Fr n0 L ∧ own_KL h0 h [⟨o1, Jvm.RoadKit.slotOf Z "com/example/tidemark/tidemark/RecencyList" "stamps" "J"⟩, ⟨o2, Jvm.RoadKit.slotOf Z "com/example/tidemark/tidemark/MemoryEntry" "stamp" "J"⟩, ⟨o2, Jvm.RoadKit.slotOf Z "com/example/tidemark/tidemark/MemoryEntry" "list" "Lcom/example/tidemark/tidemark/RecencyList;"⟩, ⟨o2, Jvm.RoadKit.slotOf Z "com/example/tidemark/tidemark/MemoryEntry" "older" "Lcom/example/tidemark/tidemark/MemoryEntry;"⟩, ⟨o2, Jvm.RoadKit.slotOf Z "com/example/tidemark/tidemark/MemoryEntry" "newer" "Lcom/example/tidemark/tidemark/MemoryEntry;"⟩, ⟨o3, Jvm.RoadKit.slotOf Z "com/example/tidemark/tidemark/MemoryEntry" "newer" "Lcom/example/tidemark/tidemark/MemoryEntry;"⟩, ⟨o1, Jvm.RoadKit.slotOf Z "com/example/tidemark/tidemark/RecencyList" "newest" "Lcom/example/tidemark/tidemark/MemoryEntry;"⟩, ⟨o1, Jvm.RoadKit.slotOf Z "com/example/tidemark/tidemark/RecencyList" "size" "J"⟩, ⟨o1, Jvm.RoadKit.slotOf Z "com/example/tidemark/tidemark/RecencyList" "weight" "J"⟩] ∧ Fld Z h o1 "com/example/tidemark/tidemark/RecencyList" "stamps" "J" (.long (3 : Int64)) ∧ Fld Z h o2 "com/example/tidemark/tidemark/MemoryEntry" "stamp" "J" (.long (3 : Int64)) ∧ Fld Z h o2 "com/example/tidemark/tidemark/MemoryEntry" "list" "Lcom/example/tidemark/tidemark/RecencyList;" (.ref o1) ∧ Fld Z h o1 "com/example/tidemark/tidemark/RecencyList" "newest" "Lcom/example/tidemark/tidemark/MemoryEntry;" (.ref o2) ∧ Fld Z h o2 "com/example/tidemark/tidemark/MemoryEntry" "older" "Lcom/example/tidemark/tidemark/MemoryEntry;" (.ref o3) ∧ Fld Z h o2 "com/example/tidemark/tidemark/MemoryEntry" "newer" "Lcom/example/tidemark/tidemark/MemoryEntry;" .null ∧ Fld Z h o3 "com/example/tidemark/tidemark/MemoryEntry" "newer" "Lcom/example/tidemark/tidemark/MemoryEntry;" (.ref o2) ∧ Fld Z h o1 "com/example/tidemark/tidemark/RecencyList" "size" "J" (.long (2 : Int64)) ∧ Fld Z h o1 "com/example/tidemark/tidemark/RecencyList" "weight" "J" (.long (q4 + q5))
set_option maxRecDepth 65536 in
set_option maxHeartbeats 40000000 in
theorem rm7_18 (l : Launch) (Z : State) (a0 : Array Value) (hw : ∀ d ∈ tables_1, d.before a0 Z = true) (w : Nat → Addr) (hW : Wd Z w) (ws : List Jvm.Cond) (o1 : Addr) (o2 : Addr) (o3 : Addr) (q4 : Int64) (q5 : Int64) (h0 : Heap) (n0 : Nat) (O0 : Old Z n0 h0) (f1 : Fld Z h0 o1 "com/example/tidemark/tidemark/RecencyList" "stamps" "J" (.long (2 : Int64))) (f2 : Exa Z h0 o1 "com/example/tidemark/tidemark/RecencyList") (g3 : n0 ≤ o1) (f4 : Exa Z h0 o2 "com/example/tidemark/tidemark/MemoryEntry") (f5 : Fld Z h0 o2 "com/example/tidemark/tidemark/MemoryEntry" "stamp" "J" (.long (2 : Int64))) (u6 : o2 ≠ o1) (g7 : n0 ≤ o2) (f8 : Fld Z h0 o2 "com/example/tidemark/tidemark/MemoryEntry" "list" "Lcom/example/tidemark/tidemark/RecencyList;" .null) (f9 : Fld Z h0 o1 "com/example/tidemark/tidemark/RecencyList" "newest" "Lcom/example/tidemark/tidemark/MemoryEntry;" (.ref o3)) (f10 : Fld Z h0 o2 "com/example/tidemark/tidemark/MemoryEntry" "older" "Lcom/example/tidemark/tidemark/MemoryEntry;" .null) (f11 : Fld Z h0 o2 "com/example/tidemark/tidemark/MemoryEntry" "newer" "Lcom/example/tidemark/tidemark/MemoryEntry;" .null) (f12 : Exa Z h0 o3 "com/example/tidemark/tidemark/MemoryEntry") (f13 : Fld Z h0 o3 "com/example/tidemark/tidemark/MemoryEntry" "newer" "Lcom/example/tidemark/tidemark/MemoryEntry;" .null) (u14 : o3 ≠ o1) (u15 : o3 ≠ o2) (g16 : n0 ≤ o3) (f17 : Fld Z h0 o1 "com/example/tidemark/tidemark/RecencyList" "size" "J" (.long (1 : Int64))) (f18 : Fld Z h0 o1 "com/example/tidemark/tidemark/RecencyList" "weight" "J" (.long q4)) (f19 : Fld Z h0 o2 "com/example/tidemark/tidemark/MemoryEntry" "charge" "J" (.long q5)) :
    MetFree l ym5 (head1 (Jvm.Cond.code ym5 prog_41_method_7_code 2 none :: ws) ({ frames := 0, cells := 0, slots := 0, locals := 0 } : Room)) (fun a U => a = #[(.ref o1), (.ref o2)] ∧ Z.Warmed39 U.vm ∧ U.heap = h0) (fun _ _ _ _ _ => True) (fun _ U o U' => ∃ v L, o = .returned v ∧ Q7_18 Z w o1 o2 o3 q4 q5 h0 n0 v U'.heap L ∧ FrameEnd U o U' L ({ frames := 0, cells := 0, slots := 0, locals := 0 } : Room).cells ({ frames := 0, cells := 0, slots := 0, locals := 0 } : Room).slots) := by
  refine MetFree.of_bodySF (plainFor_of_name pnc_0) hisR ?_
  intro p e s m args below meth c s₁ Bd hml0 hP hK
  obtain ⟨rfl, hZ, hh⟩ := hP
  have hx := Bd.exec
  have hby := Bd.bytes
  have hml : c.maxLocals = 2 := hml0
  have hown : s.vm.findClass "com/example/tidemark/tidemark/RecencyList" = some m.cls := findClass_of_methodNamed Bd.named
  have hnm := (name_of_methodNamed Bd.named Bd.method).1
  have X0 : Stand p l e ({ frames := 0, cells := 0, slots := 0, locals := 0 } : Room) s m #[(.ref o1), (.ref o2)] below meth c s₁ [] 0 0 := Stand.of_body Bd
  have e0 : s₁.heap = h0 := by rw [← hh, Bd.state]; rfl
  have N0 := Fr.nil n0
  skip
  have pre0 : ∀ t, Steps p.tables e below (s₁.setTop (mkF m 0 #[.val (.ref o1), .val (.ref o2)] [])) t → Steps p.tables e below (s₁.setTop (entryFrame m #[(.ref o1), (.ref o2)] 2)) t := fun t k => castTop (ef_7_18 m o1 o2) k
  obtain ⟨T1, X1, e1, st1⟩ := getF X0 hx hZ hown (host := "") (Or.inl (wk61 hw)) Via.refl e0 f1 (g := (mkF m 3 #[.val (.ref o1), .val (.ref o2)] [(.ref o1), (.ref o1), (.ref o2)])) rfl rfl (hb hby d7_3)
  obtain ⟨T2, h2, X2, e2, W2, st2⟩ := putF X1 hx hZ hown (host := "") (Or.inl (wk61 hw)) Via.refl e1 f1 f2 (Or.inl (wk62 hw)) (wk2 hw) (ty := .long) (by decide) rfl rfl (g := (mkF m 9 #[.val (.ref o1), .val (.ref o2)] [(.long (3 : Int64)), (.ref o1), (.long (3 : Int64)), (.ref o2)])) rfl rfl (hb hby d7_9)
  have F2 : Fld Z h2 o1 "com/example/tidemark/tidemark/RecencyList" "stamps" "J" (.long (3 : Int64)) := f1.same W2
  have N2 := Fr.snoc X2 N0 g3
  have O3 := O0.wr W2 g3
  have t4 := (f5.other W2 (Or.inl u6))
  have t5 := (f4.wr W2)
  obtain ⟨T6, h6, X6, e6, W6, st6⟩ := putF X2 hx hZ hown (host := "") (Or.inl (wk63 hw)) Via.refl e2 t4 t5 (Or.inl (wk64 hw)) (wk11 hw) (ty := .long) (by decide) rfl rfl (g := (mkF m 12 #[.val (.ref o1), .val (.ref o2)] [(.long (3 : Int64)), (.ref o2)])) rfl rfl (hb hby d7_12)
  have F6 : Fld Z h6 o2 "com/example/tidemark/tidemark/MemoryEntry" "stamp" "J" (.long (3 : Int64)) := t4.same W6
  have N6 := Fr.snoc X6 N2 g7
  have O7 := O3.wr W6 g7
  have t8 := ((f8.other W2 (Or.inl u6)).other W6 (Or.inr (sn56 hw)))
  have t9 := (t5.wr W6)
  obtain ⟨T10, h10, X10, e10, W10, st10⟩ := putF X6 hx hZ hown (host := "") (Or.inl (wk65 hw)) Via.refl e6 t8 t9 (Or.inl (wk66 hw)) (wk11 hw) (ty := (.object "com/example/tidemark/tidemark/RecencyList")) (by decide) rfl rfl (g := (mkF m 17 #[.val (.ref o1), .val (.ref o2)] [(.ref o1), (.ref o2)])) rfl rfl (hb hby d7_17)
  have F10 : Fld Z h10 o2 "com/example/tidemark/tidemark/MemoryEntry" "list" "Lcom/example/tidemark/tidemark/RecencyList;" (.ref o1) := t8.same W10
  have N10 := Fr.snoc X10 N6 g7
  have O11 := O7.wr W10 g7
  have t12 := (((f9.other W2 (Or.inr (sn57 hw))).other W6 (Or.inl (Ne.symm u6))).other W10 (Or.inl (Ne.symm u6)))
  obtain ⟨T13, X13, e13, st13⟩ := getF X10 hx hZ hown (host := "") (Or.inl (wk67 hw)) Via.refl e10 t12 (g := (mkF m 22 #[.val (.ref o1), .val (.ref o2)] [(.ref o1), (.ref o2)])) rfl rfl (hb hby d7_22)
  have t14 := (((f10.other W2 (Or.inl u6)).other W6 (Or.inr (sn58 hw))).other W10 (Or.inr (sn59 hw)))
  have t15 := (t9.wr W10)
  obtain ⟨T16, h16, X16, e16, W16, st16⟩ := putF X13 hx hZ hown (host := "") (Or.inl (wk69 hw)) Via.refl e13 t14 t15 (Or.inl (wk70 hw)) (wk11 hw) (ty := (.object "com/example/tidemark/tidemark/MemoryEntry")) (by decide) rfl rfl (g := (mkF m 25 #[.val (.ref o1), .val (.ref o2)] [(.ref o3), (.ref o2)])) rfl rfl (hb hby d7_25)
  have F16 : Fld Z h16 o2 "com/example/tidemark/tidemark/MemoryEntry" "older" "Lcom/example/tidemark/tidemark/MemoryEntry;" (.ref o3) := t14.same W16
  have N16 := Fr.snoc X16 N10 g7
  have O17 := O11.wr W16 g7
  have t18 := ((((f11.other W2 (Or.inl u6)).other W6 (Or.inr (sn60 hw))).other W10 (Or.inr (sn61 hw))).other W16 (Or.inr (sn62 hw)))
  have t19 := (t15.wr W16)
  obtain ⟨T20, h20, X20, e20, W20, st20⟩ := putF X16 hx hZ hown (host := "") (Or.inl (wk71 hw)) Via.refl e16 t18 t19 (Or.inl (wk72 hw)) (wk11 hw) (ty := (.object "com/example/tidemark/tidemark/MemoryEntry")) (by decide) rfl rfl (g := (mkF m 30 #[.val (.ref o1), .val (.ref o2)] [.null, (.ref o2)])) rfl rfl (hb hby d7_30)
  have F20 : Fld Z h20 o2 "com/example/tidemark/tidemark/MemoryEntry" "newer" "Lcom/example/tidemark/tidemark/MemoryEntry;" .null := t18.same W20
  have N20 := Fr.snoc X20 N16 g7
  have O21 := O17.wr W20 g7
  have t22 := ((t12.other W16 (Or.inl (Ne.symm u6))).other W20 (Or.inl (Ne.symm u6)))
  obtain ⟨T23, X23, e23, st23⟩ := getF X20 hx hZ hown (host := "") (Or.inl (wk67 hw)) Via.refl e20 t22 (g := (mkF m 34 #[.val (.ref o1), .val (.ref o2)] [(.ref o1)])) rfl rfl (hb hby d7_34)
  obtain ⟨T24, X24, e24, st24⟩ := getF X23 hx hZ hown (host := "") (Or.inl (wk67 hw)) Via.refl e23 t22 (g := (mkF m 49 #[.val (.ref o1), .val (.ref o2)] [(.ref o1)])) rfl rfl (hb hby d7_49)
  have t25 := (((((f13.other W2 (Or.inl u14)).other W6 (Or.inl u15)).other W10 (Or.inl u15)).other W16 (Or.inl u15)).other W20 (Or.inl u15))
  have t26 := (((((f12.wr W2).wr W6).wr W10).wr W16).wr W20)
  obtain ⟨T27, h27, X27, e27, W27, st27⟩ := putF X24 hx hZ hown (host := "") (Or.inl (wk71 hw)) Via.refl e24 t25 t26 (Or.inl (wk72 hw)) (wk11 hw) (ty := (.object "com/example/tidemark/tidemark/MemoryEntry")) (by decide) rfl rfl (g := (mkF m 53 #[.val (.ref o1), .val (.ref o2)] [(.ref o2), (.ref o3)])) rfl rfl (hb hby d7_53)
  have F27 : Fld Z h27 o3 "com/example/tidemark/tidemark/MemoryEntry" "newer" "Lcom/example/tidemark/tidemark/MemoryEntry;" (.ref o2) := t25.same W27
  have N27 := Fr.snoc X27 N20 g16
  have O28 := O21.wr W27 g16
  have t29 := (t22.other W27 (Or.inl (Ne.symm u14)))
  have t30 := ((((((f2.wr W2).wr W6).wr W10).wr W16).wr W20).wr W27)
  obtain ⟨T31, h31, X31, e31, W31, st31⟩ := putF X27 hx hZ hown (host := "") (Or.inl (wk67 hw)) Via.refl e27 t29 t30 (Or.inl (wk68 hw)) (wk2 hw) (ty := (.object "com/example/tidemark/tidemark/MemoryEntry")) (by decide) rfl rfl (g := (mkF m 58 #[.val (.ref o1), .val (.ref o2)] [(.ref o2), (.ref o1)])) rfl rfl (hb hby d7_58)
  have F31 : Fld Z h31 o1 "com/example/tidemark/tidemark/RecencyList" "newest" "Lcom/example/tidemark/tidemark/MemoryEntry;" (.ref o2) := t29.same W31
  have N31 := Fr.snoc X31 N27 g3
  have O32 := O28.wr W31 g3
  have t33 := (((((((f17.other W2 (Or.inr (sn65 hw))).other W6 (Or.inl (Ne.symm u6))).other W10 (Or.inl (Ne.symm u6))).other W16 (Or.inl (Ne.symm u6))).other W20 (Or.inl (Ne.symm u6))).other W27 (Or.inl (Ne.symm u14))).other W31 (Or.inr (sn67 hw)))
  obtain ⟨T34, X34, e34, st34⟩ := getF X31 hx hZ hown (host := "") (Or.inl (wk75 hw)) Via.refl e31 t33 (g := (mkF m 63 #[.val (.ref o1), .val (.ref o2)] [(.ref o1), (.ref o1)])) rfl rfl (hb hby d7_63)
  have t35 := (t30.wr W31)
  obtain ⟨T36, h36, X36, e36, W36, st36⟩ := putF X34 hx hZ hown (host := "") (Or.inl (wk75 hw)) Via.refl e34 t33 t35 (Or.inl (wk76 hw)) (wk2 hw) (ty := .long) (by decide) rfl rfl (g := (mkF m 68 #[.val (.ref o1), .val (.ref o2)] [(.long (2 : Int64)), (.ref o1)])) rfl rfl (hb hby d7_68)
  have F36 : Fld Z h36 o1 "com/example/tidemark/tidemark/RecencyList" "size" "J" (.long (2 : Int64)) := t33.same W36
  have N36 := Fr.snoc X36 N31 g3
  have O37 := O32.wr W36 g3
  have t38 := ((((((((f18.other W2 (Or.inr (sn68 hw))).other W6 (Or.inl (Ne.symm u6))).other W10 (Or.inl (Ne.symm u6))).other W16 (Or.inl (Ne.symm u6))).other W20 (Or.inl (Ne.symm u6))).other W27 (Or.inl (Ne.symm u14))).other W31 (Or.inr (sn70 hw))).other W36 (Or.inr (sn71 hw)))
  obtain ⟨T39, X39, e39, st39⟩ := getF X36 hx hZ hown (host := "") (Or.inl (wk77 hw)) Via.refl e36 t38 (g := (mkF m 73 #[.val (.ref o1), .val (.ref o2)] [(.ref o1), (.ref o1)])) rfl rfl (hb hby d7_73)
  have t40 := ((((((((f19.other W2 (Or.inl u6)).other W6 (Or.inr (sn72 hw))).other W10 (Or.inr (sn73 hw))).other W16 (Or.inr (sn74 hw))).other W20 (Or.inr (sn75 hw))).other W27 (Or.inl (Ne.symm u15))).other W31 (Or.inl u6)).other W36 (Or.inl u6))
  obtain ⟨T41, X41, e41, st41⟩ := getF X39 hx hZ hown (host := "") (Or.inl (wk79 hw)) Via.refl e39 t40 (g := (mkF m 77 #[.val (.ref o1), .val (.ref o2)] [(.ref o2), (.long q4), (.ref o1)])) rfl rfl (hb hby d7_77)
  have t42 := (t35.wr W36)
  obtain ⟨T43, h43, X43, e43, W43, st43⟩ := putF X41 hx hZ hown (host := "") (Or.inl (wk77 hw)) Via.refl e41 t38 t42 (Or.inl (wk78 hw)) (wk2 hw) (ty := .long) (by decide) rfl rfl (g := (mkF m 81 #[.val (.ref o1), .val (.ref o2)] [(.long (q4 + q5)), (.ref o1)])) rfl rfl (hb hby d7_81)
  have F43 : Fld Z h43 o1 "com/example/tidemark/tidemark/RecencyList" "weight" "J" (.long (q4 + q5)) := t38.same W43
  have N43 := Fr.snoc X43 N36 g3
  have O44 := O37.wr W43 g3
  obtain ⟨fs, hr, hrun, hended, hWm, hsame⟩ := X43.leave (v := none) (fun _ => rfl)
  have Kf45 : own_KL h0 h43 [⟨o1, Jvm.RoadKit.slotOf Z "com/example/tidemark/tidemark/RecencyList" "stamps" "J"⟩, ⟨o2, Jvm.RoadKit.slotOf Z "com/example/tidemark/tidemark/MemoryEntry" "stamp" "J"⟩, ⟨o2, Jvm.RoadKit.slotOf Z "com/example/tidemark/tidemark/MemoryEntry" "list" "Lcom/example/tidemark/tidemark/RecencyList;"⟩, ⟨o2, Jvm.RoadKit.slotOf Z "com/example/tidemark/tidemark/MemoryEntry" "older" "Lcom/example/tidemark/tidemark/MemoryEntry;"⟩, ⟨o2, Jvm.RoadKit.slotOf Z "com/example/tidemark/tidemark/MemoryEntry" "newer" "Lcom/example/tidemark/tidemark/MemoryEntry;"⟩, ⟨o3, Jvm.RoadKit.slotOf Z "com/example/tidemark/tidemark/MemoryEntry" "newer" "Lcom/example/tidemark/tidemark/MemoryEntry;"⟩, ⟨o1, Jvm.RoadKit.slotOf Z "com/example/tidemark/tidemark/RecencyList" "newest" "Lcom/example/tidemark/tidemark/MemoryEntry;"⟩, ⟨o1, Jvm.RoadKit.slotOf Z "com/example/tidemark/tidemark/RecencyList" "size" "J"⟩, ⟨o1, Jvm.RoadKit.slotOf Z "com/example/tidemark/tidemark/RecencyList" "weight" "J"⟩] := (own_klW (own_klW (own_klW (own_klW (own_klW (own_klW (own_klW (own_klW (own_klW (own_kl0 h0 [⟨o1, Jvm.RoadKit.slotOf Z "com/example/tidemark/tidemark/RecencyList" "stamps" "J"⟩, ⟨o2, Jvm.RoadKit.slotOf Z "com/example/tidemark/tidemark/MemoryEntry" "stamp" "J"⟩, ⟨o2, Jvm.RoadKit.slotOf Z "com/example/tidemark/tidemark/MemoryEntry" "list" "Lcom/example/tidemark/tidemark/RecencyList;"⟩, ⟨o2, Jvm.RoadKit.slotOf Z "com/example/tidemark/tidemark/MemoryEntry" "older" "Lcom/example/tidemark/tidemark/MemoryEntry;"⟩, ⟨o2, Jvm.RoadKit.slotOf Z "com/example/tidemark/tidemark/MemoryEntry" "newer" "Lcom/example/tidemark/tidemark/MemoryEntry;"⟩, ⟨o3, Jvm.RoadKit.slotOf Z "com/example/tidemark/tidemark/MemoryEntry" "newer" "Lcom/example/tidemark/tidemark/MemoryEntry;"⟩, ⟨o1, Jvm.RoadKit.slotOf Z "com/example/tidemark/tidemark/RecencyList" "newest" "Lcom/example/tidemark/tidemark/MemoryEntry;"⟩, ⟨o1, Jvm.RoadKit.slotOf Z "com/example/tidemark/tidemark/RecencyList" "size" "J"⟩, ⟨o1, Jvm.RoadKit.slotOf Z "com/example/tidemark/tidemark/RecencyList" "weight" "J"⟩]) W2 (Or.inl (List.mem_of_getElem? (i := 0) rfl))) W6 (Or.inl (List.mem_of_getElem? (i := 1) rfl))) W10 (Or.inl (List.mem_of_getElem? (i := 2) rfl))) W16 (Or.inl (List.mem_of_getElem? (i := 3) rfl))) W20 (Or.inl (List.mem_of_getElem? (i := 4) rfl))) W27 (Or.inl (List.mem_of_getElem? (i := 5) rfl))) W31 (Or.inl (List.mem_of_getElem? (i := 6) rfl))) W36 (Or.inl (List.mem_of_getElem? (i := 7) rfl))) W43 (Or.inl (List.mem_of_getElem? (i := 8) rfl)))
  have t46 := ((((((((F2.other W6 (Or.inl (Ne.symm u6))).other W10 (Or.inl (Ne.symm u6))).other W16 (Or.inl (Ne.symm u6))).other W20 (Or.inl (Ne.symm u6))).other W27 (Or.inl (Ne.symm u14))).other W31 (Or.inr (sn77 hw))).other W36 (Or.inr (sn78 hw))).other W43 (Or.inr (sn79 hw)))
  have t47 := (((((((F6.other W10 (Or.inr (sn80 hw))).other W16 (Or.inr (sn81 hw))).other W20 (Or.inr (sn82 hw))).other W27 (Or.inl (Ne.symm u15))).other W31 (Or.inl u6)).other W36 (Or.inl u6)).other W43 (Or.inl u6))
  have t48 := ((((((F10.other W16 (Or.inr (sn83 hw))).other W20 (Or.inr (sn84 hw))).other W27 (Or.inl (Ne.symm u15))).other W31 (Or.inl u6)).other W36 (Or.inl u6)).other W43 (Or.inl u6))
  have t49 := ((F31.other W36 (Or.inr (sn85 hw))).other W43 (Or.inr (sn86 hw)))
  have t50 := (((((F16.other W20 (Or.inr (sn87 hw))).other W27 (Or.inl (Ne.symm u15))).other W31 (Or.inl u6)).other W36 (Or.inl u6)).other W43 (Or.inl u6))
  have t51 := ((((F20.other W27 (Or.inl (Ne.symm u15))).other W31 (Or.inl u6)).other W36 (Or.inl u6)).other W43 (Or.inl u6))
  have t52 := (((F27.other W31 (Or.inl u14)).other W36 (Or.inl u14)).other W43 (Or.inl u14))
  have t53 := (F36.other W43 (Or.inr (sn91 hw)))
  refine ⟨_, _, pre0 _ ?_, hrun, hended, _, _, rfl, ?_, ⟨_, rfl⟩, hWm, hsame.mono (by decide) (by decide)⟩
  · show Steps p.tables e below (s₁.setTop (mkF m 0 #[.val (.ref o1), .val (.ref o2)] [])) _
    refine sA X0 hx hby d7_0 rfl rfl ?_
    refine sA X0 hx hby d7_1 rfl rfl ?_
    refine XS.dup X0.here hx rfl (hb hby d7_2) rfl rfl ?_
    refine st1 _ ?_
    refine XS.lconst X1.here hx rfl (hb hby d7_6) ?_
    refine XS.ladd X1.here hx rfl (hb hby d7_7) rfl ?_
    jvm_step X1.here [X1.here.top, hx, (hb hby d7_8), Value.category]
    show Steps p.tables e below (T1.setTop (mkF m 9 #[.val (.ref o1), .val (.ref o2)] [(.long (3 : Int64)), (.ref o1), (.long (3 : Int64)), (.ref o2)])) _
    refine st2 _ ?_
    refine st6 _ ?_
    refine sA X6 hx hby d7_15 rfl rfl ?_
    refine sA X6 hx hby d7_16 rfl rfl ?_
    refine st10 _ ?_
    refine sA X10 hx hby d7_20 rfl rfl ?_
    refine sA X10 hx hby d7_21 rfl rfl ?_
    refine st13 _ ?_
    refine st16 _ ?_
    refine sA X16 hx hby d7_28 rfl rfl ?_
    refine XS.aconstNull X16.here hx rfl (hb hby d7_29) ?_
    refine st20 _ ?_
    refine sA X20 hx hby d7_33 rfl rfl ?_
    refine st23 _ ?_
    refine XS.ifnonnullYes X23.here hx rfl (pc0 := 37) (pc' := 48) rfl (hb hby d7_37) rfl (by decide) (by decide) ?_
    refine sA X23 hx hby d7_48 rfl rfl ?_
    refine st24 _ ?_
    refine sA X24 hx hby d7_52 rfl rfl ?_
    refine st27 _ ?_
    refine sA X27 hx hby d7_56 rfl rfl ?_
    refine sA X27 hx hby d7_57 rfl rfl ?_
    refine st31 _ ?_
    refine sA X31 hx hby d7_61 rfl rfl ?_
    refine XS.dup X31.here hx rfl (hb hby d7_62) rfl rfl ?_
    refine st34 _ ?_
    refine XS.lconst X34.here hx rfl (hb hby d7_66) ?_
    refine XS.ladd X34.here hx rfl (hb hby d7_67) rfl ?_
    refine st36 _ ?_
    refine sA X36 hx hby d7_71 rfl rfl ?_
    refine XS.dup X36.here hx rfl (hb hby d7_72) rfl rfl ?_
    refine st39 _ ?_
    refine sA X39 hx hby d7_76 rfl rfl ?_
    refine st41 _ ?_
    refine XS.ladd X41.here hx rfl (hb hby d7_80) rfl ?_
    refine st43 _ ?_
    exact X43.returnOut hx Bd.returns (hb hby d7_84) hr
  · show Q7_18 Z w o1 o2 o3 q4 q5 h0 n0 _ T43.heap _
    rw [e43]
    exact ⟨rfl, N43, Kf45, t46, t47, t48, t49, t50, t51, t52, t53, F43⟩
theorem ef_7_19 (m : MethodId) (o1 : Addr) (o2 : Addr) : entryFrame m #[(.ref o1), (.ref o2)] 2 = mkF m 0 #[.val (.ref o1), .val (.ref o2)] [] := by first | (simp [entryFrame, mkF, argsToLocals, Value.category]; done) | rfl
def Q7_19 (Z : State) (w : Nat → Addr) (o1 : Addr) (o2 : Addr) (o3 : Addr) (q4 : Int64) (q5 : Int64) (h0 : Heap) (n0 : Nat) (v : Option Value) (h : Heap) (L : List Loc) : Prop := v = none ∧ Fr n0 L ∧ own_KL h0 h [⟨o1, Jvm.RoadKit.slotOf Z "com/example/tidemark/tidemark/RecencyList" "stamps" "J"⟩, ⟨o2, Jvm.RoadKit.slotOf Z "com/example/tidemark/tidemark/MemoryEntry" "stamp" "J"⟩, ⟨o2, Jvm.RoadKit.slotOf Z "com/example/tidemark/tidemark/MemoryEntry" "list" "Lcom/example/tidemark/tidemark/RecencyList;"⟩, ⟨o2, Jvm.RoadKit.slotOf Z "com/example/tidemark/tidemark/MemoryEntry" "older" "Lcom/example/tidemark/tidemark/MemoryEntry;"⟩, ⟨o2, Jvm.RoadKit.slotOf Z "com/example/tidemark/tidemark/MemoryEntry" "newer" "Lcom/example/tidemark/tidemark/MemoryEntry;"⟩, ⟨o3, Jvm.RoadKit.slotOf Z "com/example/tidemark/tidemark/MemoryEntry" "newer" "Lcom/example/tidemark/tidemark/MemoryEntry;"⟩, ⟨o1, Jvm.RoadKit.slotOf Z "com/example/tidemark/tidemark/RecencyList" "newest" "Lcom/example/tidemark/tidemark/MemoryEntry;"⟩, ⟨o1, Jvm.RoadKit.slotOf Z "com/example/tidemark/tidemark/RecencyList" "size" "J"⟩, ⟨o1, Jvm.RoadKit.slotOf Z "com/example/tidemark/tidemark/RecencyList" "weight" "J"⟩] ∧ Fld Z h o1 "com/example/tidemark/tidemark/RecencyList" "stamps" "J" (.long (3 : Int64)) ∧ Fld Z h o2 "com/example/tidemark/tidemark/MemoryEntry" "stamp" "J" (.long (3 : Int64)) ∧ Fld Z h o2 "com/example/tidemark/tidemark/MemoryEntry" "list" "Lcom/example/tidemark/tidemark/RecencyList;" (.ref o1) ∧ Fld Z h o1 "com/example/tidemark/tidemark/RecencyList" "newest" "Lcom/example/tidemark/tidemark/MemoryEntry;" (.ref o2) ∧ Fld Z h o2 "com/example/tidemark/tidemark/MemoryEntry" "older" "Lcom/example/tidemark/tidemark/MemoryEntry;" (.ref o3) ∧ Fld Z h o2 "com/example/tidemark/tidemark/MemoryEntry" "newer" "Lcom/example/tidemark/tidemark/MemoryEntry;" .null ∧ Fld Z h o3 "com/example/tidemark/tidemark/MemoryEntry" "newer" "Lcom/example/tidemark/tidemark/MemoryEntry;" (.ref o2) ∧ Fld Z h o1 "com/example/tidemark/tidemark/RecencyList" "size" "J" (.long (3 : Int64)) ∧ Fld Z h o1 "com/example/tidemark/tidemark/RecencyList" "weight" "J" (.long (q4 + q5))
set_option maxRecDepth 65536 in
set_option maxHeartbeats 40000000 in
theorem rm7_19 (l : Launch) (Z : State) (a0 : Array Value) (hw : ∀ d ∈ tables_1, d.before a0 Z = true) (w : Nat → Addr) (hW : Wd Z w) (ws : List Jvm.Cond) (o1 : Addr) (o2 : Addr) (o3 : Addr) (q4 : Int64) (q5 : Int64) (h0 : Heap) (n0 : Nat) (O0 : Old Z n0 h0) (f1 : Fld Z h0 o1 "com/example/tidemark/tidemark/RecencyList" "stamps" "J" (.long (2 : Int64))) (f2 : Exa Z h0 o1 "com/example/tidemark/tidemark/RecencyList") (g3 : n0 ≤ o1) (f4 : Exa Z h0 o2 "com/example/tidemark/tidemark/MemoryEntry") (f5 : Fld Z h0 o2 "com/example/tidemark/tidemark/MemoryEntry" "stamp" "J" (.long (0 : Int64))) (u6 : o2 ≠ o1) (g7 : n0 ≤ o2) (f8 : Fld Z h0 o2 "com/example/tidemark/tidemark/MemoryEntry" "list" "Lcom/example/tidemark/tidemark/RecencyList;" .null) (f9 : Fld Z h0 o1 "com/example/tidemark/tidemark/RecencyList" "newest" "Lcom/example/tidemark/tidemark/MemoryEntry;" (.ref o3)) (f10 : Fld Z h0 o2 "com/example/tidemark/tidemark/MemoryEntry" "older" "Lcom/example/tidemark/tidemark/MemoryEntry;" .null) (f11 : Fld Z h0 o2 "com/example/tidemark/tidemark/MemoryEntry" "newer" "Lcom/example/tidemark/tidemark/MemoryEntry;" .null) (f12 : Exa Z h0 o3 "com/example/tidemark/tidemark/MemoryEntry") (f13 : Fld Z h0 o3 "com/example/tidemark/tidemark/MemoryEntry" "newer" "Lcom/example/tidemark/tidemark/MemoryEntry;" .null) (u14 : o3 ≠ o1) (u15 : o3 ≠ o2) (g16 : n0 ≤ o3) (f17 : Fld Z h0 o1 "com/example/tidemark/tidemark/RecencyList" "size" "J" (.long (2 : Int64))) (f18 : Fld Z h0 o1 "com/example/tidemark/tidemark/RecencyList" "weight" "J" (.long q4)) (f19 : Fld Z h0 o2 "com/example/tidemark/tidemark/MemoryEntry" "charge" "J" (.long q5)) :
    MetFree l ym5 (head1 (Jvm.Cond.code ym5 prog_41_method_7_code 2 none :: ws) ({ frames := 0, cells := 0, slots := 0, locals := 0 } : Room)) (fun a U => a = #[(.ref o1), (.ref o2)] ∧ Z.Warmed39 U.vm ∧ U.heap = h0) (fun _ _ _ _ _ => True) (fun _ U o U' => ∃ v L, o = .returned v ∧ Q7_19 Z w o1 o2 o3 q4 q5 h0 n0 v U'.heap L ∧ FrameEnd U o U' L ({ frames := 0, cells := 0, slots := 0, locals := 0 } : Room).cells ({ frames := 0, cells := 0, slots := 0, locals := 0 } : Room).slots) := by
  refine MetFree.of_bodySF (plainFor_of_name pnc_0) hisR ?_
  intro p e s m args below meth c s₁ Bd hml0 hP hK
  obtain ⟨rfl, hZ, hh⟩ := hP
  have hx := Bd.exec
  have hby := Bd.bytes
  have hml : c.maxLocals = 2 := hml0
  have hown : s.vm.findClass "com/example/tidemark/tidemark/RecencyList" = some m.cls := findClass_of_methodNamed Bd.named
  have hnm := (name_of_methodNamed Bd.named Bd.method).1
  have X0 : Stand p l e ({ frames := 0, cells := 0, slots := 0, locals := 0 } : Room) s m #[(.ref o1), (.ref o2)] below meth c s₁ [] 0 0 := Stand.of_body Bd
  have e0 : s₁.heap = h0 := by rw [← hh, Bd.state]; rfl
  have N0 := Fr.nil n0
  skip
  have pre0 : ∀ t, Steps p.tables e below (s₁.setTop (mkF m 0 #[.val (.ref o1), .val (.ref o2)] [])) t → Steps p.tables e below (s₁.setTop (entryFrame m #[(.ref o1), (.ref o2)] 2)) t := fun t k => castTop (ef_7_19 m o1 o2) k
  obtain ⟨T1, X1, e1, st1⟩ := getF X0 hx hZ hown (host := "") (Or.inl (wk61 hw)) Via.refl e0 f1 (g := (mkF m 3 #[.val (.ref o1), .val (.ref o2)] [(.ref o1), (.ref o1), (.ref o2)])) rfl rfl (hb hby d7_3)
  obtain ⟨T2, h2, X2, e2, W2, st2⟩ := putF X1 hx hZ hown (host := "") (Or.inl (wk61 hw)) Via.refl e1 f1 f2 (Or.inl (wk62 hw)) (wk2 hw) (ty := .long) (by decide) rfl rfl (g := (mkF m 9 #[.val (.ref o1), .val (.ref o2)] [(.long (3 : Int64)), (.ref o1), (.long (3 : Int64)), (.ref o2)])) rfl rfl (hb hby d7_9)
  have F2 : Fld Z h2 o1 "com/example/tidemark/tidemark/RecencyList" "stamps" "J" (.long (3 : Int64)) := f1.same W2
  have N2 := Fr.snoc X2 N0 g3
  have O3 := O0.wr W2 g3
  have t4 := (f5.other W2 (Or.inl u6))
  have t5 := (f4.wr W2)
  obtain ⟨T6, h6, X6, e6, W6, st6⟩ := putF X2 hx hZ hown (host := "") (Or.inl (wk63 hw)) Via.refl e2 t4 t5 (Or.inl (wk64 hw)) (wk11 hw) (ty := .long) (by decide) rfl rfl (g := (mkF m 12 #[.val (.ref o1), .val (.ref o2)] [(.long (3 : Int64)), (.ref o2)])) rfl rfl (hb hby d7_12)
  have F6 : Fld Z h6 o2 "com/example/tidemark/tidemark/MemoryEntry" "stamp" "J" (.long (3 : Int64)) := t4.same W6
  have N6 := Fr.snoc X6 N2 g7
  have O7 := O3.wr W6 g7
  have t8 := ((f8.other W2 (Or.inl u6)).other W6 (Or.inr (sn56 hw)))
  have t9 := (t5.wr W6)
  obtain ⟨T10, h10, X10, e10, W10, st10⟩ := putF X6 hx hZ hown (host := "") (Or.inl (wk65 hw)) Via.refl e6 t8 t9 (Or.inl (wk66 hw)) (wk11 hw) (ty := (.object "com/example/tidemark/tidemark/RecencyList")) (by decide) rfl rfl (g := (mkF m 17 #[.val (.ref o1), .val (.ref o2)] [(.ref o1), (.ref o2)])) rfl rfl (hb hby d7_17)
  have F10 : Fld Z h10 o2 "com/example/tidemark/tidemark/MemoryEntry" "list" "Lcom/example/tidemark/tidemark/RecencyList;" (.ref o1) := t8.same W10
  have N10 := Fr.snoc X10 N6 g7
  have O11 := O7.wr W10 g7
  have t12 := (((f9.other W2 (Or.inr (sn57 hw))).other W6 (Or.inl (Ne.symm u6))).other W10 (Or.inl (Ne.symm u6)))
  obtain ⟨T13, X13, e13, st13⟩ := getF X10 hx hZ hown (host := "") (Or.inl (wk67 hw)) Via.refl e10 t12 (g := (mkF m 22 #[.val (.ref o1), .val (.ref o2)] [(.ref o1), (.ref o2)])) rfl rfl (hb hby d7_22)
  have t14 := (((f10.other W2 (Or.inl u6)).other W6 (Or.inr (sn58 hw))).other W10 (Or.inr (sn59 hw)))
  have t15 := (t9.wr W10)
  obtain ⟨T16, h16, X16, e16, W16, st16⟩ := putF X13 hx hZ hown (host := "") (Or.inl (wk69 hw)) Via.refl e13 t14 t15 (Or.inl (wk70 hw)) (wk11 hw) (ty := (.object "com/example/tidemark/tidemark/MemoryEntry")) (by decide) rfl rfl (g := (mkF m 25 #[.val (.ref o1), .val (.ref o2)] [(.ref o3), (.ref o2)])) rfl rfl (hb hby d7_25)
  have F16 : Fld Z h16 o2 "com/example/tidemark/tidemark/MemoryEntry" "older" "Lcom/example/tidemark/tidemark/MemoryEntry;" (.ref o3) := t14.same W16
  have N16 := Fr.snoc X16 N10 g7
  have O17 := O11.wr W16 g7
  have t18 := ((((f11.other W2 (Or.inl u6)).other W6 (Or.inr (sn60 hw))).other W10 (Or.inr (sn61 hw))).other W16 (Or.inr (sn62 hw)))
  have t19 := (t15.wr W16)
  obtain ⟨T20, h20, X20, e20, W20, st20⟩ := putF X16 hx hZ hown (host := "") (Or.inl (wk71 hw)) Via.refl e16 t18 t19 (Or.inl (wk72 hw)) (wk11 hw) (ty := (.object "com/example/tidemark/tidemark/MemoryEntry")) (by decide) rfl rfl (g := (mkF m 30 #[.val (.ref o1), .val (.ref o2)] [.null, (.ref o2)])) rfl rfl (hb hby d7_30)
  have F20 : Fld Z h20 o2 "com/example/tidemark/tidemark/MemoryEntry" "newer" "Lcom/example/tidemark/tidemark/MemoryEntry;" .null := t18.same W20
  have N20 := Fr.snoc X20 N16 g7
  have O21 := O17.wr W20 g7
  have t22 := ((t12.other W16 (Or.inl (Ne.symm u6))).other W20 (Or.inl (Ne.symm u6)))
  obtain ⟨T23, X23, e23, st23⟩ := getF X20 hx hZ hown (host := "") (Or.inl (wk67 hw)) Via.refl e20 t22 (g := (mkF m 34 #[.val (.ref o1), .val (.ref o2)] [(.ref o1)])) rfl rfl (hb hby d7_34)
  obtain ⟨T24, X24, e24, st24⟩ := getF X23 hx hZ hown (host := "") (Or.inl (wk67 hw)) Via.refl e23 t22 (g := (mkF m 49 #[.val (.ref o1), .val (.ref o2)] [(.ref o1)])) rfl rfl (hb hby d7_49)
  have t25 := (((((f13.other W2 (Or.inl u14)).other W6 (Or.inl u15)).other W10 (Or.inl u15)).other W16 (Or.inl u15)).other W20 (Or.inl u15))
  have t26 := (((((f12.wr W2).wr W6).wr W10).wr W16).wr W20)
  obtain ⟨T27, h27, X27, e27, W27, st27⟩ := putF X24 hx hZ hown (host := "") (Or.inl (wk71 hw)) Via.refl e24 t25 t26 (Or.inl (wk72 hw)) (wk11 hw) (ty := (.object "com/example/tidemark/tidemark/MemoryEntry")) (by decide) rfl rfl (g := (mkF m 53 #[.val (.ref o1), .val (.ref o2)] [(.ref o2), (.ref o3)])) rfl rfl (hb hby d7_53)
  have F27 : Fld Z h27 o3 "com/example/tidemark/tidemark/MemoryEntry" "newer" "Lcom/example/tidemark/tidemark/MemoryEntry;" (.ref o2) := t25.same W27
  have N27 := Fr.snoc X27 N20 g16
  have O28 := O21.wr W27 g16
  have t29 := (t22.other W27 (Or.inl (Ne.symm u14)))
  have t30 := ((((((f2.wr W2).wr W6).wr W10).wr W16).wr W20).wr W27)
  obtain ⟨T31, h31, X31, e31, W31, st31⟩ := putF X27 hx hZ hown (host := "") (Or.inl (wk67 hw)) Via.refl e27 t29 t30 (Or.inl (wk68 hw)) (wk2 hw) (ty := (.object "com/example/tidemark/tidemark/MemoryEntry")) (by decide) rfl rfl (g := (mkF m 58 #[.val (.ref o1), .val (.ref o2)] [(.ref o2), (.ref o1)])) rfl rfl (hb hby d7_58)
  have F31 : Fld Z h31 o1 "com/example/tidemark/tidemark/RecencyList" "newest" "Lcom/example/tidemark/tidemark/MemoryEntry;" (.ref o2) := t29.same W31
  have N31 := Fr.snoc X31 N27 g3
  have O32 := O28.wr W31 g3
  have t33 := (((((((f17.other W2 (Or.inr (sn65 hw))).other W6 (Or.inl (Ne.symm u6))).other W10 (Or.inl (Ne.symm u6))).other W16 (Or.inl (Ne.symm u6))).other W20 (Or.inl (Ne.symm u6))).other W27 (Or.inl (Ne.symm u14))).other W31 (Or.inr (sn67 hw)))
  obtain ⟨T34, X34, e34, st34⟩ := getF X31 hx hZ hown (host := "") (Or.inl (wk75 hw)) Via.refl e31 t33 (g := (mkF m 63 #[.val (.ref o1), .val (.ref o2)] [(.ref o1), (.ref o1)])) rfl rfl (hb hby d7_63)
  have t35 := (t30.wr W31)
  obtain ⟨T36, h36, X36, e36, W36, st36⟩ := putF X34 hx hZ hown (host := "") (Or.inl (wk75 hw)) Via.refl e34 t33 t35 (Or.inl (wk76 hw)) (wk2 hw) (ty := .long) (by decide) rfl rfl (g := (mkF m 68 #[.val (.ref o1), .val (.ref o2)] [(.long (3 : Int64)), (.ref o1)])) rfl rfl (hb hby d7_68)
  have F36 : Fld Z h36 o1 "com/example/tidemark/tidemark/RecencyList" "size" "J" (.long (3 : Int64)) := t33.same W36
  have N36 := Fr.snoc X36 N31 g3
  have O37 := O32.wr W36 g3
  have t38 := ((((((((f18.other W2 (Or.inr (sn68 hw))).other W6 (Or.inl (Ne.symm u6))).other W10 (Or.inl (Ne.symm u6))).other W16 (Or.inl (Ne.symm u6))).other W20 (Or.inl (Ne.symm u6))).other W27 (Or.inl (Ne.symm u14))).other W31 (Or.inr (sn70 hw))).other W36 (Or.inr (sn71 hw)))
  obtain ⟨T39, X39, e39, st39⟩ := getF X36 hx hZ hown (host := "") (Or.inl (wk77 hw)) Via.refl e36 t38 (g := (mkF m 73 #[.val (.ref o1), .val (.ref o2)] [(.ref o1), (.ref o1)])) rfl rfl (hb hby d7_73)
  have t40 := ((((((((f19.other W2 (Or.inl u6)).other W6 (Or.inr (sn72 hw))).other W10 (Or.inr (sn73 hw))).other W16 (Or.inr (sn74 hw))).other W20 (Or.inr (sn75 hw))).other W27 (Or.inl (Ne.symm u15))).other W31 (Or.inl u6)).other W36 (Or.inl u6))
  obtain ⟨T41, X41, e41, st41⟩ := getF X39 hx hZ hown (host := "") (Or.inl (wk79 hw)) Via.refl e39 t40 (g := (mkF m 77 #[.val (.ref o1), .val (.ref o2)] [(.ref o2), (.long q4), (.ref o1)])) rfl rfl (hb hby d7_77)
  have t42 := (t35.wr W36)
  obtain ⟨T43, h43, X43, e43, W43, st43⟩ := putF X41 hx hZ hown (host := "") (Or.inl (wk77 hw)) Via.refl e41 t38 t42 (Or.inl (wk78 hw)) (wk2 hw) (ty := .long) (by decide) rfl rfl (g := (mkF m 81 #[.val (.ref o1), .val (.ref o2)] [(.long (q4 + q5)), (.ref o1)])) rfl rfl (hb hby d7_81)
  have F43 : Fld Z h43 o1 "com/example/tidemark/tidemark/RecencyList" "weight" "J" (.long (q4 + q5)) := t38.same W43
  have N43 := Fr.snoc X43 N36 g3
  have O44 := O37.wr W43 g3
  obtain ⟨fs, hr, hrun, hended, hWm, hsame⟩ := X43.leave (v := none) (fun _ => rfl)
  have Kf45 : own_KL h0 h43 [⟨o1, Jvm.RoadKit.slotOf Z "com/example/tidemark/tidemark/RecencyList" "stamps" "J"⟩, ⟨o2, Jvm.RoadKit.slotOf Z "com/example/tidemark/tidemark/MemoryEntry" "stamp" "J"⟩, ⟨o2, Jvm.RoadKit.slotOf Z "com/example/tidemark/tidemark/MemoryEntry" "list" "Lcom/example/tidemark/tidemark/RecencyList;"⟩, ⟨o2, Jvm.RoadKit.slotOf Z "com/example/tidemark/tidemark/MemoryEntry" "older" "Lcom/example/tidemark/tidemark/MemoryEntry;"⟩, ⟨o2, Jvm.RoadKit.slotOf Z "com/example/tidemark/tidemark/MemoryEntry" "newer" "Lcom/example/tidemark/tidemark/MemoryEntry;"⟩, ⟨o3, Jvm.RoadKit.slotOf Z "com/example/tidemark/tidemark/MemoryEntry" "newer" "Lcom/example/tidemark/tidemark/MemoryEntry;"⟩, ⟨o1, Jvm.RoadKit.slotOf Z "com/example/tidemark/tidemark/RecencyList" "newest" "Lcom/example/tidemark/tidemark/MemoryEntry;"⟩, ⟨o1, Jvm.RoadKit.slotOf Z "com/example/tidemark/tidemark/RecencyList" "size" "J"⟩, ⟨o1, Jvm.RoadKit.slotOf Z "com/example/tidemark/tidemark/RecencyList" "weight" "J"⟩] := (own_klW (own_klW (own_klW (own_klW (own_klW (own_klW (own_klW (own_klW (own_klW (own_kl0 h0 [⟨o1, Jvm.RoadKit.slotOf Z "com/example/tidemark/tidemark/RecencyList" "stamps" "J"⟩, ⟨o2, Jvm.RoadKit.slotOf Z "com/example/tidemark/tidemark/MemoryEntry" "stamp" "J"⟩, ⟨o2, Jvm.RoadKit.slotOf Z "com/example/tidemark/tidemark/MemoryEntry" "list" "Lcom/example/tidemark/tidemark/RecencyList;"⟩, ⟨o2, Jvm.RoadKit.slotOf Z "com/example/tidemark/tidemark/MemoryEntry" "older" "Lcom/example/tidemark/tidemark/MemoryEntry;"⟩, ⟨o2, Jvm.RoadKit.slotOf Z "com/example/tidemark/tidemark/MemoryEntry" "newer" "Lcom/example/tidemark/tidemark/MemoryEntry;"⟩, ⟨o3, Jvm.RoadKit.slotOf Z "com/example/tidemark/tidemark/MemoryEntry" "newer" "Lcom/example/tidemark/tidemark/MemoryEntry;"⟩, ⟨o1, Jvm.RoadKit.slotOf Z "com/example/tidemark/tidemark/RecencyList" "newest" "Lcom/example/tidemark/tidemark/MemoryEntry;"⟩, ⟨o1, Jvm.RoadKit.slotOf Z "com/example/tidemark/tidemark/RecencyList" "size" "J"⟩, ⟨o1, Jvm.RoadKit.slotOf Z "com/example/tidemark/tidemark/RecencyList" "weight" "J"⟩]) W2 (Or.inl (List.mem_of_getElem? (i := 0) rfl))) W6 (Or.inl (List.mem_of_getElem? (i := 1) rfl))) W10 (Or.inl (List.mem_of_getElem? (i := 2) rfl))) W16 (Or.inl (List.mem_of_getElem? (i := 3) rfl))) W20 (Or.inl (List.mem_of_getElem? (i := 4) rfl))) W27 (Or.inl (List.mem_of_getElem? (i := 5) rfl))) W31 (Or.inl (List.mem_of_getElem? (i := 6) rfl))) W36 (Or.inl (List.mem_of_getElem? (i := 7) rfl))) W43 (Or.inl (List.mem_of_getElem? (i := 8) rfl)))
  have t46 := ((((((((F2.other W6 (Or.inl (Ne.symm u6))).other W10 (Or.inl (Ne.symm u6))).other W16 (Or.inl (Ne.symm u6))).other W20 (Or.inl (Ne.symm u6))).other W27 (Or.inl (Ne.symm u14))).other W31 (Or.inr (sn77 hw))).other W36 (Or.inr (sn78 hw))).other W43 (Or.inr (sn79 hw)))
  have t47 := (((((((F6.other W10 (Or.inr (sn80 hw))).other W16 (Or.inr (sn81 hw))).other W20 (Or.inr (sn82 hw))).other W27 (Or.inl (Ne.symm u15))).other W31 (Or.inl u6)).other W36 (Or.inl u6)).other W43 (Or.inl u6))
  have t48 := ((((((F10.other W16 (Or.inr (sn83 hw))).other W20 (Or.inr (sn84 hw))).other W27 (Or.inl (Ne.symm u15))).other W31 (Or.inl u6)).other W36 (Or.inl u6)).other W43 (Or.inl u6))
  have t49 := ((F31.other W36 (Or.inr (sn85 hw))).other W43 (Or.inr (sn86 hw)))
  have t50 := (((((F16.other W20 (Or.inr (sn87 hw))).other W27 (Or.inl (Ne.symm u15))).other W31 (Or.inl u6)).other W36 (Or.inl u6)).other W43 (Or.inl u6))
  have t51 := ((((F20.other W27 (Or.inl (Ne.symm u15))).other W31 (Or.inl u6)).other W36 (Or.inl u6)).other W43 (Or.inl u6))
  have t52 := (((F27.other W31 (Or.inl u14)).other W36 (Or.inl u14)).other W43 (Or.inl u14))
  have t53 := (F36.other W43 (Or.inr (sn91 hw)))
  refine ⟨_, _, pre0 _ ?_, hrun, hended, _, _, rfl, ?_, ⟨_, rfl⟩, hWm, hsame.mono (by decide) (by decide)⟩
  · show Steps p.tables e below (s₁.setTop (mkF m 0 #[.val (.ref o1), .val (.ref o2)] [])) _
    refine sA X0 hx hby d7_0 rfl rfl ?_
    refine sA X0 hx hby d7_1 rfl rfl ?_
    refine XS.dup X0.here hx rfl (hb hby d7_2) rfl rfl ?_
    refine st1 _ ?_
    refine XS.lconst X1.here hx rfl (hb hby d7_6) ?_
    refine XS.ladd X1.here hx rfl (hb hby d7_7) rfl ?_
    jvm_step X1.here [X1.here.top, hx, (hb hby d7_8), Value.category]
    show Steps p.tables e below (T1.setTop (mkF m 9 #[.val (.ref o1), .val (.ref o2)] [(.long (3 : Int64)), (.ref o1), (.long (3 : Int64)), (.ref o2)])) _
    refine st2 _ ?_
    refine st6 _ ?_
    refine sA X6 hx hby d7_15 rfl rfl ?_
    refine sA X6 hx hby d7_16 rfl rfl ?_
    refine st10 _ ?_
    refine sA X10 hx hby d7_20 rfl rfl ?_
    refine sA X10 hx hby d7_21 rfl rfl ?_
    refine st13 _ ?_
    refine st16 _ ?_
    refine sA X16 hx hby d7_28 rfl rfl ?_
    refine XS.aconstNull X16.here hx rfl (hb hby d7_29) ?_
    refine st20 _ ?_
    refine sA X20 hx hby d7_33 rfl rfl ?_
    refine st23 _ ?_
    refine XS.ifnonnullYes X23.here hx rfl (pc0 := 37) (pc' := 48) rfl (hb hby d7_37) rfl (by decide) (by decide) ?_
    refine sA X23 hx hby d7_48 rfl rfl ?_
    refine st24 _ ?_
    refine sA X24 hx hby d7_52 rfl rfl ?_
    refine st27 _ ?_
    refine sA X27 hx hby d7_56 rfl rfl ?_
    refine sA X27 hx hby d7_57 rfl rfl ?_
    refine st31 _ ?_
    refine sA X31 hx hby d7_61 rfl rfl ?_
    refine XS.dup X31.here hx rfl (hb hby d7_62) rfl rfl ?_
    refine st34 _ ?_
    refine XS.lconst X34.here hx rfl (hb hby d7_66) ?_
    refine XS.ladd X34.here hx rfl (hb hby d7_67) rfl ?_
    refine st36 _ ?_
    refine sA X36 hx hby d7_71 rfl rfl ?_
    refine XS.dup X36.here hx rfl (hb hby d7_72) rfl rfl ?_
    refine st39 _ ?_
    refine sA X39 hx hby d7_76 rfl rfl ?_
    refine st41 _ ?_
    refine XS.ladd X41.here hx rfl (hb hby d7_80) rfl ?_
    refine st43 _ ?_
    exact X43.returnOut hx Bd.returns (hb hby d7_84) hr
  · show Q7_19 Z w o1 o2 o3 q4 q5 h0 n0 _ T43.heap _
    rw [e43]
    exact ⟨rfl, N43, Kf45, t46, t47, t48, t49, t50, t51, t52, t53, F43⟩
theorem ef_8_20 (m : MethodId) (o1 : Addr) (o2 : Addr) : entryFrame m #[(.ref o1), (.ref o2)] 2 = mkF m 0 #[.val (.ref o1), .val (.ref o2)] [] := by first | (simp [entryFrame, mkF, argsToLocals, Value.category]; done) | rfl
def Q8_20 (Z : State) (w : Nat → Addr) (o1 : Addr) (o2 : Addr) (o3 : Addr) (q4 : Int64) (q5 : Int64) (h0 : Heap) (n0 : Nat) (v : Option Value) (h : Heap) (L : List Loc) : Prop := v = none ∧ Fr n0 L ∧ own_KL h0 h [⟨o1, Jvm.RoadKit.slotOf Z "com/example/tidemark/tidemark/RecencyList" "oldest" "Lcom/example/tidemark/tidemark/MemoryEntry;"⟩, ⟨o3, Jvm.RoadKit.slotOf Z "com/example/tidemark/tidemark/MemoryEntry" "older" "Lcom/example/tidemark/tidemark/MemoryEntry;"⟩, ⟨o2, Jvm.RoadKit.slotOf Z "com/example/tidemark/tidemark/MemoryEntry" "older" "Lcom/example/tidemark/tidemark/MemoryEntry;"⟩, ⟨o2, Jvm.RoadKit.slotOf Z "com/example/tidemark/tidemark/MemoryEntry" "newer" "Lcom/example/tidemark/tidemark/MemoryEntry;"⟩, ⟨o2, Jvm.RoadKit.slotOf Z "com/example/tidemark/tidemark/MemoryEntry" "list" "Lcom/example/tidemark/tidemark/RecencyList;"⟩, ⟨o1, Jvm.RoadKit.slotOf Z "com/example/tidemark/tidemark/RecencyList" "size" "J"⟩, ⟨o1, Jvm.RoadKit.slotOf Z "com/example/tidemark/tidemark/RecencyList" "weight" "J"⟩] ∧ Fld Z h o2 "com/example/tidemark/tidemark/MemoryEntry" "older" "Lcom/example/tidemark/tidemark/MemoryEntry;" .null ∧ Fld Z h o2 "com/example/tidemark/tidemark/MemoryEntry" "newer" "Lcom/example/tidemark/tidemark/MemoryEntry;" .null ∧ Fld Z h o1 "com/example/tidemark/tidemark/RecencyList" "oldest" "Lcom/example/tidemark/tidemark/MemoryEntry;" (.ref o3) ∧ Fld Z h o3 "com/example/tidemark/tidemark/MemoryEntry" "older" "Lcom/example/tidemark/tidemark/MemoryEntry;" .null ∧ Fld Z h o2 "com/example/tidemark/tidemark/MemoryEntry" "list" "Lcom/example/tidemark/tidemark/RecencyList;" .null ∧ Fld Z h o1 "com/example/tidemark/tidemark/RecencyList" "size" "J" (.long (2 : Int64)) ∧ Fld Z h o1 "com/example/tidemark/tidemark/RecencyList" "weight" "J" (.long (q4 - q5))
set_option maxRecDepth 65536 in
set_option maxHeartbeats 40000000 in
theorem rm8_20 (l : Launch) (Z : State) (a0 : Array Value) (hw : ∀ d ∈ tables_1, d.before a0 Z = true) (w : Nat → Addr) (hW : Wd Z w) (ws : List Jvm.Cond) (o1 : Addr) (o2 : Addr) (o3 : Addr) (q4 : Int64) (q5 : Int64) (h0 : Heap) (n0 : Nat) (O0 : Old Z n0 h0) (f1 : Fld Z h0 o2 "com/example/tidemark/tidemark/MemoryEntry" "older" "Lcom/example/tidemark/tidemark/MemoryEntry;" .null) (f2 : Fld Z h0 o2 "com/example/tidemark/tidemark/MemoryEntry" "newer" "Lcom/example/tidemark/tidemark/MemoryEntry;" (.ref o3)) (f3 : Exa Z h0 o1 "com/example/tidemark/tidemark/RecencyList") (f4 : Fld Z h0 o1 "com/example/tidemark/tidemark/RecencyList" "oldest" "Lcom/example/tidemark/tidemark/MemoryEntry;" (.ref o2)) (g5 : n0 ≤ o1) (u6 : o2 ≠ o1) (f7 : Exa Z h0 o3 "com/example/tidemark/tidemark/MemoryEntry") (f8 : Fld Z h0 o3 "com/example/tidemark/tidemark/MemoryEntry" "older" "Lcom/example/tidemark/tidemark/MemoryEntry;" (.ref o2)) (u9 : o3 ≠ o1) (g10 : n0 ≤ o3) (f11 : Exa Z h0 o2 "com/example/tidemark/tidemark/MemoryEntry") (u12 : o2 ≠ o3) (g13 : n0 ≤ o2) (f14 : Fld Z h0 o2 "com/example/tidemark/tidemark/MemoryEntry" "list" "Lcom/example/tidemark/tidemark/RecencyList;" (.ref o1)) (f15 : Fld Z h0 o1 "com/example/tidemark/tidemark/RecencyList" "size" "J" (.long (3 : Int64))) (f16 : Fld Z h0 o1 "com/example/tidemark/tidemark/RecencyList" "weight" "J" (.long q4)) (f17 : Fld Z h0 o2 "com/example/tidemark/tidemark/MemoryEntry" "charge" "J" (.long q5)) :
    MetFree l ym6 (head1 (Jvm.Cond.code ym6 prog_41_method_10_code 2 none :: ws) ({ frames := 0, cells := 0, slots := 0, locals := 0 } : Room)) (fun a U => a = #[(.ref o1), (.ref o2)] ∧ Z.Warmed39 U.vm ∧ U.heap = h0) (fun _ _ _ _ _ => True) (fun _ U o U' => ∃ v L, o = .returned v ∧ Q8_20 Z w o1 o2 o3 q4 q5 h0 n0 v U'.heap L ∧ FrameEnd U o U' L ({ frames := 0, cells := 0, slots := 0, locals := 0 } : Room).cells ({ frames := 0, cells := 0, slots := 0, locals := 0 } : Room).slots) := by
  refine MetFree.of_bodySF (plainFor_of_name pnc_0) hisR ?_
  intro p e s m args below meth c s₁ Bd hml0 hP hK
  obtain ⟨rfl, hZ, hh⟩ := hP
  have hx := Bd.exec
  have hby := Bd.bytes
  have hml : c.maxLocals = 2 := hml0
  have hown : s.vm.findClass "com/example/tidemark/tidemark/RecencyList" = some m.cls := findClass_of_methodNamed Bd.named
  have hnm := (name_of_methodNamed Bd.named Bd.method).1
  have X0 : Stand p l e ({ frames := 0, cells := 0, slots := 0, locals := 0 } : Room) s m #[(.ref o1), (.ref o2)] below meth c s₁ [] 0 0 := Stand.of_body Bd
  have e0 : s₁.heap = h0 := by rw [← hh, Bd.state]; rfl
  have N0 := Fr.nil n0
  skip
  have pre0 : ∀ t, Steps p.tables e below (s₁.setTop (mkF m 0 #[.val (.ref o1), .val (.ref o2)] [])) t → Steps p.tables e below (s₁.setTop (entryFrame m #[(.ref o1), (.ref o2)] 2)) t := fun t k => castTop (ef_8_20 m o1 o2) k
  obtain ⟨T1, X1, e1, st1⟩ := getF X0 hx hZ hown (host := "") (Or.inl (wk69 hw)) Via.refl e0 f1 (g := (mkF m 1 #[.val (.ref o1), .val (.ref o2)] [(.ref o2)])) rfl rfl (hb hby d8_1)
  obtain ⟨T2, X2, e2, st2⟩ := getF X1 hx hZ hown (host := "") (Or.inl (wk71 hw)) Via.refl e1 f2 (g := (mkF m 9 #[.val (.ref o1), .val (.ref o2)] [(.ref o2), (.ref o1)])) rfl rfl (hb hby d8_9)
  obtain ⟨T3, h3, X3, e3, W3, st3⟩ := putF X2 hx hZ hown (host := "") (Or.inl (wk73 hw)) Via.refl e2 f4 f3 (Or.inl (wk74 hw)) (wk2 hw) (ty := (.object "com/example/tidemark/tidemark/MemoryEntry")) (by decide) rfl rfl (g := (mkF m 12 #[.val (.ref o1), .val (.ref o2)] [(.ref o3), (.ref o1)])) rfl rfl (hb hby d8_12)
  have F3 : Fld Z h3 o1 "com/example/tidemark/tidemark/RecencyList" "oldest" "Lcom/example/tidemark/tidemark/MemoryEntry;" (.ref o3) := f4.same W3
  have N3 := Fr.snoc X3 N0 g5
  have O4 := O0.wr W3 g5
  have t5 := (f2.other W3 (Or.inl u6))
  obtain ⟨T6, X6, e6, st6⟩ := getF X3 hx hZ hown (host := "") (Or.inl (wk71 hw)) Via.refl e3 t5 (g := (mkF m 30 #[.val (.ref o1), .val (.ref o2)] [(.ref o2)])) rfl rfl (hb hby d8_30)
  obtain ⟨T7, X7, e7, st7⟩ := getF X6 hx hZ hown (host := "") (Or.inl (wk71 hw)) Via.refl e6 t5 (g := (mkF m 48 #[.val (.ref o1), .val (.ref o2)] [(.ref o2)])) rfl rfl (hb hby d8_48)
  have t8 := (f1.other W3 (Or.inl u6))
  obtain ⟨T9, X9, e9, st9⟩ := getF X7 hx hZ hown (host := "") (Or.inl (wk69 hw)) Via.refl e7 t8 (g := (mkF m 52 #[.val (.ref o1), .val (.ref o2)] [(.ref o2), (.ref o3)])) rfl rfl (hb hby d8_52)
  have t10 := (f8.other W3 (Or.inl u9))
  have t11 := (f7.wr W3)
  obtain ⟨T12, h12, X12, e12, W12, st12⟩ := putF X9 hx hZ hown (host := "") (Or.inl (wk69 hw)) Via.refl e9 t10 t11 (Or.inl (wk70 hw)) (wk11 hw) (ty := (.object "com/example/tidemark/tidemark/MemoryEntry")) (by decide) rfl rfl (g := (mkF m 55 #[.val (.ref o1), .val (.ref o2)] [.null, (.ref o3)])) rfl rfl (hb hby d8_55)
  have F12 : Fld Z h12 o3 "com/example/tidemark/tidemark/MemoryEntry" "older" "Lcom/example/tidemark/tidemark/MemoryEntry;" .null := t10.same W12
  have N12 := Fr.snoc X12 N3 g10
  have O13 := O4.wr W12 g10
  have t14 := (t8.other W12 (Or.inl u12))
  have t15 := ((f11.wr W3).wr W12)
  obtain ⟨T16, h16, X16, e16, W16, st16⟩ := putF X12 hx hZ hown (host := "") (Or.inl (wk69 hw)) Via.refl e12 t14 t15 (Or.inl (wk70 hw)) (wk11 hw) (ty := (.object "com/example/tidemark/tidemark/MemoryEntry")) (by decide) rfl rfl (g := (mkF m 60 #[.val (.ref o1), .val (.ref o2)] [.null, (.ref o2)])) rfl rfl (hb hby d8_60)
  have F16 : Fld Z h16 o2 "com/example/tidemark/tidemark/MemoryEntry" "older" "Lcom/example/tidemark/tidemark/MemoryEntry;" .null := t14.same W16
  have N16 := Fr.snoc X16 N12 g13
  have O17 := O13.wr W16 g13
  have t18 := ((t5.other W12 (Or.inl u12)).other W16 (Or.inr (sn62 hw)))
  have t19 := (t15.wr W16)
  obtain ⟨T20, h20, X20, e20, W20, st20⟩ := putF X16 hx hZ hown (host := "") (Or.inl (wk71 hw)) Via.refl e16 t18 t19 (Or.inl (wk72 hw)) (wk11 hw) (ty := (.object "com/example/tidemark/tidemark/MemoryEntry")) (by decide) rfl rfl (g := (mkF m 65 #[.val (.ref o1), .val (.ref o2)] [.null, (.ref o2)])) rfl rfl (hb hby d8_65)
  have F20 : Fld Z h20 o2 "com/example/tidemark/tidemark/MemoryEntry" "newer" "Lcom/example/tidemark/tidemark/MemoryEntry;" .null := t18.same W20
  have N20 := Fr.snoc X20 N16 g13
  have O21 := O17.wr W20 g13
  have t22 := ((((f14.other W3 (Or.inl u6)).other W12 (Or.inl u12)).other W16 (Or.inr (sn83 hw))).other W20 (Or.inr (sn84 hw)))
  have t23 := (t19.wr W20)
  obtain ⟨T24, h24, X24, e24, W24, st24⟩ := putF X20 hx hZ hown (host := "") (Or.inl (wk65 hw)) Via.refl e20 t22 t23 (Or.inl (wk66 hw)) (wk11 hw) (ty := (.object "com/example/tidemark/tidemark/RecencyList")) (by decide) rfl rfl (g := (mkF m 70 #[.val (.ref o1), .val (.ref o2)] [.null, (.ref o2)])) rfl rfl (hb hby d8_70)
  have F24 : Fld Z h24 o2 "com/example/tidemark/tidemark/MemoryEntry" "list" "Lcom/example/tidemark/tidemark/RecencyList;" .null := t22.same W24
  have N24 := Fr.snoc X24 N20 g13
  have O25 := O21.wr W24 g13
  have t26 := (((((f15.other W3 (Or.inr (sn66 hw))).other W12 (Or.inl (Ne.symm u9))).other W16 (Or.inl (Ne.symm u6))).other W20 (Or.inl (Ne.symm u6))).other W24 (Or.inl (Ne.symm u6)))
  obtain ⟨T27, X27, e27, st27⟩ := getF X24 hx hZ hown (host := "") (Or.inl (wk75 hw)) Via.refl e24 t26 (g := (mkF m 75 #[.val (.ref o1), .val (.ref o2)] [(.ref o1), (.ref o1)])) rfl rfl (hb hby d8_75)
  have t28 := (((((f3.wr W3).wr W12).wr W16).wr W20).wr W24)
  obtain ⟨T29, h29, X29, e29, W29, st29⟩ := putF X27 hx hZ hown (host := "") (Or.inl (wk75 hw)) Via.refl e27 t26 t28 (Or.inl (wk76 hw)) (wk2 hw) (ty := .long) (by decide) rfl rfl (g := (mkF m 80 #[.val (.ref o1), .val (.ref o2)] [(.long (2 : Int64)), (.ref o1)])) rfl rfl (hb hby d8_80)
  have F29 : Fld Z h29 o1 "com/example/tidemark/tidemark/RecencyList" "size" "J" (.long (2 : Int64)) := t26.same W29
  have N29 := Fr.snoc X29 N24 g5
  have O30 := O25.wr W29 g5
  have t31 := ((((((f16.other W3 (Or.inr (sn69 hw))).other W12 (Or.inl (Ne.symm u9))).other W16 (Or.inl (Ne.symm u6))).other W20 (Or.inl (Ne.symm u6))).other W24 (Or.inl (Ne.symm u6))).other W29 (Or.inr (sn71 hw)))
  obtain ⟨T32, X32, e32, st32⟩ := getF X29 hx hZ hown (host := "") (Or.inl (wk77 hw)) Via.refl e29 t31 (g := (mkF m 85 #[.val (.ref o1), .val (.ref o2)] [(.ref o1), (.ref o1)])) rfl rfl (hb hby d8_85)
  have t33 := ((((((f17.other W3 (Or.inl u6)).other W12 (Or.inl u12)).other W16 (Or.inr (sn74 hw))).other W20 (Or.inr (sn75 hw))).other W24 (Or.inr (sn73 hw))).other W29 (Or.inl u6))
  obtain ⟨T34, X34, e34, st34⟩ := getF X32 hx hZ hown (host := "") (Or.inl (wk79 hw)) Via.refl e32 t33 (g := (mkF m 89 #[.val (.ref o1), .val (.ref o2)] [(.ref o2), (.long q4), (.ref o1)])) rfl rfl (hb hby d8_89)
  have t35 := (t28.wr W29)
  obtain ⟨T36, h36, X36, e36, W36, st36⟩ := putF X34 hx hZ hown (host := "") (Or.inl (wk77 hw)) Via.refl e34 t31 t35 (Or.inl (wk78 hw)) (wk2 hw) (ty := .long) (by decide) rfl rfl (g := (mkF m 93 #[.val (.ref o1), .val (.ref o2)] [(.long (q4 - q5)), (.ref o1)])) rfl rfl (hb hby d8_93)
  have F36 : Fld Z h36 o1 "com/example/tidemark/tidemark/RecencyList" "weight" "J" (.long (q4 - q5)) := t31.same W36
  have N36 := Fr.snoc X36 N29 g5
  have O37 := O30.wr W36 g5
  obtain ⟨fs, hr, hrun, hended, hWm, hsame⟩ := X36.leave (v := none) (fun _ => rfl)
  have Kf38 : own_KL h0 h36 [⟨o1, Jvm.RoadKit.slotOf Z "com/example/tidemark/tidemark/RecencyList" "oldest" "Lcom/example/tidemark/tidemark/MemoryEntry;"⟩, ⟨o3, Jvm.RoadKit.slotOf Z "com/example/tidemark/tidemark/MemoryEntry" "older" "Lcom/example/tidemark/tidemark/MemoryEntry;"⟩, ⟨o2, Jvm.RoadKit.slotOf Z "com/example/tidemark/tidemark/MemoryEntry" "older" "Lcom/example/tidemark/tidemark/MemoryEntry;"⟩, ⟨o2, Jvm.RoadKit.slotOf Z "com/example/tidemark/tidemark/MemoryEntry" "newer" "Lcom/example/tidemark/tidemark/MemoryEntry;"⟩, ⟨o2, Jvm.RoadKit.slotOf Z "com/example/tidemark/tidemark/MemoryEntry" "list" "Lcom/example/tidemark/tidemark/RecencyList;"⟩, ⟨o1, Jvm.RoadKit.slotOf Z "com/example/tidemark/tidemark/RecencyList" "size" "J"⟩, ⟨o1, Jvm.RoadKit.slotOf Z "com/example/tidemark/tidemark/RecencyList" "weight" "J"⟩] := (own_klW (own_klW (own_klW (own_klW (own_klW (own_klW (own_klW (own_kl0 h0 [⟨o1, Jvm.RoadKit.slotOf Z "com/example/tidemark/tidemark/RecencyList" "oldest" "Lcom/example/tidemark/tidemark/MemoryEntry;"⟩, ⟨o3, Jvm.RoadKit.slotOf Z "com/example/tidemark/tidemark/MemoryEntry" "older" "Lcom/example/tidemark/tidemark/MemoryEntry;"⟩, ⟨o2, Jvm.RoadKit.slotOf Z "com/example/tidemark/tidemark/MemoryEntry" "older" "Lcom/example/tidemark/tidemark/MemoryEntry;"⟩, ⟨o2, Jvm.RoadKit.slotOf Z "com/example/tidemark/tidemark/MemoryEntry" "newer" "Lcom/example/tidemark/tidemark/MemoryEntry;"⟩, ⟨o2, Jvm.RoadKit.slotOf Z "com/example/tidemark/tidemark/MemoryEntry" "list" "Lcom/example/tidemark/tidemark/RecencyList;"⟩, ⟨o1, Jvm.RoadKit.slotOf Z "com/example/tidemark/tidemark/RecencyList" "size" "J"⟩, ⟨o1, Jvm.RoadKit.slotOf Z "com/example/tidemark/tidemark/RecencyList" "weight" "J"⟩]) W3 (Or.inl (List.mem_of_getElem? (i := 0) rfl))) W12 (Or.inl (List.mem_of_getElem? (i := 1) rfl))) W16 (Or.inl (List.mem_of_getElem? (i := 2) rfl))) W20 (Or.inl (List.mem_of_getElem? (i := 3) rfl))) W24 (Or.inl (List.mem_of_getElem? (i := 4) rfl))) W29 (Or.inl (List.mem_of_getElem? (i := 5) rfl))) W36 (Or.inl (List.mem_of_getElem? (i := 6) rfl)))
  have t39 := ((((F16.other W20 (Or.inr (sn87 hw))).other W24 (Or.inr (sn59 hw))).other W29 (Or.inl u6)).other W36 (Or.inl u6))
  have t40 := (((F20.other W24 (Or.inr (sn61 hw))).other W29 (Or.inl u6)).other W36 (Or.inl u6))
  have t41 := ((((((F3.other W12 (Or.inl (Ne.symm u9))).other W16 (Or.inl (Ne.symm u6))).other W20 (Or.inl (Ne.symm u6))).other W24 (Or.inl (Ne.symm u6))).other W29 (Or.inr (sn89 hw))).other W36 (Or.inr (sn90 hw)))
  have t42 := (((((F12.other W16 (Or.inl (Ne.symm u12))).other W20 (Or.inl (Ne.symm u12))).other W24 (Or.inl (Ne.symm u12))).other W29 (Or.inl u9)).other W36 (Or.inl u9))
  have t43 := ((F24.other W29 (Or.inl u6)).other W36 (Or.inl u6))
  have t44 := (F29.other W36 (Or.inr (sn91 hw)))
  refine ⟨_, _, pre0 _ ?_, hrun, hended, _, _, rfl, ?_, ⟨_, rfl⟩, hWm, hsame.mono (by decide) (by decide)⟩
  · show Steps p.tables e below (s₁.setTop (mkF m 0 #[.val (.ref o1), .val (.ref o2)] [])) _
    refine sA X0 hx hby d8_0 rfl rfl ?_
    refine st1 _ ?_
    refine XS.ifnonnullNo X1.here hx rfl (hb hby d8_4) rfl ?_
    refine sA X1 hx hby d8_7 rfl rfl ?_
    refine sA X1 hx hby d8_8 rfl rfl ?_
    refine st2 _ ?_
    refine st3 _ ?_
    refine sg (pc := 15) (pc' := 29) X3 hx hby d8_15 (by decide) (by decide) ?_
    refine sA X3 hx hby d8_29 rfl rfl ?_
    refine st6 _ ?_
    refine XS.ifnonnullYes X6.here hx rfl (pc0 := 33) (pc' := 47) rfl (hb hby d8_33) rfl (by decide) (by decide) ?_
    refine sA X6 hx hby d8_47 rfl rfl ?_
    refine st7 _ ?_
    refine sA X7 hx hby d8_51 rfl rfl ?_
    refine st9 _ ?_
    refine st12 _ ?_
    refine sA X12 hx hby d8_58 rfl rfl ?_
    refine XS.aconstNull X12.here hx rfl (hb hby d8_59) ?_
    refine st16 _ ?_
    refine sA X16 hx hby d8_63 rfl rfl ?_
    refine XS.aconstNull X16.here hx rfl (hb hby d8_64) ?_
    refine st20 _ ?_
    refine sA X20 hx hby d8_68 rfl rfl ?_
    refine XS.aconstNull X20.here hx rfl (hb hby d8_69) ?_
    refine st24 _ ?_
    refine sA X24 hx hby d8_73 rfl rfl ?_
    refine XS.dup X24.here hx rfl (hb hby d8_74) rfl rfl ?_
    refine st27 _ ?_
    refine XS.lconst X27.here hx rfl (hb hby d8_78) ?_
    refine XS.lsub X27.here hx rfl (hb hby d8_79) rfl ?_
    refine st29 _ ?_
    refine sA X29 hx hby d8_83 rfl rfl ?_
    refine XS.dup X29.here hx rfl (hb hby d8_84) rfl rfl ?_
    refine st32 _ ?_
    refine sA X32 hx hby d8_88 rfl rfl ?_
    refine st34 _ ?_
    refine XS.lsub X34.here hx rfl (hb hby d8_92) rfl ?_
    refine st36 _ ?_
    exact X36.returnOut hx Bd.returns (hb hby d8_96) hr
  · show Q8_20 Z w o1 o2 o3 q4 q5 h0 n0 _ T36.heap _
    rw [e36]
    exact ⟨rfl, N36, Kf38, t39, t40, t41, t42, t43, t44, F36⟩
theorem ef_9_21 (m : MethodId) (o1 : Addr) : entryFrame m #[(.ref o1)] 1 = mkF m 0 #[.val (.ref o1)] [] := by first | (simp [entryFrame, mkF, argsToLocals, Value.category]; done) | rfl
def Q9_21 (Z : State) (w : Nat → Addr) (o1 : Addr) (h0 : Heap) (n0 : Nat) (v : Option Value) (h : Heap) (L : List Loc) : Prop := v = some (.long (2 : Int64)) ∧ Fr n0 L ∧ h = h0
set_option maxRecDepth 65536 in
set_option maxHeartbeats 40000000 in
theorem rm9_21 (l : Launch) (Z : State) (a0 : Array Value) (hw : ∀ d ∈ tables_1, d.before a0 Z = true) (w : Nat → Addr) (hW : Wd Z w) (ws : List Jvm.Cond) (o1 : Addr) (h0 : Heap) (n0 : Nat) (O0 : Old Z n0 h0) (f1 : Fld Z h0 o1 "com/example/tidemark/tidemark/RecencyList" "size" "J" (.long (2 : Int64))) :
    MetFree l ym7 (head1 (Jvm.Cond.code ym7 prog_41_method_4_code 1 (some .long) :: ws) ({ frames := 0, cells := 0, slots := 0, locals := 0 } : Room)) (fun a U => a = #[(.ref o1)] ∧ Z.Warmed39 U.vm ∧ U.heap = h0) (fun _ _ _ _ _ => True) (fun _ U o U' => ∃ v L, o = .returned v ∧ Q9_21 Z w o1 h0 n0 v U'.heap L ∧ FrameEnd U o U' L ({ frames := 0, cells := 0, slots := 0, locals := 0 } : Room).cells ({ frames := 0, cells := 0, slots := 0, locals := 0 } : Room).slots) := by
  refine MetFree.of_bodySF (plainFor_of_name pnc_0) hisR ?_
  intro p e s m args below meth c s₁ Bd hml0 hP hK
  obtain ⟨rfl, hZ, hh⟩ := hP
  have hx := Bd.exec
  have hby := Bd.bytes
  have hml : c.maxLocals = 1 := hml0
  have hown : s.vm.findClass "com/example/tidemark/tidemark/RecencyList" = some m.cls := findClass_of_methodNamed Bd.named
  have hnm := (name_of_methodNamed Bd.named Bd.method).1
  have X0 : Stand p l e ({ frames := 0, cells := 0, slots := 0, locals := 0 } : Room) s m #[(.ref o1)] below meth c s₁ [] 0 0 := Stand.of_body Bd
  have e0 : s₁.heap = h0 := by rw [← hh, Bd.state]; rfl
  have N0 := Fr.nil n0
  skip
  have pre0 : ∀ t, Steps p.tables e below (s₁.setTop (mkF m 0 #[.val (.ref o1)] [])) t → Steps p.tables e below (s₁.setTop (entryFrame m #[(.ref o1)] 1)) t := fun t k => castTop (ef_9_21 m o1) k
  obtain ⟨T1, X1, e1, st1⟩ := getF X0 hx hZ hown (host := "") (Or.inl (wk75 hw)) Via.refl e0 f1 (g := (mkF m 1 #[.val (.ref o1)] [(.ref o1)])) rfl rfl (hb hby d9_1)
  obtain ⟨fs, hr, hrun, hended, hWm, hsame⟩ := X1.leave (v := some (.long (2 : Int64))) (fun h => by rw [Bd.returns] at h; cases h)
  refine ⟨_, _, pre0 _ ?_, hrun, hended, _, _, rfl, ?_, ⟨_, rfl⟩, hWm, hsame.mono (by decide) (by decide)⟩
  · show Steps p.tables e below (s₁.setTop (mkF m 0 #[.val (.ref o1)] [])) _
    refine sA X0 hx hby d9_0 rfl rfl ?_
    refine st1 _ ?_
    jvm_step X1.here [X1.here.top, hx, (hb hby d9_4), X1.method', Bd.returns, narrow]
    first | (intro acts; rw [hr _ acts rfl rfl rfl]) | rw [hr _ _ rfl rfl rfl]
    exact Steps.refl _
  · show Q9_21 Z w o1 h0 n0 _ T1.heap _
    rw [e1]
    exact ⟨rfl, N0, rfl⟩
theorem ef_7_22 (m : MethodId) (o1 : Addr) (o2 : Addr) : entryFrame m #[(.ref o1), (.ref o2)] 2 = mkF m 0 #[.val (.ref o1), .val (.ref o2)] [] := by first | (simp [entryFrame, mkF, argsToLocals, Value.category]; done) | rfl
def Q7_22 (Z : State) (w : Nat → Addr) (o1 : Addr) (o2 : Addr) (o3 : Addr) (q4 : Int64) (q5 : Int64) (h0 : Heap) (n0 : Nat) (v : Option Value) (h : Heap) (L : List Loc) : Prop := v = none ∧ Fr n0 L ∧ own_KL h0 h [⟨o1, Jvm.RoadKit.slotOf Z "com/example/tidemark/tidemark/RecencyList" "stamps" "J"⟩, ⟨o2, Jvm.RoadKit.slotOf Z "com/example/tidemark/tidemark/MemoryEntry" "stamp" "J"⟩, ⟨o2, Jvm.RoadKit.slotOf Z "com/example/tidemark/tidemark/MemoryEntry" "list" "Lcom/example/tidemark/tidemark/RecencyList;"⟩, ⟨o2, Jvm.RoadKit.slotOf Z "com/example/tidemark/tidemark/MemoryEntry" "older" "Lcom/example/tidemark/tidemark/MemoryEntry;"⟩, ⟨o2, Jvm.RoadKit.slotOf Z "com/example/tidemark/tidemark/MemoryEntry" "newer" "Lcom/example/tidemark/tidemark/MemoryEntry;"⟩, ⟨o3, Jvm.RoadKit.slotOf Z "com/example/tidemark/tidemark/MemoryEntry" "newer" "Lcom/example/tidemark/tidemark/MemoryEntry;"⟩, ⟨o1, Jvm.RoadKit.slotOf Z "com/example/tidemark/tidemark/RecencyList" "newest" "Lcom/example/tidemark/tidemark/MemoryEntry;"⟩, ⟨o1, Jvm.RoadKit.slotOf Z "com/example/tidemark/tidemark/RecencyList" "size" "J"⟩, ⟨o1, Jvm.RoadKit.slotOf Z "com/example/tidemark/tidemark/RecencyList" "weight" "J"⟩] ∧ Fld Z h o1 "com/example/tidemark/tidemark/RecencyList" "stamps" "J" (.long (4 : Int64)) ∧ Fld Z h o2 "com/example/tidemark/tidemark/MemoryEntry" "stamp" "J" (.long (4 : Int64)) ∧ Fld Z h o2 "com/example/tidemark/tidemark/MemoryEntry" "list" "Lcom/example/tidemark/tidemark/RecencyList;" (.ref o1) ∧ Fld Z h o1 "com/example/tidemark/tidemark/RecencyList" "newest" "Lcom/example/tidemark/tidemark/MemoryEntry;" (.ref o2) ∧ Fld Z h o2 "com/example/tidemark/tidemark/MemoryEntry" "older" "Lcom/example/tidemark/tidemark/MemoryEntry;" (.ref o3) ∧ Fld Z h o2 "com/example/tidemark/tidemark/MemoryEntry" "newer" "Lcom/example/tidemark/tidemark/MemoryEntry;" .null ∧ Fld Z h o3 "com/example/tidemark/tidemark/MemoryEntry" "newer" "Lcom/example/tidemark/tidemark/MemoryEntry;" (.ref o2) ∧ Fld Z h o1 "com/example/tidemark/tidemark/RecencyList" "size" "J" (.long (3 : Int64)) ∧ Fld Z h o1 "com/example/tidemark/tidemark/RecencyList" "weight" "J" (.long (q4 + q5))
set_option maxRecDepth 65536 in
set_option maxHeartbeats 40000000 in
theorem rm7_22 (l : Launch) (Z : State) (a0 : Array Value) (hw : ∀ d ∈ tables_1, d.before a0 Z = true) (w : Nat → Addr) (hW : Wd Z w) (ws : List Jvm.Cond) (o1 : Addr) (o2 : Addr) (o3 : Addr) (q4 : Int64) (q5 : Int64) (h0 : Heap) (n0 : Nat) (O0 : Old Z n0 h0) (f1 : Fld Z h0 o1 "com/example/tidemark/tidemark/RecencyList" "stamps" "J" (.long (3 : Int64))) (f2 : Exa Z h0 o1 "com/example/tidemark/tidemark/RecencyList") (g3 : n0 ≤ o1) (f4 : Exa Z h0 o2 "com/example/tidemark/tidemark/MemoryEntry") (f5 : Fld Z h0 o2 "com/example/tidemark/tidemark/MemoryEntry" "stamp" "J" (.long (1 : Int64))) (u6 : o2 ≠ o1) (g7 : n0 ≤ o2) (f8 : Fld Z h0 o2 "com/example/tidemark/tidemark/MemoryEntry" "list" "Lcom/example/tidemark/tidemark/RecencyList;" .null) (f9 : Fld Z h0 o1 "com/example/tidemark/tidemark/RecencyList" "newest" "Lcom/example/tidemark/tidemark/MemoryEntry;" (.ref o3)) (f10 : Fld Z h0 o2 "com/example/tidemark/tidemark/MemoryEntry" "older" "Lcom/example/tidemark/tidemark/MemoryEntry;" .null) (f11 : Fld Z h0 o2 "com/example/tidemark/tidemark/MemoryEntry" "newer" "Lcom/example/tidemark/tidemark/MemoryEntry;" .null) (f12 : Exa Z h0 o3 "com/example/tidemark/tidemark/MemoryEntry") (f13 : Fld Z h0 o3 "com/example/tidemark/tidemark/MemoryEntry" "newer" "Lcom/example/tidemark/tidemark/MemoryEntry;" .null) (u14 : o3 ≠ o1) (u15 : o3 ≠ o2) (g16 : n0 ≤ o3) (f17 : Fld Z h0 o1 "com/example/tidemark/tidemark/RecencyList" "size" "J" (.long (2 : Int64))) (f18 : Fld Z h0 o1 "com/example/tidemark/tidemark/RecencyList" "weight" "J" (.long q4)) (f19 : Fld Z h0 o2 "com/example/tidemark/tidemark/MemoryEntry" "charge" "J" (.long q5)) :
    MetFree l ym5 (head1 (Jvm.Cond.code ym5 prog_41_method_7_code 2 none :: ws) ({ frames := 0, cells := 0, slots := 0, locals := 0 } : Room)) (fun a U => a = #[(.ref o1), (.ref o2)] ∧ Z.Warmed39 U.vm ∧ U.heap = h0) (fun _ _ _ _ _ => True) (fun _ U o U' => ∃ v L, o = .returned v ∧ Q7_22 Z w o1 o2 o3 q4 q5 h0 n0 v U'.heap L ∧ FrameEnd U o U' L ({ frames := 0, cells := 0, slots := 0, locals := 0 } : Room).cells ({ frames := 0, cells := 0, slots := 0, locals := 0 } : Room).slots) := by
  refine MetFree.of_bodySF (plainFor_of_name pnc_0) hisR ?_
  intro p e s m args below meth c s₁ Bd hml0 hP hK
  obtain ⟨rfl, hZ, hh⟩ := hP
  have hx := Bd.exec
  have hby := Bd.bytes
  have hml : c.maxLocals = 2 := hml0
  have hown : s.vm.findClass "com/example/tidemark/tidemark/RecencyList" = some m.cls := findClass_of_methodNamed Bd.named
  have hnm := (name_of_methodNamed Bd.named Bd.method).1
  have X0 : Stand p l e ({ frames := 0, cells := 0, slots := 0, locals := 0 } : Room) s m #[(.ref o1), (.ref o2)] below meth c s₁ [] 0 0 := Stand.of_body Bd
  have e0 : s₁.heap = h0 := by rw [← hh, Bd.state]; rfl
  have N0 := Fr.nil n0
  skip
  have pre0 : ∀ t, Steps p.tables e below (s₁.setTop (mkF m 0 #[.val (.ref o1), .val (.ref o2)] [])) t → Steps p.tables e below (s₁.setTop (entryFrame m #[(.ref o1), (.ref o2)] 2)) t := fun t k => castTop (ef_7_22 m o1 o2) k
  obtain ⟨T1, X1, e1, st1⟩ := getF X0 hx hZ hown (host := "") (Or.inl (wk61 hw)) Via.refl e0 f1 (g := (mkF m 3 #[.val (.ref o1), .val (.ref o2)] [(.ref o1), (.ref o1), (.ref o2)])) rfl rfl (hb hby d7_3)
  obtain ⟨T2, h2, X2, e2, W2, st2⟩ := putF X1 hx hZ hown (host := "") (Or.inl (wk61 hw)) Via.refl e1 f1 f2 (Or.inl (wk62 hw)) (wk2 hw) (ty := .long) (by decide) rfl rfl (g := (mkF m 9 #[.val (.ref o1), .val (.ref o2)] [(.long (4 : Int64)), (.ref o1), (.long (4 : Int64)), (.ref o2)])) rfl rfl (hb hby d7_9)
  have F2 : Fld Z h2 o1 "com/example/tidemark/tidemark/RecencyList" "stamps" "J" (.long (4 : Int64)) := f1.same W2
  have N2 := Fr.snoc X2 N0 g3
  have O3 := O0.wr W2 g3
  have t4 := (f5.other W2 (Or.inl u6))
  have t5 := (f4.wr W2)
  obtain ⟨T6, h6, X6, e6, W6, st6⟩ := putF X2 hx hZ hown (host := "") (Or.inl (wk63 hw)) Via.refl e2 t4 t5 (Or.inl (wk64 hw)) (wk11 hw) (ty := .long) (by decide) rfl rfl (g := (mkF m 12 #[.val (.ref o1), .val (.ref o2)] [(.long (4 : Int64)), (.ref o2)])) rfl rfl (hb hby d7_12)
  have F6 : Fld Z h6 o2 "com/example/tidemark/tidemark/MemoryEntry" "stamp" "J" (.long (4 : Int64)) := t4.same W6
  have N6 := Fr.snoc X6 N2 g7
  have O7 := O3.wr W6 g7
  have t8 := ((f8.other W2 (Or.inl u6)).other W6 (Or.inr (sn56 hw)))
  have t9 := (t5.wr W6)
  obtain ⟨T10, h10, X10, e10, W10, st10⟩ := putF X6 hx hZ hown (host := "") (Or.inl (wk65 hw)) Via.refl e6 t8 t9 (Or.inl (wk66 hw)) (wk11 hw) (ty := (.object "com/example/tidemark/tidemark/RecencyList")) (by decide) rfl rfl (g := (mkF m 17 #[.val (.ref o1), .val (.ref o2)] [(.ref o1), (.ref o2)])) rfl rfl (hb hby d7_17)
  have F10 : Fld Z h10 o2 "com/example/tidemark/tidemark/MemoryEntry" "list" "Lcom/example/tidemark/tidemark/RecencyList;" (.ref o1) := t8.same W10
  have N10 := Fr.snoc X10 N6 g7
  have O11 := O7.wr W10 g7
  have t12 := (((f9.other W2 (Or.inr (sn57 hw))).other W6 (Or.inl (Ne.symm u6))).other W10 (Or.inl (Ne.symm u6)))
  obtain ⟨T13, X13, e13, st13⟩ := getF X10 hx hZ hown (host := "") (Or.inl (wk67 hw)) Via.refl e10 t12 (g := (mkF m 22 #[.val (.ref o1), .val (.ref o2)] [(.ref o1), (.ref o2)])) rfl rfl (hb hby d7_22)
  have t14 := (((f10.other W2 (Or.inl u6)).other W6 (Or.inr (sn58 hw))).other W10 (Or.inr (sn59 hw)))
  have t15 := (t9.wr W10)
  obtain ⟨T16, h16, X16, e16, W16, st16⟩ := putF X13 hx hZ hown (host := "") (Or.inl (wk69 hw)) Via.refl e13 t14 t15 (Or.inl (wk70 hw)) (wk11 hw) (ty := (.object "com/example/tidemark/tidemark/MemoryEntry")) (by decide) rfl rfl (g := (mkF m 25 #[.val (.ref o1), .val (.ref o2)] [(.ref o3), (.ref o2)])) rfl rfl (hb hby d7_25)
  have F16 : Fld Z h16 o2 "com/example/tidemark/tidemark/MemoryEntry" "older" "Lcom/example/tidemark/tidemark/MemoryEntry;" (.ref o3) := t14.same W16
  have N16 := Fr.snoc X16 N10 g7
  have O17 := O11.wr W16 g7
  have t18 := ((((f11.other W2 (Or.inl u6)).other W6 (Or.inr (sn60 hw))).other W10 (Or.inr (sn61 hw))).other W16 (Or.inr (sn62 hw)))
  have t19 := (t15.wr W16)
  obtain ⟨T20, h20, X20, e20, W20, st20⟩ := putF X16 hx hZ hown (host := "") (Or.inl (wk71 hw)) Via.refl e16 t18 t19 (Or.inl (wk72 hw)) (wk11 hw) (ty := (.object "com/example/tidemark/tidemark/MemoryEntry")) (by decide) rfl rfl (g := (mkF m 30 #[.val (.ref o1), .val (.ref o2)] [.null, (.ref o2)])) rfl rfl (hb hby d7_30)
  have F20 : Fld Z h20 o2 "com/example/tidemark/tidemark/MemoryEntry" "newer" "Lcom/example/tidemark/tidemark/MemoryEntry;" .null := t18.same W20
  have N20 := Fr.snoc X20 N16 g7
  have O21 := O17.wr W20 g7
  have t22 := ((t12.other W16 (Or.inl (Ne.symm u6))).other W20 (Or.inl (Ne.symm u6)))
  obtain ⟨T23, X23, e23, st23⟩ := getF X20 hx hZ hown (host := "") (Or.inl (wk67 hw)) Via.refl e20 t22 (g := (mkF m 34 #[.val (.ref o1), .val (.ref o2)] [(.ref o1)])) rfl rfl (hb hby d7_34)
  obtain ⟨T24, X24, e24, st24⟩ := getF X23 hx hZ hown (host := "") (Or.inl (wk67 hw)) Via.refl e23 t22 (g := (mkF m 49 #[.val (.ref o1), .val (.ref o2)] [(.ref o1)])) rfl rfl (hb hby d7_49)
  have t25 := (((((f13.other W2 (Or.inl u14)).other W6 (Or.inl u15)).other W10 (Or.inl u15)).other W16 (Or.inl u15)).other W20 (Or.inl u15))
  have t26 := (((((f12.wr W2).wr W6).wr W10).wr W16).wr W20)
  obtain ⟨T27, h27, X27, e27, W27, st27⟩ := putF X24 hx hZ hown (host := "") (Or.inl (wk71 hw)) Via.refl e24 t25 t26 (Or.inl (wk72 hw)) (wk11 hw) (ty := (.object "com/example/tidemark/tidemark/MemoryEntry")) (by decide) rfl rfl (g := (mkF m 53 #[.val (.ref o1), .val (.ref o2)] [(.ref o2), (.ref o3)])) rfl rfl (hb hby d7_53)
  have F27 : Fld Z h27 o3 "com/example/tidemark/tidemark/MemoryEntry" "newer" "Lcom/example/tidemark/tidemark/MemoryEntry;" (.ref o2) := t25.same W27
  have N27 := Fr.snoc X27 N20 g16
  have O28 := O21.wr W27 g16
  have t29 := (t22.other W27 (Or.inl (Ne.symm u14)))
  have t30 := ((((((f2.wr W2).wr W6).wr W10).wr W16).wr W20).wr W27)
  obtain ⟨T31, h31, X31, e31, W31, st31⟩ := putF X27 hx hZ hown (host := "") (Or.inl (wk67 hw)) Via.refl e27 t29 t30 (Or.inl (wk68 hw)) (wk2 hw) (ty := (.object "com/example/tidemark/tidemark/MemoryEntry")) (by decide) rfl rfl (g := (mkF m 58 #[.val (.ref o1), .val (.ref o2)] [(.ref o2), (.ref o1)])) rfl rfl (hb hby d7_58)
  have F31 : Fld Z h31 o1 "com/example/tidemark/tidemark/RecencyList" "newest" "Lcom/example/tidemark/tidemark/MemoryEntry;" (.ref o2) := t29.same W31
  have N31 := Fr.snoc X31 N27 g3
  have O32 := O28.wr W31 g3
  have t33 := (((((((f17.other W2 (Or.inr (sn65 hw))).other W6 (Or.inl (Ne.symm u6))).other W10 (Or.inl (Ne.symm u6))).other W16 (Or.inl (Ne.symm u6))).other W20 (Or.inl (Ne.symm u6))).other W27 (Or.inl (Ne.symm u14))).other W31 (Or.inr (sn67 hw)))
  obtain ⟨T34, X34, e34, st34⟩ := getF X31 hx hZ hown (host := "") (Or.inl (wk75 hw)) Via.refl e31 t33 (g := (mkF m 63 #[.val (.ref o1), .val (.ref o2)] [(.ref o1), (.ref o1)])) rfl rfl (hb hby d7_63)
  have t35 := (t30.wr W31)
  obtain ⟨T36, h36, X36, e36, W36, st36⟩ := putF X34 hx hZ hown (host := "") (Or.inl (wk75 hw)) Via.refl e34 t33 t35 (Or.inl (wk76 hw)) (wk2 hw) (ty := .long) (by decide) rfl rfl (g := (mkF m 68 #[.val (.ref o1), .val (.ref o2)] [(.long (3 : Int64)), (.ref o1)])) rfl rfl (hb hby d7_68)
  have F36 : Fld Z h36 o1 "com/example/tidemark/tidemark/RecencyList" "size" "J" (.long (3 : Int64)) := t33.same W36
  have N36 := Fr.snoc X36 N31 g3
  have O37 := O32.wr W36 g3
  have t38 := ((((((((f18.other W2 (Or.inr (sn68 hw))).other W6 (Or.inl (Ne.symm u6))).other W10 (Or.inl (Ne.symm u6))).other W16 (Or.inl (Ne.symm u6))).other W20 (Or.inl (Ne.symm u6))).other W27 (Or.inl (Ne.symm u14))).other W31 (Or.inr (sn70 hw))).other W36 (Or.inr (sn71 hw)))
  obtain ⟨T39, X39, e39, st39⟩ := getF X36 hx hZ hown (host := "") (Or.inl (wk77 hw)) Via.refl e36 t38 (g := (mkF m 73 #[.val (.ref o1), .val (.ref o2)] [(.ref o1), (.ref o1)])) rfl rfl (hb hby d7_73)
  have t40 := ((((((((f19.other W2 (Or.inl u6)).other W6 (Or.inr (sn72 hw))).other W10 (Or.inr (sn73 hw))).other W16 (Or.inr (sn74 hw))).other W20 (Or.inr (sn75 hw))).other W27 (Or.inl (Ne.symm u15))).other W31 (Or.inl u6)).other W36 (Or.inl u6))
  obtain ⟨T41, X41, e41, st41⟩ := getF X39 hx hZ hown (host := "") (Or.inl (wk79 hw)) Via.refl e39 t40 (g := (mkF m 77 #[.val (.ref o1), .val (.ref o2)] [(.ref o2), (.long q4), (.ref o1)])) rfl rfl (hb hby d7_77)
  have t42 := (t35.wr W36)
  obtain ⟨T43, h43, X43, e43, W43, st43⟩ := putF X41 hx hZ hown (host := "") (Or.inl (wk77 hw)) Via.refl e41 t38 t42 (Or.inl (wk78 hw)) (wk2 hw) (ty := .long) (by decide) rfl rfl (g := (mkF m 81 #[.val (.ref o1), .val (.ref o2)] [(.long (q4 + q5)), (.ref o1)])) rfl rfl (hb hby d7_81)
  have F43 : Fld Z h43 o1 "com/example/tidemark/tidemark/RecencyList" "weight" "J" (.long (q4 + q5)) := t38.same W43
  have N43 := Fr.snoc X43 N36 g3
  have O44 := O37.wr W43 g3
  obtain ⟨fs, hr, hrun, hended, hWm, hsame⟩ := X43.leave (v := none) (fun _ => rfl)
  have Kf45 : own_KL h0 h43 [⟨o1, Jvm.RoadKit.slotOf Z "com/example/tidemark/tidemark/RecencyList" "stamps" "J"⟩, ⟨o2, Jvm.RoadKit.slotOf Z "com/example/tidemark/tidemark/MemoryEntry" "stamp" "J"⟩, ⟨o2, Jvm.RoadKit.slotOf Z "com/example/tidemark/tidemark/MemoryEntry" "list" "Lcom/example/tidemark/tidemark/RecencyList;"⟩, ⟨o2, Jvm.RoadKit.slotOf Z "com/example/tidemark/tidemark/MemoryEntry" "older" "Lcom/example/tidemark/tidemark/MemoryEntry;"⟩, ⟨o2, Jvm.RoadKit.slotOf Z "com/example/tidemark/tidemark/MemoryEntry" "newer" "Lcom/example/tidemark/tidemark/MemoryEntry;"⟩, ⟨o3, Jvm.RoadKit.slotOf Z "com/example/tidemark/tidemark/MemoryEntry" "newer" "Lcom/example/tidemark/tidemark/MemoryEntry;"⟩, ⟨o1, Jvm.RoadKit.slotOf Z "com/example/tidemark/tidemark/RecencyList" "newest" "Lcom/example/tidemark/tidemark/MemoryEntry;"⟩, ⟨o1, Jvm.RoadKit.slotOf Z "com/example/tidemark/tidemark/RecencyList" "size" "J"⟩, ⟨o1, Jvm.RoadKit.slotOf Z "com/example/tidemark/tidemark/RecencyList" "weight" "J"⟩] := (own_klW (own_klW (own_klW (own_klW (own_klW (own_klW (own_klW (own_klW (own_klW (own_kl0 h0 [⟨o1, Jvm.RoadKit.slotOf Z "com/example/tidemark/tidemark/RecencyList" "stamps" "J"⟩, ⟨o2, Jvm.RoadKit.slotOf Z "com/example/tidemark/tidemark/MemoryEntry" "stamp" "J"⟩, ⟨o2, Jvm.RoadKit.slotOf Z "com/example/tidemark/tidemark/MemoryEntry" "list" "Lcom/example/tidemark/tidemark/RecencyList;"⟩, ⟨o2, Jvm.RoadKit.slotOf Z "com/example/tidemark/tidemark/MemoryEntry" "older" "Lcom/example/tidemark/tidemark/MemoryEntry;"⟩, ⟨o2, Jvm.RoadKit.slotOf Z "com/example/tidemark/tidemark/MemoryEntry" "newer" "Lcom/example/tidemark/tidemark/MemoryEntry;"⟩, ⟨o3, Jvm.RoadKit.slotOf Z "com/example/tidemark/tidemark/MemoryEntry" "newer" "Lcom/example/tidemark/tidemark/MemoryEntry;"⟩, ⟨o1, Jvm.RoadKit.slotOf Z "com/example/tidemark/tidemark/RecencyList" "newest" "Lcom/example/tidemark/tidemark/MemoryEntry;"⟩, ⟨o1, Jvm.RoadKit.slotOf Z "com/example/tidemark/tidemark/RecencyList" "size" "J"⟩, ⟨o1, Jvm.RoadKit.slotOf Z "com/example/tidemark/tidemark/RecencyList" "weight" "J"⟩]) W2 (Or.inl (List.mem_of_getElem? (i := 0) rfl))) W6 (Or.inl (List.mem_of_getElem? (i := 1) rfl))) W10 (Or.inl (List.mem_of_getElem? (i := 2) rfl))) W16 (Or.inl (List.mem_of_getElem? (i := 3) rfl))) W20 (Or.inl (List.mem_of_getElem? (i := 4) rfl))) W27 (Or.inl (List.mem_of_getElem? (i := 5) rfl))) W31 (Or.inl (List.mem_of_getElem? (i := 6) rfl))) W36 (Or.inl (List.mem_of_getElem? (i := 7) rfl))) W43 (Or.inl (List.mem_of_getElem? (i := 8) rfl)))
  have t46 := ((((((((F2.other W6 (Or.inl (Ne.symm u6))).other W10 (Or.inl (Ne.symm u6))).other W16 (Or.inl (Ne.symm u6))).other W20 (Or.inl (Ne.symm u6))).other W27 (Or.inl (Ne.symm u14))).other W31 (Or.inr (sn77 hw))).other W36 (Or.inr (sn78 hw))).other W43 (Or.inr (sn79 hw)))
  have t47 := (((((((F6.other W10 (Or.inr (sn80 hw))).other W16 (Or.inr (sn81 hw))).other W20 (Or.inr (sn82 hw))).other W27 (Or.inl (Ne.symm u15))).other W31 (Or.inl u6)).other W36 (Or.inl u6)).other W43 (Or.inl u6))
  have t48 := ((((((F10.other W16 (Or.inr (sn83 hw))).other W20 (Or.inr (sn84 hw))).other W27 (Or.inl (Ne.symm u15))).other W31 (Or.inl u6)).other W36 (Or.inl u6)).other W43 (Or.inl u6))
  have t49 := ((F31.other W36 (Or.inr (sn85 hw))).other W43 (Or.inr (sn86 hw)))
  have t50 := (((((F16.other W20 (Or.inr (sn87 hw))).other W27 (Or.inl (Ne.symm u15))).other W31 (Or.inl u6)).other W36 (Or.inl u6)).other W43 (Or.inl u6))
  have t51 := ((((F20.other W27 (Or.inl (Ne.symm u15))).other W31 (Or.inl u6)).other W36 (Or.inl u6)).other W43 (Or.inl u6))
  have t52 := (((F27.other W31 (Or.inl u14)).other W36 (Or.inl u14)).other W43 (Or.inl u14))
  have t53 := (F36.other W43 (Or.inr (sn91 hw)))
  refine ⟨_, _, pre0 _ ?_, hrun, hended, _, _, rfl, ?_, ⟨_, rfl⟩, hWm, hsame.mono (by decide) (by decide)⟩
  · show Steps p.tables e below (s₁.setTop (mkF m 0 #[.val (.ref o1), .val (.ref o2)] [])) _
    refine sA X0 hx hby d7_0 rfl rfl ?_
    refine sA X0 hx hby d7_1 rfl rfl ?_
    refine XS.dup X0.here hx rfl (hb hby d7_2) rfl rfl ?_
    refine st1 _ ?_
    refine XS.lconst X1.here hx rfl (hb hby d7_6) ?_
    refine XS.ladd X1.here hx rfl (hb hby d7_7) rfl ?_
    jvm_step X1.here [X1.here.top, hx, (hb hby d7_8), Value.category]
    show Steps p.tables e below (T1.setTop (mkF m 9 #[.val (.ref o1), .val (.ref o2)] [(.long (4 : Int64)), (.ref o1), (.long (4 : Int64)), (.ref o2)])) _
    refine st2 _ ?_
    refine st6 _ ?_
    refine sA X6 hx hby d7_15 rfl rfl ?_
    refine sA X6 hx hby d7_16 rfl rfl ?_
    refine st10 _ ?_
    refine sA X10 hx hby d7_20 rfl rfl ?_
    refine sA X10 hx hby d7_21 rfl rfl ?_
    refine st13 _ ?_
    refine st16 _ ?_
    refine sA X16 hx hby d7_28 rfl rfl ?_
    refine XS.aconstNull X16.here hx rfl (hb hby d7_29) ?_
    refine st20 _ ?_
    refine sA X20 hx hby d7_33 rfl rfl ?_
    refine st23 _ ?_
    refine XS.ifnonnullYes X23.here hx rfl (pc0 := 37) (pc' := 48) rfl (hb hby d7_37) rfl (by decide) (by decide) ?_
    refine sA X23 hx hby d7_48 rfl rfl ?_
    refine st24 _ ?_
    refine sA X24 hx hby d7_52 rfl rfl ?_
    refine st27 _ ?_
    refine sA X27 hx hby d7_56 rfl rfl ?_
    refine sA X27 hx hby d7_57 rfl rfl ?_
    refine st31 _ ?_
    refine sA X31 hx hby d7_61 rfl rfl ?_
    refine XS.dup X31.here hx rfl (hb hby d7_62) rfl rfl ?_
    refine st34 _ ?_
    refine XS.lconst X34.here hx rfl (hb hby d7_66) ?_
    refine XS.ladd X34.here hx rfl (hb hby d7_67) rfl ?_
    refine st36 _ ?_
    refine sA X36 hx hby d7_71 rfl rfl ?_
    refine XS.dup X36.here hx rfl (hb hby d7_72) rfl rfl ?_
    refine st39 _ ?_
    refine sA X39 hx hby d7_76 rfl rfl ?_
    refine st41 _ ?_
    refine XS.ladd X41.here hx rfl (hb hby d7_80) rfl ?_
    refine st43 _ ?_
    exact X43.returnOut hx Bd.returns (hb hby d7_84) hr
  · show Q7_22 Z w o1 o2 o3 q4 q5 h0 n0 _ T43.heap _
    rw [e43]
    exact ⟨rfl, N43, Kf45, t46, t47, t48, t49, t50, t51, t52, t53, F43⟩
theorem ef_8_23 (m : MethodId) (o1 : Addr) (o2 : Addr) : entryFrame m #[(.ref o1), (.ref o2)] 2 = mkF m 0 #[.val (.ref o1), .val (.ref o2)] [] := by first | (simp [entryFrame, mkF, argsToLocals, Value.category]; done) | rfl
def Q8_23 (Z : State) (w : Nat → Addr) (o1 : Addr) (o2 : Addr) (o3 : Addr) (o4 : Addr) (q5 : Int64) (q6 : Int64) (h0 : Heap) (n0 : Nat) (v : Option Value) (h : Heap) (L : List Loc) : Prop := v = none ∧ Fr n0 L ∧ own_KL h0 h [⟨o3, Jvm.RoadKit.slotOf Z "com/example/tidemark/tidemark/MemoryEntry" "newer" "Lcom/example/tidemark/tidemark/MemoryEntry;"⟩, ⟨o4, Jvm.RoadKit.slotOf Z "com/example/tidemark/tidemark/MemoryEntry" "older" "Lcom/example/tidemark/tidemark/MemoryEntry;"⟩, ⟨o2, Jvm.RoadKit.slotOf Z "com/example/tidemark/tidemark/MemoryEntry" "older" "Lcom/example/tidemark/tidemark/MemoryEntry;"⟩, ⟨o2, Jvm.RoadKit.slotOf Z "com/example/tidemark/tidemark/MemoryEntry" "newer" "Lcom/example/tidemark/tidemark/MemoryEntry;"⟩, ⟨o2, Jvm.RoadKit.slotOf Z "com/example/tidemark/tidemark/MemoryEntry" "list" "Lcom/example/tidemark/tidemark/RecencyList;"⟩, ⟨o1, Jvm.RoadKit.slotOf Z "com/example/tidemark/tidemark/RecencyList" "size" "J"⟩, ⟨o1, Jvm.RoadKit.slotOf Z "com/example/tidemark/tidemark/RecencyList" "weight" "J"⟩] ∧ Fld Z h o2 "com/example/tidemark/tidemark/MemoryEntry" "older" "Lcom/example/tidemark/tidemark/MemoryEntry;" .null ∧ Fld Z h o2 "com/example/tidemark/tidemark/MemoryEntry" "newer" "Lcom/example/tidemark/tidemark/MemoryEntry;" .null ∧ Fld Z h o3 "com/example/tidemark/tidemark/MemoryEntry" "newer" "Lcom/example/tidemark/tidemark/MemoryEntry;" (.ref o4) ∧ Fld Z h o4 "com/example/tidemark/tidemark/MemoryEntry" "older" "Lcom/example/tidemark/tidemark/MemoryEntry;" (.ref o3) ∧ Fld Z h o2 "com/example/tidemark/tidemark/MemoryEntry" "list" "Lcom/example/tidemark/tidemark/RecencyList;" .null ∧ Fld Z h o1 "com/example/tidemark/tidemark/RecencyList" "size" "J" (.long (2 : Int64)) ∧ Fld Z h o1 "com/example/tidemark/tidemark/RecencyList" "weight" "J" (.long (q5 - q6))
set_option maxRecDepth 65536 in
set_option maxHeartbeats 40000000 in
theorem rm8_23 (l : Launch) (Z : State) (a0 : Array Value) (hw : ∀ d ∈ tables_1, d.before a0 Z = true) (w : Nat → Addr) (hW : Wd Z w) (ws : List Jvm.Cond) (o1 : Addr) (o2 : Addr) (o3 : Addr) (o4 : Addr) (q5 : Int64) (q6 : Int64) (h0 : Heap) (n0 : Nat) (O0 : Old Z n0 h0) (f1 : Fld Z h0 o2 "com/example/tidemark/tidemark/MemoryEntry" "older" "Lcom/example/tidemark/tidemark/MemoryEntry;" (.ref o3)) (f2 : Fld Z h0 o2 "com/example/tidemark/tidemark/MemoryEntry" "newer" "Lcom/example/tidemark/tidemark/MemoryEntry;" (.ref o4)) (f3 : Exa Z h0 o3 "com/example/tidemark/tidemark/MemoryEntry") (f4 : Fld Z h0 o3 "com/example/tidemark/tidemark/MemoryEntry" "newer" "Lcom/example/tidemark/tidemark/MemoryEntry;" (.ref o2)) (g5 : n0 ≤ o3) (u6 : o2 ≠ o3) (f7 : Exa Z h0 o4 "com/example/tidemark/tidemark/MemoryEntry") (f8 : Fld Z h0 o4 "com/example/tidemark/tidemark/MemoryEntry" "older" "Lcom/example/tidemark/tidemark/MemoryEntry;" (.ref o2)) (u9 : o4 ≠ o3) (g10 : n0 ≤ o4) (f11 : Exa Z h0 o2 "com/example/tidemark/tidemark/MemoryEntry") (u12 : o2 ≠ o4) (g13 : n0 ≤ o2) (f14 : Fld Z h0 o2 "com/example/tidemark/tidemark/MemoryEntry" "list" "Lcom/example/tidemark/tidemark/RecencyList;" (.ref o1)) (f15 : Fld Z h0 o1 "com/example/tidemark/tidemark/RecencyList" "size" "J" (.long (3 : Int64))) (u16 : o1 ≠ o3) (u17 : o1 ≠ o4) (u18 : o1 ≠ o2) (f19 : Exa Z h0 o1 "com/example/tidemark/tidemark/RecencyList") (g20 : n0 ≤ o1) (f21 : Fld Z h0 o1 "com/example/tidemark/tidemark/RecencyList" "weight" "J" (.long q5)) (f22 : Fld Z h0 o2 "com/example/tidemark/tidemark/MemoryEntry" "charge" "J" (.long q6)) :
    MetFree l ym6 (head1 (Jvm.Cond.code ym6 prog_41_method_10_code 2 none :: ws) ({ frames := 0, cells := 0, slots := 0, locals := 0 } : Room)) (fun a U => a = #[(.ref o1), (.ref o2)] ∧ Z.Warmed39 U.vm ∧ U.heap = h0) (fun _ _ _ _ _ => True) (fun _ U o U' => ∃ v L, o = .returned v ∧ Q8_23 Z w o1 o2 o3 o4 q5 q6 h0 n0 v U'.heap L ∧ FrameEnd U o U' L ({ frames := 0, cells := 0, slots := 0, locals := 0 } : Room).cells ({ frames := 0, cells := 0, slots := 0, locals := 0 } : Room).slots) := by
  refine MetFree.of_bodySF (plainFor_of_name pnc_0) hisR ?_
  intro p e s m args below meth c s₁ Bd hml0 hP hK
  obtain ⟨rfl, hZ, hh⟩ := hP
  have hx := Bd.exec
  have hby := Bd.bytes
  have hml : c.maxLocals = 2 := hml0
  have hown : s.vm.findClass "com/example/tidemark/tidemark/RecencyList" = some m.cls := findClass_of_methodNamed Bd.named
  have hnm := (name_of_methodNamed Bd.named Bd.method).1
  have X0 : Stand p l e ({ frames := 0, cells := 0, slots := 0, locals := 0 } : Room) s m #[(.ref o1), (.ref o2)] below meth c s₁ [] 0 0 := Stand.of_body Bd
  have e0 : s₁.heap = h0 := by rw [← hh, Bd.state]; rfl
  have N0 := Fr.nil n0
  skip
  have pre0 : ∀ t, Steps p.tables e below (s₁.setTop (mkF m 0 #[.val (.ref o1), .val (.ref o2)] [])) t → Steps p.tables e below (s₁.setTop (entryFrame m #[(.ref o1), (.ref o2)] 2)) t := fun t k => castTop (ef_8_23 m o1 o2) k
  obtain ⟨T1, X1, e1, st1⟩ := getF X0 hx hZ hown (host := "") (Or.inl (wk69 hw)) Via.refl e0 f1 (g := (mkF m 1 #[.val (.ref o1), .val (.ref o2)] [(.ref o2)])) rfl rfl (hb hby d8_1)
  obtain ⟨T2, X2, e2, st2⟩ := getF X1 hx hZ hown (host := "") (Or.inl (wk69 hw)) Via.refl e1 f1 (g := (mkF m 19 #[.val (.ref o1), .val (.ref o2)] [(.ref o2)])) rfl rfl (hb hby d8_19)
  obtain ⟨T3, X3, e3, st3⟩ := getF X2 hx hZ hown (host := "") (Or.inl (wk71 hw)) Via.refl e2 f2 (g := (mkF m 23 #[.val (.ref o1), .val (.ref o2)] [(.ref o2), (.ref o3)])) rfl rfl (hb hby d8_23)
  obtain ⟨T4, h4, X4, e4, W4, st4⟩ := putF X3 hx hZ hown (host := "") (Or.inl (wk71 hw)) Via.refl e3 f4 f3 (Or.inl (wk72 hw)) (wk11 hw) (ty := (.object "com/example/tidemark/tidemark/MemoryEntry")) (by decide) rfl rfl (g := (mkF m 26 #[.val (.ref o1), .val (.ref o2)] [(.ref o4), (.ref o3)])) rfl rfl (hb hby d8_26)
  have F4 : Fld Z h4 o3 "com/example/tidemark/tidemark/MemoryEntry" "newer" "Lcom/example/tidemark/tidemark/MemoryEntry;" (.ref o4) := f4.same W4
  have N4 := Fr.snoc X4 N0 g5
  have O5 := O0.wr W4 g5
  have t6 := (f2.other W4 (Or.inl u6))
  obtain ⟨T7, X7, e7, st7⟩ := getF X4 hx hZ hown (host := "") (Or.inl (wk71 hw)) Via.refl e4 t6 (g := (mkF m 30 #[.val (.ref o1), .val (.ref o2)] [(.ref o2)])) rfl rfl (hb hby d8_30)
  obtain ⟨T8, X8, e8, st8⟩ := getF X7 hx hZ hown (host := "") (Or.inl (wk71 hw)) Via.refl e7 t6 (g := (mkF m 48 #[.val (.ref o1), .val (.ref o2)] [(.ref o2)])) rfl rfl (hb hby d8_48)
  have t9 := (f1.other W4 (Or.inl u6))
  obtain ⟨T10, X10, e10, st10⟩ := getF X8 hx hZ hown (host := "") (Or.inl (wk69 hw)) Via.refl e8 t9 (g := (mkF m 52 #[.val (.ref o1), .val (.ref o2)] [(.ref o2), (.ref o4)])) rfl rfl (hb hby d8_52)
  have t11 := (f8.other W4 (Or.inl u9))
  have t12 := (f7.wr W4)
  obtain ⟨T13, h13, X13, e13, W13, st13⟩ := putF X10 hx hZ hown (host := "") (Or.inl (wk69 hw)) Via.refl e10 t11 t12 (Or.inl (wk70 hw)) (wk11 hw) (ty := (.object "com/example/tidemark/tidemark/MemoryEntry")) (by decide) rfl rfl (g := (mkF m 55 #[.val (.ref o1), .val (.ref o2)] [(.ref o3), (.ref o4)])) rfl rfl (hb hby d8_55)
  have F13 : Fld Z h13 o4 "com/example/tidemark/tidemark/MemoryEntry" "older" "Lcom/example/tidemark/tidemark/MemoryEntry;" (.ref o3) := t11.same W13
  have N13 := Fr.snoc X13 N4 g10
  have O14 := O5.wr W13 g10
  have t15 := (t9.other W13 (Or.inl u12))
  have t16 := ((f11.wr W4).wr W13)
  obtain ⟨T17, h17, X17, e17, W17, st17⟩ := putF X13 hx hZ hown (host := "") (Or.inl (wk69 hw)) Via.refl e13 t15 t16 (Or.inl (wk70 hw)) (wk11 hw) (ty := (.object "com/example/tidemark/tidemark/MemoryEntry")) (by decide) rfl rfl (g := (mkF m 60 #[.val (.ref o1), .val (.ref o2)] [.null, (.ref o2)])) rfl rfl (hb hby d8_60)
  have F17 : Fld Z h17 o2 "com/example/tidemark/tidemark/MemoryEntry" "older" "Lcom/example/tidemark/tidemark/MemoryEntry;" .null := t15.same W17
  have N17 := Fr.snoc X17 N13 g13
  have O18 := O14.wr W17 g13
  have t19 := ((t6.other W13 (Or.inl u12)).other W17 (Or.inr (sn62 hw)))
  have t20 := (t16.wr W17)
  obtain ⟨T21, h21, X21, e21, W21, st21⟩ := putF X17 hx hZ hown (host := "") (Or.inl (wk71 hw)) Via.refl e17 t19 t20 (Or.inl (wk72 hw)) (wk11 hw) (ty := (.object "com/example/tidemark/tidemark/MemoryEntry")) (by decide) rfl rfl (g := (mkF m 65 #[.val (.ref o1), .val (.ref o2)] [.null, (.ref o2)])) rfl rfl (hb hby d8_65)
  have F21 : Fld Z h21 o2 "com/example/tidemark/tidemark/MemoryEntry" "newer" "Lcom/example/tidemark/tidemark/MemoryEntry;" .null := t19.same W21
  have N21 := Fr.snoc X21 N17 g13
  have O22 := O18.wr W21 g13
  have t23 := ((((f14.other W4 (Or.inl u6)).other W13 (Or.inl u12)).other W17 (Or.inr (sn83 hw))).other W21 (Or.inr (sn84 hw)))
  have t24 := (t20.wr W21)
  obtain ⟨T25, h25, X25, e25, W25, st25⟩ := putF X21 hx hZ hown (host := "") (Or.inl (wk65 hw)) Via.refl e21 t23 t24 (Or.inl (wk66 hw)) (wk11 hw) (ty := (.object "com/example/tidemark/tidemark/RecencyList")) (by decide) rfl rfl (g := (mkF m 70 #[.val (.ref o1), .val (.ref o2)] [.null, (.ref o2)])) rfl rfl (hb hby d8_70)
  have F25 : Fld Z h25 o2 "com/example/tidemark/tidemark/MemoryEntry" "list" "Lcom/example/tidemark/tidemark/RecencyList;" .null := t23.same W25
  have N25 := Fr.snoc X25 N21 g13
  have O26 := O22.wr W25 g13
  have t27 := (((((f15.other W4 (Or.inl u16)).other W13 (Or.inl u17)).other W17 (Or.inl u18)).other W21 (Or.inl u18)).other W25 (Or.inl u18))
  obtain ⟨T28, X28, e28, st28⟩ := getF X25 hx hZ hown (host := "") (Or.inl (wk75 hw)) Via.refl e25 t27 (g := (mkF m 75 #[.val (.ref o1), .val (.ref o2)] [(.ref o1), (.ref o1)])) rfl rfl (hb hby d8_75)
  have t29 := (((((f19.wr W4).wr W13).wr W17).wr W21).wr W25)
  obtain ⟨T30, h30, X30, e30, W30, st30⟩ := putF X28 hx hZ hown (host := "") (Or.inl (wk75 hw)) Via.refl e28 t27 t29 (Or.inl (wk76 hw)) (wk2 hw) (ty := .long) (by decide) rfl rfl (g := (mkF m 80 #[.val (.ref o1), .val (.ref o2)] [(.long (2 : Int64)), (.ref o1)])) rfl rfl (hb hby d8_80)
  have F30 : Fld Z h30 o1 "com/example/tidemark/tidemark/RecencyList" "size" "J" (.long (2 : Int64)) := t27.same W30
  have N30 := Fr.snoc X30 N25 g20
  have O31 := O26.wr W30 g20
  have t32 := ((((((f21.other W4 (Or.inl u16)).other W13 (Or.inl u17)).other W17 (Or.inl u18)).other W21 (Or.inl u18)).other W25 (Or.inl u18)).other W30 (Or.inr (sn71 hw)))
  obtain ⟨T33, X33, e33, st33⟩ := getF X30 hx hZ hown (host := "") (Or.inl (wk77 hw)) Via.refl e30 t32 (g := (mkF m 85 #[.val (.ref o1), .val (.ref o2)] [(.ref o1), (.ref o1)])) rfl rfl (hb hby d8_85)
  have t34 := ((((((f22.other W4 (Or.inl u6)).other W13 (Or.inl u12)).other W17 (Or.inr (sn74 hw))).other W21 (Or.inr (sn75 hw))).other W25 (Or.inr (sn73 hw))).other W30 (Or.inl (Ne.symm u18)))
  obtain ⟨T35, X35, e35, st35⟩ := getF X33 hx hZ hown (host := "") (Or.inl (wk79 hw)) Via.refl e33 t34 (g := (mkF m 89 #[.val (.ref o1), .val (.ref o2)] [(.ref o2), (.long q5), (.ref o1)])) rfl rfl (hb hby d8_89)
  have t36 := (t29.wr W30)
  obtain ⟨T37, h37, X37, e37, W37, st37⟩ := putF X35 hx hZ hown (host := "") (Or.inl (wk77 hw)) Via.refl e35 t32 t36 (Or.inl (wk78 hw)) (wk2 hw) (ty := .long) (by decide) rfl rfl (g := (mkF m 93 #[.val (.ref o1), .val (.ref o2)] [(.long (q5 - q6)), (.ref o1)])) rfl rfl (hb hby d8_93)
  have F37 : Fld Z h37 o1 "com/example/tidemark/tidemark/RecencyList" "weight" "J" (.long (q5 - q6)) := t32.same W37
  have N37 := Fr.snoc X37 N30 g20
  have O38 := O31.wr W37 g20
  obtain ⟨fs, hr, hrun, hended, hWm, hsame⟩ := X37.leave (v := none) (fun _ => rfl)
  have Kf39 : own_KL h0 h37 [⟨o3, Jvm.RoadKit.slotOf Z "com/example/tidemark/tidemark/MemoryEntry" "newer" "Lcom/example/tidemark/tidemark/MemoryEntry;"⟩, ⟨o4, Jvm.RoadKit.slotOf Z "com/example/tidemark/tidemark/MemoryEntry" "older" "Lcom/example/tidemark/tidemark/MemoryEntry;"⟩, ⟨o2, Jvm.RoadKit.slotOf Z "com/example/tidemark/tidemark/MemoryEntry" "older" "Lcom/example/tidemark/tidemark/MemoryEntry;"⟩, ⟨o2, Jvm.RoadKit.slotOf Z "com/example/tidemark/tidemark/MemoryEntry" "newer" "Lcom/example/tidemark/tidemark/MemoryEntry;"⟩, ⟨o2, Jvm.RoadKit.slotOf Z "com/example/tidemark/tidemark/MemoryEntry" "list" "Lcom/example/tidemark/tidemark/RecencyList;"⟩, ⟨o1, Jvm.RoadKit.slotOf Z "com/example/tidemark/tidemark/RecencyList" "size" "J"⟩, ⟨o1, Jvm.RoadKit.slotOf Z "com/example/tidemark/tidemark/RecencyList" "weight" "J"⟩] := (own_klW (own_klW (own_klW (own_klW (own_klW (own_klW (own_klW (own_kl0 h0 [⟨o3, Jvm.RoadKit.slotOf Z "com/example/tidemark/tidemark/MemoryEntry" "newer" "Lcom/example/tidemark/tidemark/MemoryEntry;"⟩, ⟨o4, Jvm.RoadKit.slotOf Z "com/example/tidemark/tidemark/MemoryEntry" "older" "Lcom/example/tidemark/tidemark/MemoryEntry;"⟩, ⟨o2, Jvm.RoadKit.slotOf Z "com/example/tidemark/tidemark/MemoryEntry" "older" "Lcom/example/tidemark/tidemark/MemoryEntry;"⟩, ⟨o2, Jvm.RoadKit.slotOf Z "com/example/tidemark/tidemark/MemoryEntry" "newer" "Lcom/example/tidemark/tidemark/MemoryEntry;"⟩, ⟨o2, Jvm.RoadKit.slotOf Z "com/example/tidemark/tidemark/MemoryEntry" "list" "Lcom/example/tidemark/tidemark/RecencyList;"⟩, ⟨o1, Jvm.RoadKit.slotOf Z "com/example/tidemark/tidemark/RecencyList" "size" "J"⟩, ⟨o1, Jvm.RoadKit.slotOf Z "com/example/tidemark/tidemark/RecencyList" "weight" "J"⟩]) W4 (Or.inl (List.mem_of_getElem? (i := 0) rfl))) W13 (Or.inl (List.mem_of_getElem? (i := 1) rfl))) W17 (Or.inl (List.mem_of_getElem? (i := 2) rfl))) W21 (Or.inl (List.mem_of_getElem? (i := 3) rfl))) W25 (Or.inl (List.mem_of_getElem? (i := 4) rfl))) W30 (Or.inl (List.mem_of_getElem? (i := 5) rfl))) W37 (Or.inl (List.mem_of_getElem? (i := 6) rfl)))
  have t40 := ((((F17.other W21 (Or.inr (sn87 hw))).other W25 (Or.inr (sn59 hw))).other W30 (Or.inl (Ne.symm u18))).other W37 (Or.inl (Ne.symm u18)))
  have t41 := (((F21.other W25 (Or.inr (sn61 hw))).other W30 (Or.inl (Ne.symm u18))).other W37 (Or.inl (Ne.symm u18)))
  have t42 := ((((((F4.other W13 (Or.inl (Ne.symm u9))).other W17 (Or.inl (Ne.symm u6))).other W21 (Or.inl (Ne.symm u6))).other W25 (Or.inl (Ne.symm u6))).other W30 (Or.inl (Ne.symm u16))).other W37 (Or.inl (Ne.symm u16)))
  have t43 := (((((F13.other W17 (Or.inl (Ne.symm u12))).other W21 (Or.inl (Ne.symm u12))).other W25 (Or.inl (Ne.symm u12))).other W30 (Or.inl (Ne.symm u17))).other W37 (Or.inl (Ne.symm u17)))
  have t44 := ((F25.other W30 (Or.inl (Ne.symm u18))).other W37 (Or.inl (Ne.symm u18)))
  have t45 := (F30.other W37 (Or.inr (sn91 hw)))
  refine ⟨_, _, pre0 _ ?_, hrun, hended, _, _, rfl, ?_, ⟨_, rfl⟩, hWm, hsame.mono (by decide) (by decide)⟩
  · show Steps p.tables e below (s₁.setTop (mkF m 0 #[.val (.ref o1), .val (.ref o2)] [])) _
    refine sA X0 hx hby d8_0 rfl rfl ?_
    refine st1 _ ?_
    refine XS.ifnonnullYes X1.here hx rfl (pc0 := 4) (pc' := 18) rfl (hb hby d8_4) rfl (by decide) (by decide) ?_
    refine sA X1 hx hby d8_18 rfl rfl ?_
    refine st2 _ ?_
    refine sA X2 hx hby d8_22 rfl rfl ?_
    refine st3 _ ?_
    refine st4 _ ?_
    refine sA X4 hx hby d8_29 rfl rfl ?_
    refine st7 _ ?_
    refine XS.ifnonnullYes X7.here hx rfl (pc0 := 33) (pc' := 47) rfl (hb hby d8_33) rfl (by decide) (by decide) ?_
    refine sA X7 hx hby d8_47 rfl rfl ?_
    refine st8 _ ?_
    refine sA X8 hx hby d8_51 rfl rfl ?_
    refine st10 _ ?_
    refine st13 _ ?_
    refine sA X13 hx hby d8_58 rfl rfl ?_
    refine XS.aconstNull X13.here hx rfl (hb hby d8_59) ?_
    refine st17 _ ?_
    refine sA X17 hx hby d8_63 rfl rfl ?_
    refine XS.aconstNull X17.here hx rfl (hb hby d8_64) ?_
    refine st21 _ ?_
    refine sA X21 hx hby d8_68 rfl rfl ?_
    refine XS.aconstNull X21.here hx rfl (hb hby d8_69) ?_
    refine st25 _ ?_
    refine sA X25 hx hby d8_73 rfl rfl ?_
    refine XS.dup X25.here hx rfl (hb hby d8_74) rfl rfl ?_
    refine st28 _ ?_
    refine XS.lconst X28.here hx rfl (hb hby d8_78) ?_
    refine XS.lsub X28.here hx rfl (hb hby d8_79) rfl ?_
    refine st30 _ ?_
    refine sA X30 hx hby d8_83 rfl rfl ?_
    refine XS.dup X30.here hx rfl (hb hby d8_84) rfl rfl ?_
    refine st33 _ ?_
    refine sA X33 hx hby d8_88 rfl rfl ?_
    refine st35 _ ?_
    refine XS.lsub X35.here hx rfl (hb hby d8_92) rfl ?_
    refine st37 _ ?_
    exact X37.returnOut hx Bd.returns (hb hby d8_96) hr
  · show Q8_23 Z w o1 o2 o3 o4 q5 q6 h0 n0 _ T37.heap _
    rw [e37]
    exact ⟨rfl, N37, Kf39, t40, t41, t42, t43, t44, t45, F37⟩
theorem ef_7_24 (m : MethodId) (o1 : Addr) (o2 : Addr) : entryFrame m #[(.ref o1), (.ref o2)] 2 = mkF m 0 #[.val (.ref o1), .val (.ref o2)] [] := by first | (simp [entryFrame, mkF, argsToLocals, Value.category]; done) | rfl
def Q7_24 (Z : State) (w : Nat → Addr) (o1 : Addr) (o2 : Addr) (o3 : Addr) (q4 : Int64) (q5 : Int64) (h0 : Heap) (n0 : Nat) (v : Option Value) (h : Heap) (L : List Loc) : Prop := v = none ∧ Fr n0 L ∧ own_KL h0 h [⟨o1, Jvm.RoadKit.slotOf Z "com/example/tidemark/tidemark/RecencyList" "stamps" "J"⟩, ⟨o2, Jvm.RoadKit.slotOf Z "com/example/tidemark/tidemark/MemoryEntry" "stamp" "J"⟩, ⟨o2, Jvm.RoadKit.slotOf Z "com/example/tidemark/tidemark/MemoryEntry" "list" "Lcom/example/tidemark/tidemark/RecencyList;"⟩, ⟨o2, Jvm.RoadKit.slotOf Z "com/example/tidemark/tidemark/MemoryEntry" "older" "Lcom/example/tidemark/tidemark/MemoryEntry;"⟩, ⟨o2, Jvm.RoadKit.slotOf Z "com/example/tidemark/tidemark/MemoryEntry" "newer" "Lcom/example/tidemark/tidemark/MemoryEntry;"⟩, ⟨o3, Jvm.RoadKit.slotOf Z "com/example/tidemark/tidemark/MemoryEntry" "newer" "Lcom/example/tidemark/tidemark/MemoryEntry;"⟩, ⟨o1, Jvm.RoadKit.slotOf Z "com/example/tidemark/tidemark/RecencyList" "newest" "Lcom/example/tidemark/tidemark/MemoryEntry;"⟩, ⟨o1, Jvm.RoadKit.slotOf Z "com/example/tidemark/tidemark/RecencyList" "size" "J"⟩, ⟨o1, Jvm.RoadKit.slotOf Z "com/example/tidemark/tidemark/RecencyList" "weight" "J"⟩] ∧ Fld Z h o1 "com/example/tidemark/tidemark/RecencyList" "stamps" "J" (.long (4 : Int64)) ∧ Fld Z h o2 "com/example/tidemark/tidemark/MemoryEntry" "stamp" "J" (.long (4 : Int64)) ∧ Fld Z h o2 "com/example/tidemark/tidemark/MemoryEntry" "list" "Lcom/example/tidemark/tidemark/RecencyList;" (.ref o1) ∧ Fld Z h o1 "com/example/tidemark/tidemark/RecencyList" "newest" "Lcom/example/tidemark/tidemark/MemoryEntry;" (.ref o2) ∧ Fld Z h o2 "com/example/tidemark/tidemark/MemoryEntry" "older" "Lcom/example/tidemark/tidemark/MemoryEntry;" (.ref o3) ∧ Fld Z h o2 "com/example/tidemark/tidemark/MemoryEntry" "newer" "Lcom/example/tidemark/tidemark/MemoryEntry;" .null ∧ Fld Z h o3 "com/example/tidemark/tidemark/MemoryEntry" "newer" "Lcom/example/tidemark/tidemark/MemoryEntry;" (.ref o2) ∧ Fld Z h o1 "com/example/tidemark/tidemark/RecencyList" "size" "J" (.long (3 : Int64)) ∧ Fld Z h o1 "com/example/tidemark/tidemark/RecencyList" "weight" "J" (.long (q4 + q5))
set_option maxRecDepth 65536 in
set_option maxHeartbeats 40000000 in
theorem rm7_24 (l : Launch) (Z : State) (a0 : Array Value) (hw : ∀ d ∈ tables_1, d.before a0 Z = true) (w : Nat → Addr) (hW : Wd Z w) (ws : List Jvm.Cond) (o1 : Addr) (o2 : Addr) (o3 : Addr) (q4 : Int64) (q5 : Int64) (h0 : Heap) (n0 : Nat) (O0 : Old Z n0 h0) (f1 : Fld Z h0 o1 "com/example/tidemark/tidemark/RecencyList" "stamps" "J" (.long (3 : Int64))) (f2 : Exa Z h0 o1 "com/example/tidemark/tidemark/RecencyList") (g3 : n0 ≤ o1) (f4 : Exa Z h0 o2 "com/example/tidemark/tidemark/MemoryEntry") (f5 : Fld Z h0 o2 "com/example/tidemark/tidemark/MemoryEntry" "stamp" "J" (.long (2 : Int64))) (u6 : o2 ≠ o1) (g7 : n0 ≤ o2) (f8 : Fld Z h0 o2 "com/example/tidemark/tidemark/MemoryEntry" "list" "Lcom/example/tidemark/tidemark/RecencyList;" .null) (f9 : Fld Z h0 o1 "com/example/tidemark/tidemark/RecencyList" "newest" "Lcom/example/tidemark/tidemark/MemoryEntry;" (.ref o3)) (f10 : Fld Z h0 o2 "com/example/tidemark/tidemark/MemoryEntry" "older" "Lcom/example/tidemark/tidemark/MemoryEntry;" .null) (f11 : Fld Z h0 o2 "com/example/tidemark/tidemark/MemoryEntry" "newer" "Lcom/example/tidemark/tidemark/MemoryEntry;" .null) (f12 : Exa Z h0 o3 "com/example/tidemark/tidemark/MemoryEntry") (f13 : Fld Z h0 o3 "com/example/tidemark/tidemark/MemoryEntry" "newer" "Lcom/example/tidemark/tidemark/MemoryEntry;" .null) (u14 : o3 ≠ o1) (u15 : o3 ≠ o2) (g16 : n0 ≤ o3) (f17 : Fld Z h0 o1 "com/example/tidemark/tidemark/RecencyList" "size" "J" (.long (2 : Int64))) (f18 : Fld Z h0 o1 "com/example/tidemark/tidemark/RecencyList" "weight" "J" (.long q4)) (f19 : Fld Z h0 o2 "com/example/tidemark/tidemark/MemoryEntry" "charge" "J" (.long q5)) :
    MetFree l ym5 (head1 (Jvm.Cond.code ym5 prog_41_method_7_code 2 none :: ws) ({ frames := 0, cells := 0, slots := 0, locals := 0 } : Room)) (fun a U => a = #[(.ref o1), (.ref o2)] ∧ Z.Warmed39 U.vm ∧ U.heap = h0) (fun _ _ _ _ _ => True) (fun _ U o U' => ∃ v L, o = .returned v ∧ Q7_24 Z w o1 o2 o3 q4 q5 h0 n0 v U'.heap L ∧ FrameEnd U o U' L ({ frames := 0, cells := 0, slots := 0, locals := 0 } : Room).cells ({ frames := 0, cells := 0, slots := 0, locals := 0 } : Room).slots) := by
  refine MetFree.of_bodySF (plainFor_of_name pnc_0) hisR ?_
  intro p e s m args below meth c s₁ Bd hml0 hP hK
  obtain ⟨rfl, hZ, hh⟩ := hP
  have hx := Bd.exec
  have hby := Bd.bytes
  have hml : c.maxLocals = 2 := hml0
  have hown : s.vm.findClass "com/example/tidemark/tidemark/RecencyList" = some m.cls := findClass_of_methodNamed Bd.named
  have hnm := (name_of_methodNamed Bd.named Bd.method).1
  have X0 : Stand p l e ({ frames := 0, cells := 0, slots := 0, locals := 0 } : Room) s m #[(.ref o1), (.ref o2)] below meth c s₁ [] 0 0 := Stand.of_body Bd
  have e0 : s₁.heap = h0 := by rw [← hh, Bd.state]; rfl
  have N0 := Fr.nil n0
  skip
  have pre0 : ∀ t, Steps p.tables e below (s₁.setTop (mkF m 0 #[.val (.ref o1), .val (.ref o2)] [])) t → Steps p.tables e below (s₁.setTop (entryFrame m #[(.ref o1), (.ref o2)] 2)) t := fun t k => castTop (ef_7_24 m o1 o2) k
  obtain ⟨T1, X1, e1, st1⟩ := getF X0 hx hZ hown (host := "") (Or.inl (wk61 hw)) Via.refl e0 f1 (g := (mkF m 3 #[.val (.ref o1), .val (.ref o2)] [(.ref o1), (.ref o1), (.ref o2)])) rfl rfl (hb hby d7_3)
  obtain ⟨T2, h2, X2, e2, W2, st2⟩ := putF X1 hx hZ hown (host := "") (Or.inl (wk61 hw)) Via.refl e1 f1 f2 (Or.inl (wk62 hw)) (wk2 hw) (ty := .long) (by decide) rfl rfl (g := (mkF m 9 #[.val (.ref o1), .val (.ref o2)] [(.long (4 : Int64)), (.ref o1), (.long (4 : Int64)), (.ref o2)])) rfl rfl (hb hby d7_9)
  have F2 : Fld Z h2 o1 "com/example/tidemark/tidemark/RecencyList" "stamps" "J" (.long (4 : Int64)) := f1.same W2
  have N2 := Fr.snoc X2 N0 g3
  have O3 := O0.wr W2 g3
  have t4 := (f5.other W2 (Or.inl u6))
  have t5 := (f4.wr W2)
  obtain ⟨T6, h6, X6, e6, W6, st6⟩ := putF X2 hx hZ hown (host := "") (Or.inl (wk63 hw)) Via.refl e2 t4 t5 (Or.inl (wk64 hw)) (wk11 hw) (ty := .long) (by decide) rfl rfl (g := (mkF m 12 #[.val (.ref o1), .val (.ref o2)] [(.long (4 : Int64)), (.ref o2)])) rfl rfl (hb hby d7_12)
  have F6 : Fld Z h6 o2 "com/example/tidemark/tidemark/MemoryEntry" "stamp" "J" (.long (4 : Int64)) := t4.same W6
  have N6 := Fr.snoc X6 N2 g7
  have O7 := O3.wr W6 g7
  have t8 := ((f8.other W2 (Or.inl u6)).other W6 (Or.inr (sn56 hw)))
  have t9 := (t5.wr W6)
  obtain ⟨T10, h10, X10, e10, W10, st10⟩ := putF X6 hx hZ hown (host := "") (Or.inl (wk65 hw)) Via.refl e6 t8 t9 (Or.inl (wk66 hw)) (wk11 hw) (ty := (.object "com/example/tidemark/tidemark/RecencyList")) (by decide) rfl rfl (g := (mkF m 17 #[.val (.ref o1), .val (.ref o2)] [(.ref o1), (.ref o2)])) rfl rfl (hb hby d7_17)
  have F10 : Fld Z h10 o2 "com/example/tidemark/tidemark/MemoryEntry" "list" "Lcom/example/tidemark/tidemark/RecencyList;" (.ref o1) := t8.same W10
  have N10 := Fr.snoc X10 N6 g7
  have O11 := O7.wr W10 g7
  have t12 := (((f9.other W2 (Or.inr (sn57 hw))).other W6 (Or.inl (Ne.symm u6))).other W10 (Or.inl (Ne.symm u6)))
  obtain ⟨T13, X13, e13, st13⟩ := getF X10 hx hZ hown (host := "") (Or.inl (wk67 hw)) Via.refl e10 t12 (g := (mkF m 22 #[.val (.ref o1), .val (.ref o2)] [(.ref o1), (.ref o2)])) rfl rfl (hb hby d7_22)
  have t14 := (((f10.other W2 (Or.inl u6)).other W6 (Or.inr (sn58 hw))).other W10 (Or.inr (sn59 hw)))
  have t15 := (t9.wr W10)
  obtain ⟨T16, h16, X16, e16, W16, st16⟩ := putF X13 hx hZ hown (host := "") (Or.inl (wk69 hw)) Via.refl e13 t14 t15 (Or.inl (wk70 hw)) (wk11 hw) (ty := (.object "com/example/tidemark/tidemark/MemoryEntry")) (by decide) rfl rfl (g := (mkF m 25 #[.val (.ref o1), .val (.ref o2)] [(.ref o3), (.ref o2)])) rfl rfl (hb hby d7_25)
  have F16 : Fld Z h16 o2 "com/example/tidemark/tidemark/MemoryEntry" "older" "Lcom/example/tidemark/tidemark/MemoryEntry;" (.ref o3) := t14.same W16
  have N16 := Fr.snoc X16 N10 g7
  have O17 := O11.wr W16 g7
  have t18 := ((((f11.other W2 (Or.inl u6)).other W6 (Or.inr (sn60 hw))).other W10 (Or.inr (sn61 hw))).other W16 (Or.inr (sn62 hw)))
  have t19 := (t15.wr W16)
  obtain ⟨T20, h20, X20, e20, W20, st20⟩ := putF X16 hx hZ hown (host := "") (Or.inl (wk71 hw)) Via.refl e16 t18 t19 (Or.inl (wk72 hw)) (wk11 hw) (ty := (.object "com/example/tidemark/tidemark/MemoryEntry")) (by decide) rfl rfl (g := (mkF m 30 #[.val (.ref o1), .val (.ref o2)] [.null, (.ref o2)])) rfl rfl (hb hby d7_30)
  have F20 : Fld Z h20 o2 "com/example/tidemark/tidemark/MemoryEntry" "newer" "Lcom/example/tidemark/tidemark/MemoryEntry;" .null := t18.same W20
  have N20 := Fr.snoc X20 N16 g7
  have O21 := O17.wr W20 g7
  have t22 := ((t12.other W16 (Or.inl (Ne.symm u6))).other W20 (Or.inl (Ne.symm u6)))
  obtain ⟨T23, X23, e23, st23⟩ := getF X20 hx hZ hown (host := "") (Or.inl (wk67 hw)) Via.refl e20 t22 (g := (mkF m 34 #[.val (.ref o1), .val (.ref o2)] [(.ref o1)])) rfl rfl (hb hby d7_34)
  obtain ⟨T24, X24, e24, st24⟩ := getF X23 hx hZ hown (host := "") (Or.inl (wk67 hw)) Via.refl e23 t22 (g := (mkF m 49 #[.val (.ref o1), .val (.ref o2)] [(.ref o1)])) rfl rfl (hb hby d7_49)
  have t25 := (((((f13.other W2 (Or.inl u14)).other W6 (Or.inl u15)).other W10 (Or.inl u15)).other W16 (Or.inl u15)).other W20 (Or.inl u15))
  have t26 := (((((f12.wr W2).wr W6).wr W10).wr W16).wr W20)
  obtain ⟨T27, h27, X27, e27, W27, st27⟩ := putF X24 hx hZ hown (host := "") (Or.inl (wk71 hw)) Via.refl e24 t25 t26 (Or.inl (wk72 hw)) (wk11 hw) (ty := (.object "com/example/tidemark/tidemark/MemoryEntry")) (by decide) rfl rfl (g := (mkF m 53 #[.val (.ref o1), .val (.ref o2)] [(.ref o2), (.ref o3)])) rfl rfl (hb hby d7_53)
  have F27 : Fld Z h27 o3 "com/example/tidemark/tidemark/MemoryEntry" "newer" "Lcom/example/tidemark/tidemark/MemoryEntry;" (.ref o2) := t25.same W27
  have N27 := Fr.snoc X27 N20 g16
  have O28 := O21.wr W27 g16
  have t29 := (t22.other W27 (Or.inl (Ne.symm u14)))
  have t30 := ((((((f2.wr W2).wr W6).wr W10).wr W16).wr W20).wr W27)
  obtain ⟨T31, h31, X31, e31, W31, st31⟩ := putF X27 hx hZ hown (host := "") (Or.inl (wk67 hw)) Via.refl e27 t29 t30 (Or.inl (wk68 hw)) (wk2 hw) (ty := (.object "com/example/tidemark/tidemark/MemoryEntry")) (by decide) rfl rfl (g := (mkF m 58 #[.val (.ref o1), .val (.ref o2)] [(.ref o2), (.ref o1)])) rfl rfl (hb hby d7_58)
  have F31 : Fld Z h31 o1 "com/example/tidemark/tidemark/RecencyList" "newest" "Lcom/example/tidemark/tidemark/MemoryEntry;" (.ref o2) := t29.same W31
  have N31 := Fr.snoc X31 N27 g3
  have O32 := O28.wr W31 g3
  have t33 := (((((((f17.other W2 (Or.inr (sn65 hw))).other W6 (Or.inl (Ne.symm u6))).other W10 (Or.inl (Ne.symm u6))).other W16 (Or.inl (Ne.symm u6))).other W20 (Or.inl (Ne.symm u6))).other W27 (Or.inl (Ne.symm u14))).other W31 (Or.inr (sn67 hw)))
  obtain ⟨T34, X34, e34, st34⟩ := getF X31 hx hZ hown (host := "") (Or.inl (wk75 hw)) Via.refl e31 t33 (g := (mkF m 63 #[.val (.ref o1), .val (.ref o2)] [(.ref o1), (.ref o1)])) rfl rfl (hb hby d7_63)
  have t35 := (t30.wr W31)
  obtain ⟨T36, h36, X36, e36, W36, st36⟩ := putF X34 hx hZ hown (host := "") (Or.inl (wk75 hw)) Via.refl e34 t33 t35 (Or.inl (wk76 hw)) (wk2 hw) (ty := .long) (by decide) rfl rfl (g := (mkF m 68 #[.val (.ref o1), .val (.ref o2)] [(.long (3 : Int64)), (.ref o1)])) rfl rfl (hb hby d7_68)
  have F36 : Fld Z h36 o1 "com/example/tidemark/tidemark/RecencyList" "size" "J" (.long (3 : Int64)) := t33.same W36
  have N36 := Fr.snoc X36 N31 g3
  have O37 := O32.wr W36 g3
  have t38 := ((((((((f18.other W2 (Or.inr (sn68 hw))).other W6 (Or.inl (Ne.symm u6))).other W10 (Or.inl (Ne.symm u6))).other W16 (Or.inl (Ne.symm u6))).other W20 (Or.inl (Ne.symm u6))).other W27 (Or.inl (Ne.symm u14))).other W31 (Or.inr (sn70 hw))).other W36 (Or.inr (sn71 hw)))
  obtain ⟨T39, X39, e39, st39⟩ := getF X36 hx hZ hown (host := "") (Or.inl (wk77 hw)) Via.refl e36 t38 (g := (mkF m 73 #[.val (.ref o1), .val (.ref o2)] [(.ref o1), (.ref o1)])) rfl rfl (hb hby d7_73)
  have t40 := ((((((((f19.other W2 (Or.inl u6)).other W6 (Or.inr (sn72 hw))).other W10 (Or.inr (sn73 hw))).other W16 (Or.inr (sn74 hw))).other W20 (Or.inr (sn75 hw))).other W27 (Or.inl (Ne.symm u15))).other W31 (Or.inl u6)).other W36 (Or.inl u6))
  obtain ⟨T41, X41, e41, st41⟩ := getF X39 hx hZ hown (host := "") (Or.inl (wk79 hw)) Via.refl e39 t40 (g := (mkF m 77 #[.val (.ref o1), .val (.ref o2)] [(.ref o2), (.long q4), (.ref o1)])) rfl rfl (hb hby d7_77)
  have t42 := (t35.wr W36)
  obtain ⟨T43, h43, X43, e43, W43, st43⟩ := putF X41 hx hZ hown (host := "") (Or.inl (wk77 hw)) Via.refl e41 t38 t42 (Or.inl (wk78 hw)) (wk2 hw) (ty := .long) (by decide) rfl rfl (g := (mkF m 81 #[.val (.ref o1), .val (.ref o2)] [(.long (q4 + q5)), (.ref o1)])) rfl rfl (hb hby d7_81)
  have F43 : Fld Z h43 o1 "com/example/tidemark/tidemark/RecencyList" "weight" "J" (.long (q4 + q5)) := t38.same W43
  have N43 := Fr.snoc X43 N36 g3
  have O44 := O37.wr W43 g3
  obtain ⟨fs, hr, hrun, hended, hWm, hsame⟩ := X43.leave (v := none) (fun _ => rfl)
  have Kf45 : own_KL h0 h43 [⟨o1, Jvm.RoadKit.slotOf Z "com/example/tidemark/tidemark/RecencyList" "stamps" "J"⟩, ⟨o2, Jvm.RoadKit.slotOf Z "com/example/tidemark/tidemark/MemoryEntry" "stamp" "J"⟩, ⟨o2, Jvm.RoadKit.slotOf Z "com/example/tidemark/tidemark/MemoryEntry" "list" "Lcom/example/tidemark/tidemark/RecencyList;"⟩, ⟨o2, Jvm.RoadKit.slotOf Z "com/example/tidemark/tidemark/MemoryEntry" "older" "Lcom/example/tidemark/tidemark/MemoryEntry;"⟩, ⟨o2, Jvm.RoadKit.slotOf Z "com/example/tidemark/tidemark/MemoryEntry" "newer" "Lcom/example/tidemark/tidemark/MemoryEntry;"⟩, ⟨o3, Jvm.RoadKit.slotOf Z "com/example/tidemark/tidemark/MemoryEntry" "newer" "Lcom/example/tidemark/tidemark/MemoryEntry;"⟩, ⟨o1, Jvm.RoadKit.slotOf Z "com/example/tidemark/tidemark/RecencyList" "newest" "Lcom/example/tidemark/tidemark/MemoryEntry;"⟩, ⟨o1, Jvm.RoadKit.slotOf Z "com/example/tidemark/tidemark/RecencyList" "size" "J"⟩, ⟨o1, Jvm.RoadKit.slotOf Z "com/example/tidemark/tidemark/RecencyList" "weight" "J"⟩] := (own_klW (own_klW (own_klW (own_klW (own_klW (own_klW (own_klW (own_klW (own_klW (own_kl0 h0 [⟨o1, Jvm.RoadKit.slotOf Z "com/example/tidemark/tidemark/RecencyList" "stamps" "J"⟩, ⟨o2, Jvm.RoadKit.slotOf Z "com/example/tidemark/tidemark/MemoryEntry" "stamp" "J"⟩, ⟨o2, Jvm.RoadKit.slotOf Z "com/example/tidemark/tidemark/MemoryEntry" "list" "Lcom/example/tidemark/tidemark/RecencyList;"⟩, ⟨o2, Jvm.RoadKit.slotOf Z "com/example/tidemark/tidemark/MemoryEntry" "older" "Lcom/example/tidemark/tidemark/MemoryEntry;"⟩, ⟨o2, Jvm.RoadKit.slotOf Z "com/example/tidemark/tidemark/MemoryEntry" "newer" "Lcom/example/tidemark/tidemark/MemoryEntry;"⟩, ⟨o3, Jvm.RoadKit.slotOf Z "com/example/tidemark/tidemark/MemoryEntry" "newer" "Lcom/example/tidemark/tidemark/MemoryEntry;"⟩, ⟨o1, Jvm.RoadKit.slotOf Z "com/example/tidemark/tidemark/RecencyList" "newest" "Lcom/example/tidemark/tidemark/MemoryEntry;"⟩, ⟨o1, Jvm.RoadKit.slotOf Z "com/example/tidemark/tidemark/RecencyList" "size" "J"⟩, ⟨o1, Jvm.RoadKit.slotOf Z "com/example/tidemark/tidemark/RecencyList" "weight" "J"⟩]) W2 (Or.inl (List.mem_of_getElem? (i := 0) rfl))) W6 (Or.inl (List.mem_of_getElem? (i := 1) rfl))) W10 (Or.inl (List.mem_of_getElem? (i := 2) rfl))) W16 (Or.inl (List.mem_of_getElem? (i := 3) rfl))) W20 (Or.inl (List.mem_of_getElem? (i := 4) rfl))) W27 (Or.inl (List.mem_of_getElem? (i := 5) rfl))) W31 (Or.inl (List.mem_of_getElem? (i := 6) rfl))) W36 (Or.inl (List.mem_of_getElem? (i := 7) rfl))) W43 (Or.inl (List.mem_of_getElem? (i := 8) rfl)))
  have t46 := ((((((((F2.other W6 (Or.inl (Ne.symm u6))).other W10 (Or.inl (Ne.symm u6))).other W16 (Or.inl (Ne.symm u6))).other W20 (Or.inl (Ne.symm u6))).other W27 (Or.inl (Ne.symm u14))).other W31 (Or.inr (sn77 hw))).other W36 (Or.inr (sn78 hw))).other W43 (Or.inr (sn79 hw)))
  have t47 := (((((((F6.other W10 (Or.inr (sn80 hw))).other W16 (Or.inr (sn81 hw))).other W20 (Or.inr (sn82 hw))).other W27 (Or.inl (Ne.symm u15))).other W31 (Or.inl u6)).other W36 (Or.inl u6)).other W43 (Or.inl u6))
  have t48 := ((((((F10.other W16 (Or.inr (sn83 hw))).other W20 (Or.inr (sn84 hw))).other W27 (Or.inl (Ne.symm u15))).other W31 (Or.inl u6)).other W36 (Or.inl u6)).other W43 (Or.inl u6))
  have t49 := ((F31.other W36 (Or.inr (sn85 hw))).other W43 (Or.inr (sn86 hw)))
  have t50 := (((((F16.other W20 (Or.inr (sn87 hw))).other W27 (Or.inl (Ne.symm u15))).other W31 (Or.inl u6)).other W36 (Or.inl u6)).other W43 (Or.inl u6))
  have t51 := ((((F20.other W27 (Or.inl (Ne.symm u15))).other W31 (Or.inl u6)).other W36 (Or.inl u6)).other W43 (Or.inl u6))
  have t52 := (((F27.other W31 (Or.inl u14)).other W36 (Or.inl u14)).other W43 (Or.inl u14))
  have t53 := (F36.other W43 (Or.inr (sn91 hw)))
  refine ⟨_, _, pre0 _ ?_, hrun, hended, _, _, rfl, ?_, ⟨_, rfl⟩, hWm, hsame.mono (by decide) (by decide)⟩
  · show Steps p.tables e below (s₁.setTop (mkF m 0 #[.val (.ref o1), .val (.ref o2)] [])) _
    refine sA X0 hx hby d7_0 rfl rfl ?_
    refine sA X0 hx hby d7_1 rfl rfl ?_
    refine XS.dup X0.here hx rfl (hb hby d7_2) rfl rfl ?_
    refine st1 _ ?_
    refine XS.lconst X1.here hx rfl (hb hby d7_6) ?_
    refine XS.ladd X1.here hx rfl (hb hby d7_7) rfl ?_
    jvm_step X1.here [X1.here.top, hx, (hb hby d7_8), Value.category]
    show Steps p.tables e below (T1.setTop (mkF m 9 #[.val (.ref o1), .val (.ref o2)] [(.long (4 : Int64)), (.ref o1), (.long (4 : Int64)), (.ref o2)])) _
    refine st2 _ ?_
    refine st6 _ ?_
    refine sA X6 hx hby d7_15 rfl rfl ?_
    refine sA X6 hx hby d7_16 rfl rfl ?_
    refine st10 _ ?_
    refine sA X10 hx hby d7_20 rfl rfl ?_
    refine sA X10 hx hby d7_21 rfl rfl ?_
    refine st13 _ ?_
    refine st16 _ ?_
    refine sA X16 hx hby d7_28 rfl rfl ?_
    refine XS.aconstNull X16.here hx rfl (hb hby d7_29) ?_
    refine st20 _ ?_
    refine sA X20 hx hby d7_33 rfl rfl ?_
    refine st23 _ ?_
    refine XS.ifnonnullYes X23.here hx rfl (pc0 := 37) (pc' := 48) rfl (hb hby d7_37) rfl (by decide) (by decide) ?_
    refine sA X23 hx hby d7_48 rfl rfl ?_
    refine st24 _ ?_
    refine sA X24 hx hby d7_52 rfl rfl ?_
    refine st27 _ ?_
    refine sA X27 hx hby d7_56 rfl rfl ?_
    refine sA X27 hx hby d7_57 rfl rfl ?_
    refine st31 _ ?_
    refine sA X31 hx hby d7_61 rfl rfl ?_
    refine XS.dup X31.here hx rfl (hb hby d7_62) rfl rfl ?_
    refine st34 _ ?_
    refine XS.lconst X34.here hx rfl (hb hby d7_66) ?_
    refine XS.ladd X34.here hx rfl (hb hby d7_67) rfl ?_
    refine st36 _ ?_
    refine sA X36 hx hby d7_71 rfl rfl ?_
    refine XS.dup X36.here hx rfl (hb hby d7_72) rfl rfl ?_
    refine st39 _ ?_
    refine sA X39 hx hby d7_76 rfl rfl ?_
    refine st41 _ ?_
    refine XS.ladd X41.here hx rfl (hb hby d7_80) rfl ?_
    refine st43 _ ?_
    exact X43.returnOut hx Bd.returns (hb hby d7_84) hr
  · show Q7_24 Z w o1 o2 o3 q4 q5 h0 n0 _ T43.heap _
    rw [e43]
    exact ⟨rfl, N43, Kf45, t46, t47, t48, t49, t50, t51, t52, t53, F43⟩
theorem ef_8_25 (m : MethodId) (o1 : Addr) (o2 : Addr) : entryFrame m #[(.ref o1), (.ref o2)] 2 = mkF m 0 #[.val (.ref o1), .val (.ref o2)] [] := by first | (simp [entryFrame, mkF, argsToLocals, Value.category]; done) | rfl
def Q8_25 (Z : State) (w : Nat → Addr) (o1 : Addr) (o2 : Addr) (o3 : Addr) (q4 : Int64) (q5 : Int64) (h0 : Heap) (n0 : Nat) (v : Option Value) (h : Heap) (L : List Loc) : Prop := v = none ∧ Fr n0 L ∧ own_KL h0 h [⟨o3, Jvm.RoadKit.slotOf Z "com/example/tidemark/tidemark/MemoryEntry" "newer" "Lcom/example/tidemark/tidemark/MemoryEntry;"⟩, ⟨o1, Jvm.RoadKit.slotOf Z "com/example/tidemark/tidemark/RecencyList" "newest" "Lcom/example/tidemark/tidemark/MemoryEntry;"⟩, ⟨o2, Jvm.RoadKit.slotOf Z "com/example/tidemark/tidemark/MemoryEntry" "older" "Lcom/example/tidemark/tidemark/MemoryEntry;"⟩, ⟨o2, Jvm.RoadKit.slotOf Z "com/example/tidemark/tidemark/MemoryEntry" "newer" "Lcom/example/tidemark/tidemark/MemoryEntry;"⟩, ⟨o2, Jvm.RoadKit.slotOf Z "com/example/tidemark/tidemark/MemoryEntry" "list" "Lcom/example/tidemark/tidemark/RecencyList;"⟩, ⟨o1, Jvm.RoadKit.slotOf Z "com/example/tidemark/tidemark/RecencyList" "size" "J"⟩, ⟨o1, Jvm.RoadKit.slotOf Z "com/example/tidemark/tidemark/RecencyList" "weight" "J"⟩] ∧ Fld Z h o2 "com/example/tidemark/tidemark/MemoryEntry" "older" "Lcom/example/tidemark/tidemark/MemoryEntry;" .null ∧ Fld Z h o2 "com/example/tidemark/tidemark/MemoryEntry" "newer" "Lcom/example/tidemark/tidemark/MemoryEntry;" .null ∧ Fld Z h o3 "com/example/tidemark/tidemark/MemoryEntry" "newer" "Lcom/example/tidemark/tidemark/MemoryEntry;" .null ∧ Fld Z h o1 "com/example/tidemark/tidemark/RecencyList" "newest" "Lcom/example/tidemark/tidemark/MemoryEntry;" (.ref o3) ∧ Fld Z h o2 "com/example/tidemark/tidemark/MemoryEntry" "list" "Lcom/example/tidemark/tidemark/RecencyList;" .null ∧ Fld Z h o1 "com/example/tidemark/tidemark/RecencyList" "size" "J" (.long (2 : Int64)) ∧ Fld Z h o1 "com/example/tidemark/tidemark/RecencyList" "weight" "J" (.long (q4 - q5))
set_option maxRecDepth 65536 in
set_option maxHeartbeats 40000000 in
theorem rm8_25 (l : Launch) (Z : State) (a0 : Array Value) (hw : ∀ d ∈ tables_1, d.before a0 Z = true) (w : Nat → Addr) (hW : Wd Z w) (ws : List Jvm.Cond) (o1 : Addr) (o2 : Addr) (o3 : Addr) (q4 : Int64) (q5 : Int64) (h0 : Heap) (n0 : Nat) (O0 : Old Z n0 h0) (f1 : Fld Z h0 o2 "com/example/tidemark/tidemark/MemoryEntry" "older" "Lcom/example/tidemark/tidemark/MemoryEntry;" (.ref o3)) (f2 : Fld Z h0 o2 "com/example/tidemark/tidemark/MemoryEntry" "newer" "Lcom/example/tidemark/tidemark/MemoryEntry;" .null) (f3 : Exa Z h0 o3 "com/example/tidemark/tidemark/MemoryEntry") (f4 : Fld Z h0 o3 "com/example/tidemark/tidemark/MemoryEntry" "newer" "Lcom/example/tidemark/tidemark/MemoryEntry;" (.ref o2)) (g5 : n0 ≤ o3) (u6 : o2 ≠ o3) (f7 : Exa Z h0 o1 "com/example/tidemark/tidemark/RecencyList") (f8 : Fld Z h0 o1 "com/example/tidemark/tidemark/RecencyList" "newest" "Lcom/example/tidemark/tidemark/MemoryEntry;" (.ref o2)) (u9 : o1 ≠ o3) (g10 : n0 ≤ o1) (f11 : Exa Z h0 o2 "com/example/tidemark/tidemark/MemoryEntry") (u12 : o2 ≠ o1) (g13 : n0 ≤ o2) (f14 : Fld Z h0 o2 "com/example/tidemark/tidemark/MemoryEntry" "list" "Lcom/example/tidemark/tidemark/RecencyList;" (.ref o1)) (f15 : Fld Z h0 o1 "com/example/tidemark/tidemark/RecencyList" "size" "J" (.long (3 : Int64))) (f16 : Fld Z h0 o1 "com/example/tidemark/tidemark/RecencyList" "weight" "J" (.long q4)) (f17 : Fld Z h0 o2 "com/example/tidemark/tidemark/MemoryEntry" "charge" "J" (.long q5)) :
    MetFree l ym6 (head1 (Jvm.Cond.code ym6 prog_41_method_10_code 2 none :: ws) ({ frames := 0, cells := 0, slots := 0, locals := 0 } : Room)) (fun a U => a = #[(.ref o1), (.ref o2)] ∧ Z.Warmed39 U.vm ∧ U.heap = h0) (fun _ _ _ _ _ => True) (fun _ U o U' => ∃ v L, o = .returned v ∧ Q8_25 Z w o1 o2 o3 q4 q5 h0 n0 v U'.heap L ∧ FrameEnd U o U' L ({ frames := 0, cells := 0, slots := 0, locals := 0 } : Room).cells ({ frames := 0, cells := 0, slots := 0, locals := 0 } : Room).slots) := by
  refine MetFree.of_bodySF (plainFor_of_name pnc_0) hisR ?_
  intro p e s m args below meth c s₁ Bd hml0 hP hK
  obtain ⟨rfl, hZ, hh⟩ := hP
  have hx := Bd.exec
  have hby := Bd.bytes
  have hml : c.maxLocals = 2 := hml0
  have hown : s.vm.findClass "com/example/tidemark/tidemark/RecencyList" = some m.cls := findClass_of_methodNamed Bd.named
  have hnm := (name_of_methodNamed Bd.named Bd.method).1
  have X0 : Stand p l e ({ frames := 0, cells := 0, slots := 0, locals := 0 } : Room) s m #[(.ref o1), (.ref o2)] below meth c s₁ [] 0 0 := Stand.of_body Bd
  have e0 : s₁.heap = h0 := by rw [← hh, Bd.state]; rfl
  have N0 := Fr.nil n0
  skip
  have pre0 : ∀ t, Steps p.tables e below (s₁.setTop (mkF m 0 #[.val (.ref o1), .val (.ref o2)] [])) t → Steps p.tables e below (s₁.setTop (entryFrame m #[(.ref o1), (.ref o2)] 2)) t := fun t k => castTop (ef_8_25 m o1 o2) k
  obtain ⟨T1, X1, e1, st1⟩ := getF X0 hx hZ hown (host := "") (Or.inl (wk69 hw)) Via.refl e0 f1 (g := (mkF m 1 #[.val (.ref o1), .val (.ref o2)] [(.ref o2)])) rfl rfl (hb hby d8_1)
  obtain ⟨T2, X2, e2, st2⟩ := getF X1 hx hZ hown (host := "") (Or.inl (wk69 hw)) Via.refl e1 f1 (g := (mkF m 19 #[.val (.ref o1), .val (.ref o2)] [(.ref o2)])) rfl rfl (hb hby d8_19)
  obtain ⟨T3, X3, e3, st3⟩ := getF X2 hx hZ hown (host := "") (Or.inl (wk71 hw)) Via.refl e2 f2 (g := (mkF m 23 #[.val (.ref o1), .val (.ref o2)] [(.ref o2), (.ref o3)])) rfl rfl (hb hby d8_23)
  obtain ⟨T4, h4, X4, e4, W4, st4⟩ := putF X3 hx hZ hown (host := "") (Or.inl (wk71 hw)) Via.refl e3 f4 f3 (Or.inl (wk72 hw)) (wk11 hw) (ty := (.object "com/example/tidemark/tidemark/MemoryEntry")) (by decide) rfl rfl (g := (mkF m 26 #[.val (.ref o1), .val (.ref o2)] [.null, (.ref o3)])) rfl rfl (hb hby d8_26)
  have F4 : Fld Z h4 o3 "com/example/tidemark/tidemark/MemoryEntry" "newer" "Lcom/example/tidemark/tidemark/MemoryEntry;" .null := f4.same W4
  have N4 := Fr.snoc X4 N0 g5
  have O5 := O0.wr W4 g5
  have t6 := (f2.other W4 (Or.inl u6))
  obtain ⟨T7, X7, e7, st7⟩ := getF X4 hx hZ hown (host := "") (Or.inl (wk71 hw)) Via.refl e4 t6 (g := (mkF m 30 #[.val (.ref o1), .val (.ref o2)] [(.ref o2)])) rfl rfl (hb hby d8_30)
  have t8 := (f1.other W4 (Or.inl u6))
  obtain ⟨T9, X9, e9, st9⟩ := getF X7 hx hZ hown (host := "") (Or.inl (wk69 hw)) Via.refl e7 t8 (g := (mkF m 38 #[.val (.ref o1), .val (.ref o2)] [(.ref o2), (.ref o1)])) rfl rfl (hb hby d8_38)
  have t10 := (f8.other W4 (Or.inl u9))
  have t11 := (f7.wr W4)
  obtain ⟨T12, h12, X12, e12, W12, st12⟩ := putF X9 hx hZ hown (host := "") (Or.inl (wk67 hw)) Via.refl e9 t10 t11 (Or.inl (wk68 hw)) (wk2 hw) (ty := (.object "com/example/tidemark/tidemark/MemoryEntry")) (by decide) rfl rfl (g := (mkF m 41 #[.val (.ref o1), .val (.ref o2)] [(.ref o3), (.ref o1)])) rfl rfl (hb hby d8_41)
  have F12 : Fld Z h12 o1 "com/example/tidemark/tidemark/RecencyList" "newest" "Lcom/example/tidemark/tidemark/MemoryEntry;" (.ref o3) := t10.same W12
  have N12 := Fr.snoc X12 N4 g10
  have O13 := O5.wr W12 g10
  have t14 := (t8.other W12 (Or.inl u12))
  have t15 := ((f11.wr W4).wr W12)
  obtain ⟨T16, h16, X16, e16, W16, st16⟩ := putF X12 hx hZ hown (host := "") (Or.inl (wk69 hw)) Via.refl e12 t14 t15 (Or.inl (wk70 hw)) (wk11 hw) (ty := (.object "com/example/tidemark/tidemark/MemoryEntry")) (by decide) rfl rfl (g := (mkF m 60 #[.val (.ref o1), .val (.ref o2)] [.null, (.ref o2)])) rfl rfl (hb hby d8_60)
  have F16 : Fld Z h16 o2 "com/example/tidemark/tidemark/MemoryEntry" "older" "Lcom/example/tidemark/tidemark/MemoryEntry;" .null := t14.same W16
  have N16 := Fr.snoc X16 N12 g13
  have O17 := O13.wr W16 g13
  have t18 := ((t6.other W12 (Or.inl u12)).other W16 (Or.inr (sn62 hw)))
  have t19 := (t15.wr W16)
  obtain ⟨T20, h20, X20, e20, W20, st20⟩ := putF X16 hx hZ hown (host := "") (Or.inl (wk71 hw)) Via.refl e16 t18 t19 (Or.inl (wk72 hw)) (wk11 hw) (ty := (.object "com/example/tidemark/tidemark/MemoryEntry")) (by decide) rfl rfl (g := (mkF m 65 #[.val (.ref o1), .val (.ref o2)] [.null, (.ref o2)])) rfl rfl (hb hby d8_65)
  have F20 : Fld Z h20 o2 "com/example/tidemark/tidemark/MemoryEntry" "newer" "Lcom/example/tidemark/tidemark/MemoryEntry;" .null := t18.same W20
  have N20 := Fr.snoc X20 N16 g13
  have O21 := O17.wr W20 g13
  have t22 := ((((f14.other W4 (Or.inl u6)).other W12 (Or.inl u12)).other W16 (Or.inr (sn83 hw))).other W20 (Or.inr (sn84 hw)))
  have t23 := (t19.wr W20)
  obtain ⟨T24, h24, X24, e24, W24, st24⟩ := putF X20 hx hZ hown (host := "") (Or.inl (wk65 hw)) Via.refl e20 t22 t23 (Or.inl (wk66 hw)) (wk11 hw) (ty := (.object "com/example/tidemark/tidemark/RecencyList")) (by decide) rfl rfl (g := (mkF m 70 #[.val (.ref o1), .val (.ref o2)] [.null, (.ref o2)])) rfl rfl (hb hby d8_70)
  have F24 : Fld Z h24 o2 "com/example/tidemark/tidemark/MemoryEntry" "list" "Lcom/example/tidemark/tidemark/RecencyList;" .null := t22.same W24
  have N24 := Fr.snoc X24 N20 g13
  have O25 := O21.wr W24 g13
  have t26 := (((((f15.other W4 (Or.inl u9)).other W12 (Or.inr (sn67 hw))).other W16 (Or.inl (Ne.symm u12))).other W20 (Or.inl (Ne.symm u12))).other W24 (Or.inl (Ne.symm u12)))
  obtain ⟨T27, X27, e27, st27⟩ := getF X24 hx hZ hown (host := "") (Or.inl (wk75 hw)) Via.refl e24 t26 (g := (mkF m 75 #[.val (.ref o1), .val (.ref o2)] [(.ref o1), (.ref o1)])) rfl rfl (hb hby d8_75)
  have t28 := ((((t11.wr W12).wr W16).wr W20).wr W24)
  obtain ⟨T29, h29, X29, e29, W29, st29⟩ := putF X27 hx hZ hown (host := "") (Or.inl (wk75 hw)) Via.refl e27 t26 t28 (Or.inl (wk76 hw)) (wk2 hw) (ty := .long) (by decide) rfl rfl (g := (mkF m 80 #[.val (.ref o1), .val (.ref o2)] [(.long (2 : Int64)), (.ref o1)])) rfl rfl (hb hby d8_80)
  have F29 : Fld Z h29 o1 "com/example/tidemark/tidemark/RecencyList" "size" "J" (.long (2 : Int64)) := t26.same W29
  have N29 := Fr.snoc X29 N24 g10
  have O30 := O25.wr W29 g10
  have t31 := ((((((f16.other W4 (Or.inl u9)).other W12 (Or.inr (sn70 hw))).other W16 (Or.inl (Ne.symm u12))).other W20 (Or.inl (Ne.symm u12))).other W24 (Or.inl (Ne.symm u12))).other W29 (Or.inr (sn71 hw)))
  obtain ⟨T32, X32, e32, st32⟩ := getF X29 hx hZ hown (host := "") (Or.inl (wk77 hw)) Via.refl e29 t31 (g := (mkF m 85 #[.val (.ref o1), .val (.ref o2)] [(.ref o1), (.ref o1)])) rfl rfl (hb hby d8_85)
  have t33 := ((((((f17.other W4 (Or.inl u6)).other W12 (Or.inl u12)).other W16 (Or.inr (sn74 hw))).other W20 (Or.inr (sn75 hw))).other W24 (Or.inr (sn73 hw))).other W29 (Or.inl u12))
  obtain ⟨T34, X34, e34, st34⟩ := getF X32 hx hZ hown (host := "") (Or.inl (wk79 hw)) Via.refl e32 t33 (g := (mkF m 89 #[.val (.ref o1), .val (.ref o2)] [(.ref o2), (.long q4), (.ref o1)])) rfl rfl (hb hby d8_89)
  have t35 := (t28.wr W29)
  obtain ⟨T36, h36, X36, e36, W36, st36⟩ := putF X34 hx hZ hown (host := "") (Or.inl (wk77 hw)) Via.refl e34 t31 t35 (Or.inl (wk78 hw)) (wk2 hw) (ty := .long) (by decide) rfl rfl (g := (mkF m 93 #[.val (.ref o1), .val (.ref o2)] [(.long (q4 - q5)), (.ref o1)])) rfl rfl (hb hby d8_93)
  have F36 : Fld Z h36 o1 "com/example/tidemark/tidemark/RecencyList" "weight" "J" (.long (q4 - q5)) := t31.same W36
  have N36 := Fr.snoc X36 N29 g10
  have O37 := O30.wr W36 g10
  obtain ⟨fs, hr, hrun, hended, hWm, hsame⟩ := X36.leave (v := none) (fun _ => rfl)
  have Kf38 : own_KL h0 h36 [⟨o3, Jvm.RoadKit.slotOf Z "com/example/tidemark/tidemark/MemoryEntry" "newer" "Lcom/example/tidemark/tidemark/MemoryEntry;"⟩, ⟨o1, Jvm.RoadKit.slotOf Z "com/example/tidemark/tidemark/RecencyList" "newest" "Lcom/example/tidemark/tidemark/MemoryEntry;"⟩, ⟨o2, Jvm.RoadKit.slotOf Z "com/example/tidemark/tidemark/MemoryEntry" "older" "Lcom/example/tidemark/tidemark/MemoryEntry;"⟩, ⟨o2, Jvm.RoadKit.slotOf Z "com/example/tidemark/tidemark/MemoryEntry" "newer" "Lcom/example/tidemark/tidemark/MemoryEntry;"⟩, ⟨o2, Jvm.RoadKit.slotOf Z "com/example/tidemark/tidemark/MemoryEntry" "list" "Lcom/example/tidemark/tidemark/RecencyList;"⟩, ⟨o1, Jvm.RoadKit.slotOf Z "com/example/tidemark/tidemark/RecencyList" "size" "J"⟩, ⟨o1, Jvm.RoadKit.slotOf Z "com/example/tidemark/tidemark/RecencyList" "weight" "J"⟩] := (own_klW (own_klW (own_klW (own_klW (own_klW (own_klW (own_klW (own_kl0 h0 [⟨o3, Jvm.RoadKit.slotOf Z "com/example/tidemark/tidemark/MemoryEntry" "newer" "Lcom/example/tidemark/tidemark/MemoryEntry;"⟩, ⟨o1, Jvm.RoadKit.slotOf Z "com/example/tidemark/tidemark/RecencyList" "newest" "Lcom/example/tidemark/tidemark/MemoryEntry;"⟩, ⟨o2, Jvm.RoadKit.slotOf Z "com/example/tidemark/tidemark/MemoryEntry" "older" "Lcom/example/tidemark/tidemark/MemoryEntry;"⟩, ⟨o2, Jvm.RoadKit.slotOf Z "com/example/tidemark/tidemark/MemoryEntry" "newer" "Lcom/example/tidemark/tidemark/MemoryEntry;"⟩, ⟨o2, Jvm.RoadKit.slotOf Z "com/example/tidemark/tidemark/MemoryEntry" "list" "Lcom/example/tidemark/tidemark/RecencyList;"⟩, ⟨o1, Jvm.RoadKit.slotOf Z "com/example/tidemark/tidemark/RecencyList" "size" "J"⟩, ⟨o1, Jvm.RoadKit.slotOf Z "com/example/tidemark/tidemark/RecencyList" "weight" "J"⟩]) W4 (Or.inl (List.mem_of_getElem? (i := 0) rfl))) W12 (Or.inl (List.mem_of_getElem? (i := 1) rfl))) W16 (Or.inl (List.mem_of_getElem? (i := 2) rfl))) W20 (Or.inl (List.mem_of_getElem? (i := 3) rfl))) W24 (Or.inl (List.mem_of_getElem? (i := 4) rfl))) W29 (Or.inl (List.mem_of_getElem? (i := 5) rfl))) W36 (Or.inl (List.mem_of_getElem? (i := 6) rfl)))
  have t39 := ((((F16.other W20 (Or.inr (sn87 hw))).other W24 (Or.inr (sn59 hw))).other W29 (Or.inl u12)).other W36 (Or.inl u12))
  have t40 := (((F20.other W24 (Or.inr (sn61 hw))).other W29 (Or.inl u12)).other W36 (Or.inl u12))
  have t41 := ((((((F4.other W12 (Or.inl (Ne.symm u9))).other W16 (Or.inl (Ne.symm u6))).other W20 (Or.inl (Ne.symm u6))).other W24 (Or.inl (Ne.symm u6))).other W29 (Or.inl (Ne.symm u9))).other W36 (Or.inl (Ne.symm u9)))
  have t42 := (((((F12.other W16 (Or.inl (Ne.symm u12))).other W20 (Or.inl (Ne.symm u12))).other W24 (Or.inl (Ne.symm u12))).other W29 (Or.inr (sn85 hw))).other W36 (Or.inr (sn86 hw)))
  have t43 := ((F24.other W29 (Or.inl u12)).other W36 (Or.inl u12))
  have t44 := (F29.other W36 (Or.inr (sn91 hw)))
  refine ⟨_, _, pre0 _ ?_, hrun, hended, _, _, rfl, ?_, ⟨_, rfl⟩, hWm, hsame.mono (by decide) (by decide)⟩
  · show Steps p.tables e below (s₁.setTop (mkF m 0 #[.val (.ref o1), .val (.ref o2)] [])) _
    refine sA X0 hx hby d8_0 rfl rfl ?_
    refine st1 _ ?_
    refine XS.ifnonnullYes X1.here hx rfl (pc0 := 4) (pc' := 18) rfl (hb hby d8_4) rfl (by decide) (by decide) ?_
    refine sA X1 hx hby d8_18 rfl rfl ?_
    refine st2 _ ?_
    refine sA X2 hx hby d8_22 rfl rfl ?_
    refine st3 _ ?_
    refine st4 _ ?_
    refine sA X4 hx hby d8_29 rfl rfl ?_
    refine st7 _ ?_
    refine XS.ifnonnullNo X7.here hx rfl (hb hby d8_33) rfl ?_
    refine sA X7 hx hby d8_36 rfl rfl ?_
    refine sA X7 hx hby d8_37 rfl rfl ?_
    refine st9 _ ?_
    refine st12 _ ?_
    refine sg (pc := 44) (pc' := 58) X12 hx hby d8_44 (by decide) (by decide) ?_
    refine sA X12 hx hby d8_58 rfl rfl ?_
    refine XS.aconstNull X12.here hx rfl (hb hby d8_59) ?_
    refine st16 _ ?_
    refine sA X16 hx hby d8_63 rfl rfl ?_
    refine XS.aconstNull X16.here hx rfl (hb hby d8_64) ?_
    refine st20 _ ?_
    refine sA X20 hx hby d8_68 rfl rfl ?_
    refine XS.aconstNull X20.here hx rfl (hb hby d8_69) ?_
    refine st24 _ ?_
    refine sA X24 hx hby d8_73 rfl rfl ?_
    refine XS.dup X24.here hx rfl (hb hby d8_74) rfl rfl ?_
    refine st27 _ ?_
    refine XS.lconst X27.here hx rfl (hb hby d8_78) ?_
    refine XS.lsub X27.here hx rfl (hb hby d8_79) rfl ?_
    refine st29 _ ?_
    refine sA X29 hx hby d8_83 rfl rfl ?_
    refine XS.dup X29.here hx rfl (hb hby d8_84) rfl rfl ?_
    refine st32 _ ?_
    refine sA X32 hx hby d8_88 rfl rfl ?_
    refine st34 _ ?_
    refine XS.lsub X34.here hx rfl (hb hby d8_92) rfl ?_
    refine st36 _ ?_
    exact X36.returnOut hx Bd.returns (hb hby d8_96) hr
  · show Q8_25 Z w o1 o2 o3 q4 q5 h0 n0 _ T36.heap _
    rw [e36]
    exact ⟨rfl, N36, Kf38, t39, t40, t41, t42, t43, t44, F36⟩
theorem ef_7_26 (m : MethodId) (o1 : Addr) (o2 : Addr) : entryFrame m #[(.ref o1), (.ref o2)] 2 = mkF m 0 #[.val (.ref o1), .val (.ref o2)] [] := by first | (simp [entryFrame, mkF, argsToLocals, Value.category]; done) | rfl
def Q7_26 (Z : State) (w : Nat → Addr) (o1 : Addr) (o2 : Addr) (o3 : Addr) (q4 : Int64) (q5 : Int64) (h0 : Heap) (n0 : Nat) (v : Option Value) (h : Heap) (L : List Loc) : Prop := v = none ∧ Fr n0 L ∧ own_KL h0 h [⟨o1, Jvm.RoadKit.slotOf Z "com/example/tidemark/tidemark/RecencyList" "stamps" "J"⟩, ⟨o2, Jvm.RoadKit.slotOf Z "com/example/tidemark/tidemark/MemoryEntry" "stamp" "J"⟩, ⟨o2, Jvm.RoadKit.slotOf Z "com/example/tidemark/tidemark/MemoryEntry" "list" "Lcom/example/tidemark/tidemark/RecencyList;"⟩, ⟨o2, Jvm.RoadKit.slotOf Z "com/example/tidemark/tidemark/MemoryEntry" "older" "Lcom/example/tidemark/tidemark/MemoryEntry;"⟩, ⟨o2, Jvm.RoadKit.slotOf Z "com/example/tidemark/tidemark/MemoryEntry" "newer" "Lcom/example/tidemark/tidemark/MemoryEntry;"⟩, ⟨o3, Jvm.RoadKit.slotOf Z "com/example/tidemark/tidemark/MemoryEntry" "newer" "Lcom/example/tidemark/tidemark/MemoryEntry;"⟩, ⟨o1, Jvm.RoadKit.slotOf Z "com/example/tidemark/tidemark/RecencyList" "newest" "Lcom/example/tidemark/tidemark/MemoryEntry;"⟩, ⟨o1, Jvm.RoadKit.slotOf Z "com/example/tidemark/tidemark/RecencyList" "size" "J"⟩, ⟨o1, Jvm.RoadKit.slotOf Z "com/example/tidemark/tidemark/RecencyList" "weight" "J"⟩] ∧ Fld Z h o1 "com/example/tidemark/tidemark/RecencyList" "stamps" "J" (.long (4 : Int64)) ∧ Fld Z h o2 "com/example/tidemark/tidemark/MemoryEntry" "stamp" "J" (.long (4 : Int64)) ∧ Fld Z h o2 "com/example/tidemark/tidemark/MemoryEntry" "list" "Lcom/example/tidemark/tidemark/RecencyList;" (.ref o1) ∧ Fld Z h o1 "com/example/tidemark/tidemark/RecencyList" "newest" "Lcom/example/tidemark/tidemark/MemoryEntry;" (.ref o2) ∧ Fld Z h o2 "com/example/tidemark/tidemark/MemoryEntry" "older" "Lcom/example/tidemark/tidemark/MemoryEntry;" (.ref o3) ∧ Fld Z h o2 "com/example/tidemark/tidemark/MemoryEntry" "newer" "Lcom/example/tidemark/tidemark/MemoryEntry;" .null ∧ Fld Z h o3 "com/example/tidemark/tidemark/MemoryEntry" "newer" "Lcom/example/tidemark/tidemark/MemoryEntry;" (.ref o2) ∧ Fld Z h o1 "com/example/tidemark/tidemark/RecencyList" "size" "J" (.long (3 : Int64)) ∧ Fld Z h o1 "com/example/tidemark/tidemark/RecencyList" "weight" "J" (.long (q4 + q5))
set_option maxRecDepth 65536 in
set_option maxHeartbeats 40000000 in
theorem rm7_26 (l : Launch) (Z : State) (a0 : Array Value) (hw : ∀ d ∈ tables_1, d.before a0 Z = true) (w : Nat → Addr) (hW : Wd Z w) (ws : List Jvm.Cond) (o1 : Addr) (o2 : Addr) (o3 : Addr) (q4 : Int64) (q5 : Int64) (h0 : Heap) (n0 : Nat) (O0 : Old Z n0 h0) (f1 : Fld Z h0 o1 "com/example/tidemark/tidemark/RecencyList" "stamps" "J" (.long (3 : Int64))) (f2 : Exa Z h0 o1 "com/example/tidemark/tidemark/RecencyList") (g3 : n0 ≤ o1) (f4 : Exa Z h0 o2 "com/example/tidemark/tidemark/MemoryEntry") (f5 : Fld Z h0 o2 "com/example/tidemark/tidemark/MemoryEntry" "stamp" "J" (.long (3 : Int64))) (u6 : o2 ≠ o1) (g7 : n0 ≤ o2) (f8 : Fld Z h0 o2 "com/example/tidemark/tidemark/MemoryEntry" "list" "Lcom/example/tidemark/tidemark/RecencyList;" .null) (f9 : Fld Z h0 o1 "com/example/tidemark/tidemark/RecencyList" "newest" "Lcom/example/tidemark/tidemark/MemoryEntry;" (.ref o3)) (f10 : Fld Z h0 o2 "com/example/tidemark/tidemark/MemoryEntry" "older" "Lcom/example/tidemark/tidemark/MemoryEntry;" .null) (f11 : Fld Z h0 o2 "com/example/tidemark/tidemark/MemoryEntry" "newer" "Lcom/example/tidemark/tidemark/MemoryEntry;" .null) (f12 : Exa Z h0 o3 "com/example/tidemark/tidemark/MemoryEntry") (f13 : Fld Z h0 o3 "com/example/tidemark/tidemark/MemoryEntry" "newer" "Lcom/example/tidemark/tidemark/MemoryEntry;" .null) (u14 : o3 ≠ o1) (u15 : o3 ≠ o2) (g16 : n0 ≤ o3) (f17 : Fld Z h0 o1 "com/example/tidemark/tidemark/RecencyList" "size" "J" (.long (2 : Int64))) (f18 : Fld Z h0 o1 "com/example/tidemark/tidemark/RecencyList" "weight" "J" (.long q4)) (f19 : Fld Z h0 o2 "com/example/tidemark/tidemark/MemoryEntry" "charge" "J" (.long q5)) :
    MetFree l ym5 (head1 (Jvm.Cond.code ym5 prog_41_method_7_code 2 none :: ws) ({ frames := 0, cells := 0, slots := 0, locals := 0 } : Room)) (fun a U => a = #[(.ref o1), (.ref o2)] ∧ Z.Warmed39 U.vm ∧ U.heap = h0) (fun _ _ _ _ _ => True) (fun _ U o U' => ∃ v L, o = .returned v ∧ Q7_26 Z w o1 o2 o3 q4 q5 h0 n0 v U'.heap L ∧ FrameEnd U o U' L ({ frames := 0, cells := 0, slots := 0, locals := 0 } : Room).cells ({ frames := 0, cells := 0, slots := 0, locals := 0 } : Room).slots) := by
  refine MetFree.of_bodySF (plainFor_of_name pnc_0) hisR ?_
  intro p e s m args below meth c s₁ Bd hml0 hP hK
  obtain ⟨rfl, hZ, hh⟩ := hP
  have hx := Bd.exec
  have hby := Bd.bytes
  have hml : c.maxLocals = 2 := hml0
  have hown : s.vm.findClass "com/example/tidemark/tidemark/RecencyList" = some m.cls := findClass_of_methodNamed Bd.named
  have hnm := (name_of_methodNamed Bd.named Bd.method).1
  have X0 : Stand p l e ({ frames := 0, cells := 0, slots := 0, locals := 0 } : Room) s m #[(.ref o1), (.ref o2)] below meth c s₁ [] 0 0 := Stand.of_body Bd
  have e0 : s₁.heap = h0 := by rw [← hh, Bd.state]; rfl
  have N0 := Fr.nil n0
  skip
  have pre0 : ∀ t, Steps p.tables e below (s₁.setTop (mkF m 0 #[.val (.ref o1), .val (.ref o2)] [])) t → Steps p.tables e below (s₁.setTop (entryFrame m #[(.ref o1), (.ref o2)] 2)) t := fun t k => castTop (ef_7_26 m o1 o2) k
  obtain ⟨T1, X1, e1, st1⟩ := getF X0 hx hZ hown (host := "") (Or.inl (wk61 hw)) Via.refl e0 f1 (g := (mkF m 3 #[.val (.ref o1), .val (.ref o2)] [(.ref o1), (.ref o1), (.ref o2)])) rfl rfl (hb hby d7_3)
  obtain ⟨T2, h2, X2, e2, W2, st2⟩ := putF X1 hx hZ hown (host := "") (Or.inl (wk61 hw)) Via.refl e1 f1 f2 (Or.inl (wk62 hw)) (wk2 hw) (ty := .long) (by decide) rfl rfl (g := (mkF m 9 #[.val (.ref o1), .val (.ref o2)] [(.long (4 : Int64)), (.ref o1), (.long (4 : Int64)), (.ref o2)])) rfl rfl (hb hby d7_9)
  have F2 : Fld Z h2 o1 "com/example/tidemark/tidemark/RecencyList" "stamps" "J" (.long (4 : Int64)) := f1.same W2
  have N2 := Fr.snoc X2 N0 g3
  have O3 := O0.wr W2 g3
  have t4 := (f5.other W2 (Or.inl u6))
  have t5 := (f4.wr W2)
  obtain ⟨T6, h6, X6, e6, W6, st6⟩ := putF X2 hx hZ hown (host := "") (Or.inl (wk63 hw)) Via.refl e2 t4 t5 (Or.inl (wk64 hw)) (wk11 hw) (ty := .long) (by decide) rfl rfl (g := (mkF m 12 #[.val (.ref o1), .val (.ref o2)] [(.long (4 : Int64)), (.ref o2)])) rfl rfl (hb hby d7_12)
  have F6 : Fld Z h6 o2 "com/example/tidemark/tidemark/MemoryEntry" "stamp" "J" (.long (4 : Int64)) := t4.same W6
  have N6 := Fr.snoc X6 N2 g7
  have O7 := O3.wr W6 g7
  have t8 := ((f8.other W2 (Or.inl u6)).other W6 (Or.inr (sn56 hw)))
  have t9 := (t5.wr W6)
  obtain ⟨T10, h10, X10, e10, W10, st10⟩ := putF X6 hx hZ hown (host := "") (Or.inl (wk65 hw)) Via.refl e6 t8 t9 (Or.inl (wk66 hw)) (wk11 hw) (ty := (.object "com/example/tidemark/tidemark/RecencyList")) (by decide) rfl rfl (g := (mkF m 17 #[.val (.ref o1), .val (.ref o2)] [(.ref o1), (.ref o2)])) rfl rfl (hb hby d7_17)
  have F10 : Fld Z h10 o2 "com/example/tidemark/tidemark/MemoryEntry" "list" "Lcom/example/tidemark/tidemark/RecencyList;" (.ref o1) := t8.same W10
  have N10 := Fr.snoc X10 N6 g7
  have O11 := O7.wr W10 g7
  have t12 := (((f9.other W2 (Or.inr (sn57 hw))).other W6 (Or.inl (Ne.symm u6))).other W10 (Or.inl (Ne.symm u6)))
  obtain ⟨T13, X13, e13, st13⟩ := getF X10 hx hZ hown (host := "") (Or.inl (wk67 hw)) Via.refl e10 t12 (g := (mkF m 22 #[.val (.ref o1), .val (.ref o2)] [(.ref o1), (.ref o2)])) rfl rfl (hb hby d7_22)
  have t14 := (((f10.other W2 (Or.inl u6)).other W6 (Or.inr (sn58 hw))).other W10 (Or.inr (sn59 hw)))
  have t15 := (t9.wr W10)
  obtain ⟨T16, h16, X16, e16, W16, st16⟩ := putF X13 hx hZ hown (host := "") (Or.inl (wk69 hw)) Via.refl e13 t14 t15 (Or.inl (wk70 hw)) (wk11 hw) (ty := (.object "com/example/tidemark/tidemark/MemoryEntry")) (by decide) rfl rfl (g := (mkF m 25 #[.val (.ref o1), .val (.ref o2)] [(.ref o3), (.ref o2)])) rfl rfl (hb hby d7_25)
  have F16 : Fld Z h16 o2 "com/example/tidemark/tidemark/MemoryEntry" "older" "Lcom/example/tidemark/tidemark/MemoryEntry;" (.ref o3) := t14.same W16
  have N16 := Fr.snoc X16 N10 g7
  have O17 := O11.wr W16 g7
  have t18 := ((((f11.other W2 (Or.inl u6)).other W6 (Or.inr (sn60 hw))).other W10 (Or.inr (sn61 hw))).other W16 (Or.inr (sn62 hw)))
  have t19 := (t15.wr W16)
  obtain ⟨T20, h20, X20, e20, W20, st20⟩ := putF X16 hx hZ hown (host := "") (Or.inl (wk71 hw)) Via.refl e16 t18 t19 (Or.inl (wk72 hw)) (wk11 hw) (ty := (.object "com/example/tidemark/tidemark/MemoryEntry")) (by decide) rfl rfl (g := (mkF m 30 #[.val (.ref o1), .val (.ref o2)] [.null, (.ref o2)])) rfl rfl (hb hby d7_30)
  have F20 : Fld Z h20 o2 "com/example/tidemark/tidemark/MemoryEntry" "newer" "Lcom/example/tidemark/tidemark/MemoryEntry;" .null := t18.same W20
  have N20 := Fr.snoc X20 N16 g7
  have O21 := O17.wr W20 g7
  have t22 := ((t12.other W16 (Or.inl (Ne.symm u6))).other W20 (Or.inl (Ne.symm u6)))
  obtain ⟨T23, X23, e23, st23⟩ := getF X20 hx hZ hown (host := "") (Or.inl (wk67 hw)) Via.refl e20 t22 (g := (mkF m 34 #[.val (.ref o1), .val (.ref o2)] [(.ref o1)])) rfl rfl (hb hby d7_34)
  obtain ⟨T24, X24, e24, st24⟩ := getF X23 hx hZ hown (host := "") (Or.inl (wk67 hw)) Via.refl e23 t22 (g := (mkF m 49 #[.val (.ref o1), .val (.ref o2)] [(.ref o1)])) rfl rfl (hb hby d7_49)
  have t25 := (((((f13.other W2 (Or.inl u14)).other W6 (Or.inl u15)).other W10 (Or.inl u15)).other W16 (Or.inl u15)).other W20 (Or.inl u15))
  have t26 := (((((f12.wr W2).wr W6).wr W10).wr W16).wr W20)
  obtain ⟨T27, h27, X27, e27, W27, st27⟩ := putF X24 hx hZ hown (host := "") (Or.inl (wk71 hw)) Via.refl e24 t25 t26 (Or.inl (wk72 hw)) (wk11 hw) (ty := (.object "com/example/tidemark/tidemark/MemoryEntry")) (by decide) rfl rfl (g := (mkF m 53 #[.val (.ref o1), .val (.ref o2)] [(.ref o2), (.ref o3)])) rfl rfl (hb hby d7_53)
  have F27 : Fld Z h27 o3 "com/example/tidemark/tidemark/MemoryEntry" "newer" "Lcom/example/tidemark/tidemark/MemoryEntry;" (.ref o2) := t25.same W27
  have N27 := Fr.snoc X27 N20 g16
  have O28 := O21.wr W27 g16
  have t29 := (t22.other W27 (Or.inl (Ne.symm u14)))
  have t30 := ((((((f2.wr W2).wr W6).wr W10).wr W16).wr W20).wr W27)
  obtain ⟨T31, h31, X31, e31, W31, st31⟩ := putF X27 hx hZ hown (host := "") (Or.inl (wk67 hw)) Via.refl e27 t29 t30 (Or.inl (wk68 hw)) (wk2 hw) (ty := (.object "com/example/tidemark/tidemark/MemoryEntry")) (by decide) rfl rfl (g := (mkF m 58 #[.val (.ref o1), .val (.ref o2)] [(.ref o2), (.ref o1)])) rfl rfl (hb hby d7_58)
  have F31 : Fld Z h31 o1 "com/example/tidemark/tidemark/RecencyList" "newest" "Lcom/example/tidemark/tidemark/MemoryEntry;" (.ref o2) := t29.same W31
  have N31 := Fr.snoc X31 N27 g3
  have O32 := O28.wr W31 g3
  have t33 := (((((((f17.other W2 (Or.inr (sn65 hw))).other W6 (Or.inl (Ne.symm u6))).other W10 (Or.inl (Ne.symm u6))).other W16 (Or.inl (Ne.symm u6))).other W20 (Or.inl (Ne.symm u6))).other W27 (Or.inl (Ne.symm u14))).other W31 (Or.inr (sn67 hw)))
  obtain ⟨T34, X34, e34, st34⟩ := getF X31 hx hZ hown (host := "") (Or.inl (wk75 hw)) Via.refl e31 t33 (g := (mkF m 63 #[.val (.ref o1), .val (.ref o2)] [(.ref o1), (.ref o1)])) rfl rfl (hb hby d7_63)
  have t35 := (t30.wr W31)
  obtain ⟨T36, h36, X36, e36, W36, st36⟩ := putF X34 hx hZ hown (host := "") (Or.inl (wk75 hw)) Via.refl e34 t33 t35 (Or.inl (wk76 hw)) (wk2 hw) (ty := .long) (by decide) rfl rfl (g := (mkF m 68 #[.val (.ref o1), .val (.ref o2)] [(.long (3 : Int64)), (.ref o1)])) rfl rfl (hb hby d7_68)
  have F36 : Fld Z h36 o1 "com/example/tidemark/tidemark/RecencyList" "size" "J" (.long (3 : Int64)) := t33.same W36
  have N36 := Fr.snoc X36 N31 g3
  have O37 := O32.wr W36 g3
  have t38 := ((((((((f18.other W2 (Or.inr (sn68 hw))).other W6 (Or.inl (Ne.symm u6))).other W10 (Or.inl (Ne.symm u6))).other W16 (Or.inl (Ne.symm u6))).other W20 (Or.inl (Ne.symm u6))).other W27 (Or.inl (Ne.symm u14))).other W31 (Or.inr (sn70 hw))).other W36 (Or.inr (sn71 hw)))
  obtain ⟨T39, X39, e39, st39⟩ := getF X36 hx hZ hown (host := "") (Or.inl (wk77 hw)) Via.refl e36 t38 (g := (mkF m 73 #[.val (.ref o1), .val (.ref o2)] [(.ref o1), (.ref o1)])) rfl rfl (hb hby d7_73)
  have t40 := ((((((((f19.other W2 (Or.inl u6)).other W6 (Or.inr (sn72 hw))).other W10 (Or.inr (sn73 hw))).other W16 (Or.inr (sn74 hw))).other W20 (Or.inr (sn75 hw))).other W27 (Or.inl (Ne.symm u15))).other W31 (Or.inl u6)).other W36 (Or.inl u6))
  obtain ⟨T41, X41, e41, st41⟩ := getF X39 hx hZ hown (host := "") (Or.inl (wk79 hw)) Via.refl e39 t40 (g := (mkF m 77 #[.val (.ref o1), .val (.ref o2)] [(.ref o2), (.long q4), (.ref o1)])) rfl rfl (hb hby d7_77)
  have t42 := (t35.wr W36)
  obtain ⟨T43, h43, X43, e43, W43, st43⟩ := putF X41 hx hZ hown (host := "") (Or.inl (wk77 hw)) Via.refl e41 t38 t42 (Or.inl (wk78 hw)) (wk2 hw) (ty := .long) (by decide) rfl rfl (g := (mkF m 81 #[.val (.ref o1), .val (.ref o2)] [(.long (q4 + q5)), (.ref o1)])) rfl rfl (hb hby d7_81)
  have F43 : Fld Z h43 o1 "com/example/tidemark/tidemark/RecencyList" "weight" "J" (.long (q4 + q5)) := t38.same W43
  have N43 := Fr.snoc X43 N36 g3
  have O44 := O37.wr W43 g3
  obtain ⟨fs, hr, hrun, hended, hWm, hsame⟩ := X43.leave (v := none) (fun _ => rfl)
  have Kf45 : own_KL h0 h43 [⟨o1, Jvm.RoadKit.slotOf Z "com/example/tidemark/tidemark/RecencyList" "stamps" "J"⟩, ⟨o2, Jvm.RoadKit.slotOf Z "com/example/tidemark/tidemark/MemoryEntry" "stamp" "J"⟩, ⟨o2, Jvm.RoadKit.slotOf Z "com/example/tidemark/tidemark/MemoryEntry" "list" "Lcom/example/tidemark/tidemark/RecencyList;"⟩, ⟨o2, Jvm.RoadKit.slotOf Z "com/example/tidemark/tidemark/MemoryEntry" "older" "Lcom/example/tidemark/tidemark/MemoryEntry;"⟩, ⟨o2, Jvm.RoadKit.slotOf Z "com/example/tidemark/tidemark/MemoryEntry" "newer" "Lcom/example/tidemark/tidemark/MemoryEntry;"⟩, ⟨o3, Jvm.RoadKit.slotOf Z "com/example/tidemark/tidemark/MemoryEntry" "newer" "Lcom/example/tidemark/tidemark/MemoryEntry;"⟩, ⟨o1, Jvm.RoadKit.slotOf Z "com/example/tidemark/tidemark/RecencyList" "newest" "Lcom/example/tidemark/tidemark/MemoryEntry;"⟩, ⟨o1, Jvm.RoadKit.slotOf Z "com/example/tidemark/tidemark/RecencyList" "size" "J"⟩, ⟨o1, Jvm.RoadKit.slotOf Z "com/example/tidemark/tidemark/RecencyList" "weight" "J"⟩] := (own_klW (own_klW (own_klW (own_klW (own_klW (own_klW (own_klW (own_klW (own_klW (own_kl0 h0 [⟨o1, Jvm.RoadKit.slotOf Z "com/example/tidemark/tidemark/RecencyList" "stamps" "J"⟩, ⟨o2, Jvm.RoadKit.slotOf Z "com/example/tidemark/tidemark/MemoryEntry" "stamp" "J"⟩, ⟨o2, Jvm.RoadKit.slotOf Z "com/example/tidemark/tidemark/MemoryEntry" "list" "Lcom/example/tidemark/tidemark/RecencyList;"⟩, ⟨o2, Jvm.RoadKit.slotOf Z "com/example/tidemark/tidemark/MemoryEntry" "older" "Lcom/example/tidemark/tidemark/MemoryEntry;"⟩, ⟨o2, Jvm.RoadKit.slotOf Z "com/example/tidemark/tidemark/MemoryEntry" "newer" "Lcom/example/tidemark/tidemark/MemoryEntry;"⟩, ⟨o3, Jvm.RoadKit.slotOf Z "com/example/tidemark/tidemark/MemoryEntry" "newer" "Lcom/example/tidemark/tidemark/MemoryEntry;"⟩, ⟨o1, Jvm.RoadKit.slotOf Z "com/example/tidemark/tidemark/RecencyList" "newest" "Lcom/example/tidemark/tidemark/MemoryEntry;"⟩, ⟨o1, Jvm.RoadKit.slotOf Z "com/example/tidemark/tidemark/RecencyList" "size" "J"⟩, ⟨o1, Jvm.RoadKit.slotOf Z "com/example/tidemark/tidemark/RecencyList" "weight" "J"⟩]) W2 (Or.inl (List.mem_of_getElem? (i := 0) rfl))) W6 (Or.inl (List.mem_of_getElem? (i := 1) rfl))) W10 (Or.inl (List.mem_of_getElem? (i := 2) rfl))) W16 (Or.inl (List.mem_of_getElem? (i := 3) rfl))) W20 (Or.inl (List.mem_of_getElem? (i := 4) rfl))) W27 (Or.inl (List.mem_of_getElem? (i := 5) rfl))) W31 (Or.inl (List.mem_of_getElem? (i := 6) rfl))) W36 (Or.inl (List.mem_of_getElem? (i := 7) rfl))) W43 (Or.inl (List.mem_of_getElem? (i := 8) rfl)))
  have t46 := ((((((((F2.other W6 (Or.inl (Ne.symm u6))).other W10 (Or.inl (Ne.symm u6))).other W16 (Or.inl (Ne.symm u6))).other W20 (Or.inl (Ne.symm u6))).other W27 (Or.inl (Ne.symm u14))).other W31 (Or.inr (sn77 hw))).other W36 (Or.inr (sn78 hw))).other W43 (Or.inr (sn79 hw)))
  have t47 := (((((((F6.other W10 (Or.inr (sn80 hw))).other W16 (Or.inr (sn81 hw))).other W20 (Or.inr (sn82 hw))).other W27 (Or.inl (Ne.symm u15))).other W31 (Or.inl u6)).other W36 (Or.inl u6)).other W43 (Or.inl u6))
  have t48 := ((((((F10.other W16 (Or.inr (sn83 hw))).other W20 (Or.inr (sn84 hw))).other W27 (Or.inl (Ne.symm u15))).other W31 (Or.inl u6)).other W36 (Or.inl u6)).other W43 (Or.inl u6))
  have t49 := ((F31.other W36 (Or.inr (sn85 hw))).other W43 (Or.inr (sn86 hw)))
  have t50 := (((((F16.other W20 (Or.inr (sn87 hw))).other W27 (Or.inl (Ne.symm u15))).other W31 (Or.inl u6)).other W36 (Or.inl u6)).other W43 (Or.inl u6))
  have t51 := ((((F20.other W27 (Or.inl (Ne.symm u15))).other W31 (Or.inl u6)).other W36 (Or.inl u6)).other W43 (Or.inl u6))
  have t52 := (((F27.other W31 (Or.inl u14)).other W36 (Or.inl u14)).other W43 (Or.inl u14))
  have t53 := (F36.other W43 (Or.inr (sn91 hw)))
  refine ⟨_, _, pre0 _ ?_, hrun, hended, _, _, rfl, ?_, ⟨_, rfl⟩, hWm, hsame.mono (by decide) (by decide)⟩
  · show Steps p.tables e below (s₁.setTop (mkF m 0 #[.val (.ref o1), .val (.ref o2)] [])) _
    refine sA X0 hx hby d7_0 rfl rfl ?_
    refine sA X0 hx hby d7_1 rfl rfl ?_
    refine XS.dup X0.here hx rfl (hb hby d7_2) rfl rfl ?_
    refine st1 _ ?_
    refine XS.lconst X1.here hx rfl (hb hby d7_6) ?_
    refine XS.ladd X1.here hx rfl (hb hby d7_7) rfl ?_
    jvm_step X1.here [X1.here.top, hx, (hb hby d7_8), Value.category]
    show Steps p.tables e below (T1.setTop (mkF m 9 #[.val (.ref o1), .val (.ref o2)] [(.long (4 : Int64)), (.ref o1), (.long (4 : Int64)), (.ref o2)])) _
    refine st2 _ ?_
    refine st6 _ ?_
    refine sA X6 hx hby d7_15 rfl rfl ?_
    refine sA X6 hx hby d7_16 rfl rfl ?_
    refine st10 _ ?_
    refine sA X10 hx hby d7_20 rfl rfl ?_
    refine sA X10 hx hby d7_21 rfl rfl ?_
    refine st13 _ ?_
    refine st16 _ ?_
    refine sA X16 hx hby d7_28 rfl rfl ?_
    refine XS.aconstNull X16.here hx rfl (hb hby d7_29) ?_
    refine st20 _ ?_
    refine sA X20 hx hby d7_33 rfl rfl ?_
    refine st23 _ ?_
    refine XS.ifnonnullYes X23.here hx rfl (pc0 := 37) (pc' := 48) rfl (hb hby d7_37) rfl (by decide) (by decide) ?_
    refine sA X23 hx hby d7_48 rfl rfl ?_
    refine st24 _ ?_
    refine sA X24 hx hby d7_52 rfl rfl ?_
    refine st27 _ ?_
    refine sA X27 hx hby d7_56 rfl rfl ?_
    refine sA X27 hx hby d7_57 rfl rfl ?_
    refine st31 _ ?_
    refine sA X31 hx hby d7_61 rfl rfl ?_
    refine XS.dup X31.here hx rfl (hb hby d7_62) rfl rfl ?_
    refine st34 _ ?_
    refine XS.lconst X34.here hx rfl (hb hby d7_66) ?_
    refine XS.ladd X34.here hx rfl (hb hby d7_67) rfl ?_
    refine st36 _ ?_
    refine sA X36 hx hby d7_71 rfl rfl ?_
    refine XS.dup X36.here hx rfl (hb hby d7_72) rfl rfl ?_
    refine st39 _ ?_
    refine sA X39 hx hby d7_76 rfl rfl ?_
    refine st41 _ ?_
    refine XS.ladd X41.here hx rfl (hb hby d7_80) rfl ?_
    refine st43 _ ?_
    exact X43.returnOut hx Bd.returns (hb hby d7_84) hr
  · show Q7_26 Z w o1 o2 o3 q4 q5 h0 n0 _ T43.heap _
    rw [e43]
    exact ⟨rfl, N43, Kf45, t46, t47, t48, t49, t50, t51, t52, t53, F43⟩
theorem ef_0_27 (m : MethodId) (p0 : Int32) (p1 : Int32) (p2 : Int64) (p3 : Int64) (p4 : Int64) : entryFrame m #[(.int p0), (.int p1), (.long p2), (.long p3), (.long p4)] maxLocals = mkF m 0 #[.val (.int p0), .val (.int p1), .val (.long p2), .second, .val (.long p3), .second, .val (.long p4), .second, .unset, .unset, .unset, .unset, .unset, .unset, .unset, .unset, .unset, .unset, .unset, .unset, .unset] [] := by first | (simp [entryFrame, mkF, argsToLocals, Value.category, maxLocals]; done) | rfl
theorem pnc_3 : plainName "com/example/tidemark/tidemark/RecencyListRemovePinLaw" = true := by first | (simp [plainName, overriddenIn]; done) | decide +kernel
def Q0 (n0 : Nat) (v : Option Value) (h : Heap) (L : List Loc) : Prop := v = some (.int (1 : Int32)) ∧ Fr n0 L
set_option maxRecDepth 65536 in
set_option maxHeartbeats 400000000 in
theorem rm0 (l : Launch) (Z : State) (a0 : Array Value) (hw : ∀ d ∈ tables_1, d.before a0 Z = true) (w : Nat → Addr) (hW : Wd Z w) (ws : List Jvm.Cond) (p0 : Int32) (p1 : Int32) (p2 : Int64) (p3 : Int64) (p4 : Int64) (h0 : Heap) (n0 : Nat) (O0 : Old Z n0 h0) :
    MetFree l x (head1 (Jvm.Cond.code x code maxLocals ret :: ws) room_1) (fun a U => a = #[(.int p0), (.int p1), (.long p2), (.long p3), (.long p4)] ∧ Z.Warmed39 U.vm ∧ U.heap = h0) (fun _ _ _ _ _ => True) (fun _ U o U' => ∃ v L, o = .returned v ∧ Q0 n0 v U'.heap L ∧ FrameEnd U o U' L room_1.cells room_1.slots) := by
  refine MetFree.of_bodySF (plainFor_of_name pnc_3) hisR ?_
  intro p e s m args below meth c s₁ Bd hml0 hP hK
  obtain ⟨rfl, hZ, hh⟩ := hP
  have hx := Bd.exec
  have hby := Bd.bytes
  have hml : c.maxLocals = 21 := hml0
  have hown : s.vm.findClass "com/example/tidemark/tidemark/RecencyListRemovePinLaw" = some m.cls := findClass_of_methodNamed Bd.named
  have hnm := (name_of_methodNamed Bd.named Bd.method).1
  have X0 : Stand p l e room_1 s m #[(.int p0), (.int p1), (.long p2), (.long p3), (.long p4)] below meth c s₁ [] 0 0 := Stand.of_body Bd
  have e0 : s₁.heap = h0 := by rw [← hh, Bd.state]; rfl
  have N0 := Fr.nil n0
  let La : Array Slot := #[.val (.int p0), .val (.int p1), .val (.long p2), .second, .val (.long p3), .second, .val (.long p4), .second, .unset, .unset, .unset, .unset, .unset, .unset, .unset, .unset, .unset, .unset, .unset, .unset, .unset]
  have pre0 : ∀ t, Steps p.tables e below (s₁.setTop (mkF m 0 #[.val (.int p0), .val (.int p1), .val (.long p2), .second, .val (.long p3), .second, .val (.long p4), .second, .unset, .unset, .unset, .unset, .unset, .unset, .unset, .unset, .unset, .unset, .unset, .unset, .unset] [])) t → Steps p.tables e below (s₁.setTop (entryFrame m #[(.int p0), (.int p1), (.long p2), (.long p3), (.long p4)] maxLocals)) t := fun t k => castTop (ef_0_27 m p0 p1 p2 p3 p4) k
  let Lb1 : Array Slot := #[.val (.int p0), .val (.int p1), .val (.long p2), .second, .val (.long p3), .second, .val (.long p4), .second, .val (.int (((p0 &&& (2147483647 : Int32)) % (3 : Int32)) + (1 : Int32))), .unset, .unset, .unset, .unset, .unset, .unset, .unset, .unset, .unset, .unset, .unset, .unset]
  let Lb2 : Array Slot := #[.val (.int p0), .val (.int p1), .val (.long p2), .second, .val (.long p3), .second, .val (.long p4), .second, .val (.int (((p0 &&& (2147483647 : Int32)) % (3 : Int32)) + (1 : Int32))), .val (.int ((p1 &&& (2147483647 : Int32)) % (((p0 &&& (2147483647 : Int32)) % (3 : Int32)) + (1 : Int32)))), .unset, .unset, .unset, .unset, .unset, .unset, .unset, .unset, .unset, .unset, .unset]
  obtain ⟨T3, h3, X3, e3, E3, A3, D3, -, st3⟩ := newO X0 hx hZ hown (wk1 hw) (wk2 hw) (wk3 hw) e0 (g := (mkF m 19 Lb2 [])) rfl (hb hby at_19) (by decide) (by decide)
  obtain ⟨b3, g3⟩ : ∃ z, z = h0.size := ⟨_, rfl⟩
  rw [← g3] at A3 D3 st3
  have gg3 : n0 ≤ b3 := by rw [← O0.1, g3]; exact O0.2.1
  have O4 := O0.ext E3
  have i3_62 : Fld Z h3 b3 "com/example/tidemark/tidemark/RecencyList" "stamps" "J" (.long (0 : Int64)) := D3 (Or.inl (wk62 hw)) (ty := .long) (by decide)
  have i3_68 : Fld Z h3 b3 "com/example/tidemark/tidemark/RecencyList" "newest" "Lcom/example/tidemark/tidemark/MemoryEntry;" .null := D3 (Or.inl (wk68 hw)) (ty := (.object "com/example/tidemark/tidemark/MemoryEntry")) (by decide)
  have i3_74 : Fld Z h3 b3 "com/example/tidemark/tidemark/RecencyList" "oldest" "Lcom/example/tidemark/tidemark/MemoryEntry;" .null := D3 (Or.inl (wk74 hw)) (ty := (.object "com/example/tidemark/tidemark/MemoryEntry")) (by decide)
  have i3_76 : Fld Z h3 b3 "com/example/tidemark/tidemark/RecencyList" "size" "J" (.long (0 : Int64)) := D3 (Or.inl (wk76 hw)) (ty := .long) (by decide)
  have i3_78 : Fld Z h3 b3 "com/example/tidemark/tidemark/RecencyList" "weight" "J" (.long (0 : Int64)) := D3 (Or.inl (wk78 hw)) (ty := .long) (by decide)
  obtain ⟨_, _, ⟨T5, L5, kk5, nn5⟩, -, X5, ⟨Lc5, hQ5, l5, y5, z5⟩, st5⟩ := X3.specialBack hx (y := ym0) rfl hown (mvT hZ (wk4 hw)) (mvT hZ (wk5 hw)) (mvT hZ (wk6 hw)) (by decide) (backOf (W := 1) (rm1_1 l Z a0 hw w hW [] b3 h3 n0 O4 ) hZ (wk6 hw) (wk3 hw) (by decide) (by decide)) (g := (mkF m 23 Lb2 [(.ref b3), (.ref b3)])) rfl (by rw [hml]; rfl) (Steps.refl _) (a := b3) (argsL := []) (rest := [(.ref b3)]) (lenOf pds_0 rfl) rfl (by show 2 * 0 + _ ≤ _; exact Nat.le_of_eq rfl) (hb hby at_23) (fun _ _ => ⟨rfl, e3, (by decide : 1 + 0 ≤ _), (by decide : 5 + 0 ≤ _)⟩)
  dsimp only [Pt.U, Pt.locs, Pt.cells, Pt.slots] at X5 l5 y5 z5 st5 hQ5
  rw [l5, y5, z5] at X5
  obtain ⟨rfl, N5q, e5⟩ := hQ5
  have N5 := Fr.app N0 N5q
  let Lb6 : Array Slot := #[.val (.int p0), .val (.int p1), .val (.long p2), .second, .val (.long p3), .second, .val (.long p4), .second, .val (.int (((p0 &&& (2147483647 : Int32)) % (3 : Int32)) + (1 : Int32))), .val (.int ((p1 &&& (2147483647 : Int32)) % (((p0 &&& (2147483647 : Int32)) % (3 : Int32)) + (1 : Int32)))), .val (.ref b3), .unset, .unset, .unset, .unset, .unset, .unset, .unset, .unset, .unset, .unset]
  obtain ⟨T7, h7, X7, e7, E7, A7, D7, -, st7⟩ := newO X5 hx hZ hown (wk10 hw) (wk11 hw) (wk12 hw) e5 (g := (mkF m 28 Lb6 [])) rfl (hb hby at_28) (by decide) (by decide)
  obtain ⟨b7, g7⟩ : ∃ z, z = h3.size := ⟨_, rfl⟩
  rw [← g7] at A7 D7 st7
  have gg7 : n0 ≤ b7 := by rw [← O4.1, g7]; exact O4.2.1
  have O8 := O4.ext E7
  have i7_21 : Fld Z h7 b7 "com/example/tidemark/tidemark/MemoryEntry" "slot" "I" (.int (0 : Int32)) := D7 (Or.inl (wk21 hw)) (ty := .int) (by decide)
  have i7_23 : Fld Z h7 b7 "com/example/tidemark/tidemark/MemoryEntry" "key" "Ljava/lang/Object;" .null := D7 (Or.inr (wk23 hw)) (ty := (.object "java/lang/Object")) (by decide)
  have i7_25 : Fld Z h7 b7 "com/example/tidemark/tidemark/MemoryEntry" "charge" "J" (.long (0 : Int64)) := D7 (Or.inl (wk25 hw)) (ty := .long) (by decide)
  have i7_32 : Fld Z h7 b7 "com/example/tidemark/tidemark/MemoryEntry" "value" "Ljava/lang/Object;" .null := D7 (Or.inl (wk32 hw)) (ty := (.object "java/lang/Object")) (by decide)
  have i7_34 : Fld Z h7 b7 "com/example/tidemark/tidemark/MemoryEntry" "expiry" "Lcom/example/tidemark/tidemark/Expiry;" .null := D7 (Or.inl (wk34 hw)) (ty := (.object "com/example/tidemark/tidemark/Expiry")) (by decide)
  have i7_41 : Fld Z h7 b7 "com/example/tidemark/tidemark/MemoryEntry" "created" "J" (.long (0 : Int64)) := D7 (Or.inl (wk41 hw)) (ty := .long) (by decide)
  have i7_43 : Fld Z h7 b7 "com/example/tidemark/tidemark/MemoryEntry" "lastUsed" "J" (.long (0 : Int64)) := D7 (Or.inl (wk43 hw)) (ty := .long) (by decide)
  have i7_55 : Fld Z h7 b7 "com/example/tidemark/tidemark/MemoryEntry" "lockFreeValue" "Ljava/lang/Object;" .null := D7 (Or.inl (wk55 hw)) (ty := (.object "java/lang/Object")) (by decide)
  have i7_64 : Fld Z h7 b7 "com/example/tidemark/tidemark/MemoryEntry" "stamp" "J" (.long (0 : Int64)) := D7 (Or.inl (wk64 hw)) (ty := .long) (by decide)
  have i7_66 : Fld Z h7 b7 "com/example/tidemark/tidemark/MemoryEntry" "list" "Lcom/example/tidemark/tidemark/RecencyList;" .null := D7 (Or.inl (wk66 hw)) (ty := (.object "com/example/tidemark/tidemark/RecencyList")) (by decide)
  have i7_70 : Fld Z h7 b7 "com/example/tidemark/tidemark/MemoryEntry" "older" "Lcom/example/tidemark/tidemark/MemoryEntry;" .null := D7 (Or.inl (wk70 hw)) (ty := (.object "com/example/tidemark/tidemark/MemoryEntry")) (by decide)
  have i7_72 : Fld Z h7 b7 "com/example/tidemark/tidemark/MemoryEntry" "newer" "Lcom/example/tidemark/tidemark/MemoryEntry;" .null := D7 (Or.inl (wk72 hw)) (ty := (.object "com/example/tidemark/tidemark/MemoryEntry")) (by decide)
  obtain ⟨T9, X9, e9, st9⟩ := getS2 X7 hx hZ hown (host := "") (Or.inl (wk13 hw)) Via.refl e7 ((wd0 hW).ext O8.2) (g := (mkF m 34 Lb6 [.null, .null, (.ref b7), (.ref b7)])) rfl (hb hby at_34)
  obtain ⟨_, _, ⟨T10, L10, kk10, nn10⟩, -, X10, ⟨Lc10, hQ10, l10, y10, z10⟩, st10⟩ := X9.specialBack hx (y := ym4) rfl hown (mvT hZ (wk16 hw)) (mvT hZ (wk17 hw)) (mvT hZ (wk18 hw)) (by decide) (backOf (W := 1) (rm3_5 l Z a0 hw w hW [] b7 p2 h7 n0 O8 A7 i7_21 gg7 i7_23 i7_25 i7_32 i7_34 i7_41 i7_43 i7_55) hZ (wk18 hw) (wk12 hw) (by decide) (by decide)) (g := (mkF m 39 Lb6 [(.long p2), (.long (0 : Int64)), (.ref (w 0)), .null, .null, (.ref b7), (.ref b7)])) rfl (by rw [hml]; rfl) (Steps.refl _) (a := b7) (argsL := [.null, .null, (.ref (w 0)), (.long (0 : Int64)), (.long p2)]) (rest := [(.ref b7)]) (lenOf pds_4 rfl) rfl (by show 2 * 0 + _ ≤ _; exact Nat.le_of_eq rfl) (hb hby at_39) (fun _ _ => ⟨rfl, e9, (by decide : 2 + 0 ≤ _), (by decide : 23 + 0 ≤ _)⟩)
  dsimp only [Pt.U, Pt.locs, Pt.cells, Pt.slots] at X10 l10 y10 z10 st10 hQ10
  rw [l10, y10, z10] at X10
  obtain ⟨rfl, N10q, K10, r10_0, r10_1, r10_2, r10_3, r10_4, r10_5, r10_6, r10_7⟩ := hQ10
  have N10 := Fr.app N5 N10q
  have O11 := own_old O8 K10 (own_ngc gg7 (own_ngc gg7 (own_ngc gg7 (own_ngc gg7 (own_ngc gg7 (own_ngc gg7 (own_ngc gg7 (own_ngc gg7 own_ng0))))))))
  let Lb12 : Array Slot := #[.val (.int p0), .val (.int p1), .val (.long p2), .second, .val (.long p3), .second, .val (.long p4), .second, .val (.int (((p0 &&& (2147483647 : Int32)) % (3 : Int32)) + (1 : Int32))), .val (.int ((p1 &&& (2147483647 : Int32)) % (((p0 &&& (2147483647 : Int32)) % (3 : Int32)) + (1 : Int32)))), .val (.ref b3), .val (.ref b7), .unset, .unset, .unset, .unset, .unset, .unset, .unset, .unset, .unset]
  obtain ⟨T13, h13, X13, e13, E13, A13, D13, -, st13⟩ := newO X10 hx hZ hown (wk10 hw) (wk11 hw) (wk12 hw) rfl (g := (mkF m 44 Lb12 [])) rfl (hb hby at_44) (by decide) (by decide)
  obtain ⟨b13, g13⟩ : ∃ z, z = T10.heap.size := ⟨_, rfl⟩
  rw [← g13] at A13 D13 st13
  have gg13 : n0 ≤ b13 := by rw [← O11.1, g13]; exact O11.2.1
  have O14 := O11.ext E13
  have i13_21 : Fld Z h13 b13 "com/example/tidemark/tidemark/MemoryEntry" "slot" "I" (.int (0 : Int32)) := D13 (Or.inl (wk21 hw)) (ty := .int) (by decide)
  have i13_23 : Fld Z h13 b13 "com/example/tidemark/tidemark/MemoryEntry" "key" "Ljava/lang/Object;" .null := D13 (Or.inr (wk23 hw)) (ty := (.object "java/lang/Object")) (by decide)
  have i13_25 : Fld Z h13 b13 "com/example/tidemark/tidemark/MemoryEntry" "charge" "J" (.long (0 : Int64)) := D13 (Or.inl (wk25 hw)) (ty := .long) (by decide)
  have i13_32 : Fld Z h13 b13 "com/example/tidemark/tidemark/MemoryEntry" "value" "Ljava/lang/Object;" .null := D13 (Or.inl (wk32 hw)) (ty := (.object "java/lang/Object")) (by decide)
  have i13_34 : Fld Z h13 b13 "com/example/tidemark/tidemark/MemoryEntry" "expiry" "Lcom/example/tidemark/tidemark/Expiry;" .null := D13 (Or.inl (wk34 hw)) (ty := (.object "com/example/tidemark/tidemark/Expiry")) (by decide)
  have i13_41 : Fld Z h13 b13 "com/example/tidemark/tidemark/MemoryEntry" "created" "J" (.long (0 : Int64)) := D13 (Or.inl (wk41 hw)) (ty := .long) (by decide)
  have i13_43 : Fld Z h13 b13 "com/example/tidemark/tidemark/MemoryEntry" "lastUsed" "J" (.long (0 : Int64)) := D13 (Or.inl (wk43 hw)) (ty := .long) (by decide)
  have i13_55 : Fld Z h13 b13 "com/example/tidemark/tidemark/MemoryEntry" "lockFreeValue" "Ljava/lang/Object;" .null := D13 (Or.inl (wk55 hw)) (ty := (.object "java/lang/Object")) (by decide)
  have i13_64 : Fld Z h13 b13 "com/example/tidemark/tidemark/MemoryEntry" "stamp" "J" (.long (0 : Int64)) := D13 (Or.inl (wk64 hw)) (ty := .long) (by decide)
  have i13_66 : Fld Z h13 b13 "com/example/tidemark/tidemark/MemoryEntry" "list" "Lcom/example/tidemark/tidemark/RecencyList;" .null := D13 (Or.inl (wk66 hw)) (ty := (.object "com/example/tidemark/tidemark/RecencyList")) (by decide)
  have i13_70 : Fld Z h13 b13 "com/example/tidemark/tidemark/MemoryEntry" "older" "Lcom/example/tidemark/tidemark/MemoryEntry;" .null := D13 (Or.inl (wk70 hw)) (ty := (.object "com/example/tidemark/tidemark/MemoryEntry")) (by decide)
  have i13_72 : Fld Z h13 b13 "com/example/tidemark/tidemark/MemoryEntry" "newer" "Lcom/example/tidemark/tidemark/MemoryEntry;" .null := D13 (Or.inl (wk72 hw)) (ty := (.object "com/example/tidemark/tidemark/MemoryEntry")) (by decide)
  obtain ⟨T15, X15, e15, st15⟩ := getS2 X13 hx hZ hown (host := "") (Or.inl (wk13 hw)) Via.refl e13 ((wd0 hW).ext O14.2) (g := (mkF m 50 Lb12 [.null, .null, (.ref b13), (.ref b13)])) rfl (hb hby at_50)
  obtain ⟨_, _, ⟨T16, L16, kk16, nn16⟩, -, X16, ⟨Lc16, hQ16, l16, y16, z16⟩, st16⟩ := X15.specialBack hx (y := ym4) rfl hown (mvT hZ (wk16 hw)) (mvT hZ (wk17 hw)) (mvT hZ (wk18 hw)) (by decide) (backOf (W := 1) (rm3_5 l Z a0 hw w hW [] b13 p3 h13 n0 O14 A13 i13_21 gg13 i13_23 i13_25 i13_32 i13_34 i13_41 i13_43 i13_55) hZ (wk18 hw) (wk12 hw) (by decide) (by decide)) (g := (mkF m 56 Lb12 [(.long p3), (.long (0 : Int64)), (.ref (w 0)), .null, .null, (.ref b13), (.ref b13)])) rfl (by rw [hml]; rfl) (Steps.refl _) (a := b13) (argsL := [.null, .null, (.ref (w 0)), (.long (0 : Int64)), (.long p3)]) (rest := [(.ref b13)]) (lenOf pds_4 rfl) rfl (by show 2 * 0 + _ ≤ _; exact Nat.le_of_eq rfl) (hb hby at_56) (fun _ _ => ⟨rfl, e15, (by decide : 3 + 0 ≤ _), (by decide : 41 + 0 ≤ _)⟩)
  dsimp only [Pt.U, Pt.locs, Pt.cells, Pt.slots] at X16 l16 y16 z16 st16 hQ16
  rw [l16, y16, z16] at X16
  obtain ⟨rfl, N16q, K16, r16_0, r16_1, r16_2, r16_3, r16_4, r16_5, r16_6, r16_7⟩ := hQ16
  have N16 := Fr.app N10 N16q
  have O17 := own_old O14 K16 (own_ngc gg13 (own_ngc gg13 (own_ngc gg13 (own_ngc gg13 (own_ngc gg13 (own_ngc gg13 (own_ngc gg13 (own_ngc gg13 own_ng0))))))))
  let Lb18 : Array Slot := #[.val (.int p0), .val (.int p1), .val (.long p2), .second, .val (.long p3), .second, .val (.long p4), .second, .val (.int (((p0 &&& (2147483647 : Int32)) % (3 : Int32)) + (1 : Int32))), .val (.int ((p1 &&& (2147483647 : Int32)) % (((p0 &&& (2147483647 : Int32)) % (3 : Int32)) + (1 : Int32)))), .val (.ref b3), .val (.ref b7), .val (.ref b13), .unset, .unset, .unset, .unset, .unset, .unset, .unset, .unset]
  obtain ⟨T19, h19, X19, e19, E19, A19, D19, -, st19⟩ := newO X16 hx hZ hown (wk10 hw) (wk11 hw) (wk12 hw) rfl (g := (mkF m 61 Lb18 [])) rfl (hb hby at_61) (by decide) (by decide)
  obtain ⟨b19, g19⟩ : ∃ z, z = T16.heap.size := ⟨_, rfl⟩
  rw [← g19] at A19 D19 st19
  have gg19 : n0 ≤ b19 := by rw [← O17.1, g19]; exact O17.2.1
  have O20 := O17.ext E19
  have i19_21 : Fld Z h19 b19 "com/example/tidemark/tidemark/MemoryEntry" "slot" "I" (.int (0 : Int32)) := D19 (Or.inl (wk21 hw)) (ty := .int) (by decide)
  have i19_23 : Fld Z h19 b19 "com/example/tidemark/tidemark/MemoryEntry" "key" "Ljava/lang/Object;" .null := D19 (Or.inr (wk23 hw)) (ty := (.object "java/lang/Object")) (by decide)
  have i19_25 : Fld Z h19 b19 "com/example/tidemark/tidemark/MemoryEntry" "charge" "J" (.long (0 : Int64)) := D19 (Or.inl (wk25 hw)) (ty := .long) (by decide)
  have i19_32 : Fld Z h19 b19 "com/example/tidemark/tidemark/MemoryEntry" "value" "Ljava/lang/Object;" .null := D19 (Or.inl (wk32 hw)) (ty := (.object "java/lang/Object")) (by decide)
  have i19_34 : Fld Z h19 b19 "com/example/tidemark/tidemark/MemoryEntry" "expiry" "Lcom/example/tidemark/tidemark/Expiry;" .null := D19 (Or.inl (wk34 hw)) (ty := (.object "com/example/tidemark/tidemark/Expiry")) (by decide)
  have i19_41 : Fld Z h19 b19 "com/example/tidemark/tidemark/MemoryEntry" "created" "J" (.long (0 : Int64)) := D19 (Or.inl (wk41 hw)) (ty := .long) (by decide)
  have i19_43 : Fld Z h19 b19 "com/example/tidemark/tidemark/MemoryEntry" "lastUsed" "J" (.long (0 : Int64)) := D19 (Or.inl (wk43 hw)) (ty := .long) (by decide)
  have i19_55 : Fld Z h19 b19 "com/example/tidemark/tidemark/MemoryEntry" "lockFreeValue" "Ljava/lang/Object;" .null := D19 (Or.inl (wk55 hw)) (ty := (.object "java/lang/Object")) (by decide)
  have i19_64 : Fld Z h19 b19 "com/example/tidemark/tidemark/MemoryEntry" "stamp" "J" (.long (0 : Int64)) := D19 (Or.inl (wk64 hw)) (ty := .long) (by decide)
  have i19_66 : Fld Z h19 b19 "com/example/tidemark/tidemark/MemoryEntry" "list" "Lcom/example/tidemark/tidemark/RecencyList;" .null := D19 (Or.inl (wk66 hw)) (ty := (.object "com/example/tidemark/tidemark/RecencyList")) (by decide)
  have i19_70 : Fld Z h19 b19 "com/example/tidemark/tidemark/MemoryEntry" "older" "Lcom/example/tidemark/tidemark/MemoryEntry;" .null := D19 (Or.inl (wk70 hw)) (ty := (.object "com/example/tidemark/tidemark/MemoryEntry")) (by decide)
  have i19_72 : Fld Z h19 b19 "com/example/tidemark/tidemark/MemoryEntry" "newer" "Lcom/example/tidemark/tidemark/MemoryEntry;" .null := D19 (Or.inl (wk72 hw)) (ty := (.object "com/example/tidemark/tidemark/MemoryEntry")) (by decide)
  obtain ⟨T21, X21, e21, st21⟩ := getS2 X19 hx hZ hown (host := "") (Or.inl (wk13 hw)) Via.refl e19 ((wd0 hW).ext O20.2) (g := (mkF m 67 Lb18 [.null, .null, (.ref b19), (.ref b19)])) rfl (hb hby at_67)
  obtain ⟨_, _, ⟨T22, L22, kk22, nn22⟩, -, X22, ⟨Lc22, hQ22, l22, y22, z22⟩, st22⟩ := X21.specialBack hx (y := ym4) rfl hown (mvT hZ (wk16 hw)) (mvT hZ (wk17 hw)) (mvT hZ (wk18 hw)) (by decide) (backOf (W := 1) (rm3_5 l Z a0 hw w hW [] b19 p4 h19 n0 O20 A19 i19_21 gg19 i19_23 i19_25 i19_32 i19_34 i19_41 i19_43 i19_55) hZ (wk18 hw) (wk12 hw) (by decide) (by decide)) (g := (mkF m 73 Lb18 [(.long p4), (.long (0 : Int64)), (.ref (w 0)), .null, .null, (.ref b19), (.ref b19)])) rfl (by rw [hml]; rfl) (Steps.refl _) (a := b19) (argsL := [.null, .null, (.ref (w 0)), (.long (0 : Int64)), (.long p4)]) (rest := [(.ref b19)]) (lenOf pds_4 rfl) rfl (by show 2 * 0 + _ ≤ _; exact Nat.le_of_eq rfl) (hb hby at_73) (fun _ _ => ⟨rfl, e21, (by decide : 4 + 0 ≤ _), (by decide : 59 + 0 ≤ _)⟩)
  dsimp only [Pt.U, Pt.locs, Pt.cells, Pt.slots] at X22 l22 y22 z22 st22 hQ22
  rw [l22, y22, z22] at X22
  obtain ⟨rfl, N22q, K22, r22_0, r22_1, r22_2, r22_3, r22_4, r22_5, r22_6, r22_7⟩ := hQ22
  have N22 := Fr.app N16 N22q
  have O23 := own_old O20 K22 (own_ngc gg19 (own_ngc gg19 (own_ngc gg19 (own_ngc gg19 (own_ngc gg19 (own_ngc gg19 (own_ngc gg19 (own_ngc gg19 own_ng0))))))))
  let Lb24 : Array Slot := #[.val (.int p0), .val (.int p1), .val (.long p2), .second, .val (.long p3), .second, .val (.long p4), .second, .val (.int (((p0 &&& (2147483647 : Int32)) % (3 : Int32)) + (1 : Int32))), .val (.int ((p1 &&& (2147483647 : Int32)) % (((p0 &&& (2147483647 : Int32)) % (3 : Int32)) + (1 : Int32)))), .val (.ref b3), .val (.ref b7), .val (.ref b13), .val (.ref b19), .unset, .unset, .unset, .unset, .unset, .unset, .unset]
  have ne25 : b3 ≠ b7 := (Nat.ne_of_lt (Nat.lt_of_lt_of_le A3.lt (Nat.le_of_eq g7.symm)))
  have ne26 : b3 ≠ b13 := (Nat.ne_of_lt (Nat.lt_of_lt_of_le (Nat.lt_of_lt_of_le (Nat.lt_of_lt_of_le A3.lt E7.1) K10.1) (Nat.le_of_eq g13.symm)))
  have ne27 : b3 ≠ b19 := (Nat.ne_of_lt (Nat.lt_of_lt_of_le (Nat.lt_of_lt_of_le (Nat.lt_of_lt_of_le (Nat.lt_of_lt_of_le (Nat.lt_of_lt_of_le A3.lt E7.1) K10.1) E13.1) K16.1) (Nat.le_of_eq g19.symm)))
  have t28 := (own_fld ((own_fld ((own_fld (i3_62.ext E7) K10 (own_nlb ne25 (own_nlb ne25 (own_nlb ne25 (own_nlb ne25 (own_nlb ne25 (own_nlb ne25 (own_nlb ne25 (own_nlb ne25 own_nl0))))))))).ext E13) K16 (own_nlb ne26 (own_nlb ne26 (own_nlb ne26 (own_nlb ne26 (own_nlb ne26 (own_nlb ne26 (own_nlb ne26 (own_nlb ne26 own_nl0))))))))).ext E19) K22 (own_nlb ne27 (own_nlb ne27 (own_nlb ne27 (own_nlb ne27 (own_nlb ne27 (own_nlb ne27 (own_nlb ne27 (own_nlb ne27 own_nl0)))))))))
  have t29 := (own_exa ((own_exa ((own_exa (A3.ext E7) K10).ext E13) K16).ext E19) K22)
  have t30 := (own_exa ((own_exa ((own_exa A7 K10).ext E13) K16).ext E19) K22)
  have ne31 : b7 ≠ b13 := (Nat.ne_of_lt (Nat.lt_of_lt_of_le (Nat.lt_of_lt_of_le A7.lt K10.1) (Nat.le_of_eq g13.symm)))
  have ne32 : b7 ≠ b19 := (Nat.ne_of_lt (Nat.lt_of_lt_of_le (Nat.lt_of_lt_of_le (Nat.lt_of_lt_of_le (Nat.lt_of_lt_of_le A7.lt K10.1) E13.1) K16.1) (Nat.le_of_eq g19.symm)))
  have t33 := (own_fld ((own_fld ((own_fld i7_64 K10 (own_nls (sn99 hw) (own_nls (sn98 hw) (own_nls (sn97 hw) (own_nls (sn96 hw) (own_nls (sn95 hw) (own_nls (sn94 hw) (own_nls (sn93 hw) (own_nls (sn92 hw) own_nl0))))))))).ext E13) K16 (own_nlb ne31 (own_nlb ne31 (own_nlb ne31 (own_nlb ne31 (own_nlb ne31 (own_nlb ne31 (own_nlb ne31 (own_nlb ne31 own_nl0))))))))).ext E19) K22 (own_nlb ne32 (own_nlb ne32 (own_nlb ne32 (own_nlb ne32 (own_nlb ne32 (own_nlb ne32 (own_nlb ne32 (own_nlb ne32 own_nl0)))))))))
  have t34 := (own_fld ((own_fld ((own_fld i7_66 K10 (own_nls (sn107 hw) (own_nls (sn106 hw) (own_nls (sn105 hw) (own_nls (sn104 hw) (own_nls (sn103 hw) (own_nls (sn102 hw) (own_nls (sn101 hw) (own_nls (sn100 hw) own_nl0))))))))).ext E13) K16 (own_nlb ne31 (own_nlb ne31 (own_nlb ne31 (own_nlb ne31 (own_nlb ne31 (own_nlb ne31 (own_nlb ne31 (own_nlb ne31 own_nl0))))))))).ext E19) K22 (own_nlb ne32 (own_nlb ne32 (own_nlb ne32 (own_nlb ne32 (own_nlb ne32 (own_nlb ne32 (own_nlb ne32 (own_nlb ne32 own_nl0)))))))))
  have t35 := (own_fld ((own_fld ((own_fld (i3_68.ext E7) K10 (own_nlb ne25 (own_nlb ne25 (own_nlb ne25 (own_nlb ne25 (own_nlb ne25 (own_nlb ne25 (own_nlb ne25 (own_nlb ne25 own_nl0))))))))).ext E13) K16 (own_nlb ne26 (own_nlb ne26 (own_nlb ne26 (own_nlb ne26 (own_nlb ne26 (own_nlb ne26 (own_nlb ne26 (own_nlb ne26 own_nl0))))))))).ext E19) K22 (own_nlb ne27 (own_nlb ne27 (own_nlb ne27 (own_nlb ne27 (own_nlb ne27 (own_nlb ne27 (own_nlb ne27 (own_nlb ne27 own_nl0)))))))))
  have t36 := (own_fld ((own_fld ((own_fld i7_70 K10 (own_nls (sn115 hw) (own_nls (sn114 hw) (own_nls (sn113 hw) (own_nls (sn112 hw) (own_nls (sn111 hw) (own_nls (sn110 hw) (own_nls (sn109 hw) (own_nls (sn108 hw) own_nl0))))))))).ext E13) K16 (own_nlb ne31 (own_nlb ne31 (own_nlb ne31 (own_nlb ne31 (own_nlb ne31 (own_nlb ne31 (own_nlb ne31 (own_nlb ne31 own_nl0))))))))).ext E19) K22 (own_nlb ne32 (own_nlb ne32 (own_nlb ne32 (own_nlb ne32 (own_nlb ne32 (own_nlb ne32 (own_nlb ne32 (own_nlb ne32 own_nl0)))))))))
  have t37 := (own_fld ((own_fld ((own_fld i7_72 K10 (own_nls (sn123 hw) (own_nls (sn122 hw) (own_nls (sn121 hw) (own_nls (sn120 hw) (own_nls (sn119 hw) (own_nls (sn118 hw) (own_nls (sn117 hw) (own_nls (sn116 hw) own_nl0))))))))).ext E13) K16 (own_nlb ne31 (own_nlb ne31 (own_nlb ne31 (own_nlb ne31 (own_nlb ne31 (own_nlb ne31 (own_nlb ne31 (own_nlb ne31 own_nl0))))))))).ext E19) K22 (own_nlb ne32 (own_nlb ne32 (own_nlb ne32 (own_nlb ne32 (own_nlb ne32 (own_nlb ne32 (own_nlb ne32 (own_nlb ne32 own_nl0)))))))))
  have t38 := (own_fld ((own_fld ((own_fld (i3_74.ext E7) K10 (own_nlb ne25 (own_nlb ne25 (own_nlb ne25 (own_nlb ne25 (own_nlb ne25 (own_nlb ne25 (own_nlb ne25 (own_nlb ne25 own_nl0))))))))).ext E13) K16 (own_nlb ne26 (own_nlb ne26 (own_nlb ne26 (own_nlb ne26 (own_nlb ne26 (own_nlb ne26 (own_nlb ne26 (own_nlb ne26 own_nl0))))))))).ext E19) K22 (own_nlb ne27 (own_nlb ne27 (own_nlb ne27 (own_nlb ne27 (own_nlb ne27 (own_nlb ne27 (own_nlb ne27 (own_nlb ne27 own_nl0)))))))))
  have t39 := (own_fld ((own_fld ((own_fld (i3_76.ext E7) K10 (own_nlb ne25 (own_nlb ne25 (own_nlb ne25 (own_nlb ne25 (own_nlb ne25 (own_nlb ne25 (own_nlb ne25 (own_nlb ne25 own_nl0))))))))).ext E13) K16 (own_nlb ne26 (own_nlb ne26 (own_nlb ne26 (own_nlb ne26 (own_nlb ne26 (own_nlb ne26 (own_nlb ne26 (own_nlb ne26 own_nl0))))))))).ext E19) K22 (own_nlb ne27 (own_nlb ne27 (own_nlb ne27 (own_nlb ne27 (own_nlb ne27 (own_nlb ne27 (own_nlb ne27 (own_nlb ne27 own_nl0)))))))))
  have t40 := (own_fld ((own_fld ((own_fld (i3_78.ext E7) K10 (own_nlb ne25 (own_nlb ne25 (own_nlb ne25 (own_nlb ne25 (own_nlb ne25 (own_nlb ne25 (own_nlb ne25 (own_nlb ne25 own_nl0))))))))).ext E13) K16 (own_nlb ne26 (own_nlb ne26 (own_nlb ne26 (own_nlb ne26 (own_nlb ne26 (own_nlb ne26 (own_nlb ne26 (own_nlb ne26 own_nl0))))))))).ext E19) K22 (own_nlb ne27 (own_nlb ne27 (own_nlb ne27 (own_nlb ne27 (own_nlb ne27 (own_nlb ne27 (own_nlb ne27 (own_nlb ne27 own_nl0)))))))))
  have t41 := (own_fld ((own_fld (r10_2.ext E13) K16 (own_nlb ne31 (own_nlb ne31 (own_nlb ne31 (own_nlb ne31 (own_nlb ne31 (own_nlb ne31 (own_nlb ne31 (own_nlb ne31 own_nl0))))))))).ext E19) K22 (own_nlb ne32 (own_nlb ne32 (own_nlb ne32 (own_nlb ne32 (own_nlb ne32 (own_nlb ne32 (own_nlb ne32 (own_nlb ne32 own_nl0)))))))))
  obtain ⟨cq42, kq42, q42a, q42b, q42c⟩ := isOf hZ rfl t29
  obtain ⟨_, _, ⟨T42, L42, kk42, nn42⟩, -, X42, ⟨Lc42, hQ42, l42, y42, z42⟩, st42⟩ := X22.virtualBack hx (y := ym5) (z := ym5) hown (mvT hZ (wk56 hw)) (mvT hZ (wk57 hw)) (notFace_of_selects (args := #[]) (mvT hZ (wk59 hw))) (mvT hZ (wk59 hw)) (mvT hZ (wk58 hw)) (by decide) (backOf (W := 0) (rm7_6 l Z a0 hw w hW [] b3 b7 p2 T22.heap n0 O23 t28 t29 gg3 t30 t33 (Ne.symm ne25) gg7 t34 t35 t36 t37 t38 t39 t40 t41) hZ (wk60 hw) (wk3 hw) (by decide) (by decide)) q42a q42c (g := (mkF m 82 Lb24 [(.ref b7), (.ref b3)])) rfl (by rw [hml]; rfl) (Steps.refl _) (argsL := [(.ref b7)]) (rest := []) (lenOf pds_5 rfl) rfl (by show 2 * 0 + _ ≤ _; exact Nat.le_of_eq rfl) (hb hby at_82) (fun _ _ => ⟨rfl, rfl, (by decide : 4 + 0 ≤ _), (by decide : 59 + 0 ≤ _)⟩)
  dsimp only [Pt.U, Pt.locs, Pt.cells, Pt.slots] at X42 l42 y42 z42 st42 hQ42
  rw [l42, y42, z42] at X42
  obtain ⟨rfl, N42q, K42, r42_0, r42_1, r42_2, r42_3, r42_4, r42_5, r42_6, r42_7, r42_8⟩ := hQ42
  have N42 := Fr.app N22 N42q
  have O43 := own_old O23 K42 (own_ngc gg3 (own_ngc gg7 (own_ngc gg7 (own_ngc gg7 (own_ngc gg7 (own_ngc gg3 (own_ngc gg3 (own_ngc gg3 (own_ngc gg3 own_ng0)))))))))
  have pre44 : ∀ t, Steps p.tables e below (T42.setTop (mkF m 88 #[.val (.int p0), .val (.int p1), .val (.long p2), .second, .val (.long p3), .second, .val (.long p4), .second, .val (.int (((p0 &&& (2147483647 : Int32)) % (3 : Int32)) + (1 : Int32))), .val (.int ((p1 &&& (2147483647 : Int32)) % (((p0 &&& (2147483647 : Int32)) % (3 : Int32)) + (1 : Int32)))), .val (.ref b3), .val (.ref b7), .val (.ref b13), .val (.ref b19), .unset, .unset, .unset, .unset, .unset, .unset, .unset] [(.int (2 : Int32)), (.int (((p0 &&& (2147483647 : Int32)) % (3 : Int32)) + (1 : Int32)))])) t → Steps p.tables e below (s₁.setTop (entryFrame m #[(.int p0), (.int p1), (.long p2), (.long p3), (.long p4)] maxLocals)) t := fun t k => pre0 t (by
   show Steps p.tables e below (s₁.setTop (mkF m 0 La [])) _
   refine sI X0 hx hby at_0 rfl ?_
   refine X0.ldcInt hx hown (mvT hZ (wk0 hw)) (g := (mkF m 1 La [(.int p0)])) rfl (hb hby at_1) _ ?_
   refine XS.iand X0.here hx rfl (hb hby at_3) rfl ?_
   refine sc X0 hx hby at_4 ?_
   refine iremM X0 hx rfl (hb hby at_5) rfl (by decide) ?_
   show Steps p.tables e below (s₁.setTop (mkF m 6 La [(.int ((p0 &&& (2147483647 : Int32)) % (3 : Int32)))])) _
   refine sc X0 hx hby at_6 ?_
   refine XS.iadd X0.here hx rfl (hb hby at_7) rfl ?_
   refine XS.istore X0.here hx rfl (hb hby at_8) rfl (l' := Lb1) rfl ?_
   refine sI X0 hx hby at_10 rfl ?_
   refine X0.ldcInt hx hown (mvT hZ (wk0 hw)) (g := (mkF m 11 Lb1 [(.int p1)])) rfl (hb hby at_11) _ ?_
   show Steps p.tables e below (s₁.setTop (mkF m 13 Lb1 [(.int (2147483647 : Int32)), (.int p1)])) _
   refine XS.iand X0.here hx rfl (hb hby at_13) rfl ?_
   refine si X0 hx hby at_14 rfl ?_
   refine iremM X0 hx rfl (hb hby at_16) rfl (own_n0 p0) ?_
   refine XS.istore X0.here hx rfl (hb hby at_17) rfl (l' := Lb2) rfl ?_
   refine st3 _ ?_
   refine XS.dup X3.here hx rfl (hb hby at_22) rfl rfl ?_
   refine st5.trans ?_
   refine XS.astore X5.here hx rfl (hb hby at_26) rfl rfl (l' := Lb6) rfl ?_
   refine st7 _ ?_
   refine XS.dup X7.here hx rfl (hb hby at_31) rfl rfl ?_
   refine XS.aconstNull X7.here hx rfl (hb hby at_32) ?_
   refine XS.aconstNull X7.here hx rfl (hb hby at_33) ?_
   refine st9 _ ?_
   refine XS.lconst X9.here hx rfl (hb hby at_37) ?_
   refine sL X9 hx hby at_38 rfl ?_
   refine st10.trans ?_
   refine XS.astore X10.here hx rfl (hb hby at_42) rfl rfl (l' := Lb12) rfl ?_
   refine st13 _ ?_
   refine XS.dup X13.here hx rfl (hb hby at_47) rfl rfl ?_
   refine XS.aconstNull X13.here hx rfl (hb hby at_48) ?_
   refine XS.aconstNull X13.here hx rfl (hb hby at_49) ?_
   refine st15 _ ?_
   refine XS.lconst X15.here hx rfl (hb hby at_53) ?_
   refine XS.lload X15.here hx rfl (hb hby at_54) rfl ?_
   refine st16.trans ?_
   refine XS.astore X16.here hx rfl (hb hby at_59) rfl rfl (l' := Lb18) rfl ?_
   refine st19 _ ?_
   refine XS.dup X19.here hx rfl (hb hby at_64) rfl rfl ?_
   refine XS.aconstNull X19.here hx rfl (hb hby at_65) ?_
   refine XS.aconstNull X19.here hx rfl (hb hby at_66) ?_
   refine st21 _ ?_
   refine XS.lconst X21.here hx rfl (hb hby at_70) ?_
   refine XS.lload X21.here hx rfl (hb hby at_71) rfl ?_
   refine st22.trans ?_
   refine XS.astore X22.here hx rfl (hb hby at_76) rfl rfl (l' := Lb24) rfl ?_
   refine sa X22 hx hby at_78 rfl rfl ?_
   refine sa X22 hx hby at_80 rfl rfl ?_
   refine st42.trans ?_
   refine si X42 hx hby at_85 rfl ?_
   refine sc X42 hx hby at_87 ?_
   exact k)
  rcases (own_rem3 p0) with hs45 | hs45 | hs45
  ·
   rw [hs45] at pre44
   let Lb46 : Array Slot := #[.val (.int p0), .val (.int p1), .val (.long p2), .second, .val (.long p3), .second, .val (.long p4), .second, .val (.int (1 : Int32)), .val (.int ((p1 &&& (2147483647 : Int32)) % (1 : Int32))), .val (.ref b3), .val (.ref b7), .val (.ref b13), .val (.ref b19), .unset, .unset, .unset, .unset, .unset, .unset, .unset]
   have pre47 : ∀ t, Steps p.tables e below (T42.setTop (mkF m 113 #[.val (.int p0), .val (.int p1), .val (.long p2), .second, .val (.long p3), .second, .val (.long p4), .second, .val (.int (1 : Int32)), .val (.int ((p1 &&& (2147483647 : Int32)) % (1 : Int32))), .val (.ref b3), .val (.ref b7), .val (.ref b13), .val (.ref b19), .unset, .unset, .unset, .unset, .unset, .unset, .unset] [(.int ((p1 &&& (2147483647 : Int32)) % (1 : Int32)))])) t → Steps p.tables e below (s₁.setTop (entryFrame m #[(.int p0), (.int p1), (.long p2), (.long p3), (.long p4)] maxLocals)) t := fun t k => pre44 t (by
    show Steps p.tables e below (T42.setTop (mkF m 88 Lb46 [(.int (2 : Int32)), (.int (1 : Int32))])) _
    refine XS.icmpYes X42.here hx rfl (pc0 := 88) (pc' := 98) rfl (hb hby at_88) rfl (by decide) (by decide) (by decide) ?_
    refine si X42 hx hby at_98 rfl ?_
    refine sc X42 hx hby at_100 ?_
    refine XS.icmpYes X42.here hx rfl (pc0 := 101) (pc' := 111) rfl (hb hby at_101) rfl (by decide) (by decide) (by decide) ?_
    refine si X42 hx hby at_111 rfl ?_
    exact k)
   rcases (own_rem1 p1) with hs48
   ·
    rw [hs48] at pre47
    let Lb49 : Array Slot := #[.val (.int p0), .val (.int p1), .val (.long p2), .second, .val (.long p3), .second, .val (.long p4), .second, .val (.int (1 : Int32)), .val (.int (0 : Int32)), .val (.ref b3), .val (.ref b7), .val (.ref b13), .val (.ref b19), .unset, .unset, .unset, .unset, .unset, .unset, .unset]
    let Lb50 : Array Slot := #[.val (.int p0), .val (.int p1), .val (.long p2), .second, .val (.long p3), .second, .val (.long p4), .second, .val (.int (1 : Int32)), .val (.int (0 : Int32)), .val (.ref b3), .val (.ref b7), .val (.ref b13), .val (.ref b19), .val (.ref b7), .unset, .unset, .unset, .unset, .unset, .unset]
    let Lb51 : Array Slot := #[.val (.int p0), .val (.int p1), .val (.long p2), .second, .val (.long p3), .second, .val (.long p4), .second, .val (.int (1 : Int32)), .val (.int (0 : Int32)), .val (.ref b3), .val (.ref b7), .val (.ref b13), .val (.ref b19), .val (.ref b7), .val .null, .unset, .unset, .unset, .unset, .unset]
    let Lb52 : Array Slot := #[.val (.int p0), .val (.int p1), .val (.long p2), .second, .val (.long p3), .second, .val (.long p4), .second, .val (.int (1 : Int32)), .val (.int (0 : Int32)), .val (.ref b3), .val (.ref b7), .val (.ref b13), .val (.ref b19), .val (.ref b7), .val .null, .val .null, .unset, .unset, .unset, .unset]
    let Lb53 : Array Slot := #[.val (.int p0), .val (.int p1), .val (.long p2), .second, .val (.long p3), .second, .val (.long p4), .second, .val (.int (1 : Int32)), .val (.int (0 : Int32)), .val (.ref b3), .val (.ref b7), .val (.ref b13), .val (.ref b19), .val (.ref b7), .val .null, .val .null, .val (.long (0 : Int64)), .second, .unset, .unset]
    have t54 := (own_exa t29 K42)
    have t55 := (own_exa t30 K42)
    have t56 := (own_fld t41 K42 (own_nlb (Ne.symm ne25) (own_nls (sn72 hw) (own_nls (sn73 hw) (own_nls (sn74 hw) (own_nls (sn75 hw) (own_nlb (Ne.symm ne25) (own_nlb (Ne.symm ne25) (own_nlb (Ne.symm ne25) (own_nlb (Ne.symm ne25) own_nl0))))))))))
    obtain ⟨cq57, kq57, q57a, q57b, q57c⟩ := isOf hZ rfl t54
    obtain ⟨_, _, ⟨T57, L57, kk57, nn57⟩, -, X57, ⟨Lc57, hQ57, l57, y57, z57⟩, st57⟩ := X42.virtualBack hx (y := ym6) (z := ym6) hown (mvT hZ (wk80 hw)) (mvT hZ (wk81 hw)) (notFace_of_selects (args := #[]) (mvT hZ (wk83 hw))) (mvT hZ (wk83 hw)) (mvT hZ (wk82 hw)) (by decide) (backOf (W := 0) (rm8_7 l Z a0 hw w hW [] b3 b7 ((0 : Int64) + p2) p2 T42.heap n0 O43 r42_4 r42_5 t54 r42_6 gg3 (Ne.symm ne25) r42_3 t55 gg7 r42_2 r42_7 r42_8 t56) hZ (wk84 hw) (wk3 hw) (by decide) (by decide)) q57a q57c (g := (mkF m 247 Lb53 [(.ref b7), (.ref b3)])) rfl (by rw [hml]; rfl) (Steps.refl _) (argsL := [(.ref b7)]) (rest := []) (lenOf pds_5 rfl) rfl (by show 2 * 0 + _ ≤ _; exact Nat.le_of_eq rfl) (hb hby at_247) (fun _ _ => ⟨rfl, rfl, (by decide : 4 + 0 ≤ _), (by decide : 59 + 0 ≤ _)⟩)
    dsimp only [Pt.U, Pt.locs, Pt.cells, Pt.slots] at X57 l57 y57 z57 st57 hQ57
    rw [l57, y57, z57] at X57
    obtain ⟨rfl, N57q, K57, r57_0, r57_1, r57_2, r57_3, r57_4, r57_5, r57_6⟩ := hQ57
    have N57 := Fr.app N42 N57q
    have O58 := own_old O43 K57 (own_ngc gg3 (own_ngc gg3 (own_ngc gg7 (own_ngc gg7 (own_ngc gg7 (own_ngc gg3 (own_ngc gg3 own_ng0)))))))
    have t60 := (own_exa t54 K57)
    obtain ⟨cq59, kq59, q59a, q59b, q59c⟩ := isOf hZ rfl t60
    obtain ⟨_, _, ⟨T59, L59, kk59, nn59⟩, -, X59, ⟨Lc59, hQ59, l59, y59, z59⟩, st59⟩ := X57.virtualBack hx (y := ym7) (z := ym7) hown (mvT hZ (wk85 hw)) (mvT hZ (wk86 hw)) (notFace_of_selects (args := #[]) (mvT hZ (wk88 hw))) (mvT hZ (wk88 hw)) (mvT hZ (wk87 hw)) (by decide) (backOf (W := 0) (rm9_8 l Z a0 hw w hW [] b3 T57.heap n0 O58 r57_5) hZ (wk89 hw) (wk3 hw) (by decide) (by decide)) q59a q59c (g := (mkF m 252 Lb53 [(.ref b3)])) rfl (by rw [hml]; rfl) (Steps.refl _) (argsL := []) (rest := []) (lenOf pds_6 rfl) rfl (by show 2 * 0 + _ ≤ _; exact Nat.le_of_eq rfl) (hb hby at_252) (fun _ _ => ⟨rfl, rfl, (by decide : 4 + 0 ≤ _), (by decide : 59 + 0 ≤ _)⟩)
    dsimp only [Pt.U, Pt.locs, Pt.cells, Pt.slots] at X59 l59 y59 z59 st59 hQ59
    rw [l59, y59, z59] at X59
    obtain ⟨rfl, N59q, e59⟩ := hQ59
    have N59 := Fr.app N57 N59q
    obtain ⟨cq61, kq61, q61a, q61b, q61c⟩ := isOf hZ e59 t60
    obtain ⟨_, _, ⟨T61, L61, kk61, nn61⟩, -, X61, ⟨Lc61, hQ61, l61, y61, z61⟩, st61⟩ := X59.virtualBack hx (y := ym8) (z := ym8) hown (mvT hZ (wk90 hw)) (mvT hZ (wk91 hw)) (notFace_of_selects (args := #[]) (mvT hZ (wk93 hw))) (mvT hZ (wk93 hw)) (mvT hZ (wk92 hw)) (by decide) (backOf (W := 0) (rm10_9 l Z a0 hw w hW [] b3 (((0 : Int64) + p2) - p2) T57.heap n0 O58 r57_6) hZ (wk94 hw) (wk3 hw) (by decide) (by decide)) q61a q61c (g := (mkF m 266 Lb53 [(.ref b3)])) rfl (by rw [hml]; rfl) (Steps.refl _) (argsL := []) (rest := []) (lenOf pds_6 rfl) rfl (by show 2 * 0 + _ ≤ _; exact Nat.le_of_eq rfl) (hb hby at_266) (fun _ _ => ⟨rfl, e59, (by decide : 4 + 0 ≤ _), (by decide : 59 + 0 ≤ _)⟩)
    dsimp only [Pt.U, Pt.locs, Pt.cells, Pt.slots] at X61 l61 y61 z61 st61 hQ61
    rw [l61, y61, z61] at X61
    obtain ⟨rfl, N61q, e61⟩ := hQ61
    have N61 := Fr.app N59 N61q
    have pre62 : ∀ t, Steps p.tables e below (T61.setTop (mkF m 272 Lb53 [(.int (lcmpW (((0 : Int64) + p2) - p2) (0 : Int64)))])) t → Steps p.tables e below (s₁.setTop (entryFrame m #[(.int p0), (.int p1), (.long p2), (.long p3), (.long p4)] maxLocals)) t := fun t k => pre47 t (by
     show Steps p.tables e below (T42.setTop (mkF m 113 Lb49 [(.int (0 : Int32))])) _
     refine sN X42 hx hby at_113 (by decide) ?_
     refine sa X42 hx hby at_116 rfl rfl ?_
     refine sg (pc := 118) (pc' := 134) X42 hx hby at_118 (by decide) (by decide) ?_
     refine XS.astore X42.here hx rfl (hb hby at_134) rfl rfl (l' := Lb50) rfl ?_
     refine XS.aconstNull X42.here hx rfl (hb hby at_136) ?_
     show Steps p.tables e below (T42.setTop (mkF m 137 Lb50 [.null])) _
     refine XS.astore X42.here hx rfl (hb hby at_137) rfl rfl (l' := Lb51) rfl ?_
     refine XS.aconstNull X42.here hx rfl (hb hby at_139) ?_
     refine XS.astore X42.here hx rfl (hb hby at_140) rfl rfl (l' := Lb52) rfl ?_
     refine XS.lconst X42.here hx rfl (hb hby at_142) ?_
     refine XS.lstore X42.here hx rfl (hb hby at_143) rfl (l' := Lb53) rfl ?_
     show Steps p.tables e below (T42.setTop (mkF m 145 Lb53 [])) _
     refine si X42 hx hby at_145 rfl ?_
     refine sc X42 hx hby at_147 ?_
     refine XS.icmpYes X42.here hx rfl (pc0 := 148) (pc' := 177) rfl (hb hby at_148) rfl (by decide) (by decide) (by decide) ?_
     refine si X42 hx hby at_177 rfl ?_
     refine sc X42 hx hby at_179 ?_
     show Steps p.tables e below (T42.setTop (mkF m 180 Lb53 [(.int (3 : Int32)), (.int (1 : Int32))])) _
     refine XS.icmpYes X42.here hx rfl (pc0 := 180) (pc' := 243) rfl (hb hby at_180) rfl (by decide) (by decide) (by decide) ?_
     refine sa X42 hx hby at_243 rfl rfl ?_
     refine sa X42 hx hby at_245 rfl rfl ?_
     refine st57.trans ?_
     refine sa X57 hx hby at_250 rfl rfl ?_
     refine st59.trans ?_
     refine si X59 hx hby at_255 rfl ?_
     refine sc X59 hx hby at_257 ?_
     refine XS.isub X59.here hx rfl (hb hby at_258) rfl ?_
     refine XS.i2l X59.here hx rfl (hb hby at_259) rfl ?_
     refine XS.lcmp X59.here hx rfl (hb hby at_260) rfl ?_
     show Steps p.tables e below (T59.setTop (mkF m 261 Lb53 [(.int (0 : Int32))])) _
     refine sN X59 hx hby at_261 (by decide) ?_
     refine sa X59 hx hby at_264 rfl rfl ?_
     refine st61.trans ?_
     refine XS.lload X61.here hx rfl (hb hby at_269) rfl ?_
     refine XS.lcmp X61.here hx rfl (hb hby at_271) rfl ?_
     exact k)
    by_cases hc63 : (((0 : Int64) + p2) - p2) = (0 : Int64)
    ·
     obtain ⟨cq64, kq64, q64a, q64b, q64c⟩ := isOf hZ e61 t60
     obtain ⟨_, _, ⟨T64, L64, kk64, nn64⟩, -, X64, ⟨Lc64, hQ64, l64, y64, z64⟩, st64⟩ := X61.virtualBack hx (y := ym9) (z := ym9) hown (mvT hZ (wk95 hw)) (mvT hZ (wk96 hw)) (notFace_of_selects (args := #[]) (mvT hZ (wk98 hw))) (mvT hZ (wk98 hw)) (mvT hZ (wk97 hw)) (by decide) (backOf (W := 0) (rm11_10 l Z a0 hw w hW [] b3 T57.heap n0 O58 r57_2) hZ (wk99 hw) (wk3 hw) (by decide) (by decide)) q64a q64c (g := (mkF m 277 Lb53 [(.ref b3)])) rfl (by rw [hml]; rfl) (Steps.refl _) (argsL := []) (rest := []) (lenOf pds_7 rfl) rfl (by show 2 * 0 + _ ≤ _; exact Nat.le_of_eq rfl) (hb hby at_277) (fun _ _ => ⟨rfl, e61, (by decide : 4 + 0 ≤ _), (by decide : 59 + 0 ≤ _)⟩)
     dsimp only [Pt.U, Pt.locs, Pt.cells, Pt.slots] at X64 l64 y64 z64 st64 hQ64
     rw [l64, y64, z64] at X64
     obtain ⟨rfl, N64q, e64⟩ := hQ64
     have N64 := Fr.app N61 N64q
     let Lb65 : Array Slot := #[.val (.int p0), .val (.int p1), .val (.long p2), .second, .val (.long p3), .second, .val (.long p4), .second, .val (.int (1 : Int32)), .val (.int (0 : Int32)), .val (.ref b3), .val (.ref b7), .val (.ref b13), .val (.ref b19), .val (.ref b7), .val .null, .val .null, .val (.long (0 : Int64)), .second, .val (.int (1 : Int32)), .unset]
     obtain ⟨T66, X66, e66, st66⟩ := getF X64 hx hZ hown (host := "") (Or.inl (wk100 hw)) Via.refl e64 r57_0 (g := (mkF m 299 Lb65 [(.ref b7)])) rfl rfl (hb hby at_299)
     obtain ⟨T67, X67, e67, st67⟩ := getF X66 hx hZ hown (host := "") (Or.inl (wk101 hw)) Via.refl e66 r57_1 (g := (mkF m 307 Lb65 [(.ref b7)])) rfl rfl (hb hby at_307)
     obtain ⟨T68, X68, e68, st68⟩ := getF X67 hx hZ hown (host := "") (Or.inl (wk102 hw)) Via.refl e67 r57_4 (g := (mkF m 315 Lb65 [(.ref b7)])) rfl rfl (hb hby at_315)
     let Lb69 : Array Slot := #[.val (.int p0), .val (.int p1), .val (.long p2), .second, .val (.long p3), .second, .val (.long p4), .second, .val (.int (1 : Int32)), .val (.int (0 : Int32)), .val (.ref b3), .val (.ref b7), .val (.ref b13), .val (.ref b19), .val (.ref b7), .val .null, .val .null, .val (.long (0 : Int64)), .second, .val (.int (1 : Int32)), .val .null]
     have t70 := (own_fld r42_0 K57 (own_nls (sn76 hw) (own_nls (sn77 hw) (own_nlb ne25 (own_nlb ne25 (own_nlb ne25 (own_nls (sn78 hw) (own_nls (sn79 hw) own_nl0))))))))
     have t71 := (own_exa t55 K57)
     have t72 := (own_fld r42_1 K57 (own_nlb (Ne.symm ne25) (own_nlb (Ne.symm ne25) (own_nls (sn81 hw) (own_nls (sn82 hw) (own_nls (sn80 hw) (own_nlb (Ne.symm ne25) (own_nlb (Ne.symm ne25) own_nl0))))))))
     have t73 := (own_fld t56 K57 (own_nlb (Ne.symm ne25) (own_nlb (Ne.symm ne25) (own_nls (sn74 hw) (own_nls (sn75 hw) (own_nls (sn73 hw) (own_nlb (Ne.symm ne25) (own_nlb (Ne.symm ne25) own_nl0))))))))
     obtain ⟨cq74, kq74, q74a, q74b, q74c⟩ := isOf hZ e68 t60
     obtain ⟨_, _, ⟨T74, L74, kk74, nn74⟩, -, X74, ⟨Lc74, hQ74, l74, y74, z74⟩, st74⟩ := X68.virtualBack hx (y := ym5) (z := ym5) hown (mvT hZ (wk56 hw)) (mvT hZ (wk57 hw)) (notFace_of_selects (args := #[]) (mvT hZ (wk59 hw))) (mvT hZ (wk59 hw)) (mvT hZ (wk58 hw)) (by decide) (backOf (W := 0) (rm7_11 l Z a0 hw w hW [] b3 b7 (((0 : Int64) + p2) - p2) p2 T57.heap n0 O58 t70 t60 gg3 t71 t72 (Ne.symm ne25) gg7 r57_4 r57_3 r57_0 r57_1 r57_2 r57_5 r57_6 t73) hZ (wk60 hw) (wk3 hw) (by decide) (by decide)) q74a q74c (g := (mkF m 436 Lb69 [(.ref b7), (.ref b3)])) rfl (by rw [hml]; rfl) (Steps.refl _) (argsL := [(.ref b7)]) (rest := []) (lenOf pds_5 rfl) rfl (by show 2 * 0 + _ ≤ _; exact Nat.le_of_eq rfl) (hb hby at_436) (fun _ _ => ⟨rfl, e68, (by decide : 4 + 0 ≤ _), (by decide : 59 + 0 ≤ _)⟩)
     dsimp only [Pt.U, Pt.locs, Pt.cells, Pt.slots] at X74 l74 y74 z74 st74 hQ74
     rw [l74, y74, z74] at X74
     obtain ⟨rfl, N74q, K74, r74_0, r74_1, r74_2, r74_3, r74_4, r74_5, r74_6, r74_7, r74_8⟩ := hQ74
     have N74 := Fr.app N64 N74q
     have O75 := own_old O58 K74 (own_ngc gg3 (own_ngc gg7 (own_ngc gg7 (own_ngc gg7 (own_ngc gg7 (own_ngc gg3 (own_ngc gg3 (own_ngc gg3 (own_ngc gg3 own_ng0)))))))))
     obtain ⟨T76, X76, e76, st76⟩ := getF X74 hx hZ hown (host := "") (Or.inl (wk100 hw)) Via.refl rfl r74_4 (g := (mkF m 446 Lb69 [(.ref b7)])) rfl rfl (hb hby at_446)
     have t78 := (own_exa t60 K74)
     obtain ⟨cq77, kq77, q77a, q77b, q77c⟩ := isOf hZ e76 t78
     obtain ⟨_, _, ⟨T77, L77, kk77, nn77⟩, -, X77, ⟨Lc77, hQ77, l77, y77, z77⟩, st77⟩ := X76.virtualBack hx (y := ym9) (z := ym9) hown (mvT hZ (wk95 hw)) (mvT hZ (wk96 hw)) (notFace_of_selects (args := #[]) (mvT hZ (wk98 hw))) (mvT hZ (wk98 hw)) (mvT hZ (wk97 hw)) (by decide) (backOf (W := 0) (rm11_12 l Z a0 hw w hW [] b3 b7 T74.heap n0 O75 r74_6) hZ (wk99 hw) (wk3 hw) (by decide) (by decide)) q77a q77c (g := (mkF m 473 Lb69 [(.ref b3)])) rfl (by rw [hml]; rfl) (Steps.refl _) (argsL := []) (rest := []) (lenOf pds_7 rfl) rfl (by show 2 * 0 + _ ≤ _; exact Nat.le_of_eq rfl) (hb hby at_473) (fun _ _ => ⟨rfl, e76, (by decide : 4 + 0 ≤ _), (by decide : 59 + 0 ≤ _)⟩)
     dsimp only [Pt.U, Pt.locs, Pt.cells, Pt.slots] at X77 l77 y77 z77 st77 hQ77
     rw [l77, y77, z77] at X77
     obtain ⟨rfl, N77q, e77⟩ := hQ77
     have N77 := Fr.app N74 N77q
     obtain ⟨fs, hr, hrun, hended, hWm, hsame⟩ := X77.leave (v := some (.int (1 : Int32))) (fun h => by rw [Bd.returns] at h; cases h)
     refine ⟨_, _, pre62 _ ?_, hrun, hended, _, _, rfl, ?_, ⟨_, rfl⟩, hWm, hsame.mono (by decide) (by decide)⟩
     · show Steps p.tables e below (T61.setTop (mkF m 272 Lb53 [(.int (lcmpW (((0 : Int64) + p2) - p2) (0 : Int64)))])) _
       refine sN X61 hx hby at_272 ((if0 _ _).trans (teq (((lw_eq _ _).mpr hc63) : (lcmpW (((0 : Int64) + p2) - p2) (0 : Int64)) = (0 : Int32))).2) ?_
       refine sa X61 hx hby at_275 rfl rfl ?_
       refine st64.trans ?_
       refine sa X64 hx hby at_280 rfl rfl ?_
       refine Jvm.RoadKit.acmp (g := (mkF m 282 Lb53 [.null, .null])) X64 hx rfl rfl rfl (pc0 := 282) (pc' := 285) (same := true) rfl (hb hby at_282) rfl (decide_eq_true rfl) (by decide) (by decide) ?_
       refine sc X64 hx hby at_285 ?_
       refine sg (pc := 286) (pc' := 290) X64 hx hby at_286 (by decide) (by decide) ?_
       refine XS.istore X64.here hx rfl (hb hby at_290) rfl (l' := Lb65) rfl ?_
       show Steps p.tables e below (T64.setTop (mkF m 292 Lb65 [])) _
       refine si X64 hx hby at_292 rfl ?_
       refine sN X64 hx hby at_294 (by decide) ?_
       refine sa X64 hx hby at_297 rfl rfl ?_
       refine st66 _ ?_
       refine XS.ifnonnullNo X66.here hx rfl (hb hby at_302) rfl ?_
       refine sa X66 hx hby at_305 rfl rfl ?_
       refine st67 _ ?_
       refine XS.ifnonnullNo X67.here hx rfl (hb hby at_310) rfl ?_
       refine sa X67 hx hby at_313 rfl rfl ?_
       refine st68 _ ?_
       refine XS.ifnonnullNo X68.here hx rfl (hb hby at_318) rfl ?_
       refine sc X68 hx hby at_321 ?_
       refine sg (pc := 322) (pc' := 326) X68 hx hby at_322 (by decide) (by decide) ?_
       refine XS.istore X68.here hx rfl (hb hby at_326) rfl (l' := Lb65) rfl ?_
       refine sa X68 hx hby at_328 rfl rfl ?_
       show Steps p.tables e below (T68.setTop (mkF m 330 Lb65 [.null])) _
       refine XS.ifnullYes X68.here hx rfl (pc0 := 330) (pc' := 373) rfl (hb hby at_330) rfl (by decide) (by decide) ?_
       refine sa X68 hx hby at_373 rfl rfl ?_
       refine XS.ifnullYes X68.here hx rfl (pc0 := 375) (pc' := 418) rfl (hb hby at_375) rfl (by decide) (by decide) ?_
       refine sa X68 hx hby at_418 rfl rfl ?_
       refine XS.ifnullYes X68.here hx rfl (pc0 := 420) (pc' := 428) rfl (hb hby at_420) rfl (by decide) (by decide) ?_
       show Steps p.tables e below (T68.setTop (mkF m 428 Lb65 [])) _
       refine sa X68 hx hby at_428 rfl rfl ?_
       refine XS.astore X68.here hx rfl (hb hby at_430) rfl rfl (l' := Lb69) rfl ?_
       refine sa X68 hx hby at_432 rfl rfl ?_
       refine sa X68 hx hby at_434 rfl rfl ?_
       refine st74.trans ?_
       refine si X74 hx hby at_439 rfl ?_
       refine sN X74 hx hby at_441 (by decide) ?_
       refine sa X74 hx hby at_444 rfl rfl ?_
       refine st76 _ ?_
       refine sa X76 hx hby at_449 rfl rfl ?_
       refine Jvm.RoadKit.acmp (g := (mkF m 451 Lb69 [.null, .null])) X76 hx rfl rfl rfl (pc0 := 451) (pc' := 454) (same := true) rfl (hb hby at_451) rfl (decide_eq_true rfl) (by decide) (by decide) ?_
       refine sc X76 hx hby at_454 ?_
       refine sg (pc := 455) (pc' := 459) X76 hx hby at_455 (by decide) (by decide) ?_
       refine XS.istore X76.here hx rfl (hb hby at_459) rfl (l' := Lb69) rfl ?_
       show Steps p.tables e below (T76.setTop (mkF m 461 Lb69 [])) _
       refine sa X76 hx hby at_461 rfl rfl ?_
       refine XS.ifnonnullNo X76.here hx rfl (hb hby at_463) rfl ?_
       refine si X76 hx hby at_466 rfl ?_
       refine sN X76 hx hby at_468 (by decide) ?_
       refine sa X76 hx hby at_471 rfl rfl ?_
       show Steps p.tables e below (T76.setTop (mkF m 473 Lb69 [(.ref b3)])) _
       refine st77.trans ?_
       refine sa X77 hx hby at_476 rfl rfl ?_
       refine Jvm.RoadKit.acmp (g := (mkF m 478 Lb69 [(.ref b7), (.ref b7)])) X77 hx rfl rfl rfl (pc0 := 478) (pc' := 481) (same := true) rfl (hb hby at_478) rfl (decide_eq_true rfl) (by decide) (by decide) ?_
       refine sc X77 hx hby at_481 ?_
       refine sg (pc := 482) (pc' := 486) X77 hx hby at_482 (by decide) (by decide) ?_
       refine XS.istore X77.here hx rfl (hb hby at_486) rfl (l' := Lb69) rfl ?_
       show Steps p.tables e below (T77.setTop (mkF m 488 Lb69 [])) _
       refine sg (pc := 488) (pc' := 513) X77 hx hby at_488 (by decide) (by decide) ?_
       refine si X77 hx hby at_513 rfl ?_
       exact retN X77 hx (t := .boolean) Bd.returns (by simp) (hb hby at_515) hr
     · show Q0 n0 _ T77.heap _
       rw [e77]
       exact ⟨rfl, N77⟩
    ·
     exfalso
     have z7 : ((((0 : Int64) + p2) - p2)).toInt ≠ ((0 : Int64)).toInt := fun q => hc63 (Int64.toInt_inj.mp q)
     have z1 := rng64 (((0 : Int64) + p2) - p2)
     have z2 := rng64 ((0 : Int64) + p2)
     have z3 : ((0 : Int64)).toInt = 0 := by decide
     have z4 := rng64 p2
     have z5 := c_ladd (0 : Int64) p2
     have z6 := c_lsub ((0 : Int64) + p2) p2
     omega
  ·
   rw [hs45] at pre44
   let Lb79 : Array Slot := #[.val (.int p0), .val (.int p1), .val (.long p2), .second, .val (.long p3), .second, .val (.long p4), .second, .val (.int (2 : Int32)), .val (.int ((p1 &&& (2147483647 : Int32)) % (2 : Int32))), .val (.ref b3), .val (.ref b7), .val (.ref b13), .val (.ref b19), .unset, .unset, .unset, .unset, .unset, .unset, .unset]
   have t80 := (own_exa t29 K42)
   have t81 := (own_exa (own_exa ((own_exa A13 K16).ext E19) K22) K42)
   have ne82 : b13 ≠ b19 := (Nat.ne_of_lt (Nat.lt_of_lt_of_le (Nat.lt_of_lt_of_le A13.lt K16.1) (Nat.le_of_eq g19.symm)))
   have t83 := (own_fld (own_fld ((own_fld i13_64 K16 (own_nls (sn99 hw) (own_nls (sn98 hw) (own_nls (sn97 hw) (own_nls (sn96 hw) (own_nls (sn95 hw) (own_nls (sn94 hw) (own_nls (sn93 hw) (own_nls (sn92 hw) own_nl0))))))))).ext E19) K22 (own_nlb ne82 (own_nlb ne82 (own_nlb ne82 (own_nlb ne82 (own_nlb ne82 (own_nlb ne82 (own_nlb ne82 (own_nlb ne82 own_nl0))))))))) K42 (own_nlb (Ne.symm ne26) (own_nlb (Ne.symm ne31) (own_nlb (Ne.symm ne31) (own_nlb (Ne.symm ne31) (own_nlb (Ne.symm ne31) (own_nlb (Ne.symm ne26) (own_nlb (Ne.symm ne26) (own_nlb (Ne.symm ne26) (own_nlb (Ne.symm ne26) own_nl0))))))))))
   have t84 := (own_fld (own_fld ((own_fld i13_66 K16 (own_nls (sn107 hw) (own_nls (sn106 hw) (own_nls (sn105 hw) (own_nls (sn104 hw) (own_nls (sn103 hw) (own_nls (sn102 hw) (own_nls (sn101 hw) (own_nls (sn100 hw) own_nl0))))))))).ext E19) K22 (own_nlb ne82 (own_nlb ne82 (own_nlb ne82 (own_nlb ne82 (own_nlb ne82 (own_nlb ne82 (own_nlb ne82 (own_nlb ne82 own_nl0))))))))) K42 (own_nlb (Ne.symm ne26) (own_nlb (Ne.symm ne31) (own_nlb (Ne.symm ne31) (own_nlb (Ne.symm ne31) (own_nlb (Ne.symm ne31) (own_nlb (Ne.symm ne26) (own_nlb (Ne.symm ne26) (own_nlb (Ne.symm ne26) (own_nlb (Ne.symm ne26) own_nl0))))))))))
   have t85 := (own_fld (own_fld ((own_fld i13_70 K16 (own_nls (sn115 hw) (own_nls (sn114 hw) (own_nls (sn113 hw) (own_nls (sn112 hw) (own_nls (sn111 hw) (own_nls (sn110 hw) (own_nls (sn109 hw) (own_nls (sn108 hw) own_nl0))))))))).ext E19) K22 (own_nlb ne82 (own_nlb ne82 (own_nlb ne82 (own_nlb ne82 (own_nlb ne82 (own_nlb ne82 (own_nlb ne82 (own_nlb ne82 own_nl0))))))))) K42 (own_nlb (Ne.symm ne26) (own_nlb (Ne.symm ne31) (own_nlb (Ne.symm ne31) (own_nlb (Ne.symm ne31) (own_nlb (Ne.symm ne31) (own_nlb (Ne.symm ne26) (own_nlb (Ne.symm ne26) (own_nlb (Ne.symm ne26) (own_nlb (Ne.symm ne26) own_nl0))))))))))
   have t86 := (own_fld (own_fld ((own_fld i13_72 K16 (own_nls (sn123 hw) (own_nls (sn122 hw) (own_nls (sn121 hw) (own_nls (sn120 hw) (own_nls (sn119 hw) (own_nls (sn118 hw) (own_nls (sn117 hw) (own_nls (sn116 hw) own_nl0))))))))).ext E19) K22 (own_nlb ne82 (own_nlb ne82 (own_nlb ne82 (own_nlb ne82 (own_nlb ne82 (own_nlb ne82 (own_nlb ne82 (own_nlb ne82 own_nl0))))))))) K42 (own_nlb (Ne.symm ne26) (own_nlb (Ne.symm ne31) (own_nlb (Ne.symm ne31) (own_nlb (Ne.symm ne31) (own_nlb (Ne.symm ne31) (own_nlb (Ne.symm ne26) (own_nlb (Ne.symm ne26) (own_nlb (Ne.symm ne26) (own_nlb (Ne.symm ne26) own_nl0))))))))))
   have t87 := (own_exa t30 K42)
   have t88 := (own_fld (own_fld (r16_2.ext E19) K22 (own_nlb ne82 (own_nlb ne82 (own_nlb ne82 (own_nlb ne82 (own_nlb ne82 (own_nlb ne82 (own_nlb ne82 (own_nlb ne82 own_nl0))))))))) K42 (own_nlb (Ne.symm ne26) (own_nlb (Ne.symm ne31) (own_nlb (Ne.symm ne31) (own_nlb (Ne.symm ne31) (own_nlb (Ne.symm ne31) (own_nlb (Ne.symm ne26) (own_nlb (Ne.symm ne26) (own_nlb (Ne.symm ne26) (own_nlb (Ne.symm ne26) own_nl0))))))))))
   obtain ⟨cq89, kq89, q89a, q89b, q89c⟩ := isOf hZ rfl t80
   obtain ⟨_, _, ⟨T89, L89, kk89, nn89⟩, -, X89, ⟨Lc89, hQ89, l89, y89, z89⟩, st89⟩ := X42.virtualBack hx (y := ym5) (z := ym5) hown (mvT hZ (wk56 hw)) (mvT hZ (wk57 hw)) (notFace_of_selects (args := #[]) (mvT hZ (wk59 hw))) (mvT hZ (wk59 hw)) (mvT hZ (wk58 hw)) (by decide) (backOf (W := 0) (rm7_13 l Z a0 hw w hW [] b3 b13 b7 ((0 : Int64) + p2) p3 T42.heap n0 O43 r42_0 t80 gg3 t81 t83 (Ne.symm ne26) gg13 t84 r42_3 t85 t86 t87 r42_5 (Ne.symm ne25) ne31 gg7 r42_7 r42_8 t88) hZ (wk60 hw) (wk3 hw) (by decide) (by decide)) q89a q89c (g := (mkF m 95 Lb79 [(.ref b13), (.ref b3)])) rfl (by rw [hml]; rfl) (Steps.refl _) (argsL := [(.ref b13)]) (rest := []) (lenOf pds_5 rfl) rfl (by show 2 * 0 + _ ≤ _; exact Nat.le_of_eq rfl) (hb hby at_95) (fun _ _ => ⟨rfl, rfl, (by decide : 4 + 0 ≤ _), (by decide : 59 + 0 ≤ _)⟩)
   dsimp only [Pt.U, Pt.locs, Pt.cells, Pt.slots] at X89 l89 y89 z89 st89 hQ89
   rw [l89, y89, z89] at X89
   obtain ⟨rfl, N89q, K89, r89_0, r89_1, r89_2, r89_3, r89_4, r89_5, r89_6, r89_7, r89_8⟩ := hQ89
   have N89 := Fr.app N42 N89q
   have O90 := own_old O43 K89 (own_ngc gg3 (own_ngc gg13 (own_ngc gg13 (own_ngc gg13 (own_ngc gg13 (own_ngc gg7 (own_ngc gg3 (own_ngc gg3 (own_ngc gg3 own_ng0)))))))))
   have pre91 : ∀ t, Steps p.tables e below (T89.setTop (mkF m 113 #[.val (.int p0), .val (.int p1), .val (.long p2), .second, .val (.long p3), .second, .val (.long p4), .second, .val (.int (2 : Int32)), .val (.int ((p1 &&& (2147483647 : Int32)) % (2 : Int32))), .val (.ref b3), .val (.ref b7), .val (.ref b13), .val (.ref b19), .unset, .unset, .unset, .unset, .unset, .unset, .unset] [(.int ((p1 &&& (2147483647 : Int32)) % (2 : Int32)))])) t → Steps p.tables e below (s₁.setTop (entryFrame m #[(.int p0), (.int p1), (.long p2), (.long p3), (.long p4)] maxLocals)) t := fun t k => pre44 t (by
    show Steps p.tables e below (T42.setTop (mkF m 88 Lb79 [(.int (2 : Int32)), (.int (2 : Int32))])) _
    refine sn X42 hx hby at_88 (by decide) ?_
    refine sa X42 hx hby at_91 rfl rfl ?_
    refine sa X42 hx hby at_93 rfl rfl ?_
    refine st89.trans ?_
    refine si X89 hx hby at_98 rfl ?_
    refine sc X89 hx hby at_100 ?_
    refine XS.icmpYes X89.here hx rfl (pc0 := 101) (pc' := 111) rfl (hb hby at_101) rfl (by decide) (by decide) (by decide) ?_
    refine si X89 hx hby at_111 rfl ?_
    exact k)
   rcases (own_rem2 p1) with hs92 | hs92
   ·
    rw [hs92] at pre91
    let Lb93 : Array Slot := #[.val (.int p0), .val (.int p1), .val (.long p2), .second, .val (.long p3), .second, .val (.long p4), .second, .val (.int (2 : Int32)), .val (.int (0 : Int32)), .val (.ref b3), .val (.ref b7), .val (.ref b13), .val (.ref b19), .unset, .unset, .unset, .unset, .unset, .unset, .unset]
    let Lb94 : Array Slot := #[.val (.int p0), .val (.int p1), .val (.long p2), .second, .val (.long p3), .second, .val (.long p4), .second, .val (.int (2 : Int32)), .val (.int (0 : Int32)), .val (.ref b3), .val (.ref b7), .val (.ref b13), .val (.ref b19), .val (.ref b7), .unset, .unset, .unset, .unset, .unset, .unset]
    let Lb95 : Array Slot := #[.val (.int p0), .val (.int p1), .val (.long p2), .second, .val (.long p3), .second, .val (.long p4), .second, .val (.int (2 : Int32)), .val (.int (0 : Int32)), .val (.ref b3), .val (.ref b7), .val (.ref b13), .val (.ref b19), .val (.ref b7), .val .null, .unset, .unset, .unset, .unset, .unset]
    let Lb96 : Array Slot := #[.val (.int p0), .val (.int p1), .val (.long p2), .second, .val (.long p3), .second, .val (.long p4), .second, .val (.int (2 : Int32)), .val (.int (0 : Int32)), .val (.ref b3), .val (.ref b7), .val (.ref b13), .val (.ref b19), .val (.ref b7), .val .null, .val .null, .unset, .unset, .unset, .unset]
    let Lb97 : Array Slot := #[.val (.int p0), .val (.int p1), .val (.long p2), .second, .val (.long p3), .second, .val (.long p4), .second, .val (.int (2 : Int32)), .val (.int (0 : Int32)), .val (.ref b3), .val (.ref b7), .val (.ref b13), .val (.ref b19), .val (.ref b7), .val .null, .val .null, .val (.long (0 : Int64)), .second, .unset, .unset]
    let Lb98 : Array Slot := #[.val (.int p0), .val (.int p1), .val (.long p2), .second, .val (.long p3), .second, .val (.long p4), .second, .val (.int (2 : Int32)), .val (.int (0 : Int32)), .val (.ref b3), .val (.ref b7), .val (.ref b13), .val (.ref b19), .val (.ref b7), .val (.ref b13), .val .null, .val (.long (0 : Int64)), .second, .unset, .unset]
    let Lb99 : Array Slot := #[.val (.int p0), .val (.int p1), .val (.long p2), .second, .val (.long p3), .second, .val (.long p4), .second, .val (.int (2 : Int32)), .val (.int (0 : Int32)), .val (.ref b3), .val (.ref b7), .val (.ref b13), .val (.ref b19), .val (.ref b7), .val (.ref b13), .val .null, .val (.long p3), .second, .unset, .unset]
    have t100 := (own_fld r42_4 K89 (own_nlb (Ne.symm ne25) (own_nlb ne31 (own_nlb ne31 (own_nlb ne31 (own_nlb ne31 (own_nls (sn87 hw) (own_nlb (Ne.symm ne25) (own_nlb (Ne.symm ne25) (own_nlb (Ne.symm ne25) own_nl0))))))))))
    have t101 := (own_exa t80 K89)
    have t102 := (own_fld r42_6 K89 (own_nls (sn63 hw) (own_nlb ne26 (own_nlb ne26 (own_nlb ne26 (own_nlb ne26 (own_nlb ne25 (own_nls (sn88 hw) (own_nls (sn89 hw) (own_nls (sn90 hw) own_nl0))))))))))
    have t103 := (own_exa t81 K89)
    have t104 := (own_exa t87 K89)
    have t105 := (own_fld r42_2 K89 (own_nlb (Ne.symm ne25) (own_nlb ne31 (own_nlb ne31 (own_nlb ne31 (own_nlb ne31 (own_nls (sn84 hw) (own_nlb (Ne.symm ne25) (own_nlb (Ne.symm ne25) (own_nlb (Ne.symm ne25) own_nl0))))))))))
    have t106 := (own_fld (own_fld t41 K42 (own_nlb (Ne.symm ne25) (own_nls (sn72 hw) (own_nls (sn73 hw) (own_nls (sn74 hw) (own_nls (sn75 hw) (own_nlb (Ne.symm ne25) (own_nlb (Ne.symm ne25) (own_nlb (Ne.symm ne25) (own_nlb (Ne.symm ne25) own_nl0)))))))))) K89 (own_nlb (Ne.symm ne25) (own_nlb ne31 (own_nlb ne31 (own_nlb ne31 (own_nlb ne31 (own_nls (sn75 hw) (own_nlb (Ne.symm ne25) (own_nlb (Ne.symm ne25) (own_nlb (Ne.symm ne25) own_nl0))))))))))
    obtain ⟨cq107, kq107, q107a, q107b, q107c⟩ := isOf hZ rfl t101
    obtain ⟨_, _, ⟨T107, L107, kk107, nn107⟩, -, X107, ⟨Lc107, hQ107, l107, y107, z107⟩, st107⟩ := X89.virtualBack hx (y := ym6) (z := ym6) hown (mvT hZ (wk80 hw)) (mvT hZ (wk81 hw)) (notFace_of_selects (args := #[]) (mvT hZ (wk83 hw))) (mvT hZ (wk83 hw)) (mvT hZ (wk82 hw)) (by decide) (backOf (W := 0) (rm8_14 l Z a0 hw w hW [] b3 b7 b13 (((0 : Int64) + p2) + p3) p2 T89.heap n0 O90 t100 r89_6 t101 t102 gg3 (Ne.symm ne25) t103 r89_4 (Ne.symm ne26) gg13 t104 ne31 gg7 t105 r89_7 r89_8 t106) hZ (wk84 hw) (wk3 hw) (by decide) (by decide)) q107a q107c (g := (mkF m 247 Lb99 [(.ref b7), (.ref b3)])) rfl (by rw [hml]; rfl) (Steps.refl _) (argsL := [(.ref b7)]) (rest := []) (lenOf pds_5 rfl) rfl (by show 2 * 0 + _ ≤ _; exact Nat.le_of_eq rfl) (hb hby at_247) (fun _ _ => ⟨rfl, rfl, (by decide : 4 + 0 ≤ _), (by decide : 59 + 0 ≤ _)⟩)
    dsimp only [Pt.U, Pt.locs, Pt.cells, Pt.slots] at X107 l107 y107 z107 st107 hQ107
    rw [l107, y107, z107] at X107
    obtain ⟨rfl, N107q, K107, r107_0, r107_1, r107_2, r107_3, r107_4, r107_5, r107_6⟩ := hQ107
    have N107 := Fr.app N89 N107q
    have O108 := own_old O90 K107 (own_ngc gg3 (own_ngc gg13 (own_ngc gg7 (own_ngc gg7 (own_ngc gg7 (own_ngc gg3 (own_ngc gg3 own_ng0)))))))
    have t110 := (own_exa t101 K107)
    obtain ⟨cq109, kq109, q109a, q109b, q109c⟩ := isOf hZ rfl t110
    obtain ⟨_, _, ⟨T109, L109, kk109, nn109⟩, -, X109, ⟨Lc109, hQ109, l109, y109, z109⟩, st109⟩ := X107.virtualBack hx (y := ym7) (z := ym7) hown (mvT hZ (wk85 hw)) (mvT hZ (wk86 hw)) (notFace_of_selects (args := #[]) (mvT hZ (wk88 hw))) (mvT hZ (wk88 hw)) (mvT hZ (wk87 hw)) (by decide) (backOf (W := 0) (rm9_15 l Z a0 hw w hW [] b3 T107.heap n0 O108 r107_5) hZ (wk89 hw) (wk3 hw) (by decide) (by decide)) q109a q109c (g := (mkF m 252 Lb99 [(.ref b3)])) rfl (by rw [hml]; rfl) (Steps.refl _) (argsL := []) (rest := []) (lenOf pds_6 rfl) rfl (by show 2 * 0 + _ ≤ _; exact Nat.le_of_eq rfl) (hb hby at_252) (fun _ _ => ⟨rfl, rfl, (by decide : 4 + 0 ≤ _), (by decide : 59 + 0 ≤ _)⟩)
    dsimp only [Pt.U, Pt.locs, Pt.cells, Pt.slots] at X109 l109 y109 z109 st109 hQ109
    rw [l109, y109, z109] at X109
    obtain ⟨rfl, N109q, e109⟩ := hQ109
    have N109 := Fr.app N107 N109q
    obtain ⟨cq111, kq111, q111a, q111b, q111c⟩ := isOf hZ e109 t110
    obtain ⟨_, _, ⟨T111, L111, kk111, nn111⟩, -, X111, ⟨Lc111, hQ111, l111, y111, z111⟩, st111⟩ := X109.virtualBack hx (y := ym8) (z := ym8) hown (mvT hZ (wk90 hw)) (mvT hZ (wk91 hw)) (notFace_of_selects (args := #[]) (mvT hZ (wk93 hw))) (mvT hZ (wk93 hw)) (mvT hZ (wk92 hw)) (by decide) (backOf (W := 0) (rm10_9 l Z a0 hw w hW [] b3 ((((0 : Int64) + p2) + p3) - p2) T107.heap n0 O108 r107_6) hZ (wk94 hw) (wk3 hw) (by decide) (by decide)) q111a q111c (g := (mkF m 266 Lb99 [(.ref b3)])) rfl (by rw [hml]; rfl) (Steps.refl _) (argsL := []) (rest := []) (lenOf pds_6 rfl) rfl (by show 2 * 0 + _ ≤ _; exact Nat.le_of_eq rfl) (hb hby at_266) (fun _ _ => ⟨rfl, e109, (by decide : 4 + 0 ≤ _), (by decide : 59 + 0 ≤ _)⟩)
    dsimp only [Pt.U, Pt.locs, Pt.cells, Pt.slots] at X111 l111 y111 z111 st111 hQ111
    rw [l111, y111, z111] at X111
    obtain ⟨rfl, N111q, e111⟩ := hQ111
    have N111 := Fr.app N109 N111q
    have pre112 : ∀ t, Steps p.tables e below (T111.setTop (mkF m 272 Lb99 [(.int (lcmpW ((((0 : Int64) + p2) + p3) - p2) p3))])) t → Steps p.tables e below (s₁.setTop (entryFrame m #[(.int p0), (.int p1), (.long p2), (.long p3), (.long p4)] maxLocals)) t := fun t k => pre91 t (by
     show Steps p.tables e below (T89.setTop (mkF m 113 Lb93 [(.int (0 : Int32))])) _
     refine sN X89 hx hby at_113 (by decide) ?_
     refine sa X89 hx hby at_116 rfl rfl ?_
     refine sg (pc := 118) (pc' := 134) X89 hx hby at_118 (by decide) (by decide) ?_
     refine XS.astore X89.here hx rfl (hb hby at_134) rfl rfl (l' := Lb94) rfl ?_
     refine XS.aconstNull X89.here hx rfl (hb hby at_136) ?_
     show Steps p.tables e below (T89.setTop (mkF m 137 Lb94 [.null])) _
     refine XS.astore X89.here hx rfl (hb hby at_137) rfl rfl (l' := Lb95) rfl ?_
     refine XS.aconstNull X89.here hx rfl (hb hby at_139) ?_
     refine XS.astore X89.here hx rfl (hb hby at_140) rfl rfl (l' := Lb96) rfl ?_
     refine XS.lconst X89.here hx rfl (hb hby at_142) ?_
     refine XS.lstore X89.here hx rfl (hb hby at_143) rfl (l' := Lb97) rfl ?_
     show Steps p.tables e below (T89.setTop (mkF m 145 Lb97 [])) _
     refine si X89 hx hby at_145 rfl ?_
     refine sc X89 hx hby at_147 ?_
     refine sn X89 hx hby at_148 (by decide) ?_
     refine si X89 hx hby at_151 rfl ?_
     refine sN X89 hx hby at_153 (by decide) ?_
     show Steps p.tables e below (T89.setTop (mkF m 156 Lb97 [])) _
     refine sa X89 hx hby at_156 rfl rfl ?_
     refine XS.astore X89.here hx rfl (hb hby at_158) rfl rfl (l' := Lb98) rfl ?_
     refine XS.lload X89.here hx rfl (hb hby at_160) rfl ?_
     refine XS.lstore X89.here hx rfl (hb hby at_162) rfl (l' := Lb99) rfl ?_
     refine sg (pc := 164) (pc' := 243) X89 hx hby at_164 (by decide) (by decide) ?_
     show Steps p.tables e below (T89.setTop (mkF m 243 Lb99 [])) _
     refine sa X89 hx hby at_243 rfl rfl ?_
     refine sa X89 hx hby at_245 rfl rfl ?_
     refine st107.trans ?_
     refine sa X107 hx hby at_250 rfl rfl ?_
     refine st109.trans ?_
     refine si X109 hx hby at_255 rfl ?_
     refine sc X109 hx hby at_257 ?_
     refine XS.isub X109.here hx rfl (hb hby at_258) rfl ?_
     refine XS.i2l X109.here hx rfl (hb hby at_259) rfl ?_
     refine XS.lcmp X109.here hx rfl (hb hby at_260) rfl ?_
     show Steps p.tables e below (T109.setTop (mkF m 261 Lb99 [(.int (0 : Int32))])) _
     refine sN X109 hx hby at_261 (by decide) ?_
     refine sa X109 hx hby at_264 rfl rfl ?_
     refine st111.trans ?_
     refine XS.lload X111.here hx rfl (hb hby at_269) rfl ?_
     refine XS.lcmp X111.here hx rfl (hb hby at_271) rfl ?_
     exact k)
    by_cases hc113 : ((((0 : Int64) + p2) + p3) - p2) = p3
    ·
     obtain ⟨cq114, kq114, q114a, q114b, q114c⟩ := isOf hZ e111 t110
     obtain ⟨_, _, ⟨T114, L114, kk114, nn114⟩, -, X114, ⟨Lc114, hQ114, l114, y114, z114⟩, st114⟩ := X111.virtualBack hx (y := ym9) (z := ym9) hown (mvT hZ (wk95 hw)) (mvT hZ (wk96 hw)) (notFace_of_selects (args := #[]) (mvT hZ (wk98 hw))) (mvT hZ (wk98 hw)) (mvT hZ (wk97 hw)) (by decide) (backOf (W := 0) (rm11_12 l Z a0 hw w hW [] b3 b13 T107.heap n0 O108 r107_2) hZ (wk99 hw) (wk3 hw) (by decide) (by decide)) q114a q114c (g := (mkF m 277 Lb99 [(.ref b3)])) rfl (by rw [hml]; rfl) (Steps.refl _) (argsL := []) (rest := []) (lenOf pds_7 rfl) rfl (by show 2 * 0 + _ ≤ _; exact Nat.le_of_eq rfl) (hb hby at_277) (fun _ _ => ⟨rfl, e111, (by decide : 4 + 0 ≤ _), (by decide : 59 + 0 ≤ _)⟩)
     dsimp only [Pt.U, Pt.locs, Pt.cells, Pt.slots] at X114 l114 y114 z114 st114 hQ114
     rw [l114, y114, z114] at X114
     obtain ⟨rfl, N114q, e114⟩ := hQ114
     have N114 := Fr.app N111 N114q
     let Lb115 : Array Slot := #[.val (.int p0), .val (.int p1), .val (.long p2), .second, .val (.long p3), .second, .val (.long p4), .second, .val (.int (2 : Int32)), .val (.int (0 : Int32)), .val (.ref b3), .val (.ref b7), .val (.ref b13), .val (.ref b19), .val (.ref b7), .val (.ref b13), .val .null, .val (.long p3), .second, .val (.int (1 : Int32)), .unset]
     obtain ⟨T116, X116, e116, st116⟩ := getF X114 hx hZ hown (host := "") (Or.inl (wk100 hw)) Via.refl e114 r107_0 (g := (mkF m 299 Lb115 [(.ref b7)])) rfl rfl (hb hby at_299)
     obtain ⟨T117, X117, e117, st117⟩ := getF X116 hx hZ hown (host := "") (Or.inl (wk101 hw)) Via.refl e116 r107_1 (g := (mkF m 307 Lb115 [(.ref b7)])) rfl rfl (hb hby at_307)
     obtain ⟨T118, X118, e118, st118⟩ := getF X117 hx hZ hown (host := "") (Or.inl (wk102 hw)) Via.refl e117 r107_4 (g := (mkF m 315 Lb115 [(.ref b7)])) rfl rfl (hb hby at_315)
     obtain ⟨T119, X119, e119, st119⟩ := getF X118 hx hZ hown (host := "") (Or.inl (wk100 hw)) Via.refl e118 r107_3 (g := (mkF m 340 Lb115 [(.ref b13)])) rfl rfl (hb hby at_340)
     have t120 := (own_fld r89_5 K107 (own_nlb (Ne.symm ne26) (own_nls (sn62 hw) (own_nlb (Ne.symm ne31) (own_nlb (Ne.symm ne31) (own_nlb (Ne.symm ne31) (own_nlb (Ne.symm ne26) (own_nlb (Ne.symm ne26) own_nl0))))))))
     obtain ⟨T121, X121, e121, st121⟩ := getF X119 hx hZ hown (host := "") (Or.inl (wk101 hw)) Via.refl e119 t120 (g := (mkF m 348 Lb115 [(.ref b13)])) rfl rfl (hb hby at_348)
     have t122 := (own_fld r89_2 K107 (own_nlb (Ne.symm ne26) (own_nls (sn83 hw) (own_nlb (Ne.symm ne31) (own_nlb (Ne.symm ne31) (own_nlb (Ne.symm ne31) (own_nlb (Ne.symm ne26) (own_nlb (Ne.symm ne26) own_nl0))))))))
     obtain ⟨T123, X123, e123, st123⟩ := getF X121 hx hZ hown (host := "") (Or.inl (wk102 hw)) Via.refl e121 t122 (g := (mkF m 358 Lb115 [(.ref b13)])) rfl rfl (hb hby at_358)
     let Lb124 : Array Slot := #[.val (.int p0), .val (.int p1), .val (.long p2), .second, .val (.long p3), .second, .val (.long p4), .second, .val (.int (2 : Int32)), .val (.int (0 : Int32)), .val (.ref b3), .val (.ref b7), .val (.ref b13), .val (.ref b19), .val (.ref b7), .val (.ref b13), .val .null, .val (.long p3), .second, .val (.int (1 : Int32)), .val (.ref b13)]
     have t125 := (own_fld r89_0 K107 (own_nls (sn76 hw) (own_nlb ne26 (own_nlb ne25 (own_nlb ne25 (own_nlb ne25 (own_nls (sn78 hw) (own_nls (sn79 hw) own_nl0))))))))
     have t126 := (own_exa t104 K107)
     have t127 := (own_fld (own_fld r42_1 K89 (own_nlb (Ne.symm ne25) (own_nlb ne31 (own_nlb ne31 (own_nlb ne31 (own_nlb ne31 (own_nls (sn82 hw) (own_nlb (Ne.symm ne25) (own_nlb (Ne.symm ne25) (own_nlb (Ne.symm ne25) own_nl0)))))))))) K107 (own_nlb (Ne.symm ne25) (own_nlb ne31 (own_nls (sn81 hw) (own_nls (sn82 hw) (own_nls (sn80 hw) (own_nlb (Ne.symm ne25) (own_nlb (Ne.symm ne25) own_nl0))))))))
     have t128 := (own_fld r89_3 K107 (own_nls (sn64 hw) (own_nlb ne26 (own_nlb ne25 (own_nlb ne25 (own_nlb ne25 (own_nls (sn85 hw) (own_nls (sn86 hw) own_nl0))))))))
     have t129 := (own_exa t103 K107)
     have t130 := (own_fld t106 K107 (own_nlb (Ne.symm ne25) (own_nlb ne31 (own_nls (sn74 hw) (own_nls (sn75 hw) (own_nls (sn73 hw) (own_nlb (Ne.symm ne25) (own_nlb (Ne.symm ne25) own_nl0))))))))
     obtain ⟨cq131, kq131, q131a, q131b, q131c⟩ := isOf hZ e123 t110
     obtain ⟨_, _, ⟨T131, L131, kk131, nn131⟩, -, X131, ⟨Lc131, hQ131, l131, y131, z131⟩, st131⟩ := X123.virtualBack hx (y := ym5) (z := ym5) hown (mvT hZ (wk56 hw)) (mvT hZ (wk57 hw)) (notFace_of_selects (args := #[]) (mvT hZ (wk59 hw))) (mvT hZ (wk59 hw)) (mvT hZ (wk58 hw)) (by decide) (backOf (W := 0) (rm7_16 l Z a0 hw w hW [] b3 b7 b13 ((((0 : Int64) + p2) + p3) - p2) p2 T107.heap n0 O108 t125 t110 gg3 t126 t127 (Ne.symm ne25) gg7 r107_4 t128 r107_0 r107_1 t129 t120 (Ne.symm ne26) (Ne.symm ne31) gg13 r107_5 r107_6 t130) hZ (wk60 hw) (wk3 hw) (by decide) (by decide)) q131a q131c (g := (mkF m 436 Lb124 [(.ref b7), (.ref b3)])) rfl (by rw [hml]; rfl) (Steps.refl _) (argsL := [(.ref b7)]) (rest := []) (lenOf pds_5 rfl) rfl (by show 2 * 0 + _ ≤ _; exact Nat.le_of_eq rfl) (hb hby at_436) (fun _ _ => ⟨rfl, e123, (by decide : 4 + 0 ≤ _), (by decide : 59 + 0 ≤ _)⟩)
     dsimp only [Pt.U, Pt.locs, Pt.cells, Pt.slots] at X131 l131 y131 z131 st131 hQ131
     rw [l131, y131, z131] at X131
     obtain ⟨rfl, N131q, K131, r131_0, r131_1, r131_2, r131_3, r131_4, r131_5, r131_6, r131_7, r131_8⟩ := hQ131
     have N131 := Fr.app N114 N131q
     have O132 := own_old O108 K131 (own_ngc gg3 (own_ngc gg7 (own_ngc gg7 (own_ngc gg7 (own_ngc gg7 (own_ngc gg13 (own_ngc gg3 (own_ngc gg3 (own_ngc gg3 own_ng0)))))))))
     obtain ⟨T133, X133, e133, st133⟩ := getF X131 hx hZ hown (host := "") (Or.inl (wk100 hw)) Via.refl rfl r131_4 (g := (mkF m 446 Lb124 [(.ref b7)])) rfl rfl (hb hby at_446)
     obtain ⟨T134, X134, e134, st134⟩ := getF X133 hx hZ hown (host := "") (Or.inl (wk101 hw)) Via.refl e133 r131_6 (g := (mkF m 498 Lb124 [(.ref b13)])) rfl rfl (hb hby at_498)
     obtain ⟨fs, hr, hrun, hended, hWm, hsame⟩ := X134.leave (v := some (.int (1 : Int32))) (fun h => by rw [Bd.returns] at h; cases h)
     refine ⟨_, _, pre112 _ ?_, hrun, hended, _, _, rfl, ?_, ⟨_, rfl⟩, hWm, hsame.mono (by decide) (by decide)⟩
     · show Steps p.tables e below (T111.setTop (mkF m 272 Lb99 [(.int (lcmpW ((((0 : Int64) + p2) + p3) - p2) p3))])) _
       refine sN X111 hx hby at_272 ((if0 _ _).trans (teq (((lw_eq _ _).mpr hc113) : (lcmpW ((((0 : Int64) + p2) + p3) - p2) p3) = (0 : Int32))).2) ?_
       refine sa X111 hx hby at_275 rfl rfl ?_
       refine st114.trans ?_
       refine sa X114 hx hby at_280 rfl rfl ?_
       refine Jvm.RoadKit.acmp (g := (mkF m 282 Lb99 [(.ref b13), (.ref b13)])) X114 hx rfl rfl rfl (pc0 := 282) (pc' := 285) (same := true) rfl (hb hby at_282) rfl (decide_eq_true rfl) (by decide) (by decide) ?_
       refine sc X114 hx hby at_285 ?_
       refine sg (pc := 286) (pc' := 290) X114 hx hby at_286 (by decide) (by decide) ?_
       refine XS.istore X114.here hx rfl (hb hby at_290) rfl (l' := Lb115) rfl ?_
       show Steps p.tables e below (T114.setTop (mkF m 292 Lb115 [])) _
       refine si X114 hx hby at_292 rfl ?_
       refine sN X114 hx hby at_294 (by decide) ?_
       refine sa X114 hx hby at_297 rfl rfl ?_
       refine st116 _ ?_
       refine XS.ifnonnullNo X116.here hx rfl (hb hby at_302) rfl ?_
       refine sa X116 hx hby at_305 rfl rfl ?_
       refine st117 _ ?_
       refine XS.ifnonnullNo X117.here hx rfl (hb hby at_310) rfl ?_
       refine sa X117 hx hby at_313 rfl rfl ?_
       refine st118 _ ?_
       refine XS.ifnonnullNo X118.here hx rfl (hb hby at_318) rfl ?_
       refine sc X118 hx hby at_321 ?_
       refine sg (pc := 322) (pc' := 326) X118 hx hby at_322 (by decide) (by decide) ?_
       refine XS.istore X118.here hx rfl (hb hby at_326) rfl (l' := Lb115) rfl ?_
       refine sa X118 hx hby at_328 rfl rfl ?_
       show Steps p.tables e below (T118.setTop (mkF m 330 Lb115 [(.ref b13)])) _
       refine XS.ifnullNo X118.here hx rfl (hb hby at_330) rfl ?_
       refine si X118 hx hby at_333 rfl ?_
       refine sN X118 hx hby at_335 (by decide) ?_
       refine sa X118 hx hby at_338 rfl rfl ?_
       refine st119 _ ?_
       refine XS.ifnonnullNo X119.here hx rfl (hb hby at_343) rfl ?_
       refine sa X119 hx hby at_346 rfl rfl ?_
       refine st121 _ ?_
       refine sa X121 hx hby at_351 rfl rfl ?_
       refine Jvm.RoadKit.acmp (g := (mkF m 353 Lb115 [.null, .null])) X121 hx rfl rfl rfl (pc0 := 353) (pc' := 356) (same := true) rfl (hb hby at_353) rfl (decide_eq_true rfl) (by decide) (by decide) ?_
       refine sa X121 hx hby at_356 rfl rfl ?_
       refine st123 _ ?_
       refine sa X123 hx hby at_361 rfl rfl ?_
       refine Jvm.RoadKit.acmp (g := (mkF m 363 Lb115 [(.ref b3), (.ref b3)])) X123 hx rfl rfl rfl (pc0 := 363) (pc' := 366) (same := true) rfl (hb hby at_363) rfl (decide_eq_true rfl) (by decide) (by decide) ?_
       refine sc X123 hx hby at_366 ?_
       refine sg (pc := 367) (pc' := 371) X123 hx hby at_367 (by decide) (by decide) ?_
       refine XS.istore X123.here hx rfl (hb hby at_371) rfl (l' := Lb115) rfl ?_
       show Steps p.tables e below (T123.setTop (mkF m 373 Lb115 [])) _
       refine sa X123 hx hby at_373 rfl rfl ?_
       refine XS.ifnullYes X123.here hx rfl (pc0 := 375) (pc' := 418) rfl (hb hby at_375) rfl (by decide) (by decide) ?_
       refine sa X123 hx hby at_418 rfl rfl ?_
       refine XS.ifnullYes X123.here hx rfl (pc0 := 420) (pc' := 428) rfl (hb hby at_420) rfl (by decide) (by decide) ?_
       refine sa X123 hx hby at_428 rfl rfl ?_
       show Steps p.tables e below (T123.setTop (mkF m 430 Lb115 [(.ref b13)])) _
       refine XS.astore X123.here hx rfl (hb hby at_430) rfl rfl (l' := Lb124) rfl ?_
       refine sa X123 hx hby at_432 rfl rfl ?_
       refine sa X123 hx hby at_434 rfl rfl ?_
       refine st131.trans ?_
       refine si X131 hx hby at_439 rfl ?_
       refine sN X131 hx hby at_441 (by decide) ?_
       refine sa X131 hx hby at_444 rfl rfl ?_
       refine st133 _ ?_
       refine sa X133 hx hby at_449 rfl rfl ?_
       refine Jvm.RoadKit.acmp (g := (mkF m 451 Lb124 [(.ref b13), (.ref b13)])) X133 hx rfl rfl rfl (pc0 := 451) (pc' := 454) (same := true) rfl (hb hby at_451) rfl (decide_eq_true rfl) (by decide) (by decide) ?_
       refine sc X133 hx hby at_454 ?_
       refine sg (pc := 455) (pc' := 459) X133 hx hby at_455 (by decide) (by decide) ?_
       refine XS.istore X133.here hx rfl (hb hby at_459) rfl (l' := Lb124) rfl ?_
       show Steps p.tables e below (T133.setTop (mkF m 461 Lb124 [])) _
       refine sa X133 hx hby at_461 rfl rfl ?_
       refine XS.ifnonnullYes X133.here hx rfl (pc0 := 463) (pc' := 491) rfl (hb hby at_463) rfl (by decide) (by decide) ?_
       refine si X133 hx hby at_491 rfl ?_
       refine sN X133 hx hby at_493 (by decide) ?_
       refine sa X133 hx hby at_496 rfl rfl ?_
       show Steps p.tables e below (T133.setTop (mkF m 498 Lb124 [(.ref b13)])) _
       refine st134 _ ?_
       refine sa X134 hx hby at_501 rfl rfl ?_
       refine Jvm.RoadKit.acmp (g := (mkF m 503 Lb124 [(.ref b7), (.ref b7)])) X134 hx rfl rfl rfl (pc0 := 503) (pc' := 506) (same := true) rfl (hb hby at_503) rfl (decide_eq_true rfl) (by decide) (by decide) ?_
       refine sc X134 hx hby at_506 ?_
       refine sg (pc := 507) (pc' := 511) X134 hx hby at_507 (by decide) (by decide) ?_
       refine XS.istore X134.here hx rfl (hb hby at_511) rfl (l' := Lb124) rfl ?_
       show Steps p.tables e below (T134.setTop (mkF m 513 Lb124 [])) _
       refine si X134 hx hby at_513 rfl ?_
       exact retN X134 hx (t := .boolean) Bd.returns (by simp) (hb hby at_515) hr
     · show Q0 n0 _ T134.heap _
       rw [e134]
       exact ⟨rfl, N131⟩
    ·
     exfalso
     have z10 : (((((0 : Int64) + p2) + p3) - p2)).toInt ≠ (p3).toInt := fun q => hc113 (Int64.toInt_inj.mp q)
     have z1 := rng64 ((((0 : Int64) + p2) + p3) - p2)
     have z2 := rng64 (((0 : Int64) + p2) + p3)
     have z3 := rng64 ((0 : Int64) + p2)
     have z4 : ((0 : Int64)).toInt = 0 := by decide
     have z5 := rng64 p2
     have z6 := c_ladd (0 : Int64) p2
     have z7 := rng64 p3
     have z8 := c_ladd ((0 : Int64) + p2) p3
     have z9 := c_lsub (((0 : Int64) + p2) + p3) p2
     omega
   ·
    rw [hs92] at pre91
    let Lb135 : Array Slot := #[.val (.int p0), .val (.int p1), .val (.long p2), .second, .val (.long p3), .second, .val (.long p4), .second, .val (.int (2 : Int32)), .val (.int (1 : Int32)), .val (.ref b3), .val (.ref b7), .val (.ref b13), .val (.ref b19), .unset, .unset, .unset, .unset, .unset, .unset, .unset]
    let Lb136 : Array Slot := #[.val (.int p0), .val (.int p1), .val (.long p2), .second, .val (.long p3), .second, .val (.long p4), .second, .val (.int (2 : Int32)), .val (.int (1 : Int32)), .val (.ref b3), .val (.ref b7), .val (.ref b13), .val (.ref b19), .val (.ref b13), .unset, .unset, .unset, .unset, .unset, .unset]
    let Lb137 : Array Slot := #[.val (.int p0), .val (.int p1), .val (.long p2), .second, .val (.long p3), .second, .val (.long p4), .second, .val (.int (2 : Int32)), .val (.int (1 : Int32)), .val (.ref b3), .val (.ref b7), .val (.ref b13), .val (.ref b19), .val (.ref b13), .val .null, .unset, .unset, .unset, .unset, .unset]
    let Lb138 : Array Slot := #[.val (.int p0), .val (.int p1), .val (.long p2), .second, .val (.long p3), .second, .val (.long p4), .second, .val (.int (2 : Int32)), .val (.int (1 : Int32)), .val (.ref b3), .val (.ref b7), .val (.ref b13), .val (.ref b19), .val (.ref b13), .val .null, .val .null, .unset, .unset, .unset, .unset]
    let Lb139 : Array Slot := #[.val (.int p0), .val (.int p1), .val (.long p2), .second, .val (.long p3), .second, .val (.long p4), .second, .val (.int (2 : Int32)), .val (.int (1 : Int32)), .val (.ref b3), .val (.ref b7), .val (.ref b13), .val (.ref b19), .val (.ref b13), .val .null, .val .null, .val (.long (0 : Int64)), .second, .unset, .unset]
    let Lb140 : Array Slot := #[.val (.int p0), .val (.int p1), .val (.long p2), .second, .val (.long p3), .second, .val (.long p4), .second, .val (.int (2 : Int32)), .val (.int (1 : Int32)), .val (.ref b3), .val (.ref b7), .val (.ref b13), .val (.ref b19), .val (.ref b13), .val (.ref b7), .val .null, .val (.long (0 : Int64)), .second, .unset, .unset]
    let Lb141 : Array Slot := #[.val (.int p0), .val (.int p1), .val (.long p2), .second, .val (.long p3), .second, .val (.long p4), .second, .val (.int (2 : Int32)), .val (.int (1 : Int32)), .val (.ref b3), .val (.ref b7), .val (.ref b13), .val (.ref b19), .val (.ref b13), .val (.ref b7), .val .null, .val (.long p2), .second, .unset, .unset]
    have t142 := (own_exa t87 K89)
    have t143 := (own_exa t80 K89)
    have t144 := (own_exa t81 K89)
    have t145 := (own_fld t88 K89 (own_nlb (Ne.symm ne26) (own_nls (sn72 hw) (own_nls (sn73 hw) (own_nls (sn74 hw) (own_nls (sn75 hw) (own_nlb (Ne.symm ne31) (own_nlb (Ne.symm ne26) (own_nlb (Ne.symm ne26) (own_nlb (Ne.symm ne26) own_nl0))))))))))
    obtain ⟨cq146, kq146, q146a, q146b, q146c⟩ := isOf hZ rfl t143
    obtain ⟨_, _, ⟨T146, L146, kk146, nn146⟩, -, X146, ⟨Lc146, hQ146, l146, y146, z146⟩, st146⟩ := X89.virtualBack hx (y := ym6) (z := ym6) hown (mvT hZ (wk80 hw)) (mvT hZ (wk81 hw)) (notFace_of_selects (args := #[]) (mvT hZ (wk83 hw))) (mvT hZ (wk83 hw)) (mvT hZ (wk82 hw)) (by decide) (backOf (W := 0) (rm8_17 l Z a0 hw w hW [] b3 b13 b7 (((0 : Int64) + p2) + p3) p3 T89.heap n0 O90 r89_4 r89_5 t142 r89_6 gg7 (Ne.symm ne31) t143 r89_3 ne25 gg3 t144 (Ne.symm ne26) gg13 r89_2 r89_7 r89_8 t145) hZ (wk84 hw) (wk3 hw) (by decide) (by decide)) q146a q146c (g := (mkF m 247 Lb141 [(.ref b13), (.ref b3)])) rfl (by rw [hml]; rfl) (Steps.refl _) (argsL := [(.ref b13)]) (rest := []) (lenOf pds_5 rfl) rfl (by show 2 * 0 + _ ≤ _; exact Nat.le_of_eq rfl) (hb hby at_247) (fun _ _ => ⟨rfl, rfl, (by decide : 4 + 0 ≤ _), (by decide : 59 + 0 ≤ _)⟩)
    dsimp only [Pt.U, Pt.locs, Pt.cells, Pt.slots] at X146 l146 y146 z146 st146 hQ146
    rw [l146, y146, z146] at X146
    obtain ⟨rfl, N146q, K146, r146_0, r146_1, r146_2, r146_3, r146_4, r146_5, r146_6⟩ := hQ146
    have N146 := Fr.app N89 N146q
    have O147 := own_old O90 K146 (own_ngc gg7 (own_ngc gg3 (own_ngc gg13 (own_ngc gg13 (own_ngc gg13 (own_ngc gg3 (own_ngc gg3 own_ng0)))))))
    have t149 := (own_exa t143 K146)
    obtain ⟨cq148, kq148, q148a, q148b, q148c⟩ := isOf hZ rfl t149
    obtain ⟨_, _, ⟨T148, L148, kk148, nn148⟩, -, X148, ⟨Lc148, hQ148, l148, y148, z148⟩, st148⟩ := X146.virtualBack hx (y := ym7) (z := ym7) hown (mvT hZ (wk85 hw)) (mvT hZ (wk86 hw)) (notFace_of_selects (args := #[]) (mvT hZ (wk88 hw))) (mvT hZ (wk88 hw)) (mvT hZ (wk87 hw)) (by decide) (backOf (W := 0) (rm9_15 l Z a0 hw w hW [] b3 T146.heap n0 O147 r146_5) hZ (wk89 hw) (wk3 hw) (by decide) (by decide)) q148a q148c (g := (mkF m 252 Lb141 [(.ref b3)])) rfl (by rw [hml]; rfl) (Steps.refl _) (argsL := []) (rest := []) (lenOf pds_6 rfl) rfl (by show 2 * 0 + _ ≤ _; exact Nat.le_of_eq rfl) (hb hby at_252) (fun _ _ => ⟨rfl, rfl, (by decide : 4 + 0 ≤ _), (by decide : 59 + 0 ≤ _)⟩)
    dsimp only [Pt.U, Pt.locs, Pt.cells, Pt.slots] at X148 l148 y148 z148 st148 hQ148
    rw [l148, y148, z148] at X148
    obtain ⟨rfl, N148q, e148⟩ := hQ148
    have N148 := Fr.app N146 N148q
    obtain ⟨cq150, kq150, q150a, q150b, q150c⟩ := isOf hZ e148 t149
    obtain ⟨_, _, ⟨T150, L150, kk150, nn150⟩, -, X150, ⟨Lc150, hQ150, l150, y150, z150⟩, st150⟩ := X148.virtualBack hx (y := ym8) (z := ym8) hown (mvT hZ (wk90 hw)) (mvT hZ (wk91 hw)) (notFace_of_selects (args := #[]) (mvT hZ (wk93 hw))) (mvT hZ (wk93 hw)) (mvT hZ (wk92 hw)) (by decide) (backOf (W := 0) (rm10_9 l Z a0 hw w hW [] b3 ((((0 : Int64) + p2) + p3) - p3) T146.heap n0 O147 r146_6) hZ (wk94 hw) (wk3 hw) (by decide) (by decide)) q150a q150c (g := (mkF m 266 Lb141 [(.ref b3)])) rfl (by rw [hml]; rfl) (Steps.refl _) (argsL := []) (rest := []) (lenOf pds_6 rfl) rfl (by show 2 * 0 + _ ≤ _; exact Nat.le_of_eq rfl) (hb hby at_266) (fun _ _ => ⟨rfl, e148, (by decide : 4 + 0 ≤ _), (by decide : 59 + 0 ≤ _)⟩)
    dsimp only [Pt.U, Pt.locs, Pt.cells, Pt.slots] at X150 l150 y150 z150 st150 hQ150
    rw [l150, y150, z150] at X150
    obtain ⟨rfl, N150q, e150⟩ := hQ150
    have N150 := Fr.app N148 N150q
    have pre151 : ∀ t, Steps p.tables e below (T150.setTop (mkF m 272 Lb141 [(.int (lcmpW ((((0 : Int64) + p2) + p3) - p3) p2))])) t → Steps p.tables e below (s₁.setTop (entryFrame m #[(.int p0), (.int p1), (.long p2), (.long p3), (.long p4)] maxLocals)) t := fun t k => pre91 t (by
     show Steps p.tables e below (T89.setTop (mkF m 113 Lb135 [(.int (1 : Int32))])) _
     refine XS.ifYes X89.here hx rfl (pc0 := 113) (pc' := 121) rfl (hb hby at_113) rfl (by decide) (by decide) (by decide) ?_
     refine si X89 hx hby at_121 rfl ?_
     refine sc X89 hx hby at_123 ?_
     refine sn X89 hx hby at_124 (by decide) ?_
     refine sa X89 hx hby at_127 rfl rfl ?_
     show Steps p.tables e below (T89.setTop (mkF m 129 Lb135 [(.ref b13)])) _
     refine sg (pc := 129) (pc' := 134) X89 hx hby at_129 (by decide) (by decide) ?_
     refine XS.astore X89.here hx rfl (hb hby at_134) rfl rfl (l' := Lb136) rfl ?_
     refine XS.aconstNull X89.here hx rfl (hb hby at_136) ?_
     refine XS.astore X89.here hx rfl (hb hby at_137) rfl rfl (l' := Lb137) rfl ?_
     refine XS.aconstNull X89.here hx rfl (hb hby at_139) ?_
     show Steps p.tables e below (T89.setTop (mkF m 140 Lb137 [.null])) _
     refine XS.astore X89.here hx rfl (hb hby at_140) rfl rfl (l' := Lb138) rfl ?_
     refine XS.lconst X89.here hx rfl (hb hby at_142) ?_
     refine XS.lstore X89.here hx rfl (hb hby at_143) rfl (l' := Lb139) rfl ?_
     refine si X89 hx hby at_145 rfl ?_
     refine sc X89 hx hby at_147 ?_
     show Steps p.tables e below (T89.setTop (mkF m 148 Lb139 [(.int (2 : Int32)), (.int (2 : Int32))])) _
     refine sn X89 hx hby at_148 (by decide) ?_
     refine si X89 hx hby at_151 rfl ?_
     refine XS.ifYes X89.here hx rfl (pc0 := 153) (pc' := 167) rfl (hb hby at_153) rfl (by decide) (by decide) (by decide) ?_
     refine sa X89 hx hby at_167 rfl rfl ?_
     refine XS.astore X89.here hx rfl (hb hby at_169) rfl rfl (l' := Lb140) rfl ?_
     show Steps p.tables e below (T89.setTop (mkF m 171 Lb140 [])) _
     refine sL X89 hx hby at_171 rfl ?_
     refine XS.lstore X89.here hx rfl (hb hby at_172) rfl (l' := Lb141) rfl ?_
     refine sg (pc := 174) (pc' := 243) X89 hx hby at_174 (by decide) (by decide) ?_
     refine sa X89 hx hby at_243 rfl rfl ?_
     refine sa X89 hx hby at_245 rfl rfl ?_
     show Steps p.tables e below (T89.setTop (mkF m 247 Lb141 [(.ref b13), (.ref b3)])) _
     refine st146.trans ?_
     refine sa X146 hx hby at_250 rfl rfl ?_
     refine st148.trans ?_
     refine si X148 hx hby at_255 rfl ?_
     refine sc X148 hx hby at_257 ?_
     refine XS.isub X148.here hx rfl (hb hby at_258) rfl ?_
     refine XS.i2l X148.here hx rfl (hb hby at_259) rfl ?_
     refine XS.lcmp X148.here hx rfl (hb hby at_260) rfl ?_
     show Steps p.tables e below (T148.setTop (mkF m 261 Lb141 [(.int (0 : Int32))])) _
     refine sN X148 hx hby at_261 (by decide) ?_
     refine sa X148 hx hby at_264 rfl rfl ?_
     refine st150.trans ?_
     refine XS.lload X150.here hx rfl (hb hby at_269) rfl ?_
     refine XS.lcmp X150.here hx rfl (hb hby at_271) rfl ?_
     exact k)
    by_cases hc152 : ((((0 : Int64) + p2) + p3) - p3) = p2
    ·
     have t153 := (own_fld (own_fld r42_6 K89 (own_nls (sn63 hw) (own_nlb ne26 (own_nlb ne26 (own_nlb ne26 (own_nlb ne26 (own_nlb ne25 (own_nls (sn88 hw) (own_nls (sn89 hw) (own_nls (sn90 hw) own_nl0)))))))))) K146 (own_nlb ne25 (own_nls (sn88 hw) (own_nlb ne26 (own_nlb ne26 (own_nlb ne26 (own_nls (sn89 hw) (own_nls (sn90 hw) own_nl0))))))))
     obtain ⟨cq154, kq154, q154a, q154b, q154c⟩ := isOf hZ e150 t149
     obtain ⟨_, _, ⟨T154, L154, kk154, nn154⟩, -, X154, ⟨Lc154, hQ154, l154, y154, z154⟩, st154⟩ := X150.virtualBack hx (y := ym9) (z := ym9) hown (mvT hZ (wk95 hw)) (mvT hZ (wk96 hw)) (notFace_of_selects (args := #[]) (mvT hZ (wk98 hw))) (mvT hZ (wk98 hw)) (mvT hZ (wk97 hw)) (by decide) (backOf (W := 0) (rm11_12 l Z a0 hw w hW [] b3 b7 T146.heap n0 O147 t153) hZ (wk99 hw) (wk3 hw) (by decide) (by decide)) q154a q154c (g := (mkF m 277 Lb141 [(.ref b3)])) rfl (by rw [hml]; rfl) (Steps.refl _) (argsL := []) (rest := []) (lenOf pds_7 rfl) rfl (by show 2 * 0 + _ ≤ _; exact Nat.le_of_eq rfl) (hb hby at_277) (fun _ _ => ⟨rfl, e150, (by decide : 4 + 0 ≤ _), (by decide : 59 + 0 ≤ _)⟩)
     dsimp only [Pt.U, Pt.locs, Pt.cells, Pt.slots] at X154 l154 y154 z154 st154 hQ154
     rw [l154, y154, z154] at X154
     obtain ⟨rfl, N154q, e154⟩ := hQ154
     have N154 := Fr.app N150 N154q
     let Lb155 : Array Slot := #[.val (.int p0), .val (.int p1), .val (.long p2), .second, .val (.long p3), .second, .val (.long p4), .second, .val (.int (2 : Int32)), .val (.int (1 : Int32)), .val (.ref b3), .val (.ref b7), .val (.ref b13), .val (.ref b19), .val (.ref b13), .val (.ref b7), .val .null, .val (.long p2), .second, .val (.int (1 : Int32)), .unset]
     obtain ⟨T156, X156, e156, st156⟩ := getF X154 hx hZ hown (host := "") (Or.inl (wk100 hw)) Via.refl e154 r146_0 (g := (mkF m 299 Lb155 [(.ref b13)])) rfl rfl (hb hby at_299)
     obtain ⟨T157, X157, e157, st157⟩ := getF X156 hx hZ hown (host := "") (Or.inl (wk101 hw)) Via.refl e156 r146_1 (g := (mkF m 307 Lb155 [(.ref b13)])) rfl rfl (hb hby at_307)
     obtain ⟨T158, X158, e158, st158⟩ := getF X157 hx hZ hown (host := "") (Or.inl (wk102 hw)) Via.refl e157 r146_4 (g := (mkF m 315 Lb155 [(.ref b13)])) rfl rfl (hb hby at_315)
     have t159 := (own_fld (own_fld r42_4 K89 (own_nlb (Ne.symm ne25) (own_nlb ne31 (own_nlb ne31 (own_nlb ne31 (own_nlb ne31 (own_nls (sn87 hw) (own_nlb (Ne.symm ne25) (own_nlb (Ne.symm ne25) (own_nlb (Ne.symm ne25) own_nl0)))))))))) K146 (own_nls (sn87 hw) (own_nlb (Ne.symm ne25) (own_nlb ne31 (own_nlb ne31 (own_nlb ne31 (own_nlb (Ne.symm ne25) (own_nlb (Ne.symm ne25) own_nl0))))))))
     obtain ⟨T160, X160, e160, st160⟩ := getF X158 hx hZ hown (host := "") (Or.inl (wk100 hw)) Via.refl e158 t159 (g := (mkF m 340 Lb155 [(.ref b7)])) rfl rfl (hb hby at_340)
     obtain ⟨T161, X161, e161, st161⟩ := getF X160 hx hZ hown (host := "") (Or.inl (wk101 hw)) Via.refl e160 r146_2 (g := (mkF m 348 Lb155 [(.ref b7)])) rfl rfl (hb hby at_348)
     have t162 := (own_fld (own_fld r42_2 K89 (own_nlb (Ne.symm ne25) (own_nlb ne31 (own_nlb ne31 (own_nlb ne31 (own_nlb ne31 (own_nls (sn84 hw) (own_nlb (Ne.symm ne25) (own_nlb (Ne.symm ne25) (own_nlb (Ne.symm ne25) own_nl0)))))))))) K146 (own_nls (sn84 hw) (own_nlb (Ne.symm ne25) (own_nlb ne31 (own_nlb ne31 (own_nlb ne31 (own_nlb (Ne.symm ne25) (own_nlb (Ne.symm ne25) own_nl0))))))))
     obtain ⟨T163, X163, e163, st163⟩ := getF X161 hx hZ hown (host := "") (Or.inl (wk102 hw)) Via.refl e161 t162 (g := (mkF m 358 Lb155 [(.ref b7)])) rfl rfl (hb hby at_358)
     let Lb164 : Array Slot := #[.val (.int p0), .val (.int p1), .val (.long p2), .second, .val (.long p3), .second, .val (.long p4), .second, .val (.int (2 : Int32)), .val (.int (1 : Int32)), .val (.ref b3), .val (.ref b7), .val (.ref b13), .val (.ref b19), .val (.ref b13), .val (.ref b7), .val .null, .val (.long p2), .second, .val (.int (1 : Int32)), .val (.ref b7)]
     have t165 := (own_fld r89_0 K146 (own_nlb ne25 (own_nls (sn77 hw) (own_nlb ne26 (own_nlb ne26 (own_nlb ne26 (own_nls (sn78 hw) (own_nls (sn79 hw) own_nl0))))))))
     have t166 := (own_exa t144 K146)
     have t167 := (own_fld r89_1 K146 (own_nlb (Ne.symm ne31) (own_nlb (Ne.symm ne26) (own_nls (sn81 hw) (own_nls (sn82 hw) (own_nls (sn80 hw) (own_nlb (Ne.symm ne26) (own_nlb (Ne.symm ne26) own_nl0))))))))
     have t168 := (own_exa t142 K146)
     have t169 := (own_fld t145 K146 (own_nlb (Ne.symm ne31) (own_nlb (Ne.symm ne26) (own_nls (sn74 hw) (own_nls (sn75 hw) (own_nls (sn73 hw) (own_nlb (Ne.symm ne26) (own_nlb (Ne.symm ne26) own_nl0))))))))
     obtain ⟨cq170, kq170, q170a, q170b, q170c⟩ := isOf hZ e163 t149
     obtain ⟨_, _, ⟨T170, L170, kk170, nn170⟩, -, X170, ⟨Lc170, hQ170, l170, y170, z170⟩, st170⟩ := X163.virtualBack hx (y := ym5) (z := ym5) hown (mvT hZ (wk56 hw)) (mvT hZ (wk57 hw)) (notFace_of_selects (args := #[]) (mvT hZ (wk59 hw))) (mvT hZ (wk59 hw)) (mvT hZ (wk58 hw)) (by decide) (backOf (W := 0) (rm7_18 l Z a0 hw w hW [] b3 b13 b7 ((((0 : Int64) + p2) + p3) - p3) p3 T146.heap n0 O147 t165 t149 gg3 t166 t167 (Ne.symm ne26) gg13 r146_4 r146_3 r146_0 r146_1 t168 r146_2 (Ne.symm ne25) ne31 gg7 r146_5 r146_6 t169) hZ (wk60 hw) (wk3 hw) (by decide) (by decide)) q170a q170c (g := (mkF m 436 Lb164 [(.ref b13), (.ref b3)])) rfl (by rw [hml]; rfl) (Steps.refl _) (argsL := [(.ref b13)]) (rest := []) (lenOf pds_5 rfl) rfl (by show 2 * 0 + _ ≤ _; exact Nat.le_of_eq rfl) (hb hby at_436) (fun _ _ => ⟨rfl, e163, (by decide : 4 + 0 ≤ _), (by decide : 59 + 0 ≤ _)⟩)
     dsimp only [Pt.U, Pt.locs, Pt.cells, Pt.slots] at X170 l170 y170 z170 st170 hQ170
     rw [l170, y170, z170] at X170
     obtain ⟨rfl, N170q, K170, r170_0, r170_1, r170_2, r170_3, r170_4, r170_5, r170_6, r170_7, r170_8⟩ := hQ170
     have N170 := Fr.app N154 N170q
     have O171 := own_old O147 K170 (own_ngc gg3 (own_ngc gg13 (own_ngc gg13 (own_ngc gg13 (own_ngc gg13 (own_ngc gg7 (own_ngc gg3 (own_ngc gg3 (own_ngc gg3 own_ng0)))))))))
     obtain ⟨T172, X172, e172, st172⟩ := getF X170 hx hZ hown (host := "") (Or.inl (wk100 hw)) Via.refl rfl r170_4 (g := (mkF m 446 Lb164 [(.ref b13)])) rfl rfl (hb hby at_446)
     obtain ⟨T173, X173, e173, st173⟩ := getF X172 hx hZ hown (host := "") (Or.inl (wk101 hw)) Via.refl e172 r170_6 (g := (mkF m 498 Lb164 [(.ref b7)])) rfl rfl (hb hby at_498)
     obtain ⟨fs, hr, hrun, hended, hWm, hsame⟩ := X173.leave (v := some (.int (1 : Int32))) (fun h => by rw [Bd.returns] at h; cases h)
     refine ⟨_, _, pre151 _ ?_, hrun, hended, _, _, rfl, ?_, ⟨_, rfl⟩, hWm, hsame.mono (by decide) (by decide)⟩
     · show Steps p.tables e below (T150.setTop (mkF m 272 Lb141 [(.int (lcmpW ((((0 : Int64) + p2) + p3) - p3) p2))])) _
       refine sN X150 hx hby at_272 ((if0 _ _).trans (teq (((lw_eq _ _).mpr hc152) : (lcmpW ((((0 : Int64) + p2) + p3) - p3) p2) = (0 : Int32))).2) ?_
       refine sa X150 hx hby at_275 rfl rfl ?_
       refine st154.trans ?_
       refine sa X154 hx hby at_280 rfl rfl ?_
       refine Jvm.RoadKit.acmp (g := (mkF m 282 Lb141 [(.ref b7), (.ref b7)])) X154 hx rfl rfl rfl (pc0 := 282) (pc' := 285) (same := true) rfl (hb hby at_282) rfl (decide_eq_true rfl) (by decide) (by decide) ?_
       refine sc X154 hx hby at_285 ?_
       refine sg (pc := 286) (pc' := 290) X154 hx hby at_286 (by decide) (by decide) ?_
       refine XS.istore X154.here hx rfl (hb hby at_290) rfl (l' := Lb155) rfl ?_
       show Steps p.tables e below (T154.setTop (mkF m 292 Lb155 [])) _
       refine si X154 hx hby at_292 rfl ?_
       refine sN X154 hx hby at_294 (by decide) ?_
       refine sa X154 hx hby at_297 rfl rfl ?_
       refine st156 _ ?_
       refine XS.ifnonnullNo X156.here hx rfl (hb hby at_302) rfl ?_
       refine sa X156 hx hby at_305 rfl rfl ?_
       refine st157 _ ?_
       refine XS.ifnonnullNo X157.here hx rfl (hb hby at_310) rfl ?_
       refine sa X157 hx hby at_313 rfl rfl ?_
       refine st158 _ ?_
       refine XS.ifnonnullNo X158.here hx rfl (hb hby at_318) rfl ?_
       refine sc X158 hx hby at_321 ?_
       refine sg (pc := 322) (pc' := 326) X158 hx hby at_322 (by decide) (by decide) ?_
       refine XS.istore X158.here hx rfl (hb hby at_326) rfl (l' := Lb155) rfl ?_
       refine sa X158 hx hby at_328 rfl rfl ?_
       show Steps p.tables e below (T158.setTop (mkF m 330 Lb155 [(.ref b7)])) _
       refine XS.ifnullNo X158.here hx rfl (hb hby at_330) rfl ?_
       refine si X158 hx hby at_333 rfl ?_
       refine sN X158 hx hby at_335 (by decide) ?_
       refine sa X158 hx hby at_338 rfl rfl ?_
       refine st160 _ ?_
       refine XS.ifnonnullNo X160.here hx rfl (hb hby at_343) rfl ?_
       refine sa X160 hx hby at_346 rfl rfl ?_
       refine st161 _ ?_
       refine sa X161 hx hby at_351 rfl rfl ?_
       refine Jvm.RoadKit.acmp (g := (mkF m 353 Lb155 [.null, .null])) X161 hx rfl rfl rfl (pc0 := 353) (pc' := 356) (same := true) rfl (hb hby at_353) rfl (decide_eq_true rfl) (by decide) (by decide) ?_
       refine sa X161 hx hby at_356 rfl rfl ?_
       refine st163 _ ?_
       refine sa X163 hx hby at_361 rfl rfl ?_
       refine Jvm.RoadKit.acmp (g := (mkF m 363 Lb155 [(.ref b3), (.ref b3)])) X163 hx rfl rfl rfl (pc0 := 363) (pc' := 366) (same := true) rfl (hb hby at_363) rfl (decide_eq_true rfl) (by decide) (by decide) ?_
       refine sc X163 hx hby at_366 ?_
       refine sg (pc := 367) (pc' := 371) X163 hx hby at_367 (by decide) (by decide) ?_
       refine XS.istore X163.here hx rfl (hb hby at_371) rfl (l' := Lb155) rfl ?_
       show Steps p.tables e below (T163.setTop (mkF m 373 Lb155 [])) _
       refine sa X163 hx hby at_373 rfl rfl ?_
       refine XS.ifnullYes X163.here hx rfl (pc0 := 375) (pc' := 418) rfl (hb hby at_375) rfl (by decide) (by decide) ?_
       refine sa X163 hx hby at_418 rfl rfl ?_
       refine XS.ifnullYes X163.here hx rfl (pc0 := 420) (pc' := 428) rfl (hb hby at_420) rfl (by decide) (by decide) ?_
       refine sa X163 hx hby at_428 rfl rfl ?_
       show Steps p.tables e below (T163.setTop (mkF m 430 Lb155 [(.ref b7)])) _
       refine XS.astore X163.here hx rfl (hb hby at_430) rfl rfl (l' := Lb164) rfl ?_
       refine sa X163 hx hby at_432 rfl rfl ?_
       refine sa X163 hx hby at_434 rfl rfl ?_
       refine st170.trans ?_
       refine si X170 hx hby at_439 rfl ?_
       refine sN X170 hx hby at_441 (by decide) ?_
       refine sa X170 hx hby at_444 rfl rfl ?_
       refine st172 _ ?_
       refine sa X172 hx hby at_449 rfl rfl ?_
       refine Jvm.RoadKit.acmp (g := (mkF m 451 Lb164 [(.ref b7), (.ref b7)])) X172 hx rfl rfl rfl (pc0 := 451) (pc' := 454) (same := true) rfl (hb hby at_451) rfl (decide_eq_true rfl) (by decide) (by decide) ?_
       refine sc X172 hx hby at_454 ?_
       refine sg (pc := 455) (pc' := 459) X172 hx hby at_455 (by decide) (by decide) ?_
       refine XS.istore X172.here hx rfl (hb hby at_459) rfl (l' := Lb164) rfl ?_
       show Steps p.tables e below (T172.setTop (mkF m 461 Lb164 [])) _
       refine sa X172 hx hby at_461 rfl rfl ?_
       refine XS.ifnonnullYes X172.here hx rfl (pc0 := 463) (pc' := 491) rfl (hb hby at_463) rfl (by decide) (by decide) ?_
       refine si X172 hx hby at_491 rfl ?_
       refine sN X172 hx hby at_493 (by decide) ?_
       refine sa X172 hx hby at_496 rfl rfl ?_
       show Steps p.tables e below (T172.setTop (mkF m 498 Lb164 [(.ref b7)])) _
       refine st173 _ ?_
       refine sa X173 hx hby at_501 rfl rfl ?_
       refine Jvm.RoadKit.acmp (g := (mkF m 503 Lb164 [(.ref b13), (.ref b13)])) X173 hx rfl rfl rfl (pc0 := 503) (pc' := 506) (same := true) rfl (hb hby at_503) rfl (decide_eq_true rfl) (by decide) (by decide) ?_
       refine sc X173 hx hby at_506 ?_
       refine sg (pc := 507) (pc' := 511) X173 hx hby at_507 (by decide) (by decide) ?_
       refine XS.istore X173.here hx rfl (hb hby at_511) rfl (l' := Lb164) rfl ?_
       show Steps p.tables e below (T173.setTop (mkF m 513 Lb164 [])) _
       refine si X173 hx hby at_513 rfl ?_
       exact retN X173 hx (t := .boolean) Bd.returns (by simp) (hb hby at_515) hr
     · show Q0 n0 _ T173.heap _
       rw [e173]
       exact ⟨rfl, N170⟩
    ·
     exfalso
     have z10 : (((((0 : Int64) + p2) + p3) - p3)).toInt ≠ (p2).toInt := fun q => hc152 (Int64.toInt_inj.mp q)
     have z1 := rng64 ((((0 : Int64) + p2) + p3) - p3)
     have z2 := rng64 (((0 : Int64) + p2) + p3)
     have z3 := rng64 ((0 : Int64) + p2)
     have z4 : ((0 : Int64)).toInt = 0 := by decide
     have z5 := rng64 p2
     have z6 := c_ladd (0 : Int64) p2
     have z7 := rng64 p3
     have z8 := c_ladd ((0 : Int64) + p2) p3
     have z9 := c_lsub (((0 : Int64) + p2) + p3) p3
     omega
  ·
   rw [hs45] at pre44
   let Lb174 : Array Slot := #[.val (.int p0), .val (.int p1), .val (.long p2), .second, .val (.long p3), .second, .val (.long p4), .second, .val (.int (3 : Int32)), .val (.int ((p1 &&& (2147483647 : Int32)) % (3 : Int32))), .val (.ref b3), .val (.ref b7), .val (.ref b13), .val (.ref b19), .unset, .unset, .unset, .unset, .unset, .unset, .unset]
   have t175 := (own_exa t29 K42)
   have t176 := (own_exa (own_exa ((own_exa A13 K16).ext E19) K22) K42)
   have ne177 : b13 ≠ b19 := (Nat.ne_of_lt (Nat.lt_of_lt_of_le (Nat.lt_of_lt_of_le A13.lt K16.1) (Nat.le_of_eq g19.symm)))
   have t178 := (own_fld (own_fld ((own_fld i13_64 K16 (own_nls (sn99 hw) (own_nls (sn98 hw) (own_nls (sn97 hw) (own_nls (sn96 hw) (own_nls (sn95 hw) (own_nls (sn94 hw) (own_nls (sn93 hw) (own_nls (sn92 hw) own_nl0))))))))).ext E19) K22 (own_nlb ne177 (own_nlb ne177 (own_nlb ne177 (own_nlb ne177 (own_nlb ne177 (own_nlb ne177 (own_nlb ne177 (own_nlb ne177 own_nl0))))))))) K42 (own_nlb (Ne.symm ne26) (own_nlb (Ne.symm ne31) (own_nlb (Ne.symm ne31) (own_nlb (Ne.symm ne31) (own_nlb (Ne.symm ne31) (own_nlb (Ne.symm ne26) (own_nlb (Ne.symm ne26) (own_nlb (Ne.symm ne26) (own_nlb (Ne.symm ne26) own_nl0))))))))))
   have t179 := (own_fld (own_fld ((own_fld i13_66 K16 (own_nls (sn107 hw) (own_nls (sn106 hw) (own_nls (sn105 hw) (own_nls (sn104 hw) (own_nls (sn103 hw) (own_nls (sn102 hw) (own_nls (sn101 hw) (own_nls (sn100 hw) own_nl0))))))))).ext E19) K22 (own_nlb ne177 (own_nlb ne177 (own_nlb ne177 (own_nlb ne177 (own_nlb ne177 (own_nlb ne177 (own_nlb ne177 (own_nlb ne177 own_nl0))))))))) K42 (own_nlb (Ne.symm ne26) (own_nlb (Ne.symm ne31) (own_nlb (Ne.symm ne31) (own_nlb (Ne.symm ne31) (own_nlb (Ne.symm ne31) (own_nlb (Ne.symm ne26) (own_nlb (Ne.symm ne26) (own_nlb (Ne.symm ne26) (own_nlb (Ne.symm ne26) own_nl0))))))))))
   have t180 := (own_fld (own_fld ((own_fld i13_70 K16 (own_nls (sn115 hw) (own_nls (sn114 hw) (own_nls (sn113 hw) (own_nls (sn112 hw) (own_nls (sn111 hw) (own_nls (sn110 hw) (own_nls (sn109 hw) (own_nls (sn108 hw) own_nl0))))))))).ext E19) K22 (own_nlb ne177 (own_nlb ne177 (own_nlb ne177 (own_nlb ne177 (own_nlb ne177 (own_nlb ne177 (own_nlb ne177 (own_nlb ne177 own_nl0))))))))) K42 (own_nlb (Ne.symm ne26) (own_nlb (Ne.symm ne31) (own_nlb (Ne.symm ne31) (own_nlb (Ne.symm ne31) (own_nlb (Ne.symm ne31) (own_nlb (Ne.symm ne26) (own_nlb (Ne.symm ne26) (own_nlb (Ne.symm ne26) (own_nlb (Ne.symm ne26) own_nl0))))))))))
   have t181 := (own_fld (own_fld ((own_fld i13_72 K16 (own_nls (sn123 hw) (own_nls (sn122 hw) (own_nls (sn121 hw) (own_nls (sn120 hw) (own_nls (sn119 hw) (own_nls (sn118 hw) (own_nls (sn117 hw) (own_nls (sn116 hw) own_nl0))))))))).ext E19) K22 (own_nlb ne177 (own_nlb ne177 (own_nlb ne177 (own_nlb ne177 (own_nlb ne177 (own_nlb ne177 (own_nlb ne177 (own_nlb ne177 own_nl0))))))))) K42 (own_nlb (Ne.symm ne26) (own_nlb (Ne.symm ne31) (own_nlb (Ne.symm ne31) (own_nlb (Ne.symm ne31) (own_nlb (Ne.symm ne31) (own_nlb (Ne.symm ne26) (own_nlb (Ne.symm ne26) (own_nlb (Ne.symm ne26) (own_nlb (Ne.symm ne26) own_nl0))))))))))
   have t182 := (own_exa t30 K42)
   have t183 := (own_fld (own_fld (r16_2.ext E19) K22 (own_nlb ne177 (own_nlb ne177 (own_nlb ne177 (own_nlb ne177 (own_nlb ne177 (own_nlb ne177 (own_nlb ne177 (own_nlb ne177 own_nl0))))))))) K42 (own_nlb (Ne.symm ne26) (own_nlb (Ne.symm ne31) (own_nlb (Ne.symm ne31) (own_nlb (Ne.symm ne31) (own_nlb (Ne.symm ne31) (own_nlb (Ne.symm ne26) (own_nlb (Ne.symm ne26) (own_nlb (Ne.symm ne26) (own_nlb (Ne.symm ne26) own_nl0))))))))))
   obtain ⟨cq184, kq184, q184a, q184b, q184c⟩ := isOf hZ rfl t175
   obtain ⟨_, _, ⟨T184, L184, kk184, nn184⟩, -, X184, ⟨Lc184, hQ184, l184, y184, z184⟩, st184⟩ := X42.virtualBack hx (y := ym5) (z := ym5) hown (mvT hZ (wk56 hw)) (mvT hZ (wk57 hw)) (notFace_of_selects (args := #[]) (mvT hZ (wk59 hw))) (mvT hZ (wk59 hw)) (mvT hZ (wk58 hw)) (by decide) (backOf (W := 0) (rm7_13 l Z a0 hw w hW [] b3 b13 b7 ((0 : Int64) + p2) p3 T42.heap n0 O43 r42_0 t175 gg3 t176 t178 (Ne.symm ne26) gg13 t179 r42_3 t180 t181 t182 r42_5 (Ne.symm ne25) ne31 gg7 r42_7 r42_8 t183) hZ (wk60 hw) (wk3 hw) (by decide) (by decide)) q184a q184c (g := (mkF m 95 Lb174 [(.ref b13), (.ref b3)])) rfl (by rw [hml]; rfl) (Steps.refl _) (argsL := [(.ref b13)]) (rest := []) (lenOf pds_5 rfl) rfl (by show 2 * 0 + _ ≤ _; exact Nat.le_of_eq rfl) (hb hby at_95) (fun _ _ => ⟨rfl, rfl, (by decide : 4 + 0 ≤ _), (by decide : 59 + 0 ≤ _)⟩)
   dsimp only [Pt.U, Pt.locs, Pt.cells, Pt.slots] at X184 l184 y184 z184 st184 hQ184
   rw [l184, y184, z184] at X184
   obtain ⟨rfl, N184q, K184, r184_0, r184_1, r184_2, r184_3, r184_4, r184_5, r184_6, r184_7, r184_8⟩ := hQ184
   have N184 := Fr.app N42 N184q
   have O185 := own_old O43 K184 (own_ngc gg3 (own_ngc gg13 (own_ngc gg13 (own_ngc gg13 (own_ngc gg13 (own_ngc gg7 (own_ngc gg3 (own_ngc gg3 (own_ngc gg3 own_ng0)))))))))
   have t186 := (own_exa t175 K184)
   have t187 := (own_exa (own_exa (own_exa A19 K22) K42) K184)
   have t188 := (own_fld (own_fld (own_fld i19_64 K22 (own_nls (sn99 hw) (own_nls (sn98 hw) (own_nls (sn97 hw) (own_nls (sn96 hw) (own_nls (sn95 hw) (own_nls (sn94 hw) (own_nls (sn93 hw) (own_nls (sn92 hw) own_nl0))))))))) K42 (own_nlb (Ne.symm ne27) (own_nlb (Ne.symm ne32) (own_nlb (Ne.symm ne32) (own_nlb (Ne.symm ne32) (own_nlb (Ne.symm ne32) (own_nlb (Ne.symm ne27) (own_nlb (Ne.symm ne27) (own_nlb (Ne.symm ne27) (own_nlb (Ne.symm ne27) own_nl0)))))))))) K184 (own_nlb (Ne.symm ne27) (own_nlb (Ne.symm ne177) (own_nlb (Ne.symm ne177) (own_nlb (Ne.symm ne177) (own_nlb (Ne.symm ne177) (own_nlb (Ne.symm ne32) (own_nlb (Ne.symm ne27) (own_nlb (Ne.symm ne27) (own_nlb (Ne.symm ne27) own_nl0))))))))))
   have t189 := (own_fld (own_fld (own_fld i19_66 K22 (own_nls (sn107 hw) (own_nls (sn106 hw) (own_nls (sn105 hw) (own_nls (sn104 hw) (own_nls (sn103 hw) (own_nls (sn102 hw) (own_nls (sn101 hw) (own_nls (sn100 hw) own_nl0))))))))) K42 (own_nlb (Ne.symm ne27) (own_nlb (Ne.symm ne32) (own_nlb (Ne.symm ne32) (own_nlb (Ne.symm ne32) (own_nlb (Ne.symm ne32) (own_nlb (Ne.symm ne27) (own_nlb (Ne.symm ne27) (own_nlb (Ne.symm ne27) (own_nlb (Ne.symm ne27) own_nl0)))))))))) K184 (own_nlb (Ne.symm ne27) (own_nlb (Ne.symm ne177) (own_nlb (Ne.symm ne177) (own_nlb (Ne.symm ne177) (own_nlb (Ne.symm ne177) (own_nlb (Ne.symm ne32) (own_nlb (Ne.symm ne27) (own_nlb (Ne.symm ne27) (own_nlb (Ne.symm ne27) own_nl0))))))))))
   have t190 := (own_fld (own_fld (own_fld i19_70 K22 (own_nls (sn115 hw) (own_nls (sn114 hw) (own_nls (sn113 hw) (own_nls (sn112 hw) (own_nls (sn111 hw) (own_nls (sn110 hw) (own_nls (sn109 hw) (own_nls (sn108 hw) own_nl0))))))))) K42 (own_nlb (Ne.symm ne27) (own_nlb (Ne.symm ne32) (own_nlb (Ne.symm ne32) (own_nlb (Ne.symm ne32) (own_nlb (Ne.symm ne32) (own_nlb (Ne.symm ne27) (own_nlb (Ne.symm ne27) (own_nlb (Ne.symm ne27) (own_nlb (Ne.symm ne27) own_nl0)))))))))) K184 (own_nlb (Ne.symm ne27) (own_nlb (Ne.symm ne177) (own_nlb (Ne.symm ne177) (own_nlb (Ne.symm ne177) (own_nlb (Ne.symm ne177) (own_nlb (Ne.symm ne32) (own_nlb (Ne.symm ne27) (own_nlb (Ne.symm ne27) (own_nlb (Ne.symm ne27) own_nl0))))))))))
   have t191 := (own_fld (own_fld (own_fld i19_72 K22 (own_nls (sn123 hw) (own_nls (sn122 hw) (own_nls (sn121 hw) (own_nls (sn120 hw) (own_nls (sn119 hw) (own_nls (sn118 hw) (own_nls (sn117 hw) (own_nls (sn116 hw) own_nl0))))))))) K42 (own_nlb (Ne.symm ne27) (own_nlb (Ne.symm ne32) (own_nlb (Ne.symm ne32) (own_nlb (Ne.symm ne32) (own_nlb (Ne.symm ne32) (own_nlb (Ne.symm ne27) (own_nlb (Ne.symm ne27) (own_nlb (Ne.symm ne27) (own_nlb (Ne.symm ne27) own_nl0)))))))))) K184 (own_nlb (Ne.symm ne27) (own_nlb (Ne.symm ne177) (own_nlb (Ne.symm ne177) (own_nlb (Ne.symm ne177) (own_nlb (Ne.symm ne177) (own_nlb (Ne.symm ne32) (own_nlb (Ne.symm ne27) (own_nlb (Ne.symm ne27) (own_nlb (Ne.symm ne27) own_nl0))))))))))
   have t192 := (own_exa t176 K184)
   have t193 := (own_fld (own_fld r22_2 K42 (own_nlb (Ne.symm ne27) (own_nlb (Ne.symm ne32) (own_nlb (Ne.symm ne32) (own_nlb (Ne.symm ne32) (own_nlb (Ne.symm ne32) (own_nlb (Ne.symm ne27) (own_nlb (Ne.symm ne27) (own_nlb (Ne.symm ne27) (own_nlb (Ne.symm ne27) own_nl0)))))))))) K184 (own_nlb (Ne.symm ne27) (own_nlb (Ne.symm ne177) (own_nlb (Ne.symm ne177) (own_nlb (Ne.symm ne177) (own_nlb (Ne.symm ne177) (own_nlb (Ne.symm ne32) (own_nlb (Ne.symm ne27) (own_nlb (Ne.symm ne27) (own_nlb (Ne.symm ne27) own_nl0))))))))))
   obtain ⟨cq194, kq194, q194a, q194b, q194c⟩ := isOf hZ rfl t186
   obtain ⟨_, _, ⟨T194, L194, kk194, nn194⟩, -, X194, ⟨Lc194, hQ194, l194, y194, z194⟩, st194⟩ := X184.virtualBack hx (y := ym5) (z := ym5) hown (mvT hZ (wk56 hw)) (mvT hZ (wk57 hw)) (notFace_of_selects (args := #[]) (mvT hZ (wk59 hw))) (mvT hZ (wk59 hw)) (mvT hZ (wk58 hw)) (by decide) (backOf (W := 0) (rm7_19 l Z a0 hw w hW [] b3 b19 b13 (((0 : Int64) + p2) + p3) p4 T184.heap n0 O185 r184_0 t186 gg3 t187 t188 (Ne.symm ne27) gg19 t189 r184_3 t190 t191 t192 r184_5 (Ne.symm ne26) ne177 gg13 r184_7 r184_8 t193) hZ (wk60 hw) (wk3 hw) (by decide) (by decide)) q194a q194c (g := (mkF m 108 Lb174 [(.ref b19), (.ref b3)])) rfl (by rw [hml]; rfl) (Steps.refl _) (argsL := [(.ref b19)]) (rest := []) (lenOf pds_5 rfl) rfl (by show 2 * 0 + _ ≤ _; exact Nat.le_of_eq rfl) (hb hby at_108) (fun _ _ => ⟨rfl, rfl, (by decide : 4 + 0 ≤ _), (by decide : 59 + 0 ≤ _)⟩)
   dsimp only [Pt.U, Pt.locs, Pt.cells, Pt.slots] at X194 l194 y194 z194 st194 hQ194
   rw [l194, y194, z194] at X194
   obtain ⟨rfl, N194q, K194, r194_0, r194_1, r194_2, r194_3, r194_4, r194_5, r194_6, r194_7, r194_8⟩ := hQ194
   have N194 := Fr.app N184 N194q
   have O195 := own_old O185 K194 (own_ngc gg3 (own_ngc gg19 (own_ngc gg19 (own_ngc gg19 (own_ngc gg19 (own_ngc gg13 (own_ngc gg3 (own_ngc gg3 (own_ngc gg3 own_ng0)))))))))
   have pre196 : ∀ t, Steps p.tables e below (T194.setTop (mkF m 113 #[.val (.int p0), .val (.int p1), .val (.long p2), .second, .val (.long p3), .second, .val (.long p4), .second, .val (.int (3 : Int32)), .val (.int ((p1 &&& (2147483647 : Int32)) % (3 : Int32))), .val (.ref b3), .val (.ref b7), .val (.ref b13), .val (.ref b19), .unset, .unset, .unset, .unset, .unset, .unset, .unset] [(.int ((p1 &&& (2147483647 : Int32)) % (3 : Int32)))])) t → Steps p.tables e below (s₁.setTop (entryFrame m #[(.int p0), (.int p1), (.long p2), (.long p3), (.long p4)] maxLocals)) t := fun t k => pre44 t (by
    show Steps p.tables e below (T42.setTop (mkF m 88 Lb174 [(.int (2 : Int32)), (.int (3 : Int32))])) _
    refine sn X42 hx hby at_88 (by decide) ?_
    refine sa X42 hx hby at_91 rfl rfl ?_
    refine sa X42 hx hby at_93 rfl rfl ?_
    refine st184.trans ?_
    refine si X184 hx hby at_98 rfl ?_
    refine sc X184 hx hby at_100 ?_
    refine sn X184 hx hby at_101 (by decide) ?_
    refine sa X184 hx hby at_104 rfl rfl ?_
    refine sa X184 hx hby at_106 rfl rfl ?_
    show Steps p.tables e below (T184.setTop (mkF m 108 Lb174 [(.ref b19), (.ref b3)])) _
    refine st194.trans ?_
    refine si X194 hx hby at_111 rfl ?_
    exact k)
   rcases (own_rem3 p1) with hs197 | hs197 | hs197
   ·
    rw [hs197] at pre196
    let Lb198 : Array Slot := #[.val (.int p0), .val (.int p1), .val (.long p2), .second, .val (.long p3), .second, .val (.long p4), .second, .val (.int (3 : Int32)), .val (.int (0 : Int32)), .val (.ref b3), .val (.ref b7), .val (.ref b13), .val (.ref b19), .unset, .unset, .unset, .unset, .unset, .unset, .unset]
    let Lb199 : Array Slot := #[.val (.int p0), .val (.int p1), .val (.long p2), .second, .val (.long p3), .second, .val (.long p4), .second, .val (.int (3 : Int32)), .val (.int (0 : Int32)), .val (.ref b3), .val (.ref b7), .val (.ref b13), .val (.ref b19), .val (.ref b7), .unset, .unset, .unset, .unset, .unset, .unset]
    let Lb200 : Array Slot := #[.val (.int p0), .val (.int p1), .val (.long p2), .second, .val (.long p3), .second, .val (.long p4), .second, .val (.int (3 : Int32)), .val (.int (0 : Int32)), .val (.ref b3), .val (.ref b7), .val (.ref b13), .val (.ref b19), .val (.ref b7), .val .null, .unset, .unset, .unset, .unset, .unset]
    let Lb201 : Array Slot := #[.val (.int p0), .val (.int p1), .val (.long p2), .second, .val (.long p3), .second, .val (.long p4), .second, .val (.int (3 : Int32)), .val (.int (0 : Int32)), .val (.ref b3), .val (.ref b7), .val (.ref b13), .val (.ref b19), .val (.ref b7), .val .null, .val .null, .unset, .unset, .unset, .unset]
    let Lb202 : Array Slot := #[.val (.int p0), .val (.int p1), .val (.long p2), .second, .val (.long p3), .second, .val (.long p4), .second, .val (.int (3 : Int32)), .val (.int (0 : Int32)), .val (.ref b3), .val (.ref b7), .val (.ref b13), .val (.ref b19), .val (.ref b7), .val .null, .val .null, .val (.long (0 : Int64)), .second, .unset, .unset]
    let Lb203 : Array Slot := #[.val (.int p0), .val (.int p1), .val (.long p2), .second, .val (.long p3), .second, .val (.long p4), .second, .val (.int (3 : Int32)), .val (.int (0 : Int32)), .val (.ref b3), .val (.ref b7), .val (.ref b13), .val (.ref b19), .val (.ref b7), .val (.ref b13), .val .null, .val (.long (0 : Int64)), .second, .unset, .unset]
    let Lb204 : Array Slot := #[.val (.int p0), .val (.int p1), .val (.long p2), .second, .val (.long p3), .second, .val (.long p4), .second, .val (.int (3 : Int32)), .val (.int (0 : Int32)), .val (.ref b3), .val (.ref b7), .val (.ref b13), .val (.ref b19), .val (.ref b7), .val (.ref b13), .val (.ref b19), .val (.long (0 : Int64)), .second, .unset, .unset]
    let Lb205 : Array Slot := #[.val (.int p0), .val (.int p1), .val (.long p2), .second, .val (.long p3), .second, .val (.long p4), .second, .val (.int (3 : Int32)), .val (.int (0 : Int32)), .val (.ref b3), .val (.ref b7), .val (.ref b13), .val (.ref b19), .val (.ref b7), .val (.ref b13), .val (.ref b19), .val (.long (p3 + p4)), .second, .unset, .unset]
    have t206 := (own_fld (own_fld r42_4 K184 (own_nlb (Ne.symm ne25) (own_nlb ne31 (own_nlb ne31 (own_nlb ne31 (own_nlb ne31 (own_nls (sn87 hw) (own_nlb (Ne.symm ne25) (own_nlb (Ne.symm ne25) (own_nlb (Ne.symm ne25) own_nl0)))))))))) K194 (own_nlb (Ne.symm ne25) (own_nlb ne32 (own_nlb ne32 (own_nlb ne32 (own_nlb ne32 (own_nlb ne31 (own_nlb (Ne.symm ne25) (own_nlb (Ne.symm ne25) (own_nlb (Ne.symm ne25) own_nl0))))))))))
    have t207 := (own_fld r184_6 K194 (own_nlb (Ne.symm ne25) (own_nlb ne32 (own_nlb ne32 (own_nlb ne32 (own_nlb ne32 (own_nlb ne31 (own_nlb (Ne.symm ne25) (own_nlb (Ne.symm ne25) (own_nlb (Ne.symm ne25) own_nl0))))))))))
    have t208 := (own_exa t186 K194)
    have t209 := (own_fld (own_fld r42_6 K184 (own_nls (sn63 hw) (own_nlb ne26 (own_nlb ne26 (own_nlb ne26 (own_nlb ne26 (own_nlb ne25 (own_nls (sn88 hw) (own_nls (sn89 hw) (own_nls (sn90 hw) own_nl0)))))))))) K194 (own_nls (sn63 hw) (own_nlb ne27 (own_nlb ne27 (own_nlb ne27 (own_nlb ne27 (own_nlb ne26 (own_nls (sn88 hw) (own_nls (sn89 hw) (own_nls (sn90 hw) own_nl0))))))))))
    have t210 := (own_exa t192 K194)
    have t211 := (own_fld r184_4 K194 (own_nlb (Ne.symm ne26) (own_nlb ne177 (own_nlb ne177 (own_nlb ne177 (own_nlb ne177 (own_nls (sn87 hw) (own_nlb (Ne.symm ne26) (own_nlb (Ne.symm ne26) (own_nlb (Ne.symm ne26) own_nl0))))))))))
    have t212 := (own_exa (own_exa t182 K184) K194)
    have t213 := (own_fld (own_fld r42_2 K184 (own_nlb (Ne.symm ne25) (own_nlb ne31 (own_nlb ne31 (own_nlb ne31 (own_nlb ne31 (own_nls (sn84 hw) (own_nlb (Ne.symm ne25) (own_nlb (Ne.symm ne25) (own_nlb (Ne.symm ne25) own_nl0)))))))))) K194 (own_nlb (Ne.symm ne25) (own_nlb ne32 (own_nlb ne32 (own_nlb ne32 (own_nlb ne32 (own_nlb ne31 (own_nlb (Ne.symm ne25) (own_nlb (Ne.symm ne25) (own_nlb (Ne.symm ne25) own_nl0))))))))))
    have t214 := (own_fld (own_fld (own_fld t41 K42 (own_nlb (Ne.symm ne25) (own_nls (sn72 hw) (own_nls (sn73 hw) (own_nls (sn74 hw) (own_nls (sn75 hw) (own_nlb (Ne.symm ne25) (own_nlb (Ne.symm ne25) (own_nlb (Ne.symm ne25) (own_nlb (Ne.symm ne25) own_nl0)))))))))) K184 (own_nlb (Ne.symm ne25) (own_nlb ne31 (own_nlb ne31 (own_nlb ne31 (own_nlb ne31 (own_nls (sn75 hw) (own_nlb (Ne.symm ne25) (own_nlb (Ne.symm ne25) (own_nlb (Ne.symm ne25) own_nl0)))))))))) K194 (own_nlb (Ne.symm ne25) (own_nlb ne32 (own_nlb ne32 (own_nlb ne32 (own_nlb ne32 (own_nlb ne31 (own_nlb (Ne.symm ne25) (own_nlb (Ne.symm ne25) (own_nlb (Ne.symm ne25) own_nl0))))))))))
    obtain ⟨cq215, kq215, q215a, q215b, q215c⟩ := isOf hZ rfl t208
    obtain ⟨_, _, ⟨T215, L215, kk215, nn215⟩, -, X215, ⟨Lc215, hQ215, l215, y215, z215⟩, st215⟩ := X194.virtualBack hx (y := ym6) (z := ym6) hown (mvT hZ (wk80 hw)) (mvT hZ (wk81 hw)) (notFace_of_selects (args := #[]) (mvT hZ (wk83 hw))) (mvT hZ (wk83 hw)) (mvT hZ (wk82 hw)) (by decide) (backOf (W := 0) (rm8_20 l Z a0 hw w hW [] b3 b7 b13 ((((0 : Int64) + p2) + p3) + p4) p2 T194.heap n0 O195 t206 t207 t208 t209 gg3 (Ne.symm ne25) t210 t211 (Ne.symm ne26) gg13 t212 ne31 gg7 t213 r194_7 r194_8 t214) hZ (wk84 hw) (wk3 hw) (by decide) (by decide)) q215a q215c (g := (mkF m 247 Lb205 [(.ref b7), (.ref b3)])) rfl (by rw [hml]; rfl) (Steps.refl _) (argsL := [(.ref b7)]) (rest := []) (lenOf pds_5 rfl) rfl (by show 2 * 0 + _ ≤ _; exact Nat.le_of_eq rfl) (hb hby at_247) (fun _ _ => ⟨rfl, rfl, (by decide : 4 + 0 ≤ _), (by decide : 59 + 0 ≤ _)⟩)
    dsimp only [Pt.U, Pt.locs, Pt.cells, Pt.slots] at X215 l215 y215 z215 st215 hQ215
    rw [l215, y215, z215] at X215
    obtain ⟨rfl, N215q, K215, r215_0, r215_1, r215_2, r215_3, r215_4, r215_5, r215_6⟩ := hQ215
    have N215 := Fr.app N194 N215q
    have O216 := own_old O195 K215 (own_ngc gg3 (own_ngc gg13 (own_ngc gg7 (own_ngc gg7 (own_ngc gg7 (own_ngc gg3 (own_ngc gg3 own_ng0)))))))
    have t218 := (own_exa t208 K215)
    obtain ⟨cq217, kq217, q217a, q217b, q217c⟩ := isOf hZ rfl t218
    obtain ⟨_, _, ⟨T217, L217, kk217, nn217⟩, -, X217, ⟨Lc217, hQ217, l217, y217, z217⟩, st217⟩ := X215.virtualBack hx (y := ym7) (z := ym7) hown (mvT hZ (wk85 hw)) (mvT hZ (wk86 hw)) (notFace_of_selects (args := #[]) (mvT hZ (wk88 hw))) (mvT hZ (wk88 hw)) (mvT hZ (wk87 hw)) (by decide) (backOf (W := 0) (rm9_21 l Z a0 hw w hW [] b3 T215.heap n0 O216 r215_5) hZ (wk89 hw) (wk3 hw) (by decide) (by decide)) q217a q217c (g := (mkF m 252 Lb205 [(.ref b3)])) rfl (by rw [hml]; rfl) (Steps.refl _) (argsL := []) (rest := []) (lenOf pds_6 rfl) rfl (by show 2 * 0 + _ ≤ _; exact Nat.le_of_eq rfl) (hb hby at_252) (fun _ _ => ⟨rfl, rfl, (by decide : 4 + 0 ≤ _), (by decide : 59 + 0 ≤ _)⟩)
    dsimp only [Pt.U, Pt.locs, Pt.cells, Pt.slots] at X217 l217 y217 z217 st217 hQ217
    rw [l217, y217, z217] at X217
    obtain ⟨rfl, N217q, e217⟩ := hQ217
    have N217 := Fr.app N215 N217q
    obtain ⟨cq219, kq219, q219a, q219b, q219c⟩ := isOf hZ e217 t218
    obtain ⟨_, _, ⟨T219, L219, kk219, nn219⟩, -, X219, ⟨Lc219, hQ219, l219, y219, z219⟩, st219⟩ := X217.virtualBack hx (y := ym8) (z := ym8) hown (mvT hZ (wk90 hw)) (mvT hZ (wk91 hw)) (notFace_of_selects (args := #[]) (mvT hZ (wk93 hw))) (mvT hZ (wk93 hw)) (mvT hZ (wk92 hw)) (by decide) (backOf (W := 0) (rm10_9 l Z a0 hw w hW [] b3 (((((0 : Int64) + p2) + p3) + p4) - p2) T215.heap n0 O216 r215_6) hZ (wk94 hw) (wk3 hw) (by decide) (by decide)) q219a q219c (g := (mkF m 266 Lb205 [(.ref b3)])) rfl (by rw [hml]; rfl) (Steps.refl _) (argsL := []) (rest := []) (lenOf pds_6 rfl) rfl (by show 2 * 0 + _ ≤ _; exact Nat.le_of_eq rfl) (hb hby at_266) (fun _ _ => ⟨rfl, e217, (by decide : 4 + 0 ≤ _), (by decide : 59 + 0 ≤ _)⟩)
    dsimp only [Pt.U, Pt.locs, Pt.cells, Pt.slots] at X219 l219 y219 z219 st219 hQ219
    rw [l219, y219, z219] at X219
    obtain ⟨rfl, N219q, e219⟩ := hQ219
    have N219 := Fr.app N217 N219q
    have pre220 : ∀ t, Steps p.tables e below (T219.setTop (mkF m 272 Lb205 [(.int (lcmpW (((((0 : Int64) + p2) + p3) + p4) - p2) (p3 + p4)))])) t → Steps p.tables e below (s₁.setTop (entryFrame m #[(.int p0), (.int p1), (.long p2), (.long p3), (.long p4)] maxLocals)) t := fun t k => pre196 t (by
     show Steps p.tables e below (T194.setTop (mkF m 113 Lb198 [(.int (0 : Int32))])) _
     refine sN X194 hx hby at_113 (by decide) ?_
     refine sa X194 hx hby at_116 rfl rfl ?_
     refine sg (pc := 118) (pc' := 134) X194 hx hby at_118 (by decide) (by decide) ?_
     refine XS.astore X194.here hx rfl (hb hby at_134) rfl rfl (l' := Lb199) rfl ?_
     refine XS.aconstNull X194.here hx rfl (hb hby at_136) ?_
     show Steps p.tables e below (T194.setTop (mkF m 137 Lb199 [.null])) _
     refine XS.astore X194.here hx rfl (hb hby at_137) rfl rfl (l' := Lb200) rfl ?_
     refine XS.aconstNull X194.here hx rfl (hb hby at_139) ?_
     refine XS.astore X194.here hx rfl (hb hby at_140) rfl rfl (l' := Lb201) rfl ?_
     refine XS.lconst X194.here hx rfl (hb hby at_142) ?_
     refine XS.lstore X194.here hx rfl (hb hby at_143) rfl (l' := Lb202) rfl ?_
     show Steps p.tables e below (T194.setTop (mkF m 145 Lb202 [])) _
     refine si X194 hx hby at_145 rfl ?_
     refine sc X194 hx hby at_147 ?_
     refine XS.icmpYes X194.here hx rfl (pc0 := 148) (pc' := 177) rfl (hb hby at_148) rfl (by decide) (by decide) (by decide) ?_
     refine si X194 hx hby at_177 rfl ?_
     refine sc X194 hx hby at_179 ?_
     show Steps p.tables e below (T194.setTop (mkF m 180 Lb202 [(.int (3 : Int32)), (.int (3 : Int32))])) _
     refine sn X194 hx hby at_180 (by decide) ?_
     refine si X194 hx hby at_183 rfl ?_
     refine sN X194 hx hby at_185 (by decide) ?_
     refine sa X194 hx hby at_188 rfl rfl ?_
     refine XS.astore X194.here hx rfl (hb hby at_190) rfl rfl (l' := Lb203) rfl ?_
     show Steps p.tables e below (T194.setTop (mkF m 192 Lb203 [])) _
     refine sa X194 hx hby at_192 rfl rfl ?_
     refine XS.astore X194.here hx rfl (hb hby at_194) rfl rfl (l' := Lb204) rfl ?_
     refine XS.lload X194.here hx rfl (hb hby at_196) rfl ?_
     refine XS.lload X194.here hx rfl (hb hby at_198) rfl ?_
     refine XS.ladd X194.here hx rfl (hb hby at_200) rfl ?_
     show Steps p.tables e below (T194.setTop (mkF m 201 Lb204 [(.long (p3 + p4))])) _
     refine XS.lstore X194.here hx rfl (hb hby at_201) rfl (l' := Lb205) rfl ?_
     refine sg (pc := 203) (pc' := 243) X194 hx hby at_203 (by decide) (by decide) ?_
     refine sa X194 hx hby at_243 rfl rfl ?_
     refine sa X194 hx hby at_245 rfl rfl ?_
     refine st215.trans ?_
     refine sa X215 hx hby at_250 rfl rfl ?_
     refine st217.trans ?_
     refine si X217 hx hby at_255 rfl ?_
     refine sc X217 hx hby at_257 ?_
     refine XS.isub X217.here hx rfl (hb hby at_258) rfl ?_
     refine XS.i2l X217.here hx rfl (hb hby at_259) rfl ?_
     refine XS.lcmp X217.here hx rfl (hb hby at_260) rfl ?_
     show Steps p.tables e below (T217.setTop (mkF m 261 Lb205 [(.int (0 : Int32))])) _
     refine sN X217 hx hby at_261 (by decide) ?_
     refine sa X217 hx hby at_264 rfl rfl ?_
     refine st219.trans ?_
     refine XS.lload X219.here hx rfl (hb hby at_269) rfl ?_
     refine XS.lcmp X219.here hx rfl (hb hby at_271) rfl ?_
     exact k)
    by_cases hc221 : (((((0 : Int64) + p2) + p3) + p4) - p2) = (p3 + p4)
    ·
     obtain ⟨cq222, kq222, q222a, q222b, q222c⟩ := isOf hZ e219 t218
     obtain ⟨_, _, ⟨T222, L222, kk222, nn222⟩, -, X222, ⟨Lc222, hQ222, l222, y222, z222⟩, st222⟩ := X219.virtualBack hx (y := ym9) (z := ym9) hown (mvT hZ (wk95 hw)) (mvT hZ (wk96 hw)) (notFace_of_selects (args := #[]) (mvT hZ (wk98 hw))) (mvT hZ (wk98 hw)) (mvT hZ (wk97 hw)) (by decide) (backOf (W := 0) (rm11_12 l Z a0 hw w hW [] b3 b13 T215.heap n0 O216 r215_2) hZ (wk99 hw) (wk3 hw) (by decide) (by decide)) q222a q222c (g := (mkF m 277 Lb205 [(.ref b3)])) rfl (by rw [hml]; rfl) (Steps.refl _) (argsL := []) (rest := []) (lenOf pds_7 rfl) rfl (by show 2 * 0 + _ ≤ _; exact Nat.le_of_eq rfl) (hb hby at_277) (fun _ _ => ⟨rfl, e219, (by decide : 4 + 0 ≤ _), (by decide : 59 + 0 ≤ _)⟩)
     dsimp only [Pt.U, Pt.locs, Pt.cells, Pt.slots] at X222 l222 y222 z222 st222 hQ222
     rw [l222, y222, z222] at X222
     obtain ⟨rfl, N222q, e222⟩ := hQ222
     have N222 := Fr.app N219 N222q
     let Lb223 : Array Slot := #[.val (.int p0), .val (.int p1), .val (.long p2), .second, .val (.long p3), .second, .val (.long p4), .second, .val (.int (3 : Int32)), .val (.int (0 : Int32)), .val (.ref b3), .val (.ref b7), .val (.ref b13), .val (.ref b19), .val (.ref b7), .val (.ref b13), .val (.ref b19), .val (.long (p3 + p4)), .second, .val (.int (1 : Int32)), .unset]
     obtain ⟨T224, X224, e224, st224⟩ := getF X222 hx hZ hown (host := "") (Or.inl (wk100 hw)) Via.refl e222 r215_0 (g := (mkF m 299 Lb223 [(.ref b7)])) rfl rfl (hb hby at_299)
     obtain ⟨T225, X225, e225, st225⟩ := getF X224 hx hZ hown (host := "") (Or.inl (wk101 hw)) Via.refl e224 r215_1 (g := (mkF m 307 Lb223 [(.ref b7)])) rfl rfl (hb hby at_307)
     obtain ⟨T226, X226, e226, st226⟩ := getF X225 hx hZ hown (host := "") (Or.inl (wk102 hw)) Via.refl e225 r215_4 (g := (mkF m 315 Lb223 [(.ref b7)])) rfl rfl (hb hby at_315)
     obtain ⟨T227, X227, e227, st227⟩ := getF X226 hx hZ hown (host := "") (Or.inl (wk100 hw)) Via.refl e226 r215_3 (g := (mkF m 340 Lb223 [(.ref b13)])) rfl rfl (hb hby at_340)
     have t228 := (own_fld r194_6 K215 (own_nlb (Ne.symm ne26) (own_nls (sn62 hw) (own_nlb (Ne.symm ne31) (own_nlb (Ne.symm ne31) (own_nlb (Ne.symm ne31) (own_nlb (Ne.symm ne26) (own_nlb (Ne.symm ne26) own_nl0))))))))
     obtain ⟨T229, X229, e229, st229⟩ := getF X227 hx hZ hown (host := "") (Or.inl (wk101 hw)) Via.refl e227 t228 (g := (mkF m 348 Lb223 [(.ref b13)])) rfl rfl (hb hby at_348)
     have t230 := (own_fld (own_fld r184_2 K194 (own_nlb (Ne.symm ne26) (own_nlb ne177 (own_nlb ne177 (own_nlb ne177 (own_nlb ne177 (own_nls (sn84 hw) (own_nlb (Ne.symm ne26) (own_nlb (Ne.symm ne26) (own_nlb (Ne.symm ne26) own_nl0)))))))))) K215 (own_nlb (Ne.symm ne26) (own_nls (sn83 hw) (own_nlb (Ne.symm ne31) (own_nlb (Ne.symm ne31) (own_nlb (Ne.symm ne31) (own_nlb (Ne.symm ne26) (own_nlb (Ne.symm ne26) own_nl0))))))))
     obtain ⟨T231, X231, e231, st231⟩ := getF X229 hx hZ hown (host := "") (Or.inl (wk102 hw)) Via.refl e229 t230 (g := (mkF m 358 Lb223 [(.ref b13)])) rfl rfl (hb hby at_358)
     have t232 := (own_fld r194_4 K215 (own_nlb (Ne.symm ne27) (own_nlb (Ne.symm ne177) (own_nlb (Ne.symm ne32) (own_nlb (Ne.symm ne32) (own_nlb (Ne.symm ne32) (own_nlb (Ne.symm ne27) (own_nlb (Ne.symm ne27) own_nl0))))))))
     obtain ⟨T233, X233, e233, st233⟩ := getF X231 hx hZ hown (host := "") (Or.inl (wk100 hw)) Via.refl e231 t232 (g := (mkF m 385 Lb223 [(.ref b19)])) rfl rfl (hb hby at_385)
     have t234 := (own_fld r194_5 K215 (own_nlb (Ne.symm ne27) (own_nlb (Ne.symm ne177) (own_nlb (Ne.symm ne32) (own_nlb (Ne.symm ne32) (own_nlb (Ne.symm ne32) (own_nlb (Ne.symm ne27) (own_nlb (Ne.symm ne27) own_nl0))))))))
     obtain ⟨T235, X235, e235, st235⟩ := getF X233 hx hZ hown (host := "") (Or.inl (wk101 hw)) Via.refl e233 t234 (g := (mkF m 395 Lb223 [(.ref b19)])) rfl rfl (hb hby at_395)
     have t236 := (own_fld r194_2 K215 (own_nlb (Ne.symm ne27) (own_nlb (Ne.symm ne177) (own_nlb (Ne.symm ne32) (own_nlb (Ne.symm ne32) (own_nlb (Ne.symm ne32) (own_nlb (Ne.symm ne27) (own_nlb (Ne.symm ne27) own_nl0))))))))
     obtain ⟨T237, X237, e237, st237⟩ := getF X235 hx hZ hown (host := "") (Or.inl (wk102 hw)) Via.refl e235 t236 (g := (mkF m 403 Lb223 [(.ref b19)])) rfl rfl (hb hby at_403)
     let Lb238 : Array Slot := #[.val (.int p0), .val (.int p1), .val (.long p2), .second, .val (.long p3), .second, .val (.long p4), .second, .val (.int (3 : Int32)), .val (.int (0 : Int32)), .val (.ref b3), .val (.ref b7), .val (.ref b13), .val (.ref b19), .val (.ref b7), .val (.ref b13), .val (.ref b19), .val (.long (p3 + p4)), .second, .val (.int (1 : Int32)), .val (.ref b19)]
     have t239 := (own_fld r194_0 K215 (own_nls (sn76 hw) (own_nlb ne26 (own_nlb ne25 (own_nlb ne25 (own_nlb ne25 (own_nls (sn78 hw) (own_nls (sn79 hw) own_nl0))))))))
     have t240 := (own_exa t212 K215)
     have t241 := (own_fld (own_fld (own_fld r42_1 K184 (own_nlb (Ne.symm ne25) (own_nlb ne31 (own_nlb ne31 (own_nlb ne31 (own_nlb ne31 (own_nls (sn82 hw) (own_nlb (Ne.symm ne25) (own_nlb (Ne.symm ne25) (own_nlb (Ne.symm ne25) own_nl0)))))))))) K194 (own_nlb (Ne.symm ne25) (own_nlb ne32 (own_nlb ne32 (own_nlb ne32 (own_nlb ne32 (own_nlb ne31 (own_nlb (Ne.symm ne25) (own_nlb (Ne.symm ne25) (own_nlb (Ne.symm ne25) own_nl0)))))))))) K215 (own_nlb (Ne.symm ne25) (own_nlb ne31 (own_nls (sn81 hw) (own_nls (sn82 hw) (own_nls (sn80 hw) (own_nlb (Ne.symm ne25) (own_nlb (Ne.symm ne25) own_nl0))))))))
     have t242 := (own_fld r194_3 K215 (own_nls (sn64 hw) (own_nlb ne26 (own_nlb ne25 (own_nlb ne25 (own_nlb ne25 (own_nls (sn85 hw) (own_nls (sn86 hw) own_nl0))))))))
     have t243 := (own_exa (own_exa t187 K194) K215)
     have t244 := (own_fld t214 K215 (own_nlb (Ne.symm ne25) (own_nlb ne31 (own_nls (sn74 hw) (own_nls (sn75 hw) (own_nls (sn73 hw) (own_nlb (Ne.symm ne25) (own_nlb (Ne.symm ne25) own_nl0))))))))
     obtain ⟨cq245, kq245, q245a, q245b, q245c⟩ := isOf hZ e237 t218
     obtain ⟨_, _, ⟨T245, L245, kk245, nn245⟩, -, X245, ⟨Lc245, hQ245, l245, y245, z245⟩, st245⟩ := X237.virtualBack hx (y := ym5) (z := ym5) hown (mvT hZ (wk56 hw)) (mvT hZ (wk57 hw)) (notFace_of_selects (args := #[]) (mvT hZ (wk59 hw))) (mvT hZ (wk59 hw)) (mvT hZ (wk58 hw)) (by decide) (backOf (W := 0) (rm7_22 l Z a0 hw w hW [] b3 b7 b19 (((((0 : Int64) + p2) + p3) + p4) - p2) p2 T215.heap n0 O216 t239 t218 gg3 t240 t241 (Ne.symm ne25) gg7 r215_4 t242 r215_0 r215_1 t243 t234 (Ne.symm ne27) (Ne.symm ne32) gg19 r215_5 r215_6 t244) hZ (wk60 hw) (wk3 hw) (by decide) (by decide)) q245a q245c (g := (mkF m 436 Lb238 [(.ref b7), (.ref b3)])) rfl (by rw [hml]; rfl) (Steps.refl _) (argsL := [(.ref b7)]) (rest := []) (lenOf pds_5 rfl) rfl (by show 2 * 0 + _ ≤ _; exact Nat.le_of_eq rfl) (hb hby at_436) (fun _ _ => ⟨rfl, e237, (by decide : 4 + 0 ≤ _), (by decide : 59 + 0 ≤ _)⟩)
     dsimp only [Pt.U, Pt.locs, Pt.cells, Pt.slots] at X245 l245 y245 z245 st245 hQ245
     rw [l245, y245, z245] at X245
     obtain ⟨rfl, N245q, K245, r245_0, r245_1, r245_2, r245_3, r245_4, r245_5, r245_6, r245_7, r245_8⟩ := hQ245
     have N245 := Fr.app N222 N245q
     have O246 := own_old O216 K245 (own_ngc gg3 (own_ngc gg7 (own_ngc gg7 (own_ngc gg7 (own_ngc gg7 (own_ngc gg19 (own_ngc gg3 (own_ngc gg3 (own_ngc gg3 own_ng0)))))))))
     obtain ⟨T247, X247, e247, st247⟩ := getF X245 hx hZ hown (host := "") (Or.inl (wk100 hw)) Via.refl rfl r245_4 (g := (mkF m 446 Lb238 [(.ref b7)])) rfl rfl (hb hby at_446)
     obtain ⟨T248, X248, e248, st248⟩ := getF X247 hx hZ hown (host := "") (Or.inl (wk101 hw)) Via.refl e247 r245_6 (g := (mkF m 498 Lb238 [(.ref b19)])) rfl rfl (hb hby at_498)
     obtain ⟨fs, hr, hrun, hended, hWm, hsame⟩ := X248.leave (v := some (.int (1 : Int32))) (fun h => by rw [Bd.returns] at h; cases h)
     refine ⟨_, _, pre220 _ ?_, hrun, hended, _, _, rfl, ?_, ⟨_, rfl⟩, hWm, hsame.mono (by decide) (by decide)⟩
     · show Steps p.tables e below (T219.setTop (mkF m 272 Lb205 [(.int (lcmpW (((((0 : Int64) + p2) + p3) + p4) - p2) (p3 + p4)))])) _
       refine sN X219 hx hby at_272 ((if0 _ _).trans (teq (((lw_eq _ _).mpr hc221) : (lcmpW (((((0 : Int64) + p2) + p3) + p4) - p2) (p3 + p4)) = (0 : Int32))).2) ?_
       refine sa X219 hx hby at_275 rfl rfl ?_
       refine st222.trans ?_
       refine sa X222 hx hby at_280 rfl rfl ?_
       refine Jvm.RoadKit.acmp (g := (mkF m 282 Lb205 [(.ref b13), (.ref b13)])) X222 hx rfl rfl rfl (pc0 := 282) (pc' := 285) (same := true) rfl (hb hby at_282) rfl (decide_eq_true rfl) (by decide) (by decide) ?_
       refine sc X222 hx hby at_285 ?_
       refine sg (pc := 286) (pc' := 290) X222 hx hby at_286 (by decide) (by decide) ?_
       refine XS.istore X222.here hx rfl (hb hby at_290) rfl (l' := Lb223) rfl ?_
       show Steps p.tables e below (T222.setTop (mkF m 292 Lb223 [])) _
       refine si X222 hx hby at_292 rfl ?_
       refine sN X222 hx hby at_294 (by decide) ?_
       refine sa X222 hx hby at_297 rfl rfl ?_
       refine st224 _ ?_
       refine XS.ifnonnullNo X224.here hx rfl (hb hby at_302) rfl ?_
       refine sa X224 hx hby at_305 rfl rfl ?_
       refine st225 _ ?_
       refine XS.ifnonnullNo X225.here hx rfl (hb hby at_310) rfl ?_
       refine sa X225 hx hby at_313 rfl rfl ?_
       refine st226 _ ?_
       refine XS.ifnonnullNo X226.here hx rfl (hb hby at_318) rfl ?_
       refine sc X226 hx hby at_321 ?_
       refine sg (pc := 322) (pc' := 326) X226 hx hby at_322 (by decide) (by decide) ?_
       refine XS.istore X226.here hx rfl (hb hby at_326) rfl (l' := Lb223) rfl ?_
       refine sa X226 hx hby at_328 rfl rfl ?_
       show Steps p.tables e below (T226.setTop (mkF m 330 Lb223 [(.ref b13)])) _
       refine XS.ifnullNo X226.here hx rfl (hb hby at_330) rfl ?_
       refine si X226 hx hby at_333 rfl ?_
       refine sN X226 hx hby at_335 (by decide) ?_
       refine sa X226 hx hby at_338 rfl rfl ?_
       refine st227 _ ?_
       refine XS.ifnonnullNo X227.here hx rfl (hb hby at_343) rfl ?_
       refine sa X227 hx hby at_346 rfl rfl ?_
       refine st229 _ ?_
       refine sa X229 hx hby at_351 rfl rfl ?_
       refine Jvm.RoadKit.acmp (g := (mkF m 353 Lb223 [(.ref b19), (.ref b19)])) X229 hx rfl rfl rfl (pc0 := 353) (pc' := 356) (same := true) rfl (hb hby at_353) rfl (decide_eq_true rfl) (by decide) (by decide) ?_
       refine sa X229 hx hby at_356 rfl rfl ?_
       refine st231 _ ?_
       refine sa X231 hx hby at_361 rfl rfl ?_
       refine Jvm.RoadKit.acmp (g := (mkF m 363 Lb223 [(.ref b3), (.ref b3)])) X231 hx rfl rfl rfl (pc0 := 363) (pc' := 366) (same := true) rfl (hb hby at_363) rfl (decide_eq_true rfl) (by decide) (by decide) ?_
       refine sc X231 hx hby at_366 ?_
       refine sg (pc := 367) (pc' := 371) X231 hx hby at_367 (by decide) (by decide) ?_
       refine XS.istore X231.here hx rfl (hb hby at_371) rfl (l' := Lb223) rfl ?_
       show Steps p.tables e below (T231.setTop (mkF m 373 Lb223 [])) _
       refine sa X231 hx hby at_373 rfl rfl ?_
       refine XS.ifnullNo X231.here hx rfl (hb hby at_375) rfl ?_
       refine si X231 hx hby at_378 rfl ?_
       refine sN X231 hx hby at_380 (by decide) ?_
       refine sa X231 hx hby at_383 rfl rfl ?_
       show Steps p.tables e below (T231.setTop (mkF m 385 Lb223 [(.ref b19)])) _
       refine st233 _ ?_
       refine sa X233 hx hby at_388 rfl rfl ?_
       refine Jvm.RoadKit.acmp (g := (mkF m 390 Lb223 [(.ref b13), (.ref b13)])) X233 hx rfl rfl rfl (pc0 := 390) (pc' := 393) (same := true) rfl (hb hby at_390) rfl (decide_eq_true rfl) (by decide) (by decide) ?_
       refine sa X233 hx hby at_393 rfl rfl ?_
       refine st235 _ ?_
       refine XS.ifnonnullNo X235.here hx rfl (hb hby at_398) rfl ?_
       refine sa X235 hx hby at_401 rfl rfl ?_
       refine st237 _ ?_
       refine sa X237 hx hby at_406 rfl rfl ?_
       refine Jvm.RoadKit.acmp (g := (mkF m 408 Lb223 [(.ref b3), (.ref b3)])) X237 hx rfl rfl rfl (pc0 := 408) (pc' := 411) (same := true) rfl (hb hby at_408) rfl (decide_eq_true rfl) (by decide) (by decide) ?_
       refine sc X237 hx hby at_411 ?_
       refine sg (pc := 412) (pc' := 416) X237 hx hby at_412 (by decide) (by decide) ?_
       refine XS.istore X237.here hx rfl (hb hby at_416) rfl (l' := Lb223) rfl ?_
       show Steps p.tables e below (T237.setTop (mkF m 418 Lb223 [])) _
       refine sa X237 hx hby at_418 rfl rfl ?_
       refine XS.ifnullNo X237.here hx rfl (hb hby at_420) rfl ?_
       refine sa X237 hx hby at_423 rfl rfl ?_
       refine sg (pc := 425) (pc' := 430) X237 hx hby at_425 (by decide) (by decide) ?_
       refine XS.astore X237.here hx rfl (hb hby at_430) rfl rfl (l' := Lb238) rfl ?_
       show Steps p.tables e below (T237.setTop (mkF m 432 Lb238 [])) _
       refine sa X237 hx hby at_432 rfl rfl ?_
       refine sa X237 hx hby at_434 rfl rfl ?_
       refine st245.trans ?_
       refine si X245 hx hby at_439 rfl ?_
       refine sN X245 hx hby at_441 (by decide) ?_
       refine sa X245 hx hby at_444 rfl rfl ?_
       refine st247 _ ?_
       refine sa X247 hx hby at_449 rfl rfl ?_
       refine Jvm.RoadKit.acmp (g := (mkF m 451 Lb238 [(.ref b19), (.ref b19)])) X247 hx rfl rfl rfl (pc0 := 451) (pc' := 454) (same := true) rfl (hb hby at_451) rfl (decide_eq_true rfl) (by decide) (by decide) ?_
       refine sc X247 hx hby at_454 ?_
       refine sg (pc := 455) (pc' := 459) X247 hx hby at_455 (by decide) (by decide) ?_
       refine XS.istore X247.here hx rfl (hb hby at_459) rfl (l' := Lb238) rfl ?_
       show Steps p.tables e below (T247.setTop (mkF m 461 Lb238 [])) _
       refine sa X247 hx hby at_461 rfl rfl ?_
       refine XS.ifnonnullYes X247.here hx rfl (pc0 := 463) (pc' := 491) rfl (hb hby at_463) rfl (by decide) (by decide) ?_
       refine si X247 hx hby at_491 rfl ?_
       refine sN X247 hx hby at_493 (by decide) ?_
       refine sa X247 hx hby at_496 rfl rfl ?_
       show Steps p.tables e below (T247.setTop (mkF m 498 Lb238 [(.ref b19)])) _
       refine st248 _ ?_
       refine sa X248 hx hby at_501 rfl rfl ?_
       refine Jvm.RoadKit.acmp (g := (mkF m 503 Lb238 [(.ref b7), (.ref b7)])) X248 hx rfl rfl rfl (pc0 := 503) (pc' := 506) (same := true) rfl (hb hby at_503) rfl (decide_eq_true rfl) (by decide) (by decide) ?_
       refine sc X248 hx hby at_506 ?_
       refine sg (pc := 507) (pc' := 511) X248 hx hby at_507 (by decide) (by decide) ?_
       refine XS.istore X248.here hx rfl (hb hby at_511) rfl (l' := Lb238) rfl ?_
       show Steps p.tables e below (T248.setTop (mkF m 513 Lb238 [])) _
       refine si X248 hx hby at_513 rfl ?_
       exact retN X248 hx (t := .boolean) Bd.returns (by simp) (hb hby at_515) hr
     · show Q0 n0 _ T248.heap _
       rw [e248]
       exact ⟨rfl, N245⟩
    ·
     exfalso
     have z15 : ((((((0 : Int64) + p2) + p3) + p4) - p2)).toInt ≠ ((p3 + p4)).toInt := fun q => hc221 (Int64.toInt_inj.mp q)
     have z1 := rng64 (((((0 : Int64) + p2) + p3) + p4) - p2)
     have z2 := rng64 ((((0 : Int64) + p2) + p3) + p4)
     have z3 := rng64 (((0 : Int64) + p2) + p3)
     have z4 := rng64 ((0 : Int64) + p2)
     have z5 : ((0 : Int64)).toInt = 0 := by decide
     have z6 := rng64 p2
     have z7 := c_ladd (0 : Int64) p2
     have z8 := rng64 p3
     have z9 := c_ladd ((0 : Int64) + p2) p3
     have z10 := rng64 p4
     have z11 := c_ladd (((0 : Int64) + p2) + p3) p4
     have z12 := c_lsub ((((0 : Int64) + p2) + p3) + p4) p2
     have z13 := rng64 (p3 + p4)
     have z14 := c_ladd p3 p4
     omega
   ·
    rw [hs197] at pre196
    let Lb249 : Array Slot := #[.val (.int p0), .val (.int p1), .val (.long p2), .second, .val (.long p3), .second, .val (.long p4), .second, .val (.int (3 : Int32)), .val (.int (1 : Int32)), .val (.ref b3), .val (.ref b7), .val (.ref b13), .val (.ref b19), .unset, .unset, .unset, .unset, .unset, .unset, .unset]
    let Lb250 : Array Slot := #[.val (.int p0), .val (.int p1), .val (.long p2), .second, .val (.long p3), .second, .val (.long p4), .second, .val (.int (3 : Int32)), .val (.int (1 : Int32)), .val (.ref b3), .val (.ref b7), .val (.ref b13), .val (.ref b19), .val (.ref b13), .unset, .unset, .unset, .unset, .unset, .unset]
    let Lb251 : Array Slot := #[.val (.int p0), .val (.int p1), .val (.long p2), .second, .val (.long p3), .second, .val (.long p4), .second, .val (.int (3 : Int32)), .val (.int (1 : Int32)), .val (.ref b3), .val (.ref b7), .val (.ref b13), .val (.ref b19), .val (.ref b13), .val .null, .unset, .unset, .unset, .unset, .unset]
    let Lb252 : Array Slot := #[.val (.int p0), .val (.int p1), .val (.long p2), .second, .val (.long p3), .second, .val (.long p4), .second, .val (.int (3 : Int32)), .val (.int (1 : Int32)), .val (.ref b3), .val (.ref b7), .val (.ref b13), .val (.ref b19), .val (.ref b13), .val .null, .val .null, .unset, .unset, .unset, .unset]
    let Lb253 : Array Slot := #[.val (.int p0), .val (.int p1), .val (.long p2), .second, .val (.long p3), .second, .val (.long p4), .second, .val (.int (3 : Int32)), .val (.int (1 : Int32)), .val (.ref b3), .val (.ref b7), .val (.ref b13), .val (.ref b19), .val (.ref b13), .val .null, .val .null, .val (.long (0 : Int64)), .second, .unset, .unset]
    let Lb254 : Array Slot := #[.val (.int p0), .val (.int p1), .val (.long p2), .second, .val (.long p3), .second, .val (.long p4), .second, .val (.int (3 : Int32)), .val (.int (1 : Int32)), .val (.ref b3), .val (.ref b7), .val (.ref b13), .val (.ref b19), .val (.ref b13), .val (.ref b7), .val .null, .val (.long (0 : Int64)), .second, .unset, .unset]
    let Lb255 : Array Slot := #[.val (.int p0), .val (.int p1), .val (.long p2), .second, .val (.long p3), .second, .val (.long p4), .second, .val (.int (3 : Int32)), .val (.int (1 : Int32)), .val (.ref b3), .val (.ref b7), .val (.ref b13), .val (.ref b19), .val (.ref b13), .val (.ref b7), .val (.ref b19), .val (.long (0 : Int64)), .second, .unset, .unset]
    let Lb256 : Array Slot := #[.val (.int p0), .val (.int p1), .val (.long p2), .second, .val (.long p3), .second, .val (.long p4), .second, .val (.int (3 : Int32)), .val (.int (1 : Int32)), .val (.ref b3), .val (.ref b7), .val (.ref b13), .val (.ref b19), .val (.ref b13), .val (.ref b7), .val (.ref b19), .val (.long (p2 + p4)), .second, .unset, .unset]
    have t257 := (own_fld r184_4 K194 (own_nlb (Ne.symm ne26) (own_nlb ne177 (own_nlb ne177 (own_nlb ne177 (own_nlb ne177 (own_nls (sn87 hw) (own_nlb (Ne.symm ne26) (own_nlb (Ne.symm ne26) (own_nlb (Ne.symm ne26) own_nl0))))))))))
    have t258 := (own_exa (own_exa t182 K184) K194)
    have t259 := (own_fld r184_6 K194 (own_nlb (Ne.symm ne25) (own_nlb ne32 (own_nlb ne32 (own_nlb ne32 (own_nlb ne32 (own_nlb ne31 (own_nlb (Ne.symm ne25) (own_nlb (Ne.symm ne25) (own_nlb (Ne.symm ne25) own_nl0))))))))))
    have t260 := (own_exa t187 K194)
    have t261 := (own_exa t192 K194)
    have t262 := (own_fld r184_2 K194 (own_nlb (Ne.symm ne26) (own_nlb ne177 (own_nlb ne177 (own_nlb ne177 (own_nlb ne177 (own_nls (sn84 hw) (own_nlb (Ne.symm ne26) (own_nlb (Ne.symm ne26) (own_nlb (Ne.symm ne26) own_nl0))))))))))
    have t263 := (own_exa t186 K194)
    have t264 := (own_fld (own_fld t183 K184 (own_nlb (Ne.symm ne26) (own_nls (sn72 hw) (own_nls (sn73 hw) (own_nls (sn74 hw) (own_nls (sn75 hw) (own_nlb (Ne.symm ne31) (own_nlb (Ne.symm ne26) (own_nlb (Ne.symm ne26) (own_nlb (Ne.symm ne26) own_nl0)))))))))) K194 (own_nlb (Ne.symm ne26) (own_nlb ne177 (own_nlb ne177 (own_nlb ne177 (own_nlb ne177 (own_nls (sn75 hw) (own_nlb (Ne.symm ne26) (own_nlb (Ne.symm ne26) (own_nlb (Ne.symm ne26) own_nl0))))))))))
    obtain ⟨cq265, kq265, q265a, q265b, q265c⟩ := isOf hZ rfl t263
    obtain ⟨_, _, ⟨T265, L265, kk265, nn265⟩, -, X265, ⟨Lc265, hQ265, l265, y265, z265⟩, st265⟩ := X194.virtualBack hx (y := ym6) (z := ym6) hown (mvT hZ (wk80 hw)) (mvT hZ (wk81 hw)) (notFace_of_selects (args := #[]) (mvT hZ (wk83 hw))) (mvT hZ (wk83 hw)) (mvT hZ (wk82 hw)) (by decide) (backOf (W := 0) (rm8_23 l Z a0 hw w hW [] b3 b13 b7 b19 ((((0 : Int64) + p2) + p3) + p4) p3 T194.heap n0 O195 t257 r194_6 t258 t259 gg7 (Ne.symm ne31) t260 r194_4 (Ne.symm ne32) gg19 t261 ne177 gg13 t262 r194_7 ne25 ne27 ne26 t263 gg3 r194_8 t264) hZ (wk84 hw) (wk3 hw) (by decide) (by decide)) q265a q265c (g := (mkF m 247 Lb256 [(.ref b13), (.ref b3)])) rfl (by rw [hml]; rfl) (Steps.refl _) (argsL := [(.ref b13)]) (rest := []) (lenOf pds_5 rfl) rfl (by show 2 * 0 + _ ≤ _; exact Nat.le_of_eq rfl) (hb hby at_247) (fun _ _ => ⟨rfl, rfl, (by decide : 4 + 0 ≤ _), (by decide : 59 + 0 ≤ _)⟩)
    dsimp only [Pt.U, Pt.locs, Pt.cells, Pt.slots] at X265 l265 y265 z265 st265 hQ265
    rw [l265, y265, z265] at X265
    obtain ⟨rfl, N265q, K265, r265_0, r265_1, r265_2, r265_3, r265_4, r265_5, r265_6⟩ := hQ265
    have N265 := Fr.app N194 N265q
    have O266 := own_old O195 K265 (own_ngc gg7 (own_ngc gg19 (own_ngc gg13 (own_ngc gg13 (own_ngc gg13 (own_ngc gg3 (own_ngc gg3 own_ng0)))))))
    have t268 := (own_exa t263 K265)
    obtain ⟨cq267, kq267, q267a, q267b, q267c⟩ := isOf hZ rfl t268
    obtain ⟨_, _, ⟨T267, L267, kk267, nn267⟩, -, X267, ⟨Lc267, hQ267, l267, y267, z267⟩, st267⟩ := X265.virtualBack hx (y := ym7) (z := ym7) hown (mvT hZ (wk85 hw)) (mvT hZ (wk86 hw)) (notFace_of_selects (args := #[]) (mvT hZ (wk88 hw))) (mvT hZ (wk88 hw)) (mvT hZ (wk87 hw)) (by decide) (backOf (W := 0) (rm9_21 l Z a0 hw w hW [] b3 T265.heap n0 O266 r265_5) hZ (wk89 hw) (wk3 hw) (by decide) (by decide)) q267a q267c (g := (mkF m 252 Lb256 [(.ref b3)])) rfl (by rw [hml]; rfl) (Steps.refl _) (argsL := []) (rest := []) (lenOf pds_6 rfl) rfl (by show 2 * 0 + _ ≤ _; exact Nat.le_of_eq rfl) (hb hby at_252) (fun _ _ => ⟨rfl, rfl, (by decide : 4 + 0 ≤ _), (by decide : 59 + 0 ≤ _)⟩)
    dsimp only [Pt.U, Pt.locs, Pt.cells, Pt.slots] at X267 l267 y267 z267 st267 hQ267
    rw [l267, y267, z267] at X267
    obtain ⟨rfl, N267q, e267⟩ := hQ267
    have N267 := Fr.app N265 N267q
    obtain ⟨cq269, kq269, q269a, q269b, q269c⟩ := isOf hZ e267 t268
    obtain ⟨_, _, ⟨T269, L269, kk269, nn269⟩, -, X269, ⟨Lc269, hQ269, l269, y269, z269⟩, st269⟩ := X267.virtualBack hx (y := ym8) (z := ym8) hown (mvT hZ (wk90 hw)) (mvT hZ (wk91 hw)) (notFace_of_selects (args := #[]) (mvT hZ (wk93 hw))) (mvT hZ (wk93 hw)) (mvT hZ (wk92 hw)) (by decide) (backOf (W := 0) (rm10_9 l Z a0 hw w hW [] b3 (((((0 : Int64) + p2) + p3) + p4) - p3) T265.heap n0 O266 r265_6) hZ (wk94 hw) (wk3 hw) (by decide) (by decide)) q269a q269c (g := (mkF m 266 Lb256 [(.ref b3)])) rfl (by rw [hml]; rfl) (Steps.refl _) (argsL := []) (rest := []) (lenOf pds_6 rfl) rfl (by show 2 * 0 + _ ≤ _; exact Nat.le_of_eq rfl) (hb hby at_266) (fun _ _ => ⟨rfl, e267, (by decide : 4 + 0 ≤ _), (by decide : 59 + 0 ≤ _)⟩)
    dsimp only [Pt.U, Pt.locs, Pt.cells, Pt.slots] at X269 l269 y269 z269 st269 hQ269
    rw [l269, y269, z269] at X269
    obtain ⟨rfl, N269q, e269⟩ := hQ269
    have N269 := Fr.app N267 N269q
    have pre270 : ∀ t, Steps p.tables e below (T269.setTop (mkF m 272 Lb256 [(.int (lcmpW (((((0 : Int64) + p2) + p3) + p4) - p3) (p2 + p4)))])) t → Steps p.tables e below (s₁.setTop (entryFrame m #[(.int p0), (.int p1), (.long p2), (.long p3), (.long p4)] maxLocals)) t := fun t k => pre196 t (by
     show Steps p.tables e below (T194.setTop (mkF m 113 Lb249 [(.int (1 : Int32))])) _
     refine XS.ifYes X194.here hx rfl (pc0 := 113) (pc' := 121) rfl (hb hby at_113) rfl (by decide) (by decide) (by decide) ?_
     refine si X194 hx hby at_121 rfl ?_
     refine sc X194 hx hby at_123 ?_
     refine sn X194 hx hby at_124 (by decide) ?_
     refine sa X194 hx hby at_127 rfl rfl ?_
     show Steps p.tables e below (T194.setTop (mkF m 129 Lb249 [(.ref b13)])) _
     refine sg (pc := 129) (pc' := 134) X194 hx hby at_129 (by decide) (by decide) ?_
     refine XS.astore X194.here hx rfl (hb hby at_134) rfl rfl (l' := Lb250) rfl ?_
     refine XS.aconstNull X194.here hx rfl (hb hby at_136) ?_
     refine XS.astore X194.here hx rfl (hb hby at_137) rfl rfl (l' := Lb251) rfl ?_
     refine XS.aconstNull X194.here hx rfl (hb hby at_139) ?_
     show Steps p.tables e below (T194.setTop (mkF m 140 Lb251 [.null])) _
     refine XS.astore X194.here hx rfl (hb hby at_140) rfl rfl (l' := Lb252) rfl ?_
     refine XS.lconst X194.here hx rfl (hb hby at_142) ?_
     refine XS.lstore X194.here hx rfl (hb hby at_143) rfl (l' := Lb253) rfl ?_
     refine si X194 hx hby at_145 rfl ?_
     refine sc X194 hx hby at_147 ?_
     show Steps p.tables e below (T194.setTop (mkF m 148 Lb253 [(.int (2 : Int32)), (.int (3 : Int32))])) _
     refine XS.icmpYes X194.here hx rfl (pc0 := 148) (pc' := 177) rfl (hb hby at_148) rfl (by decide) (by decide) (by decide) ?_
     refine si X194 hx hby at_177 rfl ?_
     refine sc X194 hx hby at_179 ?_
     refine sn X194 hx hby at_180 (by decide) ?_
     refine si X194 hx hby at_183 rfl ?_
     show Steps p.tables e below (T194.setTop (mkF m 185 Lb253 [(.int (1 : Int32))])) _
     refine XS.ifYes X194.here hx rfl (pc0 := 185) (pc' := 206) rfl (hb hby at_185) rfl (by decide) (by decide) (by decide) ?_
     refine si X194 hx hby at_206 rfl ?_
     refine sc X194 hx hby at_208 ?_
     refine sn X194 hx hby at_209 (by decide) ?_
     refine sa X194 hx hby at_212 rfl rfl ?_
     show Steps p.tables e below (T194.setTop (mkF m 214 Lb253 [(.ref b7)])) _
     refine XS.astore X194.here hx rfl (hb hby at_214) rfl rfl (l' := Lb254) rfl ?_
     refine sa X194 hx hby at_216 rfl rfl ?_
     refine XS.astore X194.here hx rfl (hb hby at_218) rfl rfl (l' := Lb255) rfl ?_
     refine sL X194 hx hby at_220 rfl ?_
     refine XS.lload X194.here hx rfl (hb hby at_221) rfl ?_
     show Steps p.tables e below (T194.setTop (mkF m 223 Lb255 [(.long p4), (.long p2)])) _
     refine XS.ladd X194.here hx rfl (hb hby at_223) rfl ?_
     refine XS.lstore X194.here hx rfl (hb hby at_224) rfl (l' := Lb256) rfl ?_
     refine sg (pc := 226) (pc' := 243) X194 hx hby at_226 (by decide) (by decide) ?_
     refine sa X194 hx hby at_243 rfl rfl ?_
     refine sa X194 hx hby at_245 rfl rfl ?_
     show Steps p.tables e below (T194.setTop (mkF m 247 Lb256 [(.ref b13), (.ref b3)])) _
     refine st265.trans ?_
     refine sa X265 hx hby at_250 rfl rfl ?_
     refine st267.trans ?_
     refine si X267 hx hby at_255 rfl ?_
     refine sc X267 hx hby at_257 ?_
     refine XS.isub X267.here hx rfl (hb hby at_258) rfl ?_
     refine XS.i2l X267.here hx rfl (hb hby at_259) rfl ?_
     refine XS.lcmp X267.here hx rfl (hb hby at_260) rfl ?_
     show Steps p.tables e below (T267.setTop (mkF m 261 Lb256 [(.int (0 : Int32))])) _
     refine sN X267 hx hby at_261 (by decide) ?_
     refine sa X267 hx hby at_264 rfl rfl ?_
     refine st269.trans ?_
     refine XS.lload X269.here hx rfl (hb hby at_269) rfl ?_
     refine XS.lcmp X269.here hx rfl (hb hby at_271) rfl ?_
     exact k)
    by_cases hc271 : (((((0 : Int64) + p2) + p3) + p4) - p3) = (p2 + p4)
    ·
     have t272 := (own_fld (own_fld (own_fld r42_6 K184 (own_nls (sn63 hw) (own_nlb ne26 (own_nlb ne26 (own_nlb ne26 (own_nlb ne26 (own_nlb ne25 (own_nls (sn88 hw) (own_nls (sn89 hw) (own_nls (sn90 hw) own_nl0)))))))))) K194 (own_nls (sn63 hw) (own_nlb ne27 (own_nlb ne27 (own_nlb ne27 (own_nlb ne27 (own_nlb ne26 (own_nls (sn88 hw) (own_nls (sn89 hw) (own_nls (sn90 hw) own_nl0)))))))))) K265 (own_nlb ne25 (own_nlb ne27 (own_nlb ne26 (own_nlb ne26 (own_nlb ne26 (own_nls (sn89 hw) (own_nls (sn90 hw) own_nl0))))))))
     obtain ⟨cq273, kq273, q273a, q273b, q273c⟩ := isOf hZ e269 t268
     obtain ⟨_, _, ⟨T273, L273, kk273, nn273⟩, -, X273, ⟨Lc273, hQ273, l273, y273, z273⟩, st273⟩ := X269.virtualBack hx (y := ym9) (z := ym9) hown (mvT hZ (wk95 hw)) (mvT hZ (wk96 hw)) (notFace_of_selects (args := #[]) (mvT hZ (wk98 hw))) (mvT hZ (wk98 hw)) (mvT hZ (wk97 hw)) (by decide) (backOf (W := 0) (rm11_12 l Z a0 hw w hW [] b3 b7 T265.heap n0 O266 t272) hZ (wk99 hw) (wk3 hw) (by decide) (by decide)) q273a q273c (g := (mkF m 277 Lb256 [(.ref b3)])) rfl (by rw [hml]; rfl) (Steps.refl _) (argsL := []) (rest := []) (lenOf pds_7 rfl) rfl (by show 2 * 0 + _ ≤ _; exact Nat.le_of_eq rfl) (hb hby at_277) (fun _ _ => ⟨rfl, e269, (by decide : 4 + 0 ≤ _), (by decide : 59 + 0 ≤ _)⟩)
     dsimp only [Pt.U, Pt.locs, Pt.cells, Pt.slots] at X273 l273 y273 z273 st273 hQ273
     rw [l273, y273, z273] at X273
     obtain ⟨rfl, N273q, e273⟩ := hQ273
     have N273 := Fr.app N269 N273q
     let Lb274 : Array Slot := #[.val (.int p0), .val (.int p1), .val (.long p2), .second, .val (.long p3), .second, .val (.long p4), .second, .val (.int (3 : Int32)), .val (.int (1 : Int32)), .val (.ref b3), .val (.ref b7), .val (.ref b13), .val (.ref b19), .val (.ref b13), .val (.ref b7), .val (.ref b19), .val (.long (p2 + p4)), .second, .val (.int (1 : Int32)), .unset]
     obtain ⟨T275, X275, e275, st275⟩ := getF X273 hx hZ hown (host := "") (Or.inl (wk100 hw)) Via.refl e273 r265_0 (g := (mkF m 299 Lb274 [(.ref b13)])) rfl rfl (hb hby at_299)
     obtain ⟨T276, X276, e276, st276⟩ := getF X275 hx hZ hown (host := "") (Or.inl (wk101 hw)) Via.refl e275 r265_1 (g := (mkF m 307 Lb274 [(.ref b13)])) rfl rfl (hb hby at_307)
     obtain ⟨T277, X277, e277, st277⟩ := getF X276 hx hZ hown (host := "") (Or.inl (wk102 hw)) Via.refl e276 r265_4 (g := (mkF m 315 Lb274 [(.ref b13)])) rfl rfl (hb hby at_315)
     have t278 := (own_fld (own_fld (own_fld r42_4 K184 (own_nlb (Ne.symm ne25) (own_nlb ne31 (own_nlb ne31 (own_nlb ne31 (own_nlb ne31 (own_nls (sn87 hw) (own_nlb (Ne.symm ne25) (own_nlb (Ne.symm ne25) (own_nlb (Ne.symm ne25) own_nl0)))))))))) K194 (own_nlb (Ne.symm ne25) (own_nlb ne32 (own_nlb ne32 (own_nlb ne32 (own_nlb ne32 (own_nlb ne31 (own_nlb (Ne.symm ne25) (own_nlb (Ne.symm ne25) (own_nlb (Ne.symm ne25) own_nl0)))))))))) K265 (own_nls (sn87 hw) (own_nlb ne32 (own_nlb ne31 (own_nlb ne31 (own_nlb ne31 (own_nlb (Ne.symm ne25) (own_nlb (Ne.symm ne25) own_nl0))))))))
     obtain ⟨T279, X279, e279, st279⟩ := getF X277 hx hZ hown (host := "") (Or.inl (wk100 hw)) Via.refl e277 t278 (g := (mkF m 340 Lb274 [(.ref b7)])) rfl rfl (hb hby at_340)
     obtain ⟨T280, X280, e280, st280⟩ := getF X279 hx hZ hown (host := "") (Or.inl (wk101 hw)) Via.refl e279 r265_2 (g := (mkF m 348 Lb274 [(.ref b7)])) rfl rfl (hb hby at_348)
     have t281 := (own_fld (own_fld (own_fld r42_2 K184 (own_nlb (Ne.symm ne25) (own_nlb ne31 (own_nlb ne31 (own_nlb ne31 (own_nlb ne31 (own_nls (sn84 hw) (own_nlb (Ne.symm ne25) (own_nlb (Ne.symm ne25) (own_nlb (Ne.symm ne25) own_nl0)))))))))) K194 (own_nlb (Ne.symm ne25) (own_nlb ne32 (own_nlb ne32 (own_nlb ne32 (own_nlb ne32 (own_nlb ne31 (own_nlb (Ne.symm ne25) (own_nlb (Ne.symm ne25) (own_nlb (Ne.symm ne25) own_nl0)))))))))) K265 (own_nls (sn84 hw) (own_nlb ne32 (own_nlb ne31 (own_nlb ne31 (own_nlb ne31 (own_nlb (Ne.symm ne25) (own_nlb (Ne.symm ne25) own_nl0))))))))
     obtain ⟨T282, X282, e282, st282⟩ := getF X280 hx hZ hown (host := "") (Or.inl (wk102 hw)) Via.refl e280 t281 (g := (mkF m 358 Lb274 [(.ref b7)])) rfl rfl (hb hby at_358)
     obtain ⟨T283, X283, e283, st283⟩ := getF X282 hx hZ hown (host := "") (Or.inl (wk100 hw)) Via.refl e282 r265_3 (g := (mkF m 385 Lb274 [(.ref b19)])) rfl rfl (hb hby at_385)
     have t284 := (own_fld r194_5 K265 (own_nlb (Ne.symm ne32) (own_nls (sn62 hw) (own_nlb (Ne.symm ne177) (own_nlb (Ne.symm ne177) (own_nlb (Ne.symm ne177) (own_nlb (Ne.symm ne27) (own_nlb (Ne.symm ne27) own_nl0))))))))
     obtain ⟨T285, X285, e285, st285⟩ := getF X283 hx hZ hown (host := "") (Or.inl (wk101 hw)) Via.refl e283 t284 (g := (mkF m 395 Lb274 [(.ref b19)])) rfl rfl (hb hby at_395)
     have t286 := (own_fld r194_2 K265 (own_nlb (Ne.symm ne32) (own_nls (sn83 hw) (own_nlb (Ne.symm ne177) (own_nlb (Ne.symm ne177) (own_nlb (Ne.symm ne177) (own_nlb (Ne.symm ne27) (own_nlb (Ne.symm ne27) own_nl0))))))))
     obtain ⟨T287, X287, e287, st287⟩ := getF X285 hx hZ hown (host := "") (Or.inl (wk102 hw)) Via.refl e285 t286 (g := (mkF m 403 Lb274 [(.ref b19)])) rfl rfl (hb hby at_403)
     let Lb288 : Array Slot := #[.val (.int p0), .val (.int p1), .val (.long p2), .second, .val (.long p3), .second, .val (.long p4), .second, .val (.int (3 : Int32)), .val (.int (1 : Int32)), .val (.ref b3), .val (.ref b7), .val (.ref b13), .val (.ref b19), .val (.ref b13), .val (.ref b7), .val (.ref b19), .val (.long (p2 + p4)), .second, .val (.int (1 : Int32)), .val (.ref b19)]
     have t289 := (own_fld r194_0 K265 (own_nlb ne25 (own_nlb ne27 (own_nlb ne26 (own_nlb ne26 (own_nlb ne26 (own_nls (sn78 hw) (own_nls (sn79 hw) own_nl0))))))))
     have t290 := (own_exa t261 K265)
     have t291 := (own_fld (own_fld r184_1 K194 (own_nlb (Ne.symm ne26) (own_nlb ne177 (own_nlb ne177 (own_nlb ne177 (own_nlb ne177 (own_nls (sn82 hw) (own_nlb (Ne.symm ne26) (own_nlb (Ne.symm ne26) (own_nlb (Ne.symm ne26) own_nl0)))))))))) K265 (own_nlb (Ne.symm ne31) (own_nlb ne177 (own_nls (sn81 hw) (own_nls (sn82 hw) (own_nls (sn80 hw) (own_nlb (Ne.symm ne26) (own_nlb (Ne.symm ne26) own_nl0))))))))
     have t292 := (own_fld r194_3 K265 (own_nlb ne25 (own_nlb ne27 (own_nlb ne26 (own_nlb ne26 (own_nlb ne26 (own_nls (sn85 hw) (own_nls (sn86 hw) own_nl0))))))))
     have t293 := (own_exa t260 K265)
     have t294 := (own_fld t264 K265 (own_nlb (Ne.symm ne31) (own_nlb ne177 (own_nls (sn74 hw) (own_nls (sn75 hw) (own_nls (sn73 hw) (own_nlb (Ne.symm ne26) (own_nlb (Ne.symm ne26) own_nl0))))))))
     obtain ⟨cq295, kq295, q295a, q295b, q295c⟩ := isOf hZ e287 t268
     obtain ⟨_, _, ⟨T295, L295, kk295, nn295⟩, -, X295, ⟨Lc295, hQ295, l295, y295, z295⟩, st295⟩ := X287.virtualBack hx (y := ym5) (z := ym5) hown (mvT hZ (wk56 hw)) (mvT hZ (wk57 hw)) (notFace_of_selects (args := #[]) (mvT hZ (wk59 hw))) (mvT hZ (wk59 hw)) (mvT hZ (wk58 hw)) (by decide) (backOf (W := 0) (rm7_24 l Z a0 hw w hW [] b3 b13 b19 (((((0 : Int64) + p2) + p3) + p4) - p3) p3 T265.heap n0 O266 t289 t268 gg3 t290 t291 (Ne.symm ne26) gg13 r265_4 t292 r265_0 r265_1 t293 t284 (Ne.symm ne27) (Ne.symm ne177) gg19 r265_5 r265_6 t294) hZ (wk60 hw) (wk3 hw) (by decide) (by decide)) q295a q295c (g := (mkF m 436 Lb288 [(.ref b13), (.ref b3)])) rfl (by rw [hml]; rfl) (Steps.refl _) (argsL := [(.ref b13)]) (rest := []) (lenOf pds_5 rfl) rfl (by show 2 * 0 + _ ≤ _; exact Nat.le_of_eq rfl) (hb hby at_436) (fun _ _ => ⟨rfl, e287, (by decide : 4 + 0 ≤ _), (by decide : 59 + 0 ≤ _)⟩)
     dsimp only [Pt.U, Pt.locs, Pt.cells, Pt.slots] at X295 l295 y295 z295 st295 hQ295
     rw [l295, y295, z295] at X295
     obtain ⟨rfl, N295q, K295, r295_0, r295_1, r295_2, r295_3, r295_4, r295_5, r295_6, r295_7, r295_8⟩ := hQ295
     have N295 := Fr.app N273 N295q
     have O296 := own_old O266 K295 (own_ngc gg3 (own_ngc gg13 (own_ngc gg13 (own_ngc gg13 (own_ngc gg13 (own_ngc gg19 (own_ngc gg3 (own_ngc gg3 (own_ngc gg3 own_ng0)))))))))
     obtain ⟨T297, X297, e297, st297⟩ := getF X295 hx hZ hown (host := "") (Or.inl (wk100 hw)) Via.refl rfl r295_4 (g := (mkF m 446 Lb288 [(.ref b13)])) rfl rfl (hb hby at_446)
     obtain ⟨T298, X298, e298, st298⟩ := getF X297 hx hZ hown (host := "") (Or.inl (wk101 hw)) Via.refl e297 r295_6 (g := (mkF m 498 Lb288 [(.ref b19)])) rfl rfl (hb hby at_498)
     obtain ⟨fs, hr, hrun, hended, hWm, hsame⟩ := X298.leave (v := some (.int (1 : Int32))) (fun h => by rw [Bd.returns] at h; cases h)
     refine ⟨_, _, pre270 _ ?_, hrun, hended, _, _, rfl, ?_, ⟨_, rfl⟩, hWm, hsame.mono (by decide) (by decide)⟩
     · show Steps p.tables e below (T269.setTop (mkF m 272 Lb256 [(.int (lcmpW (((((0 : Int64) + p2) + p3) + p4) - p3) (p2 + p4)))])) _
       refine sN X269 hx hby at_272 ((if0 _ _).trans (teq (((lw_eq _ _).mpr hc271) : (lcmpW (((((0 : Int64) + p2) + p3) + p4) - p3) (p2 + p4)) = (0 : Int32))).2) ?_
       refine sa X269 hx hby at_275 rfl rfl ?_
       refine st273.trans ?_
       refine sa X273 hx hby at_280 rfl rfl ?_
       refine Jvm.RoadKit.acmp (g := (mkF m 282 Lb256 [(.ref b7), (.ref b7)])) X273 hx rfl rfl rfl (pc0 := 282) (pc' := 285) (same := true) rfl (hb hby at_282) rfl (decide_eq_true rfl) (by decide) (by decide) ?_
       refine sc X273 hx hby at_285 ?_
       refine sg (pc := 286) (pc' := 290) X273 hx hby at_286 (by decide) (by decide) ?_
       refine XS.istore X273.here hx rfl (hb hby at_290) rfl (l' := Lb274) rfl ?_
       show Steps p.tables e below (T273.setTop (mkF m 292 Lb274 [])) _
       refine si X273 hx hby at_292 rfl ?_
       refine sN X273 hx hby at_294 (by decide) ?_
       refine sa X273 hx hby at_297 rfl rfl ?_
       refine st275 _ ?_
       refine XS.ifnonnullNo X275.here hx rfl (hb hby at_302) rfl ?_
       refine sa X275 hx hby at_305 rfl rfl ?_
       refine st276 _ ?_
       refine XS.ifnonnullNo X276.here hx rfl (hb hby at_310) rfl ?_
       refine sa X276 hx hby at_313 rfl rfl ?_
       refine st277 _ ?_
       refine XS.ifnonnullNo X277.here hx rfl (hb hby at_318) rfl ?_
       refine sc X277 hx hby at_321 ?_
       refine sg (pc := 322) (pc' := 326) X277 hx hby at_322 (by decide) (by decide) ?_
       refine XS.istore X277.here hx rfl (hb hby at_326) rfl (l' := Lb274) rfl ?_
       refine sa X277 hx hby at_328 rfl rfl ?_
       show Steps p.tables e below (T277.setTop (mkF m 330 Lb274 [(.ref b7)])) _
       refine XS.ifnullNo X277.here hx rfl (hb hby at_330) rfl ?_
       refine si X277 hx hby at_333 rfl ?_
       refine sN X277 hx hby at_335 (by decide) ?_
       refine sa X277 hx hby at_338 rfl rfl ?_
       refine st279 _ ?_
       refine XS.ifnonnullNo X279.here hx rfl (hb hby at_343) rfl ?_
       refine sa X279 hx hby at_346 rfl rfl ?_
       refine st280 _ ?_
       refine sa X280 hx hby at_351 rfl rfl ?_
       refine Jvm.RoadKit.acmp (g := (mkF m 353 Lb274 [(.ref b19), (.ref b19)])) X280 hx rfl rfl rfl (pc0 := 353) (pc' := 356) (same := true) rfl (hb hby at_353) rfl (decide_eq_true rfl) (by decide) (by decide) ?_
       refine sa X280 hx hby at_356 rfl rfl ?_
       refine st282 _ ?_
       refine sa X282 hx hby at_361 rfl rfl ?_
       refine Jvm.RoadKit.acmp (g := (mkF m 363 Lb274 [(.ref b3), (.ref b3)])) X282 hx rfl rfl rfl (pc0 := 363) (pc' := 366) (same := true) rfl (hb hby at_363) rfl (decide_eq_true rfl) (by decide) (by decide) ?_
       refine sc X282 hx hby at_366 ?_
       refine sg (pc := 367) (pc' := 371) X282 hx hby at_367 (by decide) (by decide) ?_
       refine XS.istore X282.here hx rfl (hb hby at_371) rfl (l' := Lb274) rfl ?_
       show Steps p.tables e below (T282.setTop (mkF m 373 Lb274 [])) _
       refine sa X282 hx hby at_373 rfl rfl ?_
       refine XS.ifnullNo X282.here hx rfl (hb hby at_375) rfl ?_
       refine si X282 hx hby at_378 rfl ?_
       refine sN X282 hx hby at_380 (by decide) ?_
       refine sa X282 hx hby at_383 rfl rfl ?_
       show Steps p.tables e below (T282.setTop (mkF m 385 Lb274 [(.ref b19)])) _
       refine st283 _ ?_
       refine sa X283 hx hby at_388 rfl rfl ?_
       refine Jvm.RoadKit.acmp (g := (mkF m 390 Lb274 [(.ref b7), (.ref b7)])) X283 hx rfl rfl rfl (pc0 := 390) (pc' := 393) (same := true) rfl (hb hby at_390) rfl (decide_eq_true rfl) (by decide) (by decide) ?_
       refine sa X283 hx hby at_393 rfl rfl ?_
       refine st285 _ ?_
       refine XS.ifnonnullNo X285.here hx rfl (hb hby at_398) rfl ?_
       refine sa X285 hx hby at_401 rfl rfl ?_
       refine st287 _ ?_
       refine sa X287 hx hby at_406 rfl rfl ?_
       refine Jvm.RoadKit.acmp (g := (mkF m 408 Lb274 [(.ref b3), (.ref b3)])) X287 hx rfl rfl rfl (pc0 := 408) (pc' := 411) (same := true) rfl (hb hby at_408) rfl (decide_eq_true rfl) (by decide) (by decide) ?_
       refine sc X287 hx hby at_411 ?_
       refine sg (pc := 412) (pc' := 416) X287 hx hby at_412 (by decide) (by decide) ?_
       refine XS.istore X287.here hx rfl (hb hby at_416) rfl (l' := Lb274) rfl ?_
       show Steps p.tables e below (T287.setTop (mkF m 418 Lb274 [])) _
       refine sa X287 hx hby at_418 rfl rfl ?_
       refine XS.ifnullNo X287.here hx rfl (hb hby at_420) rfl ?_
       refine sa X287 hx hby at_423 rfl rfl ?_
       refine sg (pc := 425) (pc' := 430) X287 hx hby at_425 (by decide) (by decide) ?_
       refine XS.astore X287.here hx rfl (hb hby at_430) rfl rfl (l' := Lb288) rfl ?_
       show Steps p.tables e below (T287.setTop (mkF m 432 Lb288 [])) _
       refine sa X287 hx hby at_432 rfl rfl ?_
       refine sa X287 hx hby at_434 rfl rfl ?_
       refine st295.trans ?_
       refine si X295 hx hby at_439 rfl ?_
       refine sN X295 hx hby at_441 (by decide) ?_
       refine sa X295 hx hby at_444 rfl rfl ?_
       refine st297 _ ?_
       refine sa X297 hx hby at_449 rfl rfl ?_
       refine Jvm.RoadKit.acmp (g := (mkF m 451 Lb288 [(.ref b19), (.ref b19)])) X297 hx rfl rfl rfl (pc0 := 451) (pc' := 454) (same := true) rfl (hb hby at_451) rfl (decide_eq_true rfl) (by decide) (by decide) ?_
       refine sc X297 hx hby at_454 ?_
       refine sg (pc := 455) (pc' := 459) X297 hx hby at_455 (by decide) (by decide) ?_
       refine XS.istore X297.here hx rfl (hb hby at_459) rfl (l' := Lb288) rfl ?_
       show Steps p.tables e below (T297.setTop (mkF m 461 Lb288 [])) _
       refine sa X297 hx hby at_461 rfl rfl ?_
       refine XS.ifnonnullYes X297.here hx rfl (pc0 := 463) (pc' := 491) rfl (hb hby at_463) rfl (by decide) (by decide) ?_
       refine si X297 hx hby at_491 rfl ?_
       refine sN X297 hx hby at_493 (by decide) ?_
       refine sa X297 hx hby at_496 rfl rfl ?_
       show Steps p.tables e below (T297.setTop (mkF m 498 Lb288 [(.ref b19)])) _
       refine st298 _ ?_
       refine sa X298 hx hby at_501 rfl rfl ?_
       refine Jvm.RoadKit.acmp (g := (mkF m 503 Lb288 [(.ref b13), (.ref b13)])) X298 hx rfl rfl rfl (pc0 := 503) (pc' := 506) (same := true) rfl (hb hby at_503) rfl (decide_eq_true rfl) (by decide) (by decide) ?_
       refine sc X298 hx hby at_506 ?_
       refine sg (pc := 507) (pc' := 511) X298 hx hby at_507 (by decide) (by decide) ?_
       refine XS.istore X298.here hx rfl (hb hby at_511) rfl (l' := Lb288) rfl ?_
       show Steps p.tables e below (T298.setTop (mkF m 513 Lb288 [])) _
       refine si X298 hx hby at_513 rfl ?_
       exact retN X298 hx (t := .boolean) Bd.returns (by simp) (hb hby at_515) hr
     · show Q0 n0 _ T298.heap _
       rw [e298]
       exact ⟨rfl, N295⟩
    ·
     exfalso
     have z15 : ((((((0 : Int64) + p2) + p3) + p4) - p3)).toInt ≠ ((p2 + p4)).toInt := fun q => hc271 (Int64.toInt_inj.mp q)
     have z1 := rng64 (((((0 : Int64) + p2) + p3) + p4) - p3)
     have z2 := rng64 ((((0 : Int64) + p2) + p3) + p4)
     have z3 := rng64 (((0 : Int64) + p2) + p3)
     have z4 := rng64 ((0 : Int64) + p2)
     have z5 : ((0 : Int64)).toInt = 0 := by decide
     have z6 := rng64 p2
     have z7 := c_ladd (0 : Int64) p2
     have z8 := rng64 p3
     have z9 := c_ladd ((0 : Int64) + p2) p3
     have z10 := rng64 p4
     have z11 := c_ladd (((0 : Int64) + p2) + p3) p4
     have z12 := c_lsub ((((0 : Int64) + p2) + p3) + p4) p3
     have z13 := rng64 (p2 + p4)
     have z14 := c_ladd p2 p4
     omega
   ·
    rw [hs197] at pre196
    let Lb299 : Array Slot := #[.val (.int p0), .val (.int p1), .val (.long p2), .second, .val (.long p3), .second, .val (.long p4), .second, .val (.int (3 : Int32)), .val (.int (2 : Int32)), .val (.ref b3), .val (.ref b7), .val (.ref b13), .val (.ref b19), .unset, .unset, .unset, .unset, .unset, .unset, .unset]
    let Lb300 : Array Slot := #[.val (.int p0), .val (.int p1), .val (.long p2), .second, .val (.long p3), .second, .val (.long p4), .second, .val (.int (3 : Int32)), .val (.int (2 : Int32)), .val (.ref b3), .val (.ref b7), .val (.ref b13), .val (.ref b19), .val (.ref b19), .unset, .unset, .unset, .unset, .unset, .unset]
    let Lb301 : Array Slot := #[.val (.int p0), .val (.int p1), .val (.long p2), .second, .val (.long p3), .second, .val (.long p4), .second, .val (.int (3 : Int32)), .val (.int (2 : Int32)), .val (.ref b3), .val (.ref b7), .val (.ref b13), .val (.ref b19), .val (.ref b19), .val .null, .unset, .unset, .unset, .unset, .unset]
    let Lb302 : Array Slot := #[.val (.int p0), .val (.int p1), .val (.long p2), .second, .val (.long p3), .second, .val (.long p4), .second, .val (.int (3 : Int32)), .val (.int (2 : Int32)), .val (.ref b3), .val (.ref b7), .val (.ref b13), .val (.ref b19), .val (.ref b19), .val .null, .val .null, .unset, .unset, .unset, .unset]
    let Lb303 : Array Slot := #[.val (.int p0), .val (.int p1), .val (.long p2), .second, .val (.long p3), .second, .val (.long p4), .second, .val (.int (3 : Int32)), .val (.int (2 : Int32)), .val (.ref b3), .val (.ref b7), .val (.ref b13), .val (.ref b19), .val (.ref b19), .val .null, .val .null, .val (.long (0 : Int64)), .second, .unset, .unset]
    let Lb304 : Array Slot := #[.val (.int p0), .val (.int p1), .val (.long p2), .second, .val (.long p3), .second, .val (.long p4), .second, .val (.int (3 : Int32)), .val (.int (2 : Int32)), .val (.ref b3), .val (.ref b7), .val (.ref b13), .val (.ref b19), .val (.ref b19), .val (.ref b7), .val .null, .val (.long (0 : Int64)), .second, .unset, .unset]
    let Lb305 : Array Slot := #[.val (.int p0), .val (.int p1), .val (.long p2), .second, .val (.long p3), .second, .val (.long p4), .second, .val (.int (3 : Int32)), .val (.int (2 : Int32)), .val (.ref b3), .val (.ref b7), .val (.ref b13), .val (.ref b19), .val (.ref b19), .val (.ref b7), .val (.ref b13), .val (.long (0 : Int64)), .second, .unset, .unset]
    let Lb306 : Array Slot := #[.val (.int p0), .val (.int p1), .val (.long p2), .second, .val (.long p3), .second, .val (.long p4), .second, .val (.int (3 : Int32)), .val (.int (2 : Int32)), .val (.ref b3), .val (.ref b7), .val (.ref b13), .val (.ref b19), .val (.ref b19), .val (.ref b7), .val (.ref b13), .val (.long (p2 + p3)), .second, .unset, .unset]
    have t307 := (own_exa t192 K194)
    have t308 := (own_exa t186 K194)
    have t309 := (own_exa t187 K194)
    have t310 := (own_fld t193 K194 (own_nlb (Ne.symm ne27) (own_nls (sn72 hw) (own_nls (sn73 hw) (own_nls (sn74 hw) (own_nls (sn75 hw) (own_nlb (Ne.symm ne177) (own_nlb (Ne.symm ne27) (own_nlb (Ne.symm ne27) (own_nlb (Ne.symm ne27) own_nl0))))))))))
    obtain ⟨cq311, kq311, q311a, q311b, q311c⟩ := isOf hZ rfl t308
    obtain ⟨_, _, ⟨T311, L311, kk311, nn311⟩, -, X311, ⟨Lc311, hQ311, l311, y311, z311⟩, st311⟩ := X194.virtualBack hx (y := ym6) (z := ym6) hown (mvT hZ (wk80 hw)) (mvT hZ (wk81 hw)) (notFace_of_selects (args := #[]) (mvT hZ (wk83 hw))) (mvT hZ (wk83 hw)) (mvT hZ (wk82 hw)) (by decide) (backOf (W := 0) (rm8_25 l Z a0 hw w hW [] b3 b19 b13 ((((0 : Int64) + p2) + p3) + p4) p4 T194.heap n0 O195 r194_4 r194_5 t307 r194_6 gg13 (Ne.symm ne177) t308 r194_3 ne26 gg3 t309 (Ne.symm ne27) gg19 r194_2 r194_7 r194_8 t310) hZ (wk84 hw) (wk3 hw) (by decide) (by decide)) q311a q311c (g := (mkF m 247 Lb306 [(.ref b19), (.ref b3)])) rfl (by rw [hml]; rfl) (Steps.refl _) (argsL := [(.ref b19)]) (rest := []) (lenOf pds_5 rfl) rfl (by show 2 * 0 + _ ≤ _; exact Nat.le_of_eq rfl) (hb hby at_247) (fun _ _ => ⟨rfl, rfl, (by decide : 4 + 0 ≤ _), (by decide : 59 + 0 ≤ _)⟩)
    dsimp only [Pt.U, Pt.locs, Pt.cells, Pt.slots] at X311 l311 y311 z311 st311 hQ311
    rw [l311, y311, z311] at X311
    obtain ⟨rfl, N311q, K311, r311_0, r311_1, r311_2, r311_3, r311_4, r311_5, r311_6⟩ := hQ311
    have N311 := Fr.app N194 N311q
    have O312 := own_old O195 K311 (own_ngc gg13 (own_ngc gg3 (own_ngc gg19 (own_ngc gg19 (own_ngc gg19 (own_ngc gg3 (own_ngc gg3 own_ng0)))))))
    have t314 := (own_exa t308 K311)
    obtain ⟨cq313, kq313, q313a, q313b, q313c⟩ := isOf hZ rfl t314
    obtain ⟨_, _, ⟨T313, L313, kk313, nn313⟩, -, X313, ⟨Lc313, hQ313, l313, y313, z313⟩, st313⟩ := X311.virtualBack hx (y := ym7) (z := ym7) hown (mvT hZ (wk85 hw)) (mvT hZ (wk86 hw)) (notFace_of_selects (args := #[]) (mvT hZ (wk88 hw))) (mvT hZ (wk88 hw)) (mvT hZ (wk87 hw)) (by decide) (backOf (W := 0) (rm9_21 l Z a0 hw w hW [] b3 T311.heap n0 O312 r311_5) hZ (wk89 hw) (wk3 hw) (by decide) (by decide)) q313a q313c (g := (mkF m 252 Lb306 [(.ref b3)])) rfl (by rw [hml]; rfl) (Steps.refl _) (argsL := []) (rest := []) (lenOf pds_6 rfl) rfl (by show 2 * 0 + _ ≤ _; exact Nat.le_of_eq rfl) (hb hby at_252) (fun _ _ => ⟨rfl, rfl, (by decide : 4 + 0 ≤ _), (by decide : 59 + 0 ≤ _)⟩)
    dsimp only [Pt.U, Pt.locs, Pt.cells, Pt.slots] at X313 l313 y313 z313 st313 hQ313
    rw [l313, y313, z313] at X313
    obtain ⟨rfl, N313q, e313⟩ := hQ313
    have N313 := Fr.app N311 N313q
    obtain ⟨cq315, kq315, q315a, q315b, q315c⟩ := isOf hZ e313 t314
    obtain ⟨_, _, ⟨T315, L315, kk315, nn315⟩, -, X315, ⟨Lc315, hQ315, l315, y315, z315⟩, st315⟩ := X313.virtualBack hx (y := ym8) (z := ym8) hown (mvT hZ (wk90 hw)) (mvT hZ (wk91 hw)) (notFace_of_selects (args := #[]) (mvT hZ (wk93 hw))) (mvT hZ (wk93 hw)) (mvT hZ (wk92 hw)) (by decide) (backOf (W := 0) (rm10_9 l Z a0 hw w hW [] b3 (((((0 : Int64) + p2) + p3) + p4) - p4) T311.heap n0 O312 r311_6) hZ (wk94 hw) (wk3 hw) (by decide) (by decide)) q315a q315c (g := (mkF m 266 Lb306 [(.ref b3)])) rfl (by rw [hml]; rfl) (Steps.refl _) (argsL := []) (rest := []) (lenOf pds_6 rfl) rfl (by show 2 * 0 + _ ≤ _; exact Nat.le_of_eq rfl) (hb hby at_266) (fun _ _ => ⟨rfl, e313, (by decide : 4 + 0 ≤ _), (by decide : 59 + 0 ≤ _)⟩)
    dsimp only [Pt.U, Pt.locs, Pt.cells, Pt.slots] at X315 l315 y315 z315 st315 hQ315
    rw [l315, y315, z315] at X315
    obtain ⟨rfl, N315q, e315⟩ := hQ315
    have N315 := Fr.app N313 N315q
    have pre316 : ∀ t, Steps p.tables e below (T315.setTop (mkF m 272 Lb306 [(.int (lcmpW (((((0 : Int64) + p2) + p3) + p4) - p4) (p2 + p3)))])) t → Steps p.tables e below (s₁.setTop (entryFrame m #[(.int p0), (.int p1), (.long p2), (.long p3), (.long p4)] maxLocals)) t := fun t k => pre196 t (by
     show Steps p.tables e below (T194.setTop (mkF m 113 Lb299 [(.int (2 : Int32))])) _
     refine XS.ifYes X194.here hx rfl (pc0 := 113) (pc' := 121) rfl (hb hby at_113) rfl (by decide) (by decide) (by decide) ?_
     refine si X194 hx hby at_121 rfl ?_
     refine sc X194 hx hby at_123 ?_
     refine XS.icmpYes X194.here hx rfl (pc0 := 124) (pc' := 132) rfl (hb hby at_124) rfl (by decide) (by decide) (by decide) ?_
     refine sa X194 hx hby at_132 rfl rfl ?_
     show Steps p.tables e below (T194.setTop (mkF m 134 Lb299 [(.ref b19)])) _
     refine XS.astore X194.here hx rfl (hb hby at_134) rfl rfl (l' := Lb300) rfl ?_
     refine XS.aconstNull X194.here hx rfl (hb hby at_136) ?_
     refine XS.astore X194.here hx rfl (hb hby at_137) rfl rfl (l' := Lb301) rfl ?_
     refine XS.aconstNull X194.here hx rfl (hb hby at_139) ?_
     refine XS.astore X194.here hx rfl (hb hby at_140) rfl rfl (l' := Lb302) rfl ?_
     show Steps p.tables e below (T194.setTop (mkF m 142 Lb302 [])) _
     refine XS.lconst X194.here hx rfl (hb hby at_142) ?_
     refine XS.lstore X194.here hx rfl (hb hby at_143) rfl (l' := Lb303) rfl ?_
     refine si X194 hx hby at_145 rfl ?_
     refine sc X194 hx hby at_147 ?_
     refine XS.icmpYes X194.here hx rfl (pc0 := 148) (pc' := 177) rfl (hb hby at_148) rfl (by decide) (by decide) (by decide) ?_
     show Steps p.tables e below (T194.setTop (mkF m 177 Lb303 [])) _
     refine si X194 hx hby at_177 rfl ?_
     refine sc X194 hx hby at_179 ?_
     refine sn X194 hx hby at_180 (by decide) ?_
     refine si X194 hx hby at_183 rfl ?_
     refine XS.ifYes X194.here hx rfl (pc0 := 185) (pc' := 206) rfl (hb hby at_185) rfl (by decide) (by decide) (by decide) ?_
     show Steps p.tables e below (T194.setTop (mkF m 206 Lb303 [])) _
     refine si X194 hx hby at_206 rfl ?_
     refine sc X194 hx hby at_208 ?_
     refine XS.icmpYes X194.here hx rfl (pc0 := 209) (pc' := 229) rfl (hb hby at_209) rfl (by decide) (by decide) (by decide) ?_
     refine sa X194 hx hby at_229 rfl rfl ?_
     refine XS.astore X194.here hx rfl (hb hby at_231) rfl rfl (l' := Lb304) rfl ?_
     show Steps p.tables e below (T194.setTop (mkF m 233 Lb304 [])) _
     refine sa X194 hx hby at_233 rfl rfl ?_
     refine XS.astore X194.here hx rfl (hb hby at_235) rfl rfl (l' := Lb305) rfl ?_
     refine sL X194 hx hby at_237 rfl ?_
     refine XS.lload X194.here hx rfl (hb hby at_238) rfl ?_
     refine XS.ladd X194.here hx rfl (hb hby at_240) rfl ?_
     show Steps p.tables e below (T194.setTop (mkF m 241 Lb305 [(.long (p2 + p3))])) _
     refine XS.lstore X194.here hx rfl (hb hby at_241) rfl (l' := Lb306) rfl ?_
     refine sa X194 hx hby at_243 rfl rfl ?_
     refine sa X194 hx hby at_245 rfl rfl ?_
     refine st311.trans ?_
     refine sa X311 hx hby at_250 rfl rfl ?_
     refine st313.trans ?_
     refine si X313 hx hby at_255 rfl ?_
     refine sc X313 hx hby at_257 ?_
     refine XS.isub X313.here hx rfl (hb hby at_258) rfl ?_
     refine XS.i2l X313.here hx rfl (hb hby at_259) rfl ?_
     refine XS.lcmp X313.here hx rfl (hb hby at_260) rfl ?_
     show Steps p.tables e below (T313.setTop (mkF m 261 Lb306 [(.int (0 : Int32))])) _
     refine sN X313 hx hby at_261 (by decide) ?_
     refine sa X313 hx hby at_264 rfl rfl ?_
     refine st315.trans ?_
     refine XS.lload X315.here hx rfl (hb hby at_269) rfl ?_
     refine XS.lcmp X315.here hx rfl (hb hby at_271) rfl ?_
     exact k)
    by_cases hc317 : (((((0 : Int64) + p2) + p3) + p4) - p4) = (p2 + p3)
    ·
     have t318 := (own_fld (own_fld (own_fld r42_6 K184 (own_nls (sn63 hw) (own_nlb ne26 (own_nlb ne26 (own_nlb ne26 (own_nlb ne26 (own_nlb ne25 (own_nls (sn88 hw) (own_nls (sn89 hw) (own_nls (sn90 hw) own_nl0)))))))))) K194 (own_nls (sn63 hw) (own_nlb ne27 (own_nlb ne27 (own_nlb ne27 (own_nlb ne27 (own_nlb ne26 (own_nls (sn88 hw) (own_nls (sn89 hw) (own_nls (sn90 hw) own_nl0)))))))))) K311 (own_nlb ne26 (own_nls (sn88 hw) (own_nlb ne27 (own_nlb ne27 (own_nlb ne27 (own_nls (sn89 hw) (own_nls (sn90 hw) own_nl0))))))))
     obtain ⟨cq319, kq319, q319a, q319b, q319c⟩ := isOf hZ e315 t314
     obtain ⟨_, _, ⟨T319, L319, kk319, nn319⟩, -, X319, ⟨Lc319, hQ319, l319, y319, z319⟩, st319⟩ := X315.virtualBack hx (y := ym9) (z := ym9) hown (mvT hZ (wk95 hw)) (mvT hZ (wk96 hw)) (notFace_of_selects (args := #[]) (mvT hZ (wk98 hw))) (mvT hZ (wk98 hw)) (mvT hZ (wk97 hw)) (by decide) (backOf (W := 0) (rm11_12 l Z a0 hw w hW [] b3 b7 T311.heap n0 O312 t318) hZ (wk99 hw) (wk3 hw) (by decide) (by decide)) q319a q319c (g := (mkF m 277 Lb306 [(.ref b3)])) rfl (by rw [hml]; rfl) (Steps.refl _) (argsL := []) (rest := []) (lenOf pds_7 rfl) rfl (by show 2 * 0 + _ ≤ _; exact Nat.le_of_eq rfl) (hb hby at_277) (fun _ _ => ⟨rfl, e315, (by decide : 4 + 0 ≤ _), (by decide : 59 + 0 ≤ _)⟩)
     dsimp only [Pt.U, Pt.locs, Pt.cells, Pt.slots] at X319 l319 y319 z319 st319 hQ319
     rw [l319, y319, z319] at X319
     obtain ⟨rfl, N319q, e319⟩ := hQ319
     have N319 := Fr.app N315 N319q
     let Lb320 : Array Slot := #[.val (.int p0), .val (.int p1), .val (.long p2), .second, .val (.long p3), .second, .val (.long p4), .second, .val (.int (3 : Int32)), .val (.int (2 : Int32)), .val (.ref b3), .val (.ref b7), .val (.ref b13), .val (.ref b19), .val (.ref b19), .val (.ref b7), .val (.ref b13), .val (.long (p2 + p3)), .second, .val (.int (1 : Int32)), .unset]
     obtain ⟨T321, X321, e321, st321⟩ := getF X319 hx hZ hown (host := "") (Or.inl (wk100 hw)) Via.refl e319 r311_0 (g := (mkF m 299 Lb320 [(.ref b19)])) rfl rfl (hb hby at_299)
     obtain ⟨T322, X322, e322, st322⟩ := getF X321 hx hZ hown (host := "") (Or.inl (wk101 hw)) Via.refl e321 r311_1 (g := (mkF m 307 Lb320 [(.ref b19)])) rfl rfl (hb hby at_307)
     obtain ⟨T323, X323, e323, st323⟩ := getF X322 hx hZ hown (host := "") (Or.inl (wk102 hw)) Via.refl e322 r311_4 (g := (mkF m 315 Lb320 [(.ref b19)])) rfl rfl (hb hby at_315)
     have t324 := (own_fld (own_fld (own_fld r42_4 K184 (own_nlb (Ne.symm ne25) (own_nlb ne31 (own_nlb ne31 (own_nlb ne31 (own_nlb ne31 (own_nls (sn87 hw) (own_nlb (Ne.symm ne25) (own_nlb (Ne.symm ne25) (own_nlb (Ne.symm ne25) own_nl0)))))))))) K194 (own_nlb (Ne.symm ne25) (own_nlb ne32 (own_nlb ne32 (own_nlb ne32 (own_nlb ne32 (own_nlb ne31 (own_nlb (Ne.symm ne25) (own_nlb (Ne.symm ne25) (own_nlb (Ne.symm ne25) own_nl0)))))))))) K311 (own_nlb ne31 (own_nlb (Ne.symm ne25) (own_nlb ne32 (own_nlb ne32 (own_nlb ne32 (own_nlb (Ne.symm ne25) (own_nlb (Ne.symm ne25) own_nl0))))))))
     obtain ⟨T325, X325, e325, st325⟩ := getF X323 hx hZ hown (host := "") (Or.inl (wk100 hw)) Via.refl e323 t324 (g := (mkF m 340 Lb320 [(.ref b7)])) rfl rfl (hb hby at_340)
     have t326 := (own_fld (own_fld r184_6 K194 (own_nlb (Ne.symm ne25) (own_nlb ne32 (own_nlb ne32 (own_nlb ne32 (own_nlb ne32 (own_nlb ne31 (own_nlb (Ne.symm ne25) (own_nlb (Ne.symm ne25) (own_nlb (Ne.symm ne25) own_nl0)))))))))) K311 (own_nlb ne31 (own_nlb (Ne.symm ne25) (own_nlb ne32 (own_nlb ne32 (own_nlb ne32 (own_nlb (Ne.symm ne25) (own_nlb (Ne.symm ne25) own_nl0))))))))
     obtain ⟨T327, X327, e327, st327⟩ := getF X325 hx hZ hown (host := "") (Or.inl (wk101 hw)) Via.refl e325 t326 (g := (mkF m 348 Lb320 [(.ref b7)])) rfl rfl (hb hby at_348)
     have t328 := (own_fld (own_fld (own_fld r42_2 K184 (own_nlb (Ne.symm ne25) (own_nlb ne31 (own_nlb ne31 (own_nlb ne31 (own_nlb ne31 (own_nls (sn84 hw) (own_nlb (Ne.symm ne25) (own_nlb (Ne.symm ne25) (own_nlb (Ne.symm ne25) own_nl0)))))))))) K194 (own_nlb (Ne.symm ne25) (own_nlb ne32 (own_nlb ne32 (own_nlb ne32 (own_nlb ne32 (own_nlb ne31 (own_nlb (Ne.symm ne25) (own_nlb (Ne.symm ne25) (own_nlb (Ne.symm ne25) own_nl0)))))))))) K311 (own_nlb ne31 (own_nlb (Ne.symm ne25) (own_nlb ne32 (own_nlb ne32 (own_nlb ne32 (own_nlb (Ne.symm ne25) (own_nlb (Ne.symm ne25) own_nl0))))))))
     obtain ⟨T329, X329, e329, st329⟩ := getF X327 hx hZ hown (host := "") (Or.inl (wk102 hw)) Via.refl e327 t328 (g := (mkF m 358 Lb320 [(.ref b7)])) rfl rfl (hb hby at_358)
     have t330 := (own_fld (own_fld r184_4 K194 (own_nlb (Ne.symm ne26) (own_nlb ne177 (own_nlb ne177 (own_nlb ne177 (own_nlb ne177 (own_nls (sn87 hw) (own_nlb (Ne.symm ne26) (own_nlb (Ne.symm ne26) (own_nlb (Ne.symm ne26) own_nl0)))))))))) K311 (own_nls (sn87 hw) (own_nlb (Ne.symm ne26) (own_nlb ne177 (own_nlb ne177 (own_nlb ne177 (own_nlb (Ne.symm ne26) (own_nlb (Ne.symm ne26) own_nl0))))))))
     obtain ⟨T331, X331, e331, st331⟩ := getF X329 hx hZ hown (host := "") (Or.inl (wk100 hw)) Via.refl e329 t330 (g := (mkF m 385 Lb320 [(.ref b13)])) rfl rfl (hb hby at_385)
     obtain ⟨T332, X332, e332, st332⟩ := getF X331 hx hZ hown (host := "") (Or.inl (wk101 hw)) Via.refl e331 r311_2 (g := (mkF m 395 Lb320 [(.ref b13)])) rfl rfl (hb hby at_395)
     have t333 := (own_fld (own_fld r184_2 K194 (own_nlb (Ne.symm ne26) (own_nlb ne177 (own_nlb ne177 (own_nlb ne177 (own_nlb ne177 (own_nls (sn84 hw) (own_nlb (Ne.symm ne26) (own_nlb (Ne.symm ne26) (own_nlb (Ne.symm ne26) own_nl0)))))))))) K311 (own_nls (sn84 hw) (own_nlb (Ne.symm ne26) (own_nlb ne177 (own_nlb ne177 (own_nlb ne177 (own_nlb (Ne.symm ne26) (own_nlb (Ne.symm ne26) own_nl0))))))))
     obtain ⟨T334, X334, e334, st334⟩ := getF X332 hx hZ hown (host := "") (Or.inl (wk102 hw)) Via.refl e332 t333 (g := (mkF m 403 Lb320 [(.ref b13)])) rfl rfl (hb hby at_403)
     let Lb335 : Array Slot := #[.val (.int p0), .val (.int p1), .val (.long p2), .second, .val (.long p3), .second, .val (.long p4), .second, .val (.int (3 : Int32)), .val (.int (2 : Int32)), .val (.ref b3), .val (.ref b7), .val (.ref b13), .val (.ref b19), .val (.ref b19), .val (.ref b7), .val (.ref b13), .val (.long (p2 + p3)), .second, .val (.int (1 : Int32)), .val (.ref b13)]
     have t336 := (own_fld r194_0 K311 (own_nlb ne26 (own_nls (sn77 hw) (own_nlb ne27 (own_nlb ne27 (own_nlb ne27 (own_nls (sn78 hw) (own_nls (sn79 hw) own_nl0))))))))
     have t337 := (own_exa t309 K311)
     have t338 := (own_fld r194_1 K311 (own_nlb (Ne.symm ne177) (own_nlb (Ne.symm ne27) (own_nls (sn81 hw) (own_nls (sn82 hw) (own_nls (sn80 hw) (own_nlb (Ne.symm ne27) (own_nlb (Ne.symm ne27) own_nl0))))))))
     have t339 := (own_exa t307 K311)
     have t340 := (own_fld t310 K311 (own_nlb (Ne.symm ne177) (own_nlb (Ne.symm ne27) (own_nls (sn74 hw) (own_nls (sn75 hw) (own_nls (sn73 hw) (own_nlb (Ne.symm ne27) (own_nlb (Ne.symm ne27) own_nl0))))))))
     obtain ⟨cq341, kq341, q341a, q341b, q341c⟩ := isOf hZ e334 t314
     obtain ⟨_, _, ⟨T341, L341, kk341, nn341⟩, -, X341, ⟨Lc341, hQ341, l341, y341, z341⟩, st341⟩ := X334.virtualBack hx (y := ym5) (z := ym5) hown (mvT hZ (wk56 hw)) (mvT hZ (wk57 hw)) (notFace_of_selects (args := #[]) (mvT hZ (wk59 hw))) (mvT hZ (wk59 hw)) (mvT hZ (wk58 hw)) (by decide) (backOf (W := 0) (rm7_26 l Z a0 hw w hW [] b3 b19 b13 (((((0 : Int64) + p2) + p3) + p4) - p4) p4 T311.heap n0 O312 t336 t314 gg3 t337 t338 (Ne.symm ne27) gg19 r311_4 r311_3 r311_0 r311_1 t339 r311_2 (Ne.symm ne26) ne177 gg13 r311_5 r311_6 t340) hZ (wk60 hw) (wk3 hw) (by decide) (by decide)) q341a q341c (g := (mkF m 436 Lb335 [(.ref b19), (.ref b3)])) rfl (by rw [hml]; rfl) (Steps.refl _) (argsL := [(.ref b19)]) (rest := []) (lenOf pds_5 rfl) rfl (by show 2 * 0 + _ ≤ _; exact Nat.le_of_eq rfl) (hb hby at_436) (fun _ _ => ⟨rfl, e334, (by decide : 4 + 0 ≤ _), (by decide : 59 + 0 ≤ _)⟩)
     dsimp only [Pt.U, Pt.locs, Pt.cells, Pt.slots] at X341 l341 y341 z341 st341 hQ341
     rw [l341, y341, z341] at X341
     obtain ⟨rfl, N341q, K341, r341_0, r341_1, r341_2, r341_3, r341_4, r341_5, r341_6, r341_7, r341_8⟩ := hQ341
     have N341 := Fr.app N319 N341q
     have O342 := own_old O312 K341 (own_ngc gg3 (own_ngc gg19 (own_ngc gg19 (own_ngc gg19 (own_ngc gg19 (own_ngc gg13 (own_ngc gg3 (own_ngc gg3 (own_ngc gg3 own_ng0)))))))))
     obtain ⟨T343, X343, e343, st343⟩ := getF X341 hx hZ hown (host := "") (Or.inl (wk100 hw)) Via.refl rfl r341_4 (g := (mkF m 446 Lb335 [(.ref b19)])) rfl rfl (hb hby at_446)
     obtain ⟨T344, X344, e344, st344⟩ := getF X343 hx hZ hown (host := "") (Or.inl (wk101 hw)) Via.refl e343 r341_6 (g := (mkF m 498 Lb335 [(.ref b13)])) rfl rfl (hb hby at_498)
     obtain ⟨fs, hr, hrun, hended, hWm, hsame⟩ := X344.leave (v := some (.int (1 : Int32))) (fun h => by rw [Bd.returns] at h; cases h)
     refine ⟨_, _, pre316 _ ?_, hrun, hended, _, _, rfl, ?_, ⟨_, rfl⟩, hWm, hsame.mono (by decide) (by decide)⟩
     · show Steps p.tables e below (T315.setTop (mkF m 272 Lb306 [(.int (lcmpW (((((0 : Int64) + p2) + p3) + p4) - p4) (p2 + p3)))])) _
       refine sN X315 hx hby at_272 ((if0 _ _).trans (teq (((lw_eq _ _).mpr hc317) : (lcmpW (((((0 : Int64) + p2) + p3) + p4) - p4) (p2 + p3)) = (0 : Int32))).2) ?_
       refine sa X315 hx hby at_275 rfl rfl ?_
       refine st319.trans ?_
       refine sa X319 hx hby at_280 rfl rfl ?_
       refine Jvm.RoadKit.acmp (g := (mkF m 282 Lb306 [(.ref b7), (.ref b7)])) X319 hx rfl rfl rfl (pc0 := 282) (pc' := 285) (same := true) rfl (hb hby at_282) rfl (decide_eq_true rfl) (by decide) (by decide) ?_
       refine sc X319 hx hby at_285 ?_
       refine sg (pc := 286) (pc' := 290) X319 hx hby at_286 (by decide) (by decide) ?_
       refine XS.istore X319.here hx rfl (hb hby at_290) rfl (l' := Lb320) rfl ?_
       show Steps p.tables e below (T319.setTop (mkF m 292 Lb320 [])) _
       refine si X319 hx hby at_292 rfl ?_
       refine sN X319 hx hby at_294 (by decide) ?_
       refine sa X319 hx hby at_297 rfl rfl ?_
       refine st321 _ ?_
       refine XS.ifnonnullNo X321.here hx rfl (hb hby at_302) rfl ?_
       refine sa X321 hx hby at_305 rfl rfl ?_
       refine st322 _ ?_
       refine XS.ifnonnullNo X322.here hx rfl (hb hby at_310) rfl ?_
       refine sa X322 hx hby at_313 rfl rfl ?_
       refine st323 _ ?_
       refine XS.ifnonnullNo X323.here hx rfl (hb hby at_318) rfl ?_
       refine sc X323 hx hby at_321 ?_
       refine sg (pc := 322) (pc' := 326) X323 hx hby at_322 (by decide) (by decide) ?_
       refine XS.istore X323.here hx rfl (hb hby at_326) rfl (l' := Lb320) rfl ?_
       refine sa X323 hx hby at_328 rfl rfl ?_
       show Steps p.tables e below (T323.setTop (mkF m 330 Lb320 [(.ref b7)])) _
       refine XS.ifnullNo X323.here hx rfl (hb hby at_330) rfl ?_
       refine si X323 hx hby at_333 rfl ?_
       refine sN X323 hx hby at_335 (by decide) ?_
       refine sa X323 hx hby at_338 rfl rfl ?_
       refine st325 _ ?_
       refine XS.ifnonnullNo X325.here hx rfl (hb hby at_343) rfl ?_
       refine sa X325 hx hby at_346 rfl rfl ?_
       refine st327 _ ?_
       refine sa X327 hx hby at_351 rfl rfl ?_
       refine Jvm.RoadKit.acmp (g := (mkF m 353 Lb320 [(.ref b13), (.ref b13)])) X327 hx rfl rfl rfl (pc0 := 353) (pc' := 356) (same := true) rfl (hb hby at_353) rfl (decide_eq_true rfl) (by decide) (by decide) ?_
       refine sa X327 hx hby at_356 rfl rfl ?_
       refine st329 _ ?_
       refine sa X329 hx hby at_361 rfl rfl ?_
       refine Jvm.RoadKit.acmp (g := (mkF m 363 Lb320 [(.ref b3), (.ref b3)])) X329 hx rfl rfl rfl (pc0 := 363) (pc' := 366) (same := true) rfl (hb hby at_363) rfl (decide_eq_true rfl) (by decide) (by decide) ?_
       refine sc X329 hx hby at_366 ?_
       refine sg (pc := 367) (pc' := 371) X329 hx hby at_367 (by decide) (by decide) ?_
       refine XS.istore X329.here hx rfl (hb hby at_371) rfl (l' := Lb320) rfl ?_
       show Steps p.tables e below (T329.setTop (mkF m 373 Lb320 [])) _
       refine sa X329 hx hby at_373 rfl rfl ?_
       refine XS.ifnullNo X329.here hx rfl (hb hby at_375) rfl ?_
       refine si X329 hx hby at_378 rfl ?_
       refine sN X329 hx hby at_380 (by decide) ?_
       refine sa X329 hx hby at_383 rfl rfl ?_
       show Steps p.tables e below (T329.setTop (mkF m 385 Lb320 [(.ref b13)])) _
       refine st331 _ ?_
       refine sa X331 hx hby at_388 rfl rfl ?_
       refine Jvm.RoadKit.acmp (g := (mkF m 390 Lb320 [(.ref b7), (.ref b7)])) X331 hx rfl rfl rfl (pc0 := 390) (pc' := 393) (same := true) rfl (hb hby at_390) rfl (decide_eq_true rfl) (by decide) (by decide) ?_
       refine sa X331 hx hby at_393 rfl rfl ?_
       refine st332 _ ?_
       refine XS.ifnonnullNo X332.here hx rfl (hb hby at_398) rfl ?_
       refine sa X332 hx hby at_401 rfl rfl ?_
       refine st334 _ ?_
       refine sa X334 hx hby at_406 rfl rfl ?_
       refine Jvm.RoadKit.acmp (g := (mkF m 408 Lb320 [(.ref b3), (.ref b3)])) X334 hx rfl rfl rfl (pc0 := 408) (pc' := 411) (same := true) rfl (hb hby at_408) rfl (decide_eq_true rfl) (by decide) (by decide) ?_
       refine sc X334 hx hby at_411 ?_
       refine sg (pc := 412) (pc' := 416) X334 hx hby at_412 (by decide) (by decide) ?_
       refine XS.istore X334.here hx rfl (hb hby at_416) rfl (l' := Lb320) rfl ?_
       show Steps p.tables e below (T334.setTop (mkF m 418 Lb320 [])) _
       refine sa X334 hx hby at_418 rfl rfl ?_
       refine XS.ifnullNo X334.here hx rfl (hb hby at_420) rfl ?_
       refine sa X334 hx hby at_423 rfl rfl ?_
       refine sg (pc := 425) (pc' := 430) X334 hx hby at_425 (by decide) (by decide) ?_
       refine XS.astore X334.here hx rfl (hb hby at_430) rfl rfl (l' := Lb335) rfl ?_
       show Steps p.tables e below (T334.setTop (mkF m 432 Lb335 [])) _
       refine sa X334 hx hby at_432 rfl rfl ?_
       refine sa X334 hx hby at_434 rfl rfl ?_
       refine st341.trans ?_
       refine si X341 hx hby at_439 rfl ?_
       refine sN X341 hx hby at_441 (by decide) ?_
       refine sa X341 hx hby at_444 rfl rfl ?_
       refine st343 _ ?_
       refine sa X343 hx hby at_449 rfl rfl ?_
       refine Jvm.RoadKit.acmp (g := (mkF m 451 Lb335 [(.ref b13), (.ref b13)])) X343 hx rfl rfl rfl (pc0 := 451) (pc' := 454) (same := true) rfl (hb hby at_451) rfl (decide_eq_true rfl) (by decide) (by decide) ?_
       refine sc X343 hx hby at_454 ?_
       refine sg (pc := 455) (pc' := 459) X343 hx hby at_455 (by decide) (by decide) ?_
       refine XS.istore X343.here hx rfl (hb hby at_459) rfl (l' := Lb335) rfl ?_
       show Steps p.tables e below (T343.setTop (mkF m 461 Lb335 [])) _
       refine sa X343 hx hby at_461 rfl rfl ?_
       refine XS.ifnonnullYes X343.here hx rfl (pc0 := 463) (pc' := 491) rfl (hb hby at_463) rfl (by decide) (by decide) ?_
       refine si X343 hx hby at_491 rfl ?_
       refine sN X343 hx hby at_493 (by decide) ?_
       refine sa X343 hx hby at_496 rfl rfl ?_
       show Steps p.tables e below (T343.setTop (mkF m 498 Lb335 [(.ref b13)])) _
       refine st344 _ ?_
       refine sa X344 hx hby at_501 rfl rfl ?_
       refine Jvm.RoadKit.acmp (g := (mkF m 503 Lb335 [(.ref b19), (.ref b19)])) X344 hx rfl rfl rfl (pc0 := 503) (pc' := 506) (same := true) rfl (hb hby at_503) rfl (decide_eq_true rfl) (by decide) (by decide) ?_
       refine sc X344 hx hby at_506 ?_
       refine sg (pc := 507) (pc' := 511) X344 hx hby at_507 (by decide) (by decide) ?_
       refine XS.istore X344.here hx rfl (hb hby at_511) rfl (l' := Lb335) rfl ?_
       show Steps p.tables e below (T344.setTop (mkF m 513 Lb335 [])) _
       refine si X344 hx hby at_513 rfl ?_
       exact retN X344 hx (t := .boolean) Bd.returns (by simp) (hb hby at_515) hr
     · show Q0 n0 _ T344.heap _
       rw [e344]
       exact ⟨rfl, N341⟩
    ·
     exfalso
     have z15 : ((((((0 : Int64) + p2) + p3) + p4) - p4)).toInt ≠ ((p2 + p3)).toInt := fun q => hc317 (Int64.toInt_inj.mp q)
     have z1 := rng64 (((((0 : Int64) + p2) + p3) + p4) - p4)
     have z2 := rng64 ((((0 : Int64) + p2) + p3) + p4)
     have z3 := rng64 (((0 : Int64) + p2) + p3)
     have z4 := rng64 ((0 : Int64) + p2)
     have z5 : ((0 : Int64)).toInt = 0 := by decide
     have z6 := rng64 p2
     have z7 := c_ladd (0 : Int64) p2
     have z8 := rng64 p3
     have z9 := c_ladd ((0 : Int64) + p2) p3
     have z10 := rng64 p4
     have z11 := c_ladd (((0 : Int64) + p2) + p3) p4
     have z12 := c_lsub ((((0 : Int64) + p2) + p3) + p4) p4
     have z13 := rng64 (p2 + p3)
     have z14 := c_ladd p2 p3
     omega
set_option maxRecDepth 65536 in
set_option maxHeartbeats 400000000 in
theorem comes_1 {Post : Tables → Env → Array Value → State → Outcome → State → Prop} (hpost : ∀ tb e args s v u, (limb_1_1.after args s (.returned v) u = true ∧ limb_1_2.after args s (.returned v) u = true ∧ True) → FrameEnd s (.returned v) u (Jvm.fieldLocs frame_1_writes args s ++ Jvm.arrayLocs frame_1_arrays args s ++ Jvm.staticLocs frame_1_statics s) 16 192 → Post tb e args s (.returned v) u) :
    ArmFor flags0 classFile x code maxLocals ret World_1 tables_1 room_1 Calls_1 rest_1 Pre_1 Post := by
  intro l hfl _ _ p e ha hc hk s m args below hf hA hF happ hP
  obtain ⟨hcalls, hrest, hpre⟩ := hP
  obtain ⟨-, -, -, hnamed, -, -, -, hat⟩ := (Spec.applies_iff hf).mp happ
  obtain ⟨hg, hn⟩ := and_e (Cond.before_iff.mp (show (Jvm.Cond.and given_1 narrow_1).before args s = true from hpre))
  obtain ⟨ga4, gb4⟩ := and_e hg
  obtain ⟨ga5, gb5⟩ := and_e gb4
  obtain ⟨ga6, gb6⟩ := and_e gb5
  obtain ⟨ga7, gb7⟩ := and_e gb6
  obtain ⟨ga8, gb8⟩ := and_e gb7
  obtain ⟨v0, v1, v2, v3, v4, rfl⟩ : ∃ v0 v1 v2 v3 v4 : Value, args = #[v0, v1, v2, v3, v4] := by
    have hs : args.size = 5 := by simpa [Cond.value, given_1] using ga4
    obtain ⟨L⟩ := args
    match L, hs with
    | [v0, v1, v2, v3, v4], _ => exact ⟨v0, v1, v2, v3, v4, rfl⟩
  have hw := fun d (hd : d ∈ tables_1) => atoms_spec (ws := Jvm.Cond.code x code maxLocals ret :: tables_1) hat d (List.mem_cons_of_mem _ hd)
  have hfit : Fit s := fun {y c} hc i hi => by
    obtain ⟨ha, rfl⟩ := Array.getElem?_eq_some_iff.mp hc
    have q := List.all_eq_true.mp ((Array.all_eq_true_iff_forall_mem.mp hF) _ (Array.getElem_mem ha)) i (List.mem_range.mpr hi)
    simpa [Array.getElem?_eq_getElem hi] using q
  obtain ⟨i0, ei0⟩ := is_v ga5
  obtain rfl : v0 = (.int i0) := Option.some.inj ei0
  obtain ⟨i1, ei1⟩ := is_v ga6
  obtain rfl : v1 = (.int i1) := Option.some.inj ei1
  obtain ⟨i2, ei2⟩ := isL_v ga7
  obtain rfl : v2 = (.long i2) := Option.some.inj ei2
  obtain ⟨i3, ei3⟩ := isL_v ga8
  obtain rfl : v3 = (.long i3) := Option.some.inj ei3
  obtain ⟨i4, ei4⟩ := isL_v gb8
  obtain rfl : v4 = (.long i4) := Option.some.inj ei4
  obtain ⟨na0, nb0⟩ := and_e hn
  obtain ⟨na1, nb1⟩ := and_e nb0
  obtain ⟨x0, ev0⟩ := exa_v na0
  have hW : Wd s (fun i => ([x0] : List Addr).getD i 0) := ⟨(Sta.start ev0 (Or.inr ⟨(wk14 hw), (wk15 hw)⟩)), (Exa.start ev0 na0), (own_fldJ ev0 na1), (own_fldJ ev0 nb1), trivial⟩
  obtain ⟨n, o, h1, h2, h3, _, L, rfl, ⟨rfl, N⟩, hq⟩ := rm0 l s _ hw _ hW tables_1 i0 i1 i2 i3 i4 s.heap s.heap.size (Old.start s) p e ha hc hk s m _ below hf ((Spec.applies_iff_loose hf).mp happ).1 ⟨rfl, State.Warmed39.refl s, rfl⟩ trivial
  refine ⟨n, _, h1, h2, h3, hpost _ _ _ _ _ _ ⟨Cond.after_iff.mpr rfl, Cond.after_iff.mpr (eq_i res_at (Term.int_eval (1)) rfl), trivial⟩ ⟨hq.1, hq.2.1, (hq.2.2.sift fun y hy => Or.inr (N y hy)).mono (by decide) (by decide)⟩⟩
theorem main_1_1 : Claimed_1_1 := comes_1 fun _ _ _ _ _ _ h hF => ⟨h.1, hF⟩
theorem main_1_2 : Claimed_1_2 := comes_1 fun _ _ _ _ _ _ h hF => ⟨h.2.1, hF⟩
end Jvm.Pilot.@@N@@
namespace Jvm.Pilot.@@N@@
open Jvm Jvm.ClassFile Sem Op Lib Jvm.Free Jvm.Stand Jvm.Pilot.@@N@@.Jvm.D
/-! MADE BY PROGRAM (witnessworld.py) out of the Statement's table words and the real class files: 12 classes; the members and pool entries that the words name. The judged class is class 1, her method 1. -/
namespace start1
open Jvm.ClassFile
def u (s : String) : CpInfo := .utf8 (stringToUtf16 s)
/-- a pool by its gaps: so many unusable entries, then the entry; so many at the end -/
def gap : Nat → List CpInfo → List CpInfo
  | 0, r => r
  | n + 1, r => .unusable :: gap n r
def poolList (es : List (Nat × CpInfo)) (last : Nat) : List CpInfo := es.foldr (fun e r => gap e.1 (e.2 :: r)) (gap last [])
def pool (es : List (Nat × CpInfo)) (last : Nat) : Array CpInfo := ⟨poolList es last⟩
def fileOf (pool : Array CpInfo) (this : Nat) (attrs : Array Attribute := #[]) (ms : Array MethodInfo := #[]) (fl : Nat := 33) (sup : Nat := 0) (ifs : Array Nat := #[]) (fds : Array FieldInfo := #[]) : ClassFile where
  minorVersion := 0
  majorVersion := 65
  constantPool := pool
  accessFlags := fl
  thisClass := this
  superClass := sup
  interfaces := ifs
  fields := fds
  methods := ms
  attributes := attrs
def plain (name : String) (sup : Option ClassId) : Class where
  name := name
  kind := .ordinary
  loader := none
  accessFlags := 33
  super := sup
  interfaces := #[]
  cf := none
  fields := #[]
  methods := #[]
  instanceTypes := #[]
  staticTypes := #[]
  resolved := #[]
  callSites := []
  init := .initialized
  statics := none
  mirror := none

def pool0 : Array CpInfo := pool [(5, u "<init>"), (0, u "()V"), (1, .class_ 10), (1, u "java/lang/Object")] 113

def k0c0 : Code := { maxStack := 0, maxLocals := 1, code := object_method_1_code, exceptionTable := #[], attributes := #[] }
def k0m0 : Method := { name := "<init>", desc := "()V", sig := { parameters := [], returnType := none }, accessFlags := 1, code := some k0c0 }
/-- java/lang/Object -/
def k0 : Class := { plain "java/lang/Object" none with
  accessFlags := 33
  interfaces := #[]
  cf := some (fileOf pool0 8 #[] #[{ accessFlags := 1, nameIndex := 5, descriptorIndex := 6, attributes := #[] }] 33 0 #[] #[])
  fields := #[]
  methods := #[k0m0]
  instanceTypes := #[]
  staticTypes := #[]
  resolved := Array.replicate 124 none
  statics := none }

def pool1 : Array CpInfo := pool [(2, .class_ 4), (0, .nameAndType 5 6), (0, u "java/lang/Object"), (0, u "<init>"), (0, u "()V"), (0, .integer 2147483647), (0, .class_ 9), (0, u "com/example/tidemark/tidemark/RecencyList"), (0, .methodref 8 3), (0, .class_ 12), (0, u "com/example/tidemark/tidemark/MemoryEntry"), (0, .fieldref 14 15), (0, .class_ 16), (0, .nameAndType 17 18), (0, u "com/example/tidemark/tidemark/Expiry"), (0, u "NEVER"), (0, u "Lcom/example/tidemark/tidemark/Expiry;"), (0, .methodref 11 20), (0, .nameAndType 5 21), (0, u "(Ljava/lang/Object;Ljava/lang/Object;Lcom/example/tidemark/tidemark/Expiry;JJ)V"), (0, .methodref 8 23), (0, .nameAndType 24 25), (0, u "addNewest"), (0, u "(Lcom/example/tidemark/tidemark/MemoryEntry;)V"), (0, .methodref 8 27), (0, .nameAndType 28 25), (0, u "remove"), (0, .methodref 8 30), (0, .nameAndType 31 32), (0, u "size"), (0, u "()J"), (0, .methodref 8 34), (0, .nameAndType 35 32), (0, u "weight"), (0, .methodref 8 37), (0, .nameAndType 38 39), (0, u "oldest"), (0, u "()Lcom/example/tidemark/tidemark/MemoryEntry;"), (0, .fieldref 11 41), (0, .nameAndType 42 43), (0, u "older"), (0, u "Lcom/example/tidemark/tidemark/MemoryEntry;"), (0, .fieldref 11 45), (0, .nameAndType 46 43), (0, u "newer"), (0, .fieldref 11 48), (0, .nameAndType 49 50), (0, u "list"), (0, u "Lcom/example/tidemark/tidemark/RecencyList;"), (0, .class_ 52), (0, u "com/example/tidemark/tidemark/RecencyListRemovePinLaw"), (2, u "law"), (0, u "(IIJJJ)Z")] 3

def k1m0 : Method := { name := "<init>", desc := "()V", sig := { parameters := [], returnType := none }, accessFlags := 1, code := none }
def k1c1 : Code := { maxStack := 9, maxLocals := 21, code := code, exceptionTable := #[], attributes := #[] }
def k1m1 : Method := { name := "law", desc := "(IIJJJ)Z", sig := { parameters := [.int, .int, .long, .long, .long], returnType := some .boolean }, accessFlags := 9, code := some k1c1 }
/-- com/example/tidemark/tidemark/RecencyListRemovePinLaw -/
def k1 : Class := { plain "com/example/tidemark/tidemark/RecencyListRemovePinLaw" (some 0) with
  accessFlags := 49
  interfaces := #[]
  cf := some (fileOf pool1 51 #[] #[{ accessFlags := 1, nameIndex := 5, descriptorIndex := 6, attributes := #[] }, { accessFlags := 9, nameIndex := 55, descriptorIndex := 56, attributes := #[] }] 49 2 #[] #[])
  fields := #[]
  methods := #[k1m0, k1m1]
  instanceTypes := #[]
  staticTypes := #[]
  resolved := Array.replicate 60 none
  statics := none }

def pool2 : Array CpInfo := pool [(1, .methodref 2 3), (0, .class_ 4), (0, .nameAndType 5 6), (0, u "java/lang/Object"), (0, u "<init>"), (0, u "()V"), (0, .fieldref 8 9), (0, .class_ 10), (0, .nameAndType 11 12), (0, u "com/example/tidemark/tidemark/RecencyList"), (0, u "oldest"), (0, u "Lcom/example/tidemark/tidemark/MemoryEntry;"), (0, .fieldref 14 15), (0, .class_ 16), (0, .nameAndType 17 12), (0, u "com/example/tidemark/tidemark/MemoryEntry"), (0, u "newer"), (0, .fieldref 8 19), (0, .nameAndType 20 21), (0, u "size"), (0, u "J"), (0, .fieldref 8 23), (0, .nameAndType 24 21), (0, u "weight"), (0, .fieldref 8 26), (0, .nameAndType 27 21), (0, u "stamps"), (0, .fieldref 14 29), (0, .nameAndType 30 21), (0, u "stamp"), (0, .fieldref 14 32), (0, .nameAndType 33 34), (0, u "list"), (0, u "Lcom/example/tidemark/tidemark/RecencyList;"), (0, .fieldref 8 36), (0, .nameAndType 37 12), (0, u "newest"), (0, .fieldref 14 39), (0, .nameAndType 40 12), (0, u "older"), (0, .fieldref 14 42), (0, .nameAndType 43 21), (0, u "charge"), (2, u "remove"), (0, u "(Lcom/example/tidemark/tidemark/MemoryEntry;)V"), (2, u "addNewest"), (4, u "()Lcom/example/tidemark/tidemark/MemoryEntry;"), (5, u "()J")] 11

def k2c0 : Code := { maxStack := 1, maxLocals := 1, code := prog_41_method_1_code, exceptionTable := #[], attributes := #[] }
def k2m0 : Method := { name := "<init>", desc := "()V", sig := { parameters := [], returnType := none }, accessFlags := 0, code := some k2c0 }
def k2c1 : Code := { maxStack := 1, maxLocals := 1, code := prog_41_method_2_code, exceptionTable := #[], attributes := #[] }
def k2m1 : Method := { name := "oldest", desc := "()Lcom/example/tidemark/tidemark/MemoryEntry;", sig := { parameters := [], returnType := some (.object "com/example/tidemark/tidemark/MemoryEntry") }, accessFlags := 0, code := some k2c1 }
def k2c2 : Code := { maxStack := 2, maxLocals := 1, code := prog_41_method_4_code, exceptionTable := #[], attributes := #[] }
def k2m2 : Method := { name := "size", desc := "()J", sig := { parameters := [], returnType := some .long }, accessFlags := 0, code := some k2c2 }
def k2c3 : Code := { maxStack := 2, maxLocals := 1, code := prog_41_method_5_code, exceptionTable := #[], attributes := #[] }
def k2m3 : Method := { name := "weight", desc := "()J", sig := { parameters := [], returnType := some .long }, accessFlags := 0, code := some k2c3 }
def k2c4 : Code := { maxStack := 6, maxLocals := 2, code := prog_41_method_7_code, exceptionTable := #[], attributes := #[] }
def k2m4 : Method := { name := "addNewest", desc := "(Lcom/example/tidemark/tidemark/MemoryEntry;)V", sig := { parameters := [(.object "com/example/tidemark/tidemark/MemoryEntry")], returnType := none }, accessFlags := 0, code := some k2c4 }
def k2c5 : Code := { maxStack := 5, maxLocals := 2, code := prog_41_method_10_code, exceptionTable := #[], attributes := #[] }
def k2m5 : Method := { name := "remove", desc := "(Lcom/example/tidemark/tidemark/MemoryEntry;)V", sig := { parameters := [(.object "com/example/tidemark/tidemark/MemoryEntry")], returnType := none }, accessFlags := 0, code := some k2c5 }
/-- com/example/tidemark/tidemark/RecencyList -/
def k2 : Class := { plain "com/example/tidemark/tidemark/RecencyList" (some 0) with
  accessFlags := 48
  interfaces := #[]
  cf := some (fileOf pool2 8 #[] #[{ accessFlags := 0, nameIndex := 5, descriptorIndex := 6, attributes := #[] }, { accessFlags := 0, nameIndex := 11, descriptorIndex := 55, attributes := #[] }, { accessFlags := 0, nameIndex := 20, descriptorIndex := 61, attributes := #[] }, { accessFlags := 0, nameIndex := 24, descriptorIndex := 61, attributes := #[] }, { accessFlags := 0, nameIndex := 50, descriptorIndex := 47, attributes := #[] }, { accessFlags := 0, nameIndex := 46, descriptorIndex := 47, attributes := #[] }] 48 2 #[] #[{ accessFlags := 2, nameIndex := 11, descriptorIndex := 12, attributes := #[] }, { accessFlags := 2, nameIndex := 37, descriptorIndex := 12, attributes := #[] }, { accessFlags := 2, nameIndex := 20, descriptorIndex := 21, attributes := #[] }, { accessFlags := 2, nameIndex := 24, descriptorIndex := 21, attributes := #[] }, { accessFlags := 2, nameIndex := 27, descriptorIndex := 21, attributes := #[] }])
  fields := #[{ name := "oldest", type := (.object "com/example/tidemark/tidemark/MemoryEntry"), accessFlags := 2, slot := 0, constantValue := 0 }, { name := "newest", type := (.object "com/example/tidemark/tidemark/MemoryEntry"), accessFlags := 2, slot := 1, constantValue := 0 }, { name := "size", type := .long, accessFlags := 2, slot := 2, constantValue := 0 }, { name := "weight", type := .long, accessFlags := 2, slot := 3, constantValue := 0 }, { name := "stamps", type := .long, accessFlags := 2, slot := 4, constantValue := 0 }]
  methods := #[k2m0, k2m1, k2m2, k2m3, k2m4, k2m5]
  instanceTypes := #[(.object "com/example/tidemark/tidemark/MemoryEntry"), (.object "com/example/tidemark/tidemark/MemoryEntry"), .long, .long, .long]
  staticTypes := #[]
  resolved := Array.replicate 73 none
  statics := none }

def pool3 : Array CpInfo := pool [(1, .methodref 2 3), (0, .class_ 4), (0, .nameAndType 5 6), (0, u "java/lang/Object"), (0, u "<init>"), (0, u "()V"), (2, .fieldref 10 11), (0, .class_ 12), (0, .nameAndType 13 14), (0, u "com/example/tidemark/tidemark/MemoryEntry"), (0, u "slot"), (0, u "I"), (0, .fieldref 10 16), (0, .nameAndType 17 18), (0, u "key"), (0, u "Ljava/lang/Object;"), (0, .fieldref 10 20), (0, .nameAndType 21 22), (0, u "charge"), (0, u "J"), (0, .methodref 10 24), (0, .nameAndType 25 26), (0, u "write"), (0, u "(Ljava/lang/Object;Lcom/example/tidemark/tidemark/Expiry;J)V"), (0, .fieldref 10 28), (0, .nameAndType 29 18), (0, u "value"), (0, .fieldref 10 31), (0, .nameAndType 32 22), (0, u "lastUsed"), (0, .fieldref 10 34), (0, .nameAndType 35 36), (0, u "expiry"), (0, u "Lcom/example/tidemark/tidemark/Expiry;"), (0, .methodref 10 38), (0, .nameAndType 39 40), (0, u "restart"), (0, u "(J)V"), (0, .methodref 42 43), (0, .class_ 44), (0, .nameAndType 45 46), (0, u "com/example/tidemark/tidemark/Expiry"), (0, u "canExpire"), (0, u "()Z"), (0, .fieldref 10 48), (0, .nameAndType 49 18), (0, u "lockFreeValue"), (2, u "LOCK_FREE_VALUE"), (0, u "Ljava/lang/invoke/VarHandle;"), (13, .fieldref 10 68), (0, .nameAndType 69 22), (0, u "created"), (31, u "pending"), (0, u "Z"), (0, u "list"), (0, u "Lcom/example/tidemark/tidemark/RecencyList;"), (1, u "older"), (0, u "Lcom/example/tidemark/tidemark/MemoryEntry;"), (1, u "newer"), (0, u "stamp"), (0, u "usedInWindow"), (0, u "arrivedBefore"), (0, u "arrivedAfter"), (0, u "filedBefore"), (0, u "filedAfter"), (0, u "(Ljava/lang/Object;Ljava/lang/Object;Lcom/example/tidemark/tidemark/Expiry;JJ)V")] 20

def k3c0 : Code := { maxStack := 5, maxLocals := 8, code := prog_40_method_1_code, exceptionTable := #[], attributes := #[] }
def k3m0 : Method := { name := "<init>", desc := "(Ljava/lang/Object;Ljava/lang/Object;Lcom/example/tidemark/tidemark/Expiry;JJ)V", sig := { parameters := [(.object "java/lang/Object"), (.object "java/lang/Object"), (.object "com/example/tidemark/tidemark/Expiry"), .long, .long], returnType := none }, accessFlags := 0, code := some k3c0 }
def k3c1 : Code := { maxStack := 3, maxLocals := 5, code := prog_40_method_2_code, exceptionTable := #[], attributes := #[] }
def k3m1 : Method := { name := "write", desc := "(Ljava/lang/Object;Lcom/example/tidemark/tidemark/Expiry;J)V", sig := { parameters := [(.object "java/lang/Object"), (.object "com/example/tidemark/tidemark/Expiry"), .long], returnType := none }, accessFlags := 0, code := some k3c1 }
def k3c2 : Code := { maxStack := 3, maxLocals := 3, code := prog_40_method_6_code, exceptionTable := #[], attributes := #[] }
def k3m2 : Method := { name := "restart", desc := "(J)V", sig := { parameters := [.long], returnType := none }, accessFlags := 0, code := some k3c2 }
/-- com/example/tidemark/tidemark/MemoryEntry -/
def k3 : Class := { plain "com/example/tidemark/tidemark/MemoryEntry" (some 0) with
  accessFlags := 48
  interfaces := #[]
  cf := some (fileOf pool3 10 #[] #[{ accessFlags := 0, nameIndex := 5, descriptorIndex := 116, attributes := #[] }, { accessFlags := 0, nameIndex := 25, descriptorIndex := 26, attributes := #[] }, { accessFlags := 0, nameIndex := 39, descriptorIndex := 40, attributes := #[] }] 48 2 #[] #[{ accessFlags := 26, nameIndex := 52, descriptorIndex := 53, attributes := #[] }, { accessFlags := 16, nameIndex := 17, descriptorIndex := 18, attributes := #[] }, { accessFlags := 2, nameIndex := 29, descriptorIndex := 18, attributes := #[] }, { accessFlags := 0, nameIndex := 35, descriptorIndex := 36, attributes := #[] }, { accessFlags := 64, nameIndex := 49, descriptorIndex := 18, attributes := #[] }, { accessFlags := 0, nameIndex := 101, descriptorIndex := 102, attributes := #[] }, { accessFlags := 0, nameIndex := 69, descriptorIndex := 22, attributes := #[] }, { accessFlags := 0, nameIndex := 32, descriptorIndex := 22, attributes := #[] }, { accessFlags := 0, nameIndex := 21, descriptorIndex := 22, attributes := #[] }, { accessFlags := 0, nameIndex := 103, descriptorIndex := 104, attributes := #[] }, { accessFlags := 0, nameIndex := 106, descriptorIndex := 107, attributes := #[] }, { accessFlags := 0, nameIndex := 109, descriptorIndex := 107, attributes := #[] }, { accessFlags := 0, nameIndex := 110, descriptorIndex := 22, attributes := #[] }, { accessFlags := 0, nameIndex := 111, descriptorIndex := 102, attributes := #[] }, { accessFlags := 0, nameIndex := 112, descriptorIndex := 107, attributes := #[] }, { accessFlags := 0, nameIndex := 113, descriptorIndex := 107, attributes := #[] }, { accessFlags := 0, nameIndex := 13, descriptorIndex := 14, attributes := #[] }, { accessFlags := 0, nameIndex := 114, descriptorIndex := 107, attributes := #[] }, { accessFlags := 0, nameIndex := 115, descriptorIndex := 107, attributes := #[] }])
  fields := #[{ name := "LOCK_FREE_VALUE", type := (.object "java/lang/invoke/VarHandle"), accessFlags := 26, slot := 0, constantValue := 0 }, { name := "key", type := (.object "java/lang/Object"), accessFlags := 16, slot := 0, constantValue := 0 }, { name := "value", type := (.object "java/lang/Object"), accessFlags := 2, slot := 1, constantValue := 0 }, { name := "expiry", type := (.object "com/example/tidemark/tidemark/Expiry"), accessFlags := 0, slot := 2, constantValue := 0 }, { name := "lockFreeValue", type := (.object "java/lang/Object"), accessFlags := 64, slot := 3, constantValue := 0 }, { name := "pending", type := .boolean, accessFlags := 0, slot := 4, constantValue := 0 }, { name := "created", type := .long, accessFlags := 0, slot := 5, constantValue := 0 }, { name := "lastUsed", type := .long, accessFlags := 0, slot := 6, constantValue := 0 }, { name := "charge", type := .long, accessFlags := 0, slot := 7, constantValue := 0 }, { name := "list", type := (.object "com/example/tidemark/tidemark/RecencyList"), accessFlags := 0, slot := 8, constantValue := 0 }, { name := "older", type := (.object "com/example/tidemark/tidemark/MemoryEntry"), accessFlags := 0, slot := 9, constantValue := 0 }, { name := "newer", type := (.object "com/example/tidemark/tidemark/MemoryEntry"), accessFlags := 0, slot := 10, constantValue := 0 }, { name := "stamp", type := .long, accessFlags := 0, slot := 11, constantValue := 0 }, { name := "usedInWindow", type := .boolean, accessFlags := 0, slot := 12, constantValue := 0 }, { name := "arrivedBefore", type := (.object "com/example/tidemark/tidemark/MemoryEntry"), accessFlags := 0, slot := 13, constantValue := 0 }, { name := "arrivedAfter", type := (.object "com/example/tidemark/tidemark/MemoryEntry"), accessFlags := 0, slot := 14, constantValue := 0 }, { name := "slot", type := .int, accessFlags := 0, slot := 15, constantValue := 0 }, { name := "filedBefore", type := (.object "com/example/tidemark/tidemark/MemoryEntry"), accessFlags := 0, slot := 16, constantValue := 0 }, { name := "filedAfter", type := (.object "com/example/tidemark/tidemark/MemoryEntry"), accessFlags := 0, slot := 17, constantValue := 0 }]
  methods := #[k3m0, k3m1, k3m2]
  instanceTypes := #[(.object "java/lang/Object"), (.object "java/lang/Object"), (.object "com/example/tidemark/tidemark/Expiry"), (.object "java/lang/Object"), .boolean, .long, .long, .long, (.object "com/example/tidemark/tidemark/RecencyList"), (.object "com/example/tidemark/tidemark/MemoryEntry"), (.object "com/example/tidemark/tidemark/MemoryEntry"), .long, .boolean, (.object "com/example/tidemark/tidemark/MemoryEntry"), (.object "com/example/tidemark/tidemark/MemoryEntry"), .int, (.object "com/example/tidemark/tidemark/MemoryEntry"), (.object "com/example/tidemark/tidemark/MemoryEntry")]
  staticTypes := #[(.object "java/lang/invoke/VarHandle")]
  resolved := Array.replicate 137 none
  statics := none }

def pool4 : Array CpInfo := pool [(2, .class_ 4), (1, u "java/lang/Object"), (0, u "<init>"), (0, u "()V"), (0, .class_ 8), (0, u "java/lang/Record")] 13

def k4m0 : Method := { name := "<init>", desc := "()V", sig := { parameters := [], returnType := none }, accessFlags := 4, code := none }
/-- java/lang/Record -/
def k4 : Class := { plain "java/lang/Record" (some 0) with
  accessFlags := 1057
  interfaces := #[]
  cf := some (fileOf pool4 7 #[] #[{ accessFlags := 4, nameIndex := 5, descriptorIndex := 6, attributes := #[] }] 1057 2 #[] #[])
  fields := #[]
  methods := #[k4m0]
  instanceTypes := #[]
  staticTypes := #[]
  resolved := Array.replicate 22 none
  statics := none }

def pool5 : Array CpInfo := pool [(2, .class_ 4), (1, u "java/lang/Record"), (3, u "lifespan"), (1, .class_ 12), (1, u "com/example/tidemark/tidemark/Expiry"), (3, u "maxIdle"), (0, .fieldref 10 18), (0, .nameAndType 8 19), (0, u "J"), (0, .fieldref 10 21), (0, .nameAndType 16 19), (7, .long 18446744073709551615), (37, u "NEVER"), (0, u "Lcom/example/tidemark/tidemark/Expiry;"), (0, u "NO_LIMIT"), (9, u "canExpire"), (0, u "()Z")] 35

def k5c0 : Code := { maxStack := 4, maxLocals := 1, code := prog_21_method_5_code, exceptionTable := #[], attributes := #[] }
def k5m0 : Method := { name := "canExpire", desc := "()Z", sig := { parameters := [], returnType := some .boolean }, accessFlags := 0, code := some k5c0 }
/-- com/example/tidemark/tidemark/Expiry -/
def k5 : Class := { plain "com/example/tidemark/tidemark/Expiry" (some 4) with
  accessFlags := 49
  interfaces := #[]
  cf := some (fileOf pool5 10 #[] #[{ accessFlags := 0, nameIndex := 79, descriptorIndex := 80, attributes := #[] }] 49 2 #[] #[{ accessFlags := 18, nameIndex := 8, descriptorIndex := 19, attributes := #[] }, { accessFlags := 18, nameIndex := 16, descriptorIndex := 19, attributes := #[] }, { accessFlags := 25, nameIndex := 69, descriptorIndex := 19, attributes := #[] }, { accessFlags := 25, nameIndex := 67, descriptorIndex := 68, attributes := #[] }])
  fields := #[{ name := "lifespan", type := .long, accessFlags := 18, slot := 0, constantValue := 0 }, { name := "maxIdle", type := .long, accessFlags := 18, slot := 1, constantValue := 0 }, { name := "NO_LIMIT", type := .long, accessFlags := 25, slot := 0, constantValue := 0 }, { name := "NEVER", type := (.object "com/example/tidemark/tidemark/Expiry"), accessFlags := 25, slot := 1, constantValue := 0 }]
  methods := #[k5m0]
  instanceTypes := #[.long, .long]
  staticTypes := #[.long, (.object "com/example/tidemark/tidemark/Expiry")]
  resolved := Array.replicate 116 none
  statics := some 0 }

def pool6 : Array CpInfo := pool [(1, u "java/lang/Cloneable"), (0, .class_ 1), (0, u "java/lang/Object"), (0, .class_ 3)] 3

/-- java/lang/Cloneable -/
def k6 : Class := { plain "java/lang/Cloneable" (some 0) with
  accessFlags := 1537
  interfaces := #[]
  cf := some (fileOf pool6 2 #[] #[] 1537 4 #[] #[])
  fields := #[]
  methods := #[]
  instanceTypes := #[]
  staticTypes := #[]
  resolved := Array.replicate 8 none
  statics := none }

def pool7 : Array CpInfo := pool [(1, u "java/io/Serializable"), (0, .class_ 1), (0, u "java/lang/Object"), (0, .class_ 3)] 3

/-- java/io/Serializable -/
def k7 : Class := { plain "java/io/Serializable" (some 0) with
  accessFlags := 1537
  interfaces := #[]
  cf := some (fileOf pool7 2 #[] #[] 1537 4 #[] #[])
  fields := #[]
  methods := #[]
  instanceTypes := #[]
  staticTypes := #[]
  resolved := Array.replicate 8 none
  statics := none }

/-- the primitive byte -/
def k8 : Class := { plain "byte" none with kind := .primitive 'B', accessFlags := 0x411 }
/-- [B -/
def k9 : Class := { plain "[B" (some 0) with kind := .array 8 .byte, interfaces := #[6, 7], accessFlags := 1041 }

/-- the primitive int -/
def k10 : Class := { plain "int" none with kind := .primitive 'I', accessFlags := 0x411 }
/-- [I -/
def k11 : Class := { plain "[I" (some 0) with kind := .array 10 .int, interfaces := #[6, 7], accessFlags := 1041 }

def heap : Heap := #[{ cls := 5, slots := #[.long 0, .ref 1], vm := .statics 5 },
  { cls := 5, slots := #[.long (-1), .long (-1)], vm := .none }]
def classes : Array Class := #[k0, k1, k2, k3, k4, k5, k6, k7, k8, k9, k10, k11]
def interned : List (Array UInt16 × Addr) := []
def slotsUsed : Nat := 4
def theMethod : MethodId := ⟨1, 1⟩
def args0 : Array Value := #[.int 5, .int 6, .long 5, .long 6, .long 7]
def aboutOver (below : List Frame) : State where
  vm := { classes := classes, interned := interned.toArray }
  heap := heap
  slotsUsed := slotsUsed
  threads := #[{ frames := .invoking theMethod args0 :: below }]
def below0 : List Frame := [.native { method := ⟨0, 0⟩, args := #[] }]
def about1 : State := aboutOver below0
def p0 : Program := .bare "" "" ""
def e0 : Env := launch0.env 0 0 0
theorem w_frames : about1.frames = Frame.invoking theMethod args0 :: below0 := rfl
set_option maxRecDepth 65536 in
theorem w_args : argsFit about1.vm theMethod args0 = true := by decide +kernel
set_option maxRecDepth 65536 in
theorem w_heap : heapFits about1 = true := by decide +kernel
set_option maxRecDepth 65536 in
theorem w_runnable : about1.curStatus? = some .runnable := by decide +kernel
set_option maxRecDepth 65536 in
theorem w_alone : about1.alone = true := by decide +kernel
set_option maxRecDepth 65536 in
theorem w_named : about1.methodNamed? x = some theMethod := by decide +kernel
set_option maxRecDepth 65536 in
theorem w_hears : about1.hears theMethod below0 = true := by decide +kernel
set_option maxRecDepth 65536 in
theorem w_ripe : about1.ripe theMethod args0 below0 = true := by decide +kernel
theorem w_running : about1.status = .running := rfl
set_option maxRecDepth 65536 in
theorem w_room : about1.hasRoom e0.platform room_1 = true :=
  launch0.hasRoom_least _ room_1 (by decide +kernel) (by decide +kernel) (by decide +kernel) (by decide +kernel) (by decide +kernel) (by decide +kernel)
theorem allAtoms_all (ts : List Jvm.Cond) (a : Array Jvm.Value) (st : Jvm.State) : (allAtoms ts).before a st = ts.all (fun c => c.before a st) := by
  induction ts with
  | nil => rfl
  | cons c t ih =>
    show (Jvm.Cond.and c (allAtoms t)).before a st = _
    rw [Jvm.Cond.before_and, ih, List.all_cons]
def words1 : List Jvm.Cond := Jvm.Cond.code x code maxLocals ret :: tables_1
/-- a 'code' word, met by the world's own term for the bytes: nothing is compared byte by byte -/
theorem code_word {y : MethodName} {bytes : ByteArray} {mx : Nat} {rt : Option FieldType} {a : Array Value} {s : State} {m : MethodId} {meth : Method} {c : Code} (h1 : s.methodNamed? y = some m) (h2 : s.vm.method? m = some meth) (h3 : meth.code = some c) (h4 : c.code = bytes)
    (h5 : (c.maxLocals == mx && c.exceptionTable.isEmpty && decide (c.maxStack ≤ mostOperands) && decide (meth.sig.returnType = rt) && !meth.locks && decide (parseMethodDescriptor y.desc = some meth.sig)) = true) : (Jvm.Cond.code y bytes mx rt).before a s = true := by
  simp only [Bool.and_eq_true, beq_iff_eq, Bool.not_eq_true', decide_eq_true_eq] at h5
  obtain ⟨⟨⟨⟨⟨g1, g2⟩, g3⟩, g4⟩, g5⟩, g6⟩ := h5
  simp [Cond.before, Cond.holds, Cond.value, h1, h2, h3, h4, g1, g2, g3, g4, g5, g6]
def isCode : Jvm.Cond → Bool
  | .code _ _ _ _ => true
  | _ => false
theorem all_split {L : List Jvm.Cond} {P : Jvm.Cond → Bool} (h1 : L.all (fun c => isCode c || P c) = true) (h2 : ∀ c ∈ L.filter isCode, P c = true) : L.all P = true := by
  refine List.all_eq_true.mpr fun c hc => ?_
  have h := List.all_eq_true.mp h1 c hc
  rcases Bool.eq_false_or_eq_true (isCode c) with hi | hi
  · exact h2 c (List.mem_filter.mpr ⟨hc, hi⟩)
  · simpa [hi] using h
set_option maxRecDepth 65536 in
theorem w_c0 : (Jvm.Cond.code x code maxLocals ret).before args0 about1 = true := code_word (m := ⟨1, 1⟩) (meth := k1m1) (c := k1c1) (by decide +kernel) rfl rfl rfl (by decide +kernel)
set_option maxRecDepth 65536 in
theorem w_c1 : (Jvm.Cond.code ({ cls := "com/example/tidemark/tidemark/RecencyList", name := "<init>", desc := "()V" } : Jvm.MethodName) prog_41_method_1_code (1 : Nat) (Option.none : Option Jvm.ClassFile.FieldType)).before args0 about1 = true := code_word (m := ⟨2, 0⟩) (meth := k2m0) (c := k2c0) (by decide +kernel) rfl rfl rfl (by decide +kernel)
set_option maxRecDepth 65536 in
theorem w_c2 : (Jvm.Cond.code ({ cls := "java/lang/Object", name := "<init>", desc := "()V" } : Jvm.MethodName) object_method_1_code (1 : Nat) (Option.none : Option Jvm.ClassFile.FieldType)).before args0 about1 = true := code_word (m := ⟨0, 0⟩) (meth := k0m0) (c := k0c0) (by decide +kernel) rfl rfl rfl (by decide +kernel)
set_option maxRecDepth 65536 in
theorem w_c3 : (Jvm.Cond.code ({ cls := "com/example/tidemark/tidemark/MemoryEntry", name := "<init>", desc := "(Ljava/lang/Object;Ljava/lang/Object;Lcom/example/tidemark/tidemark/Expiry;JJ)V" } : Jvm.MethodName) prog_40_method_1_code (8 : Nat) (Option.none : Option Jvm.ClassFile.FieldType)).before args0 about1 = true := code_word (m := ⟨3, 0⟩) (meth := k3m0) (c := k3c0) (by decide +kernel) rfl rfl rfl (by decide +kernel)
set_option maxRecDepth 65536 in
theorem w_c4 : (Jvm.Cond.code ({ cls := "com/example/tidemark/tidemark/MemoryEntry", name := "write", desc := "(Ljava/lang/Object;Lcom/example/tidemark/tidemark/Expiry;J)V" } : Jvm.MethodName) prog_40_method_2_code (5 : Nat) (Option.none : Option Jvm.ClassFile.FieldType)).before args0 about1 = true := code_word (m := ⟨3, 1⟩) (meth := k3m1) (c := k3c1) (by decide +kernel) rfl rfl rfl (by decide +kernel)
set_option maxRecDepth 65536 in
theorem w_c5 : (Jvm.Cond.code ({ cls := "com/example/tidemark/tidemark/MemoryEntry", name := "restart", desc := "(J)V" } : Jvm.MethodName) prog_40_method_6_code (3 : Nat) (Option.none : Option Jvm.ClassFile.FieldType)).before args0 about1 = true := code_word (m := ⟨3, 2⟩) (meth := k3m2) (c := k3c2) (by decide +kernel) rfl rfl rfl (by decide +kernel)
set_option maxRecDepth 65536 in
theorem w_c6 : (Jvm.Cond.code ({ cls := "com/example/tidemark/tidemark/Expiry", name := "canExpire", desc := "()Z" } : Jvm.MethodName) prog_21_method_5_code (1 : Nat) (Option.some Jvm.ClassFile.FieldType.boolean)).before args0 about1 = true := code_word (m := ⟨5, 0⟩) (meth := k5m0) (c := k5c0) (by decide +kernel) rfl rfl rfl (by decide +kernel)
set_option maxRecDepth 65536 in
theorem w_c7 : (Jvm.Cond.code ({ cls := "com/example/tidemark/tidemark/RecencyList", name := "addNewest", desc := "(Lcom/example/tidemark/tidemark/MemoryEntry;)V" } : Jvm.MethodName) prog_41_method_7_code (2 : Nat) (Option.none : Option Jvm.ClassFile.FieldType)).before args0 about1 = true := code_word (m := ⟨2, 4⟩) (meth := k2m4) (c := k2c4) (by decide +kernel) rfl rfl rfl (by decide +kernel)
set_option maxRecDepth 65536 in
theorem w_c8 : (Jvm.Cond.code ({ cls := "com/example/tidemark/tidemark/RecencyList", name := "remove", desc := "(Lcom/example/tidemark/tidemark/MemoryEntry;)V" } : Jvm.MethodName) prog_41_method_10_code (2 : Nat) (Option.none : Option Jvm.ClassFile.FieldType)).before args0 about1 = true := code_word (m := ⟨2, 5⟩) (meth := k2m5) (c := k2c5) (by decide +kernel) rfl rfl rfl (by decide +kernel)
set_option maxRecDepth 65536 in
theorem w_c9 : (Jvm.Cond.code ({ cls := "com/example/tidemark/tidemark/RecencyList", name := "size", desc := "()J" } : Jvm.MethodName) prog_41_method_4_code (1 : Nat) (Option.some Jvm.ClassFile.FieldType.long)).before args0 about1 = true := code_word (m := ⟨2, 2⟩) (meth := k2m2) (c := k2c2) (by decide +kernel) rfl rfl rfl (by decide +kernel)
set_option maxRecDepth 65536 in
theorem w_c10 : (Jvm.Cond.code ({ cls := "com/example/tidemark/tidemark/RecencyList", name := "weight", desc := "()J" } : Jvm.MethodName) prog_41_method_5_code (1 : Nat) (Option.some Jvm.ClassFile.FieldType.long)).before args0 about1 = true := code_word (m := ⟨2, 3⟩) (meth := k2m3) (c := k2c3) (by decide +kernel) rfl rfl rfl (by decide +kernel)
set_option maxRecDepth 65536 in
theorem w_c11 : (Jvm.Cond.code ({ cls := "com/example/tidemark/tidemark/RecencyList", name := "oldest", desc := "()Lcom/example/tidemark/tidemark/MemoryEntry;" } : Jvm.MethodName) prog_41_method_2_code (1 : Nat) (Option.some (Jvm.ClassFile.FieldType.object "com/example/tidemark/tidemark/MemoryEntry"))).before args0 about1 = true := code_word (m := ⟨2, 1⟩) (meth := k2m1) (c := k2c1) (by decide +kernel) rfl rfl rfl (by decide +kernel)
def codes1 : List Jvm.Cond := [Jvm.Cond.code x code maxLocals ret, Jvm.Cond.code ({ cls := "com/example/tidemark/tidemark/RecencyList", name := "<init>", desc := "()V" } : Jvm.MethodName) prog_41_method_1_code (1 : Nat) (Option.none : Option Jvm.ClassFile.FieldType), Jvm.Cond.code ({ cls := "java/lang/Object", name := "<init>", desc := "()V" } : Jvm.MethodName) object_method_1_code (1 : Nat) (Option.none : Option Jvm.ClassFile.FieldType), Jvm.Cond.code ({ cls := "com/example/tidemark/tidemark/MemoryEntry", name := "<init>", desc := "(Ljava/lang/Object;Ljava/lang/Object;Lcom/example/tidemark/tidemark/Expiry;JJ)V" } : Jvm.MethodName) prog_40_method_1_code (8 : Nat) (Option.none : Option Jvm.ClassFile.FieldType), Jvm.Cond.code ({ cls := "com/example/tidemark/tidemark/MemoryEntry", name := "write", desc := "(Ljava/lang/Object;Lcom/example/tidemark/tidemark/Expiry;J)V" } : Jvm.MethodName) prog_40_method_2_code (5 : Nat) (Option.none : Option Jvm.ClassFile.FieldType), Jvm.Cond.code ({ cls := "com/example/tidemark/tidemark/MemoryEntry", name := "restart", desc := "(J)V" } : Jvm.MethodName) prog_40_method_6_code (3 : Nat) (Option.none : Option Jvm.ClassFile.FieldType), Jvm.Cond.code ({ cls := "com/example/tidemark/tidemark/Expiry", name := "canExpire", desc := "()Z" } : Jvm.MethodName) prog_21_method_5_code (1 : Nat) (Option.some Jvm.ClassFile.FieldType.boolean), Jvm.Cond.code ({ cls := "com/example/tidemark/tidemark/RecencyList", name := "addNewest", desc := "(Lcom/example/tidemark/tidemark/MemoryEntry;)V" } : Jvm.MethodName) prog_41_method_7_code (2 : Nat) (Option.none : Option Jvm.ClassFile.FieldType), Jvm.Cond.code ({ cls := "com/example/tidemark/tidemark/RecencyList", name := "remove", desc := "(Lcom/example/tidemark/tidemark/MemoryEntry;)V" } : Jvm.MethodName) prog_41_method_10_code (2 : Nat) (Option.none : Option Jvm.ClassFile.FieldType), Jvm.Cond.code ({ cls := "com/example/tidemark/tidemark/RecencyList", name := "size", desc := "()J" } : Jvm.MethodName) prog_41_method_4_code (1 : Nat) (Option.some Jvm.ClassFile.FieldType.long), Jvm.Cond.code ({ cls := "com/example/tidemark/tidemark/RecencyList", name := "weight", desc := "()J" } : Jvm.MethodName) prog_41_method_5_code (1 : Nat) (Option.some Jvm.ClassFile.FieldType.long), Jvm.Cond.code ({ cls := "com/example/tidemark/tidemark/RecencyList", name := "oldest", desc := "()Lcom/example/tidemark/tidemark/MemoryEntry;" } : Jvm.MethodName) prog_41_method_2_code (1 : Nat) (Option.some (Jvm.ClassFile.FieldType.object "com/example/tidemark/tidemark/MemoryEntry"))]
set_option maxRecDepth 65536 in
theorem codes_eq : words1.filter isCode = codes1 := rfl
theorem w_codes : ∀ c ∈ words1.filter isCode, c.before args0 about1 = true := by
  rw [codes_eq]
  intro c hc
  simp only [codes1, List.mem_cons, List.not_mem_nil, or_false] at hc
  rcases hc with rfl | rfl | rfl | rfl | rfl | rfl | rfl | rfl | rfl | rfl | rfl | rfl
  · exact w_c0
  · exact w_c1
  · exact w_c2
  · exact w_c3
  · exact w_c4
  · exact w_c5
  · exact w_c6
  · exact w_c7
  · exact w_c8
  · exact w_c9
  · exact w_c10
  · exact w_c11
set_option maxRecDepth 65536 in
theorem w_t1 : (words1.take 24).all (fun c => isCode c || c.before args0 about1) = true := by decide +kernel
set_option maxRecDepth 65536 in
theorem w_t2 : ((words1.drop 24).take 24).all (fun c => isCode c || c.before args0 about1) = true := by decide +kernel
set_option maxRecDepth 65536 in
theorem w_t3 : (((words1.drop 24).drop 24).take 24).all (fun c => isCode c || c.before args0 about1) = true := by decide +kernel
set_option maxRecDepth 65536 in
theorem w_t4 : ((((words1.drop 24).drop 24).drop 24).take 24).all (fun c => isCode c || c.before args0 about1) = true := by decide +kernel
set_option maxRecDepth 65536 in
theorem w_t5 : ((((words1.drop 24).drop 24).drop 24).drop 24).all (fun c => isCode c || c.before args0 about1) = true := by decide +kernel
theorem w_tables : (allAtoms (Jvm.Cond.code x code maxLocals ret :: tables_1)).before args0 about1 = true := by
  rw [allAtoms_all]
  show words1.all (fun c => c.before args0 about1) = true
  refine all_split ?_ w_codes
  rw [← List.take_append_drop 24 words1, List.all_append, w_t1, ← List.take_append_drop 24 (words1.drop 24), List.all_append, w_t2, ← List.take_append_drop 24 ((words1.drop 24).drop 24), List.all_append, w_t3, ← List.take_append_drop 24 (((words1.drop 24).drop 24).drop 24), List.all_append, w_t4, w_t5]
  rfl
set_option maxRecDepth 65536 in
theorem w_case : (Jvm.Cond.and given_1 narrow_1).before args0 about1 = true := by decide +kernel
theorem w_applies : (headSpec (Jvm.Cond.code x code maxLocals ret :: tables_1) room_1).applies x e0.platform about1 = true :=
  (Spec.applies_iff w_frames).mpr ⟨w_running, w_runnable, w_alone, w_named, w_hears, w_ripe, w_room, w_tables⟩
theorem atStart : AtStart classFile x code maxLocals ret World_1 tables_1 room_1 Calls_1 rest_1 Pre_1 launch0 p0 e0 about1 theMethod args0 below0 :=
  ⟨lists_1, trivial, launch0.admits_env _ _ _, launch0.least_env, fairChoices_fair.cas, fairChoices_fair.clock, w_frames, w_args, w_heap, w_applies, trivial, trivial, w_case⟩
end start1
theorem witness_1 : WitnessClaimed_1 := ⟨start1.p0, start1.e0, start1.about1, start1.theMethod, start1.args0, start1.below0, start1.atStart⟩
end Jvm.Pilot.@@N@@
