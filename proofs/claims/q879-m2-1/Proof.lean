import JvmDerived
import JvmDerived.Pilot.@@N@@Statement
import JvmDerived.Pilot.@@N@@Code
set_option linter.unusedVariables false
set_option linter.unusedSimpArgs false
namespace Jvm.RoadKit
open Sem ClassFile Op Lib Jvm.Stand Jvm.Free Jvm.LawKit
section New
variable {p : Program} {l : Launch} {e : Env} {R : Room} {s : State} {m : MethodId} {args : Array Value} {below : List Frame} {meth : Method} {c : Code} {T : State} {locs : List Loc} {cells slots : Nat}
theorem retI (X : Stand p l e R s m args below meth c T locs cells slots) (hx : p.tables.exec = Jvm.exec) {pc : Nat} {Ls : Array Slot} {z : Int32} {rest : List Value} (hret : meth.sig.returnType = some .int) (hd : decode c.code pc = .ok (.ireturn, 1)) {fs : List Frame}
    (hl : ∀ (f : JFrame) (acts : List Action), f.method = m → f.locked = none → f.entered = [] → (doReturn e (T.setTop f) acts (some (.int z))).1 = T.setFrames fs) : Steps p.tables e below (T.setTop (mkF m pc Ls (.int z :: rest))) (T.setFrames fs) := by
  have hm' : T.vm.method? m = some meth := X.method'
  have hn : narrow .int (.int z) = .int z := rfl
  show Steps p.tables e below (T.setTop { method := m, pc := pc, locals := Ls, stack := _ :: rest, locked := none }) _
  jvm_step X.here [X.here.top, hx, hd, hm', hret, hn]
  first | (intro acts; rw [hl _ acts rfl rfl rfl]) | rw [hl _ _ rfl rfl rfl]
  exact Steps.refl _
end New
end Jvm.RoadKit
namespace Jvm.Pilot.@@N@@
open Jvm Jvm.ClassFile Sem Op Lib Jvm.Free Jvm.Stand Jvm.LawKit Jvm.RoadKit Bundle Jvm.Pilot.@@N@@.Jvm.D
theorem own_set {Z : State} {h h' : Heap} {a : Addr} {k : ClassId} {ty : FieldType} {z j : Int32} {vs : List Value} {dv v : Value} {c : Cell} (A : Arr Z h a c ty) (q1 : c.cls = k) (S : c.slots.size = z.toNatClampNeg) (q3 : ¬ z < 0) (H : Has c vs dv) (G : ∀ i, i < c.slots.size → fits ty (vs.getD i dv) = true) (hv : fits ty v = true) (W : Wr h h' a j.toNatClampNeg v) (i : Nat) (hj : j.toNatClampNeg = i) (hi : i < vs.length) (v' : Value) (e1 : v = v') (vs' : List Value) (e2 : vs.set i v' = vs') : Arv Z h' a k ty z vs' dv := by
  subst e1; subst e2; exact Arv.set A q1 S q3 H G hv W i hj hi
theorem own_pad {Z : State} {h : Heap} {a : Addr} {k : ClassId} {ty : FieldType} {z : Int32} {dv : Value} (F : Arv Z h a k ty z [] dv) (n : Nat) (vs : List Value) (e : vs = List.replicate n dv) : Arv Z h a k ty z vs dv := e ▸ F.pad (pad_rep [] dv n)
theorem own_irr32 (x : Int32) : ¬ x < x := Int32.lt_irrefl
theorem own_irr64 (x : Int64) : ¬ x < x := Int64.lt_irrefl
theorem own_fldI {args : Array Value} {s : State} {t : Term} {C n d : String} {x : Addr} {k : Int32} (ht : t.eval args s none [] s = some (.ref x)) (h : (Cond.eq (Term.field t C n d) (Term.int k)).value args s none s [] = some true) : Fld s s.heap x C n d (.int k) := Fld.start ((fld_at ht).symm.trans (eqv_i (Term.int_eval k) h))
theorem own_fldJ {args : Array Value} {s : State} {t : Term} {C n d : String} {x : Addr} {k : Int64} (ht : t.eval args s none [] s = some (.ref x)) (h : (Cond.eq (Term.field t C n d) (Term.long k)).value args s none s [] = some true) : Fld s s.heap x C n d (.long k) := Fld.start ((fld_at ht).symm.trans (eqv_l (long_at k) h))
theorem own_len {args : Array Value} {s : State} {t : Term} {x : Addr} {cl : Cell} {ty : FieldType} {k : Int32} (ht : t.eval args s none [] s = some (.ref x)) (A : Arr s s.heap x cl ty) (h : (Cond.eq (Term.length t) (Term.int k)).value args s none s [] = some true) : cl.slots.size.toInt32 = k ∧ cl.slots.size < 2 ^ 31 := by
  have e := eqv_i (Term.int_eval k) h
  have ha := A.fin (Vm.Alike.refl _)
  by_cases q : cl.slots.size < 2 ^ 31
  · have e2 := (len_f ht ha q).symm.trans e
    exact ⟨Value.int.inj (Option.some.inj e2), q⟩
  · simp [Term.eval, ht, ha, q] at e
theorem own_elem {args : Array Value} {s : State} {t u : Term} {x : Addr} {cl : Cell} {ty : FieldType} {k : Int32} {v : Value} (ht : t.eval args s none [] s = some (.ref x)) (A : Arr s s.heap x cl ty) (hu : u.eval args s none [] s = some v) (hv : v.isRef = true) (h : (Cond.eq (Term.elem t (Term.int k)) u).value args s none s [] = some true) : cl.slots[k.toNatClampNeg]? = some v := by
  obtain ⟨a, b, h1, h2, h3, h4⟩ := cmp_v (Or.inl h)
  have hb := Option.some.inj (h2.symm.trans hu)
  subst hb
  obtain ⟨c', e1, e2, e3⟩ := elem_at h1 ht (Term.int_eval k)
  have ec := Option.some.inj (e1.symm.trans A.1)
  subst ec
  have ha : a.isRef = true := by
    rcases ref_cases hv with rfl | ⟨y, rfl⟩
    · exact h4.2
    · exact h4.2
  rw [e3, gotT (eq_R h1 h2 ha hv) h]
def own_KL (h h' : Heap) (ls : List Loc) : Prop := h.size ≤ h'.size ∧ ∀ (x : Addr) (c : Cell), h[x]? = some c → ∃ c' : Cell, h'[x]? = some c' ∧ c'.cls = c.cls ∧ c'.vm = c.vm ∧ c'.slots.size = c.slots.size ∧ ((∀ y ∈ ls, y.base ≠ x) → c' = c) ∧ ∀ i, (⟨x, i⟩ : Loc) ∉ ls → c'.slots[i]? = c.slots[i]?
section OwnKL
variable {Z : State} {h0 h h' : Heap} {ls ls' : List Loc} {a b x : Addr} {i j sl n0 : Nat} {v : Value} {C n d : String}
theorem own_kl0 (h : Heap) (ls : List Loc) : own_KL h h ls := ⟨Nat.le_refl _, fun x c q => ⟨c, q, rfl, rfl, rfl, fun _ => rfl, fun _ _ => rfl⟩⟩
theorem own_klE (K : own_KL h0 h ls) (E : Ext h h') : own_KL h0 h' ls := ⟨Nat.le_trans K.1 E.1, fun x c q => by obtain ⟨c', q', r⟩ := K.2 x c q; exact ⟨c', E.2 x c' q', r⟩⟩
theorem own_klT (K : own_KL h0 h ls) (K' : own_KL h h' ls') (q : ∀ y ∈ ls', y ∈ ls ∨ h0.size ≤ y.base) : own_KL h0 h' ls := by
  refine ⟨Nat.le_trans K.1 K'.1, fun x c hc => ?_⟩
  obtain ⟨c1, a1, a2, a3, a4, a5, a6⟩ := K.2 x c hc
  obtain ⟨c2, b1, b2, b3, b4, b5, b6⟩ := K'.2 x c1 a1
  have hx : x < h0.size := (Array.getElem?_eq_some_iff.mp hc).1
  refine ⟨c2, b1, b2.trans a2, b3.trans a3, b4.trans a4, fun hn => ?_, fun i hi => ?_⟩
  · rw [← a5 hn]; exact b5 fun y hy e => (q y hy).elim (fun z => hn y z e) (fun z => absurd hx (Nat.not_lt.mpr (e ▸ z)))
  · rw [← a6 i hi]; exact b6 i fun z => (q _ z).elim hi (fun u => absurd hx (Nat.not_lt.mpr u))
theorem own_klofW (W : Wr h h' a sl v) : own_KL h h' [⟨a, sl⟩] := by
  refine ⟨Nat.le_of_eq W.size.symm, fun x c hc => ?_⟩
  obtain ⟨c', e1, e2, e3, e4, e5, e6, -⟩ := wr_at W hc
  refine ⟨c', e1, e2, e3, e4, fun hn => e5 fun q => hn _ (List.mem_singleton.mpr rfl) q.symm, fun i hi => ?_⟩
  by_cases q : x = a
  · exact e6 i fun r => hi (by rw [q, r]; exact List.mem_singleton.mpr rfl)
  · rw [e5 q]
theorem own_klW (K : own_KL h0 h ls) (W : Wr h h' a sl v) (q : (⟨a, sl⟩ : Loc) ∈ ls ∨ h0.size ≤ a) : own_KL h0 h' ls := own_klT K (own_klofW W) fun y hy => by cases List.mem_singleton.mp hy; exact q
theorem own_ka0 : ∀ y ∈ ([] : List Loc), y ∈ ls ∨ n0 ≤ y.base := fun _ q => nomatch q
theorem own_kac (q : (⟨a, sl⟩ : Loc) ∈ ls ∨ n0 ≤ a) (r : ∀ y ∈ ls', y ∈ ls ∨ n0 ≤ y.base) : ∀ y ∈ (⟨a, sl⟩ : Loc) :: ls', y ∈ ls ∨ n0 ≤ y.base := fun y z => (List.mem_cons.mp z).elim (fun u => u ▸ q) (r y)
theorem own_ng0 : ∀ y ∈ ([] : List Loc), n0 ≤ y.base := fun _ q => nomatch q
theorem own_ngc (q : n0 ≤ a) (r : ∀ y ∈ ls', n0 ≤ y.base) : ∀ y ∈ (⟨a, sl⟩ : Loc) :: ls', n0 ≤ y.base := fun y z => (List.mem_cons.mp z).elim (fun u => u ▸ q) (r y)
theorem own_nb0 : ∀ y ∈ ([] : List Loc), y.base ≠ a := fun _ q => nomatch q
theorem own_nbc (q : b ≠ a) (r : ∀ y ∈ ls', y.base ≠ a) : ∀ y ∈ (⟨b, sl⟩ : Loc) :: ls', y.base ≠ a := fun y z => (List.mem_cons.mp z).elim (fun u => u ▸ q) (r y)
theorem own_nl0 : (⟨a, i⟩ : Loc) ∉ ([] : List Loc) := fun q => nomatch q
theorem own_nlb (q : a ≠ b) (r : (⟨a, i⟩ : Loc) ∉ ls) : (⟨a, i⟩ : Loc) ∉ (⟨b, j⟩ : Loc) :: ls := fun z => (List.mem_cons.mp z).elim (fun u => q (congrArg Loc.base u)) r
theorem own_nls (q : i ≠ j) (r : (⟨a, i⟩ : Loc) ∉ ls) : (⟨a, i⟩ : Loc) ∉ (⟨b, j⟩ : Loc) :: ls := fun z => (List.mem_cons.mp z).elim (fun u => q (congrArg Loc.slot u)) r
theorem own_exa (F : Exa Z h a C) (K : own_KL h h' ls) : Exa Z h' a C := by
  obtain ⟨cell, k, h1, h2, h3, h4, h5⟩ := F
  obtain ⟨c', e1, e2, e3, e4, -⟩ := K.2 _ _ h1
  exact ⟨c', k, e1, by rw [e2]; exact h2, by rw [e2]; exact h3, by rw [e3]; exact h4, by rw [e4]; exact h5⟩
theorem own_fld (F : Fld Z h a C n d v) (K : own_KL h h' ls) (q : (⟨a, Jvm.RoadKit.slotOf Z C n d⟩ : Loc) ∉ ls) : Fld Z h' a C n d v := by
  obtain ⟨cell, cf, k, i, f, h1, h2, h3, h4, h5, h6, h7⟩ := F
  obtain ⟨c', e1, e2, e3, e4, -, e6⟩ := K.2 _ _ h1
  refine ⟨c', cf, k, i, f, e1, h2, h3, by rw [e3]; exact h4, by rw [e3]; exact h5, by rw [e2]; exact h6, ?_⟩
  rw [e6 _ (by simpa [Jvm.RoadKit.slotOf, h2] using q)]; exact h7
theorem own_arv {k : ClassId} {ty : FieldType} {z : Int32} {vs : List Value} {dv : Value} (F : Arv Z h a k ty z vs dv) (K : own_KL h h' ls) (q : ∀ y ∈ ls, y.base ≠ a) : Arv Z h' a k ty z vs dv := by
  obtain ⟨c, A, r⟩ := F
  obtain ⟨c', e1, -, -, -, e5, -⟩ := K.2 _ _ A.1
  cases e5 q
  exact ⟨c, ⟨e1, A.2⟩, r⟩
theorem own_old (O : Old Z n0 h) (K : own_KL h h' ls) (q : ∀ y ∈ ls, n0 ≤ y.base) : Old Z n0 h' := ⟨O.1, Nat.le_trans O.2.1 K.1, fun x c r => by
  obtain ⟨c', e1, -, -, -, e5, -⟩ := K.2 x c (O.2.2 x c r)
  have hx : x < n0 := O.1 ▸ (Array.getElem?_eq_some_iff.mp r).1
  rw [e1, e5 fun y hy e => absurd hx (Nat.not_lt.mpr (e ▸ q y hy))]⟩
end OwnKL
theorem own_NSroot {Z : State} {a0 : Array Value} {O K : String} {n : Nat} (w : (Cond.noSuperclass O).before a0 Z = true) (wk : (Cond.instantiable K n).before a0 Z = true) (hn : O ≠ K) : NS Z O K := by
  obtain ⟨c, k, h1, h2, h3, -, -⟩ := Cond.noSuperclass_spec w
  obtain ⟨t, -, g1, -⟩ := Cond.instantiable_spec wk
  have ne := ids_ne h1 g1 hn
  refine ⟨c, t, h1, g1, fun fuel => ?_⟩
  cases fuel with
  | zero => rfl
  | succ f => simp [Vm.isSubclassAux, ne, h2, h3]
theorem own_NSno {Z : State} {a0 : Array Value} {C S K : String} {n : Nat} (w : (Cond.superclass C S).before a0 Z = true) (wk : (Cond.instantiable K n).before a0 Z = true) (u : NS Z C K) (hn : C ≠ K) : ∃ c t, Z.vm.findClass C = some c ∧ Z.vm.findClass K = some t ∧ Z.vm.assignable c t = false := by
  obtain ⟨c, t, h0, g0, n3⟩ := u
  obtain ⟨p, k, kp, h1, h2, h3, h4, h5, -, h7⟩ := Cond.superclass_spec h0 w
  obtain ⟨t', k', g1, g2, g5, g7, -⟩ := Cond.instantiable_spec wk
  cases g0.symm.trans g1
  have ne := ids_ne h0 g0 hn
  have g8 : k'.isInterface = false := by cases hI : k'.isInterface <;> simp [hI] at g7 ⊢
  refine ⟨c, t, h0, g0, ?_⟩
  show Z.vm.assignableAux (255 + 1) c t = false
  simp [Vm.assignableAux, ne, h2, g2, h5, g5, g8, Vm.isSubclass, n3]
theorem own_boxI {Z : State} {args : Array Value} {t : Term} {a : Addr} {c : Cell} {K : String} {z : Int32} (et : ∀ idx, t.eval args Z none idx Z = some (.ref a)) (A : Arr Z Z.heap a c (.object K)) (q : c.slots.size.toInt32 = z ∧ c.slots.size < 2 ^ 31) (hz : ¬ z < 0)
    (h : (Cond.all t (.and (.exactly (.elem t (.index 0)) K) (.eq (.field (.elem t (.index 0)) K "value" "I") (.sub (.index 0) (.int 128))))).value args Z none Z [] = some true) : Bxs Z a c K "I" z (fun j => .int (j - 128)) :=
  Bxs.start et A q.2 q.1 hz h fun X j nn hh => eqv_i (by simp [Term.eval, idx_at nn, (back32 nn).1]) hh
theorem own_boxJ {Z : State} {args : Array Value} {t : Term} {a : Addr} {c : Cell} {K : String} {z : Int32} (et : ∀ idx, t.eval args Z none idx Z = some (.ref a)) (A : Arr Z Z.heap a c (.object K)) (q : c.slots.size.toInt32 = z ∧ c.slots.size < 2 ^ 31) (hz : ¬ z < 0)
    (h : (Cond.all t (.and (.exactly (.elem t (.index 0)) K) (.eq (.field (.elem t (.index 0)) K "value" "J") (.op1 .i2l (.sub (.index 0) (.int 128)))))).value args Z none Z [] = some true) : Bxs Z a c K "J" z (fun j => .long (j - 128).toInt64) :=
  Bxs.start et A q.2 q.1 hz h fun X j nn hh => eqv_l (i2l_at (by simp [Term.eval, idx_at nn, (back32 nn).1])) hh
theorem own_staI {s : State} {args : Array Value} {C n d : String} {k : Int32} (h : (Cond.eq (Term.static C n d) (Term.int k)).value args s none s [] = some true) : (Term.static C n d).eval args s none [] s = some (.int k) := eqv_i (Term.int_eval k) h
theorem own_selp {Z : State} {a0 : Array Value} {y : MethodName} {n : Nat} (wi : (Cond.instantiable y.cls n).before a0 Z = true) (wp : (Cond.privateMethod y).before a0 Z = true) (wm : (Cond.instanceMethod y).before a0 Z = true) (hy : y.cls ≠ "java/lang/invoke/MethodHandle" ∧ y.cls ≠ "java/lang/invoke/VarHandle") : (Cond.selects y.cls y y).before a0 Z = true := by
  obtain ⟨c, k, h1, h2, -, h4, -⟩ := Cond.instantiable_spec wi
  exact selects_self_of_private h1 h2 (by cases hI : k.isInterface <;> simp [hI] at h4 ⊢) (Cond.privateMethod_at wp) wm hy
def own_Gk (Z : State) (h : Heap) (a : Addr) (k : ClassId) (ty : FieldType) (n j : Int32) (v : Value) : Prop := ∃ c : Cell, Arr Z h a c ty ∧ c.cls = k ∧ c.slots.size = n.toNatClampNeg ∧ ¬ n < 0 ∧ c.slots[j.toNatClampNeg]? = some v
section OwnGk
variable {Z : State} {h h' : Heap} {ls : List Loc} {a b : Addr} {k : ClassId} {ty : FieldType} {n j : Int32} {v u : Value} {sl : Nat}
theorem own_Gk.lt (F : own_Gk Z h a k ty n j v) : a < h.size := by obtain ⟨c, A, -⟩ := F; exact A.lt
theorem own_gk_ext (F : own_Gk Z h a k ty n j v) (E : Ext h h') : own_Gk Z h' a k ty n j v := by obtain ⟨c, A, r⟩ := F; exact ⟨c, A.ext E, r⟩
theorem own_gk_oth (F : own_Gk Z h a k ty n j v) (W : Wr h h' b sl u) (q : a ≠ b) : own_Gk Z h' a k ty n j v := by obtain ⟨c, A, r⟩ := F; exact ⟨c, A.other W q, r⟩
theorem own_gk_kl (F : own_Gk Z h a k ty n j v) (K : own_KL h h' ls) (q : ∀ y ∈ ls, y.base ≠ a) : own_Gk Z h' a k ty n j v := by
  obtain ⟨c, A, r⟩ := F
  obtain ⟨c', e1, -, -, -, e5, -⟩ := K.2 _ _ A.1
  cases e5 q
  exact ⟨c, ⟨e1, A.2⟩, r⟩
theorem own_gk_set {c : Cell} (A : Arr Z h a c ty) (q1 : c.cls = k) (S : c.slots.size = n.toNatClampNeg) (N : ¬ n < 0) (W : Wr h h' a j.toNatClampNeg v) : own_Gk Z h' a k ty n j v := by
  obtain ⟨c', e1, e2, e3, e4, -, -, e7⟩ := wr_at W A.1
  have e8 := (e7 rfl).1
  exact ⟨_, A.same W, q1, by rw [sz_set]; exact S, N, by rw [← e8]; exact (e7 rfl).2.1⟩
end OwnGk
section OwnSteps
variable {p : Program} {l : Launch} {e : Env} {R : Room} {s : State} {m : MethodId} {args : Array Value} {below : List Frame} {meth : Method} {c : Code} {T target : State} {locs : List Loc} {cells slots : Nat} {code : ByteArray} {pc : Nat} {Ls : Array Slot} {K : List Value}
theorem sc (X : Stand p l e R s m args below meth c T locs cells slots) (hx : p.tables.exec = Jvm.exec) (hby : c.code = code) {i : Int} (hd : decode code pc = .ok (.iconst i, 1)) (hr : Steps p.tables e below (T.setTop (mkF m (pc + 1) Ls (.int (Int32.ofInt i) :: K))) target) : Steps p.tables e below (T.setTop (mkF m pc Ls K)) target := XS.iconst X.here hx rfl (hb hby hd) hr
theorem sa (X : Stand p l e R s m args below meth c T locs cells slots) (hx : p.tables.exec = Jvm.exec) (hby : c.code = code) {k : Nat} {v : Value} (hd : decode code pc = .ok (.aload k, 2)) (hl : Ls[k]? = some (.val v)) (hv : v.isRef = true) (hr : Steps p.tables e below (T.setTop (mkF m (pc + 2) Ls (v :: K))) target) : Steps p.tables e below (T.setTop (mkF m pc Ls K)) target := XS.aload X.here hx rfl (hb hby hd) hl hv hr
theorem sA (X : Stand p l e R s m args below meth c T locs cells slots) (hx : p.tables.exec = Jvm.exec) (hby : c.code = code) {k : Fin 4} {v : Value} (hd : decode code pc = .ok (.aload_n k, 1)) (hl : Ls[k.val]? = some (.val v)) (hv : v.isRef = true) (hr : Steps p.tables e below (T.setTop (mkF m (pc + 1) Ls (v :: K))) target) : Steps p.tables e below (T.setTop (mkF m pc Ls K)) target := XS.aloadN X.here hx rfl (hb hby hd) hl hv hr
theorem si (X : Stand p l e R s m args below meth c T locs cells slots) (hx : p.tables.exec = Jvm.exec) (hby : c.code = code) {k : Nat} {v : Int32} (hd : decode code pc = .ok (.iload k, 2)) (hl : Ls[k]? = some (.val (.int v))) (hr : Steps p.tables e below (T.setTop (mkF m (pc + 2) Ls (.int v :: K))) target) : Steps p.tables e below (T.setTop (mkF m pc Ls K)) target := XS.iload X.here hx rfl (hb hby hd) hl hr
theorem sI (X : Stand p l e R s m args below meth c T locs cells slots) (hx : p.tables.exec = Jvm.exec) (hby : c.code = code) {k : Fin 4} {v : Int32} (hd : decode code pc = .ok (.iload_n k, 1)) (hl : Ls[k.val]? = some (.val (.int v))) (hr : Steps p.tables e below (T.setTop (mkF m (pc + 1) Ls (.int v :: K))) target) : Steps p.tables e below (T.setTop (mkF m pc Ls K)) target := XS.iloadN X.here hx rfl (hb hby hd) hl hr
theorem sL (X : Stand p l e R s m args below meth c T locs cells slots) (hx : p.tables.exec = Jvm.exec) (hby : c.code = code) {k : Fin 4} {v : Int64} (hd : decode code pc = .ok (.lload_n k, 1)) (hl : Ls[k.val]? = some (.val (.long v))) (hr : Steps p.tables e below (T.setTop (mkF m (pc + 1) Ls (.long v :: K))) target) : Steps p.tables e below (T.setTop (mkF m pc Ls K)) target := XS.lloadN X.here hx rfl (hb hby hd) hl hr
theorem sg (X : Stand p l e R s m args below meth c T locs cells slots) (hx : p.tables.exec = Jvm.exec) (hby : c.code = code) {o : Int} {pc' : Nat} (hd : decode code pc = .ok (.goto o, 3)) (ho : 0 ≤ (pc : Int) + o) (hp : ((pc : Int) + o).toNat = pc') (hr : Steps p.tables e below (T.setTop (mkF m pc' Ls K)) target) : Steps p.tables e below (T.setTop (mkF m pc Ls K)) target := XS.goto X.here hx rfl rfl (hb hby hd) ho hp hr
theorem sn (X : Stand p l e R s m args below meth c T locs cells slots) (hx : p.tables.exec = Jvm.exec) (hby : c.code = code) {cd : ClassFile.Cond} {o : Int} {x y : Int32} (hd : decode code pc = .ok (.if_icmp cd o, 3)) (hc : if_icmp.holds cd x y = false) (hr : Steps p.tables e below (T.setTop (mkF m (pc + 3) Ls K)) target) : Steps p.tables e below (T.setTop (mkF m pc Ls (.int y :: .int x :: K))) target := XS.icmpNo X.here hx rfl (hb hby hd) rfl hc hr
theorem sN (X : Stand p l e R s m args below meth c T locs cells slots) (hx : p.tables.exec = Jvm.exec) (hby : c.code = code) {cd : ClassFile.Cond} {o : Int} {x : Int32} (hd : decode code pc = .ok (.ifCond cd o, 3)) (hc : ifCond.holds cd x = false) (hr : Steps p.tables e below (T.setTop (mkF m (pc + 3) Ls K)) target) : Steps p.tables e below (T.setTop (mkF m pc Ls (.int x :: K))) target := XS.ifNo X.here hx rfl (hb hby hd) rfl hc hr
end OwnSteps

theorem own_and3 (x : Int32) : x &&& 3 = 0 ∨ x &&& 3 = 1 ∨ x &&& 3 = 2 ∨ x &&& 3 = 3 := by
  have h : (x &&& 3).toInt = x.toInt % 4 := c_mask x 3 2 (by decide) (by decide)
  have hr : (x &&& 3).toInt = 0 ∨ (x &&& 3).toInt = 1 ∨ (x &&& 3).toInt = 2 ∨ (x &&& 3).toInt = 3 := by omega
  rcases hr with q | q | q | q
  · exact Or.inl (Int32.toInt_inj.mp q)
  · exact Or.inr (Or.inl (Int32.toInt_inj.mp q))
  · exact Or.inr (Or.inr (Or.inl (Int32.toInt_inj.mp q)))
  · exact Or.inr (Or.inr (Or.inr (Int32.toInt_inj.mp q)))
theorem own_rem3 (x : Int32) : (x &&& 2147483647) % 3 = 0 ∨ (x &&& 2147483647) % 3 = 1 ∨ (x &&& 2147483647) % 3 = 2 := by
  have h : (x &&& 2147483647).toInt = x.toInt % 2147483648 := c_mask x 2147483647 31 (by decide) (by decide)
  have h2 : ((x &&& 2147483647) % 3).toInt = (x &&& 2147483647).toInt % 3 := by
    rw [Int32.toInt_mod, Int.tmod_eq_emod_of_nonneg (by rw [h]; omega)]; rfl
  have hr : ((x &&& 2147483647) % 3).toInt = 0 ∨ ((x &&& 2147483647) % 3).toInt = 1 ∨ ((x &&& 2147483647) % 3).toInt = 2 := by omega
  rcases hr with q | q | q
  · exact Or.inl (Int32.toInt_inj.mp q)
  · exact Or.inr (Or.inl (Int32.toInt_inj.mp q))
  · exact Or.inr (Or.inr (Int32.toInt_inj.mp q))
theorem own_max (x : Int64) : ¬ (9223372036854775807 < x) := fun q => by
  have a := Int64.lt_iff_toInt_lt.mp q
  have e : (9223372036854775807 : Int64).toInt = 9223372036854775807 := by decide
  have r := rng64 x
  omega
theorem own_min {x : Int64} (h : ¬ (-9223372036854775808 < x)) : (-9223372036854775808 : Int64) = x := by
  have a := Int64.le_iff_toInt_le.mp (Int64.not_lt.mp h)
  have e : (-9223372036854775808 : Int64).toInt = -9223372036854775808 := by decide
  have r := rng64 x
  exact Int64.toInt_inj.mp (by omega)
theorem own_lf (x : Int64) : 0 ≤ (x &&& 9223372036854775807).toInt := by
  have h : (x &&& 9223372036854775807).toInt = x.toInt % 9223372036854775808 := c_maskL x 9223372036854775807 63 (by decide) (by decide)
  omega
theorem own_lf1 (x : Int64) : ¬ ((x &&& 9223372036854775807) = -1) := fun q => by
  have h := own_lf x
  rw [q] at h
  exact absurd h (by decide)
theorem own_lf2 (x : Int64) : ¬ ((x &&& 9223372036854775807) < -1) := fun q => by
  have h := own_lf x
  have a := Int64.lt_iff_toInt_lt.mp q
  have e : (-1 : Int64).toInt = -1 := by decide
  omega
abbrev cs0 : String := "com/example/tidemark/tidemark/MemoryEntry"
abbrev cs1 : String := "Lcom/example/tidemark/tidemark/MemoryEntry;"
abbrev cs2 : String := "com/example/tidemark/tidemark/Deadlines"
abbrev cs3 : String := "filedBefore"
abbrev cs4 : String := "filedAfter"
abbrev cs5 : String := "com/example/tidemark/tidemark/Expiry"
abbrev cs6 : String := "Ljava/lang/Object;"
abbrev cs7 : String := "Lcom/example/tidemark/tidemark/Expiry;"
abbrev cs8 : String := "[Lcom/example/tidemark/tidemark/MemoryEntry;"
abbrev cs9 : String := "java/lang/Integer"
abbrev cs10 : String := "lockFreeValue"
abbrev cs11 : String := "java/lang/Object"
abbrev ym0 : MethodName := ⟨"java/lang/Record", "<init>", "()V"⟩
abbrev ym1 : MethodName := ⟨"com/example/tidemark/tidemark/Expiry", "requireLimit", "(Ljava/lang/String;J)V"⟩
abbrev ym2 : MethodName := ⟨"com/example/tidemark/tidemark/Expiry", "<init>", "(JJ)V"⟩
abbrev ym3 : MethodName := ⟨"com/example/tidemark/tidemark/Deadlines", "<init>", "()V"⟩
abbrev ym4 : MethodName := ⟨"java/lang/Integer", "valueOf", "(I)Ljava/lang/Integer;"⟩
abbrev ym5 : MethodName := ⟨"com/example/tidemark/tidemark/MemoryEntry", "restart", "(J)V"⟩
abbrev ym6 : MethodName := ⟨"com/example/tidemark/tidemark/Expiry", "canExpire", "()Z"⟩
abbrev ym7 : MethodName := ⟨"com/example/tidemark/tidemark/MemoryEntry", "write", "(Ljava/lang/Object;Lcom/example/tidemark/tidemark/Expiry;J)V"⟩
abbrev ym8 : MethodName := ⟨"com/example/tidemark/tidemark/MemoryEntry", "<init>", "(Ljava/lang/Object;Ljava/lang/Object;Lcom/example/tidemark/tidemark/Expiry;JJ)V"⟩
abbrev ym9 : MethodName := ⟨"com/example/tidemark/tidemark/Deadlines", "unfile", "(Lcom/example/tidemark/tidemark/MemoryEntry;)V"⟩
abbrev ym10 : MethodName := ⟨"com/example/tidemark/tidemark/Deadlines", "size", "()J"⟩
abbrev ym11 : MethodName := ⟨"com/example/tidemark/tidemark/Expiry", "end", "(JJ)J"⟩
abbrev ym12 : MethodName := ⟨"java/lang/Math", "min", "(JJ)J"⟩
abbrev ym13 : MethodName := ⟨"com/example/tidemark/tidemark/Expiry", "deadline", "(JJ)J"⟩
abbrev ym14 : MethodName := ⟨"com/example/tidemark/tidemark/MemoryEntry", "deadline", "()J"⟩
abbrev ym15 : MethodName := ⟨"java/lang/Integer", "numberOfLeadingZeros", "(I)I"⟩
abbrev ym16 : MethodName := ⟨"java/lang/Long", "numberOfLeadingZeros", "(J)I"⟩
abbrev ym17 : MethodName := ⟨"com/example/tidemark/tidemark/Deadlines", "slotOf", "(J)I"⟩
abbrev ym18 : MethodName := ⟨"com/example/tidemark/tidemark/Deadlines", "link", "(Lcom/example/tidemark/tidemark/MemoryEntry;I)V"⟩
abbrev ym19 : MethodName := ⟨"com/example/tidemark/tidemark/Deadlines", "refile", "(Lcom/example/tidemark/tidemark/MemoryEntry;J)V"⟩
theorem pf0 : parseFieldDescriptor "J" = some .long := by decide +kernel
theorem pf1 : parseFieldDescriptor "[Lcom/example/tidemark/tidemark/MemoryEntry;" = some (.array (.object "com/example/tidemark/tidemark/MemoryEntry")) := by decide +kernel
theorem pf2 : parseFieldDescriptor "Ljava/lang/Object;" = some (.object "java/lang/Object") := by decide +kernel
theorem pf3 : parseFieldDescriptor "I" = some .int := by decide +kernel
theorem pf4 : parseFieldDescriptor "Lcom/example/tidemark/tidemark/Expiry;" = some (.object "com/example/tidemark/tidemark/Expiry") := by decide +kernel
theorem pf5 : parseFieldDescriptor "Lcom/example/tidemark/tidemark/MemoryEntry;" = some (.object "com/example/tidemark/tidemark/MemoryEntry") := by decide +kernel
abbrev HW (Z : State) (a0 : Array Value) : Prop := ∀ d ∈ tables_1, d.before a0 Z = true
theorem wk0 {Z a0} (hw : HW Z a0) : (Jvm.Cond.constant "com/example/tidemark/tidemark/DeadlinesUnfilePinLaw" (7 : Nat) (2147483647 : Int32)).before a0 Z = true := hw _ (List.mem_of_getElem? (i := 0) rfl)
theorem wk1 {Z a0} (hw : HW Z a0) : (Jvm.Cond.constantLong "com/example/tidemark/tidemark/DeadlinesUnfilePinLaw" (10 : Nat) (9223372036854775807 : Int64)).before a0 Z = true := hw _ (List.mem_of_getElem? (i := 1) rfl)
theorem wk2 {Z a0} (hw : HW Z a0) : (Jvm.Cond.classLink "com/example/tidemark/tidemark/DeadlinesUnfilePinLaw" (12 : Nat) cs5).before a0 Z = true := hw _ (List.mem_of_getElem? (i := 2) rfl)
theorem wk3 {Z a0} (hw : HW Z a0) : (Jvm.Cond.instantiable cs5 (2 : Nat)).before a0 Z = true := hw _ (List.mem_of_getElem? (i := 3) rfl)
theorem wk4 {Z a0} (hw : HW Z a0) : (Jvm.Cond.initialized cs5).before a0 Z = true := hw _ (List.mem_of_getElem? (i := 4) rfl)
theorem wk5 {Z a0} (hw : HW Z a0) : (Jvm.Cond.constantLong "com/example/tidemark/tidemark/DeadlinesUnfilePinLaw" (14 : Nat) (-1 : Int64)).before a0 Z = true := hw _ (List.mem_of_getElem? (i := 5) rfl)
theorem wk6 {Z a0} (hw : HW Z a0) : (Jvm.Cond.methodLink "com/example/tidemark/tidemark/DeadlinesUnfilePinLaw" (16 : Nat) ({ cls := cs5, name := "<init>", desc := "(JJ)V" } : Jvm.MethodName)).before a0 Z = true := hw _ (List.mem_of_getElem? (i := 6) rfl)
theorem wk7 {Z a0} (hw : HW Z a0) : (Jvm.Cond.instanceMethod ({ cls := cs5, name := "<init>", desc := "(JJ)V" } : Jvm.MethodName)).before a0 Z = true := hw _ (List.mem_of_getElem? (i := 7) rfl)
theorem wk8 {Z a0} (hw : HW Z a0) : (Jvm.Cond.code ({ cls := cs5, name := "<init>", desc := "(JJ)V" } : Jvm.MethodName) prog_22_method_1_code (5 : Nat) (Option.none : Option Jvm.ClassFile.FieldType)).before a0 Z = true := hw _ (List.mem_of_getElem? (i := 8) rfl)
theorem wk9 {Z a0} (hw : HW Z a0) : (Jvm.Cond.methodLink cs5 (1 : Nat) ({ cls := "java/lang/Record", name := "<init>", desc := "()V" } : Jvm.MethodName)).before a0 Z = true := hw _ (List.mem_of_getElem? (i := 9) rfl)
theorem wk10 {Z a0} (hw : HW Z a0) : (Jvm.Cond.instanceMethod ({ cls := "java/lang/Record", name := "<init>", desc := "()V" } : Jvm.MethodName)).before a0 Z = true := hw _ (List.mem_of_getElem? (i := 10) rfl)
theorem wk12 {Z a0} (hw : HW Z a0) : (Jvm.Cond.initialized "java/lang/Record").before a0 Z = true := hw _ (List.mem_of_getElem? (i := 12) rfl)
theorem wk13 {Z a0} (hw : HW Z a0) : (Jvm.Cond.code ({ cls := "java/lang/Record", name := "<init>", desc := "()V" } : Jvm.MethodName) jdk_30_method_1_code (1 : Nat) (Option.none : Option Jvm.ClassFile.FieldType)).before a0 Z = true := hw _ (List.mem_of_getElem? (i := 13) rfl)
theorem wk14 {Z a0} (hw : HW Z a0) : (Jvm.Cond.methodLink "java/lang/Record" (1 : Nat) ({ cls := cs11, name := "<init>", desc := "()V" } : Jvm.MethodName)).before a0 Z = true := hw _ (List.mem_of_getElem? (i := 14) rfl)
theorem wk15 {Z a0} (hw : HW Z a0) : (Jvm.Cond.instanceMethod ({ cls := cs11, name := "<init>", desc := "()V" } : Jvm.MethodName)).before a0 Z = true := hw _ (List.mem_of_getElem? (i := 15) rfl)
theorem wk16 {Z a0} (hw : HW Z a0) : (Jvm.Cond.code ({ cls := cs11, name := "<init>", desc := "()V" } : Jvm.MethodName) object_method_1_code (1 : Nat) (Option.none : Option Jvm.ClassFile.FieldType)).before a0 Z = true := hw _ (List.mem_of_getElem? (i := 16) rfl)
theorem wk17 {Z a0} (hw : HW Z a0) : (Jvm.Cond.stringLink cs5 (7 : Nat) "lifespan").before a0 Z = true := hw _ (List.mem_of_getElem? (i := 17) rfl)
theorem wk25 {Z a0} (hw : HW Z a0) : (Jvm.Cond.methodLink cs5 (9 : Nat) ({ cls := cs5, name := "requireLimit", desc := "(Ljava/lang/String;J)V" } : Jvm.MethodName)).before a0 Z = true := hw _ (List.mem_of_getElem? (i := 25) rfl)
theorem wk26 {Z a0} (hw : HW Z a0) : (Jvm.Cond.static ({ cls := cs5, name := "requireLimit", desc := "(Ljava/lang/String;J)V" } : Jvm.MethodName)).before a0 Z = true := hw _ (List.mem_of_getElem? (i := 26) rfl)
theorem wk27 {Z a0} (hw : HW Z a0) : (Jvm.Cond.code ({ cls := cs5, name := "requireLimit", desc := "(Ljava/lang/String;J)V" } : Jvm.MethodName) prog_22_method_9_code (3 : Nat) (Option.none : Option Jvm.ClassFile.FieldType)).before a0 Z = true := hw _ (List.mem_of_getElem? (i := 27) rfl)
theorem wk28 {Z a0} (hw : HW Z a0) : (Jvm.Cond.constantLong cs5 (29 : Nat) (-1 : Int64)).before a0 Z = true := hw _ (List.mem_of_getElem? (i := 28) rfl)
theorem wk29 {Z a0} (hw : HW Z a0) : (Jvm.Cond.stringLink cs5 (15 : Nat) "maxIdle").before a0 Z = true := hw _ (List.mem_of_getElem? (i := 29) rfl)
theorem wk30 {Z a0} (hw : HW Z a0) : (Jvm.Cond.fieldLink cs5 (17 : Nat) cs5 "lifespan" "J").before a0 Z = true := hw _ (List.mem_of_getElem? (i := 30) rfl)
theorem wk31 {Z a0} (hw : HW Z a0) : (Jvm.Cond.laysFinal cs5 cs5 "lifespan" "J").before a0 Z = true := hw _ (List.mem_of_getElem? (i := 31) rfl)
theorem wk32 {Z a0} (hw : HW Z a0) : (Jvm.Cond.fieldLink cs5 (20 : Nat) cs5 "maxIdle" "J").before a0 Z = true := hw _ (List.mem_of_getElem? (i := 32) rfl)
theorem wk33 {Z a0} (hw : HW Z a0) : (Jvm.Cond.laysFinal cs5 cs5 "maxIdle" "J").before a0 Z = true := hw _ (List.mem_of_getElem? (i := 33) rfl)
theorem wk34 {Z a0} (hw : HW Z a0) : (Jvm.Cond.classLink "com/example/tidemark/tidemark/DeadlinesUnfilePinLaw" (19 : Nat) cs2).before a0 Z = true := hw _ (List.mem_of_getElem? (i := 34) rfl)
theorem wk35 {Z a0} (hw : HW Z a0) : (Jvm.Cond.instantiable cs2 (3 : Nat)).before a0 Z = true := hw _ (List.mem_of_getElem? (i := 35) rfl)
theorem wk36 {Z a0} (hw : HW Z a0) : (Jvm.Cond.initialized cs2).before a0 Z = true := hw _ (List.mem_of_getElem? (i := 36) rfl)
theorem wk37 {Z a0} (hw : HW Z a0) : (Jvm.Cond.methodLink "com/example/tidemark/tidemark/DeadlinesUnfilePinLaw" (21 : Nat) ({ cls := cs2, name := "<init>", desc := "()V" } : Jvm.MethodName)).before a0 Z = true := hw _ (List.mem_of_getElem? (i := 37) rfl)
theorem wk38 {Z a0} (hw : HW Z a0) : (Jvm.Cond.instanceMethod ({ cls := cs2, name := "<init>", desc := "()V" } : Jvm.MethodName)).before a0 Z = true := hw _ (List.mem_of_getElem? (i := 38) rfl)
theorem wk39 {Z a0} (hw : HW Z a0) : (Jvm.Cond.code ({ cls := cs2, name := "<init>", desc := "()V" } : Jvm.MethodName) prog_14_method_1_code (2 : Nat) (Option.none : Option Jvm.ClassFile.FieldType)).before a0 Z = true := hw _ (List.mem_of_getElem? (i := 39) rfl)
theorem wk40 {Z a0} (hw : HW Z a0) : (Jvm.Cond.methodLink cs2 (3 : Nat) ({ cls := cs11, name := "<init>", desc := "()V" } : Jvm.MethodName)).before a0 Z = true := hw _ (List.mem_of_getElem? (i := 40) rfl)
theorem wk41 {Z a0} (hw : HW Z a0) : (Jvm.Cond.constantLong cs2 (11 : Nat) (-9223372036854775808 : Int64)).before a0 Z = true := hw _ (List.mem_of_getElem? (i := 41) rfl)
theorem wk42 {Z a0} (hw : HW Z a0) : (Jvm.Cond.fieldLink cs2 (13 : Nat) cs2 "time" "J").before a0 Z = true := hw _ (List.mem_of_getElem? (i := 42) rfl)
theorem wk43 {Z a0} (hw : HW Z a0) : (Jvm.Cond.lays cs2 cs2 "time" "J").before a0 Z = true := hw _ (List.mem_of_getElem? (i := 43) rfl)
theorem wk44 {Z a0} (hw : HW Z a0) : (Jvm.Cond.classLink cs2 (17 : Nat) cs0).before a0 Z = true := hw _ (List.mem_of_getElem? (i := 44) rfl)
theorem wk45 {Z a0} (hw : HW Z a0) : (Jvm.Cond.arrayOver (Jvm.ClassFile.FieldType.object cs0)).before a0 Z = true := hw _ (List.mem_of_getElem? (i := 45) rfl)
theorem wk46 {Z a0} (hw : HW Z a0) : (Jvm.Cond.fieldLink cs2 (19 : Nat) cs2 "firsts" cs8).before a0 Z = true := hw _ (List.mem_of_getElem? (i := 46) rfl)
theorem wk47 {Z a0} (hw : HW Z a0) : (Jvm.Cond.laysFinal cs2 cs2 "firsts" cs8).before a0 Z = true := hw _ (List.mem_of_getElem? (i := 47) rfl)
theorem wk48 {Z a0} (hw : HW Z a0) : (Jvm.Cond.classLink "com/example/tidemark/tidemark/DeadlinesUnfilePinLaw" (22 : Nat) cs0).before a0 Z = true := hw _ (List.mem_of_getElem? (i := 48) rfl)
theorem wk49 {Z a0} (hw : HW Z a0) : (Jvm.Cond.instantiable cs0 (18 : Nat)).before a0 Z = true := hw _ (List.mem_of_getElem? (i := 49) rfl)
theorem wk50 {Z a0} (hw : HW Z a0) : (Jvm.Cond.initialized cs0).before a0 Z = true := hw _ (List.mem_of_getElem? (i := 50) rfl)
theorem wk51 {Z a0} (hw : HW Z a0) : (Jvm.Cond.methodLink "com/example/tidemark/tidemark/DeadlinesUnfilePinLaw" (24 : Nat) ({ cls := cs9, name := "valueOf", desc := "(I)Ljava/lang/Integer;" } : Jvm.MethodName)).before a0 Z = true := hw _ (List.mem_of_getElem? (i := 51) rfl)
theorem wk52 {Z a0} (hw : HW Z a0) : (Jvm.Cond.static ({ cls := cs9, name := "valueOf", desc := "(I)Ljava/lang/Integer;" } : Jvm.MethodName)).before a0 Z = true := hw _ (List.mem_of_getElem? (i := 52) rfl)
theorem wk53 {Z a0} (hw : HW Z a0) : (Jvm.Cond.initialized cs9).before a0 Z = true := hw _ (List.mem_of_getElem? (i := 53) rfl)
theorem wk54 {Z a0} (hw : HW Z a0) : (Jvm.Cond.code ({ cls := cs9, name := "valueOf", desc := "(I)Ljava/lang/Integer;" } : Jvm.MethodName) jdk_33_method_22_code (1 : Nat) (Option.some (Jvm.ClassFile.FieldType.object cs9))).before a0 Z = true := hw _ (List.mem_of_getElem? (i := 54) rfl)
theorem wk55 {Z a0} (hw : HW Z a0) : (Jvm.Cond.fieldLink cs9 (191 : Nat) "java/lang/Integer$IntegerCache" "high" "I").before a0 Z = true := hw _ (List.mem_of_getElem? (i := 55) rfl)
theorem wk56 {Z a0} (hw : HW Z a0) : (Jvm.Cond.initialized "java/lang/Integer$IntegerCache").before a0 Z = true := hw _ (List.mem_of_getElem? (i := 56) rfl)
theorem wk57 {Z a0} (hw : HW Z a0) : (Jvm.Cond.fieldLink cs9 (195 : Nat) "java/lang/Integer$IntegerCache" "cache" "[Ljava/lang/Integer;").before a0 Z = true := hw _ (List.mem_of_getElem? (i := 57) rfl)
theorem wk58 {Z a0} (hw : HW Z a0) : (Jvm.Cond.methodLink "com/example/tidemark/tidemark/DeadlinesUnfilePinLaw" (30 : Nat) ({ cls := cs0, name := "<init>", desc := "(Ljava/lang/Object;Ljava/lang/Object;Lcom/example/tidemark/tidemark/Expiry;JJ)V" } : Jvm.MethodName)).before a0 Z = true := hw _ (List.mem_of_getElem? (i := 58) rfl)
theorem wk59 {Z a0} (hw : HW Z a0) : (Jvm.Cond.instanceMethod ({ cls := cs0, name := "<init>", desc := "(Ljava/lang/Object;Ljava/lang/Object;Lcom/example/tidemark/tidemark/Expiry;JJ)V" } : Jvm.MethodName)).before a0 Z = true := hw _ (List.mem_of_getElem? (i := 59) rfl)
theorem wk60 {Z a0} (hw : HW Z a0) : (Jvm.Cond.code ({ cls := cs0, name := "<init>", desc := "(Ljava/lang/Object;Ljava/lang/Object;Lcom/example/tidemark/tidemark/Expiry;JJ)V" } : Jvm.MethodName) prog_41_method_1_code (8 : Nat) (Option.none : Option Jvm.ClassFile.FieldType)).before a0 Z = true := hw _ (List.mem_of_getElem? (i := 60) rfl)
theorem wk61 {Z a0} (hw : HW Z a0) : (Jvm.Cond.methodLink cs0 (1 : Nat) ({ cls := cs11, name := "<init>", desc := "()V" } : Jvm.MethodName)).before a0 Z = true := hw _ (List.mem_of_getElem? (i := 61) rfl)
theorem wk62 {Z a0} (hw : HW Z a0) : (Jvm.Cond.fieldLink cs0 (9 : Nat) cs0 "slot" "I").before a0 Z = true := hw _ (List.mem_of_getElem? (i := 62) rfl)
theorem wk63 {Z a0} (hw : HW Z a0) : (Jvm.Cond.lays cs0 cs0 "slot" "I").before a0 Z = true := hw _ (List.mem_of_getElem? (i := 63) rfl)
theorem wk64 {Z a0} (hw : HW Z a0) : (Jvm.Cond.fieldLink cs0 (15 : Nat) cs0 "key" cs6).before a0 Z = true := hw _ (List.mem_of_getElem? (i := 64) rfl)
theorem wk65 {Z a0} (hw : HW Z a0) : (Jvm.Cond.laysFinal cs0 cs0 "key" cs6).before a0 Z = true := hw _ (List.mem_of_getElem? (i := 65) rfl)
theorem wk66 {Z a0} (hw : HW Z a0) : (Jvm.Cond.fieldLink cs0 (19 : Nat) cs0 "charge" "J").before a0 Z = true := hw _ (List.mem_of_getElem? (i := 66) rfl)
theorem wk67 {Z a0} (hw : HW Z a0) : (Jvm.Cond.lays cs0 cs0 "charge" "J").before a0 Z = true := hw _ (List.mem_of_getElem? (i := 67) rfl)
theorem wk68 {Z a0} (hw : HW Z a0) : (Jvm.Cond.methodLink cs0 (23 : Nat) ({ cls := cs0, name := "write", desc := "(Ljava/lang/Object;Lcom/example/tidemark/tidemark/Expiry;J)V" } : Jvm.MethodName)).before a0 Z = true := hw _ (List.mem_of_getElem? (i := 68) rfl)
theorem wk69 {Z a0} (hw : HW Z a0) : (Jvm.Cond.declares ({ cls := cs0, name := "write", desc := "(Ljava/lang/Object;Lcom/example/tidemark/tidemark/Expiry;J)V" } : Jvm.MethodName)).before a0 Z = true := hw _ (List.mem_of_getElem? (i := 69) rfl)
theorem wk70 {Z a0} (hw : HW Z a0) : (Jvm.Cond.instanceMethod ({ cls := cs0, name := "write", desc := "(Ljava/lang/Object;Lcom/example/tidemark/tidemark/Expiry;J)V" } : Jvm.MethodName)).before a0 Z = true := hw _ (List.mem_of_getElem? (i := 70) rfl)
theorem wk71 {Z a0} (hw : HW Z a0) : (Jvm.Cond.selects cs0 ({ cls := cs0, name := "write", desc := "(Ljava/lang/Object;Lcom/example/tidemark/tidemark/Expiry;J)V" } : Jvm.MethodName) ({ cls := cs0, name := "write", desc := "(Ljava/lang/Object;Lcom/example/tidemark/tidemark/Expiry;J)V" } : Jvm.MethodName)).before a0 Z = true := hw _ (List.mem_of_getElem? (i := 71) rfl)
theorem wk72 {Z a0} (hw : HW Z a0) : (Jvm.Cond.code ({ cls := cs0, name := "write", desc := "(Ljava/lang/Object;Lcom/example/tidemark/tidemark/Expiry;J)V" } : Jvm.MethodName) prog_41_method_2_code (5 : Nat) (Option.none : Option Jvm.ClassFile.FieldType)).before a0 Z = true := hw _ (List.mem_of_getElem? (i := 72) rfl)
theorem wk73 {Z a0} (hw : HW Z a0) : (Jvm.Cond.fieldLink cs0 (27 : Nat) cs0 "value" cs6).before a0 Z = true := hw _ (List.mem_of_getElem? (i := 73) rfl)
theorem wk74 {Z a0} (hw : HW Z a0) : (Jvm.Cond.lays cs0 cs0 "value" cs6).before a0 Z = true := hw _ (List.mem_of_getElem? (i := 74) rfl)
theorem wk75 {Z a0} (hw : HW Z a0) : (Jvm.Cond.fieldLink cs0 (33 : Nat) cs0 "expiry" cs7).before a0 Z = true := hw _ (List.mem_of_getElem? (i := 75) rfl)
theorem wk76 {Z a0} (hw : HW Z a0) : (Jvm.Cond.lays cs0 cs0 "expiry" cs7).before a0 Z = true := hw _ (List.mem_of_getElem? (i := 76) rfl)
theorem wk77 {Z a0} (hw : HW Z a0) : (Jvm.Cond.methodLink cs0 (37 : Nat) ({ cls := cs0, name := "restart", desc := "(J)V" } : Jvm.MethodName)).before a0 Z = true := hw _ (List.mem_of_getElem? (i := 77) rfl)
theorem wk78 {Z a0} (hw : HW Z a0) : (Jvm.Cond.declares ({ cls := cs0, name := "restart", desc := "(J)V" } : Jvm.MethodName)).before a0 Z = true := hw _ (List.mem_of_getElem? (i := 78) rfl)
theorem wk79 {Z a0} (hw : HW Z a0) : (Jvm.Cond.instanceMethod ({ cls := cs0, name := "restart", desc := "(J)V" } : Jvm.MethodName)).before a0 Z = true := hw _ (List.mem_of_getElem? (i := 79) rfl)
theorem wk80 {Z a0} (hw : HW Z a0) : (Jvm.Cond.selects cs0 ({ cls := cs0, name := "restart", desc := "(J)V" } : Jvm.MethodName) ({ cls := cs0, name := "restart", desc := "(J)V" } : Jvm.MethodName)).before a0 Z = true := hw _ (List.mem_of_getElem? (i := 80) rfl)
theorem wk81 {Z a0} (hw : HW Z a0) : (Jvm.Cond.code ({ cls := cs0, name := "restart", desc := "(J)V" } : Jvm.MethodName) prog_41_method_6_code (3 : Nat) (Option.none : Option Jvm.ClassFile.FieldType)).before a0 Z = true := hw _ (List.mem_of_getElem? (i := 81) rfl)
theorem wk82 {Z a0} (hw : HW Z a0) : (Jvm.Cond.fieldLink cs0 (67 : Nat) cs0 "created" "J").before a0 Z = true := hw _ (List.mem_of_getElem? (i := 82) rfl)
theorem wk83 {Z a0} (hw : HW Z a0) : (Jvm.Cond.lays cs0 cs0 "created" "J").before a0 Z = true := hw _ (List.mem_of_getElem? (i := 83) rfl)
theorem wk84 {Z a0} (hw : HW Z a0) : (Jvm.Cond.fieldLink cs0 (30 : Nat) cs0 "lastUsed" "J").before a0 Z = true := hw _ (List.mem_of_getElem? (i := 84) rfl)
theorem wk85 {Z a0} (hw : HW Z a0) : (Jvm.Cond.lays cs0 cs0 "lastUsed" "J").before a0 Z = true := hw _ (List.mem_of_getElem? (i := 85) rfl)
theorem wk86 {Z a0} (hw : HW Z a0) : (Jvm.Cond.methodLink cs0 (41 : Nat) ({ cls := cs5, name := "canExpire", desc := "()Z" } : Jvm.MethodName)).before a0 Z = true := hw _ (List.mem_of_getElem? (i := 86) rfl)
theorem wk87 {Z a0} (hw : HW Z a0) : (Jvm.Cond.declares ({ cls := cs5, name := "canExpire", desc := "()Z" } : Jvm.MethodName)).before a0 Z = true := hw _ (List.mem_of_getElem? (i := 87) rfl)
theorem wk88 {Z a0} (hw : HW Z a0) : (Jvm.Cond.instanceMethod ({ cls := cs5, name := "canExpire", desc := "()Z" } : Jvm.MethodName)).before a0 Z = true := hw _ (List.mem_of_getElem? (i := 88) rfl)
theorem wk89 {Z a0} (hw : HW Z a0) : (Jvm.Cond.selects cs5 ({ cls := cs5, name := "canExpire", desc := "()Z" } : Jvm.MethodName) ({ cls := cs5, name := "canExpire", desc := "()Z" } : Jvm.MethodName)).before a0 Z = true := hw _ (List.mem_of_getElem? (i := 89) rfl)
theorem wk90 {Z a0} (hw : HW Z a0) : (Jvm.Cond.code ({ cls := cs5, name := "canExpire", desc := "()Z" } : Jvm.MethodName) prog_22_method_5_code (1 : Nat) (Option.some Jvm.ClassFile.FieldType.boolean)).before a0 Z = true := hw _ (List.mem_of_getElem? (i := 90) rfl)
theorem wk91 {Z a0} (hw : HW Z a0) : (Jvm.Cond.fieldLink cs0 (47 : Nat) cs0 cs10 cs6).before a0 Z = true := hw _ (List.mem_of_getElem? (i := 91) rfl)
theorem wk92 {Z a0} (hw : HW Z a0) : (Jvm.Cond.lays cs0 cs0 cs10 cs6).before a0 Z = true := hw _ (List.mem_of_getElem? (i := 92) rfl)
theorem wk93 {Z a0} (hw : HW Z a0) : (Jvm.Cond.fieldLink "com/example/tidemark/tidemark/DeadlinesUnfilePinLaw" (37 : Nat) cs0 "slot" "I").before a0 Z = true := hw _ (List.mem_of_getElem? (i := 93) rfl)
theorem wk94 {Z a0} (hw : HW Z a0) : (Jvm.Cond.methodLink "com/example/tidemark/tidemark/DeadlinesUnfilePinLaw" (41 : Nat) ({ cls := cs2, name := "unfile", desc := "(Lcom/example/tidemark/tidemark/MemoryEntry;)V" } : Jvm.MethodName)).before a0 Z = true := hw _ (List.mem_of_getElem? (i := 94) rfl)
theorem wk95 {Z a0} (hw : HW Z a0) : (Jvm.Cond.declares ({ cls := cs2, name := "unfile", desc := "(Lcom/example/tidemark/tidemark/MemoryEntry;)V" } : Jvm.MethodName)).before a0 Z = true := hw _ (List.mem_of_getElem? (i := 95) rfl)
theorem wk96 {Z a0} (hw : HW Z a0) : (Jvm.Cond.instanceMethod ({ cls := cs2, name := "unfile", desc := "(Lcom/example/tidemark/tidemark/MemoryEntry;)V" } : Jvm.MethodName)).before a0 Z = true := hw _ (List.mem_of_getElem? (i := 96) rfl)
theorem wk97 {Z a0} (hw : HW Z a0) : (Jvm.Cond.selects cs2 ({ cls := cs2, name := "unfile", desc := "(Lcom/example/tidemark/tidemark/MemoryEntry;)V" } : Jvm.MethodName) ({ cls := cs2, name := "unfile", desc := "(Lcom/example/tidemark/tidemark/MemoryEntry;)V" } : Jvm.MethodName)).before a0 Z = true := hw _ (List.mem_of_getElem? (i := 97) rfl)
theorem wk98 {Z a0} (hw : HW Z a0) : (Jvm.Cond.code ({ cls := cs2, name := "unfile", desc := "(Lcom/example/tidemark/tidemark/MemoryEntry;)V" } : Jvm.MethodName) prog_14_method_4_code (2 : Nat) (Option.none : Option Jvm.ClassFile.FieldType)).before a0 Z = true := hw _ (List.mem_of_getElem? (i := 98) rfl)
theorem wk99 {Z a0} (hw : HW Z a0) : (Jvm.Cond.fieldLink cs2 (44 : Nat) cs0 "slot" "I").before a0 Z = true := hw _ (List.mem_of_getElem? (i := 99) rfl)
theorem wk100 {Z a0} (hw : HW Z a0) : (Jvm.Cond.methodLink "com/example/tidemark/tidemark/DeadlinesUnfilePinLaw" (45 : Nat) ({ cls := cs2, name := "size", desc := "()J" } : Jvm.MethodName)).before a0 Z = true := hw _ (List.mem_of_getElem? (i := 100) rfl)
theorem wk101 {Z a0} (hw : HW Z a0) : (Jvm.Cond.declares ({ cls := cs2, name := "size", desc := "()J" } : Jvm.MethodName)).before a0 Z = true := hw _ (List.mem_of_getElem? (i := 101) rfl)
theorem wk102 {Z a0} (hw : HW Z a0) : (Jvm.Cond.instanceMethod ({ cls := cs2, name := "size", desc := "()J" } : Jvm.MethodName)).before a0 Z = true := hw _ (List.mem_of_getElem? (i := 102) rfl)
theorem wk103 {Z a0} (hw : HW Z a0) : (Jvm.Cond.selects cs2 ({ cls := cs2, name := "size", desc := "()J" } : Jvm.MethodName) ({ cls := cs2, name := "size", desc := "()J" } : Jvm.MethodName)).before a0 Z = true := hw _ (List.mem_of_getElem? (i := 103) rfl)
theorem wk104 {Z a0} (hw : HW Z a0) : (Jvm.Cond.code ({ cls := cs2, name := "size", desc := "()J" } : Jvm.MethodName) prog_14_method_2_code (1 : Nat) (Option.some Jvm.ClassFile.FieldType.long)).before a0 Z = true := hw _ (List.mem_of_getElem? (i := 104) rfl)
theorem wk105 {Z a0} (hw : HW Z a0) : (Jvm.Cond.fieldLink cs2 (23 : Nat) cs2 "size" "J").before a0 Z = true := hw _ (List.mem_of_getElem? (i := 105) rfl)
theorem wk106 {Z a0} (hw : HW Z a0) : (Jvm.Cond.lays cs2 cs2 "size" "J").before a0 Z = true := hw _ (List.mem_of_getElem? (i := 106) rfl)
theorem wk107 {Z a0} (hw : HW Z a0) : (Jvm.Cond.fieldLink "com/example/tidemark/tidemark/DeadlinesUnfilePinLaw" (49 : Nat) cs0 cs3 cs1).before a0 Z = true := hw _ (List.mem_of_getElem? (i := 107) rfl)
theorem wk108 {Z a0} (hw : HW Z a0) : (Jvm.Cond.lays cs0 cs0 cs3 cs1).before a0 Z = true := hw _ (List.mem_of_getElem? (i := 108) rfl)
theorem wk109 {Z a0} (hw : HW Z a0) : (Jvm.Cond.fieldLink "com/example/tidemark/tidemark/DeadlinesUnfilePinLaw" (53 : Nat) cs0 cs4 cs1).before a0 Z = true := hw _ (List.mem_of_getElem? (i := 109) rfl)
theorem wk110 {Z a0} (hw : HW Z a0) : (Jvm.Cond.lays cs0 cs0 cs4 cs1).before a0 Z = true := hw _ (List.mem_of_getElem? (i := 110) rfl)
theorem wk111 {Z a0} (hw : HW Z a0) : (Jvm.Cond.methodLink "com/example/tidemark/tidemark/DeadlinesUnfilePinLaw" (33 : Nat) ({ cls := cs2, name := "refile", desc := "(Lcom/example/tidemark/tidemark/MemoryEntry;J)V" } : Jvm.MethodName)).before a0 Z = true := hw _ (List.mem_of_getElem? (i := 111) rfl)
theorem wk112 {Z a0} (hw : HW Z a0) : (Jvm.Cond.declares ({ cls := cs2, name := "refile", desc := "(Lcom/example/tidemark/tidemark/MemoryEntry;J)V" } : Jvm.MethodName)).before a0 Z = true := hw _ (List.mem_of_getElem? (i := 112) rfl)
theorem wk113 {Z a0} (hw : HW Z a0) : (Jvm.Cond.instanceMethod ({ cls := cs2, name := "refile", desc := "(Lcom/example/tidemark/tidemark/MemoryEntry;J)V" } : Jvm.MethodName)).before a0 Z = true := hw _ (List.mem_of_getElem? (i := 113) rfl)
theorem wk114 {Z a0} (hw : HW Z a0) : (Jvm.Cond.selects cs2 ({ cls := cs2, name := "refile", desc := "(Lcom/example/tidemark/tidemark/MemoryEntry;J)V" } : Jvm.MethodName) ({ cls := cs2, name := "refile", desc := "(Lcom/example/tidemark/tidemark/MemoryEntry;J)V" } : Jvm.MethodName)).before a0 Z = true := hw _ (List.mem_of_getElem? (i := 114) rfl)
theorem wk115 {Z a0} (hw : HW Z a0) : (Jvm.Cond.code ({ cls := cs2, name := "refile", desc := "(Lcom/example/tidemark/tidemark/MemoryEntry;J)V" } : Jvm.MethodName) prog_14_method_3_code (5 : Nat) (Option.none : Option Jvm.ClassFile.FieldType)).before a0 Z = true := hw _ (List.mem_of_getElem? (i := 115) rfl)
theorem wk116 {Z a0} (hw : HW Z a0) : (Jvm.Cond.fieldLink cs2 (26 : Nat) cs0 "expiry" cs7).before a0 Z = true := hw _ (List.mem_of_getElem? (i := 116) rfl)
theorem wk117 {Z a0} (hw : HW Z a0) : (Jvm.Cond.methodLink cs2 (30 : Nat) ({ cls := cs5, name := "canExpire", desc := "()Z" } : Jvm.MethodName)).before a0 Z = true := hw _ (List.mem_of_getElem? (i := 117) rfl)
theorem wk118 {Z a0} (hw : HW Z a0) : (Jvm.Cond.methodLink cs2 (36 : Nat) ({ cls := cs0, name := "deadline", desc := "()J" } : Jvm.MethodName)).before a0 Z = true := hw _ (List.mem_of_getElem? (i := 118) rfl)
theorem wk119 {Z a0} (hw : HW Z a0) : (Jvm.Cond.declares ({ cls := cs0, name := "deadline", desc := "()J" } : Jvm.MethodName)).before a0 Z = true := hw _ (List.mem_of_getElem? (i := 119) rfl)
theorem wk120 {Z a0} (hw : HW Z a0) : (Jvm.Cond.instanceMethod ({ cls := cs0, name := "deadline", desc := "()J" } : Jvm.MethodName)).before a0 Z = true := hw _ (List.mem_of_getElem? (i := 120) rfl)
theorem wk121 {Z a0} (hw : HW Z a0) : (Jvm.Cond.selects cs0 ({ cls := cs0, name := "deadline", desc := "()J" } : Jvm.MethodName) ({ cls := cs0, name := "deadline", desc := "()J" } : Jvm.MethodName)).before a0 Z = true := hw _ (List.mem_of_getElem? (i := 121) rfl)
theorem wk122 {Z a0} (hw : HW Z a0) : (Jvm.Cond.code ({ cls := cs0, name := "deadline", desc := "()J" } : Jvm.MethodName) prog_41_method_9_code (1 : Nat) (Option.some Jvm.ClassFile.FieldType.long)).before a0 Z = true := hw _ (List.mem_of_getElem? (i := 122) rfl)
theorem wk123 {Z a0} (hw : HW Z a0) : (Jvm.Cond.methodLink cs0 (74 : Nat) ({ cls := cs5, name := "deadline", desc := "(JJ)J" } : Jvm.MethodName)).before a0 Z = true := hw _ (List.mem_of_getElem? (i := 123) rfl)
theorem wk124 {Z a0} (hw : HW Z a0) : (Jvm.Cond.declares ({ cls := cs5, name := "deadline", desc := "(JJ)J" } : Jvm.MethodName)).before a0 Z = true := hw _ (List.mem_of_getElem? (i := 124) rfl)
theorem wk125 {Z a0} (hw : HW Z a0) : (Jvm.Cond.instanceMethod ({ cls := cs5, name := "deadline", desc := "(JJ)J" } : Jvm.MethodName)).before a0 Z = true := hw _ (List.mem_of_getElem? (i := 125) rfl)
theorem wk126 {Z a0} (hw : HW Z a0) : (Jvm.Cond.selects cs5 ({ cls := cs5, name := "deadline", desc := "(JJ)J" } : Jvm.MethodName) ({ cls := cs5, name := "deadline", desc := "(JJ)J" } : Jvm.MethodName)).before a0 Z = true := hw _ (List.mem_of_getElem? (i := 126) rfl)
theorem wk127 {Z a0} (hw : HW Z a0) : (Jvm.Cond.code ({ cls := cs5, name := "deadline", desc := "(JJ)J" } : Jvm.MethodName) prog_22_method_6_code (5 : Nat) (Option.some Jvm.ClassFile.FieldType.long)).before a0 Z = true := hw _ (List.mem_of_getElem? (i := 127) rfl)
theorem wk128 {Z a0} (hw : HW Z a0) : (Jvm.Cond.methodLink cs5 (31 : Nat) ({ cls := cs5, name := "end", desc := "(JJ)J" } : Jvm.MethodName)).before a0 Z = true := hw _ (List.mem_of_getElem? (i := 128) rfl)
theorem wk129 {Z a0} (hw : HW Z a0) : (Jvm.Cond.static ({ cls := cs5, name := "end", desc := "(JJ)J" } : Jvm.MethodName)).before a0 Z = true := hw _ (List.mem_of_getElem? (i := 129) rfl)
theorem wk130 {Z a0} (hw : HW Z a0) : (Jvm.Cond.code ({ cls := cs5, name := "end", desc := "(JJ)J" } : Jvm.MethodName) prog_22_method_7_code (4 : Nat) (Option.some Jvm.ClassFile.FieldType.long)).before a0 Z = true := hw _ (List.mem_of_getElem? (i := 130) rfl)
theorem wk131 {Z a0} (hw : HW Z a0) : (Jvm.Cond.constantLong cs5 (42 : Nat) (9223372036854775807 : Int64)).before a0 Z = true := hw _ (List.mem_of_getElem? (i := 131) rfl)
theorem wk132 {Z a0} (hw : HW Z a0) : (Jvm.Cond.methodLink cs5 (35 : Nat) ({ cls := "java/lang/Math", name := "min", desc := "(JJ)J" } : Jvm.MethodName)).before a0 Z = true := hw _ (List.mem_of_getElem? (i := 132) rfl)
theorem wk133 {Z a0} (hw : HW Z a0) : (Jvm.Cond.static ({ cls := "java/lang/Math", name := "min", desc := "(JJ)J" } : Jvm.MethodName)).before a0 Z = true := hw _ (List.mem_of_getElem? (i := 133) rfl)
theorem wk134 {Z a0} (hw : HW Z a0) : (Jvm.Cond.initialized "java/lang/Math").before a0 Z = true := hw _ (List.mem_of_getElem? (i := 134) rfl)
theorem wk135 {Z a0} (hw : HW Z a0) : (Jvm.Cond.code ({ cls := "java/lang/Math", name := "min", desc := "(JJ)J" } : Jvm.MethodName) jdk_29_method_70_code (4 : Nat) (Option.some Jvm.ClassFile.FieldType.long)).before a0 Z = true := hw _ (List.mem_of_getElem? (i := 135) rfl)
theorem wk136 {Z a0} (hw : HW Z a0) : (Jvm.Cond.methodLink cs2 (40 : Nat) ({ cls := cs2, name := "slotOf", desc := "(J)I" } : Jvm.MethodName)).before a0 Z = true := hw _ (List.mem_of_getElem? (i := 136) rfl)
theorem wk137 {Z a0} (hw : HW Z a0) : (Jvm.Cond.instanceMethod ({ cls := cs2, name := "slotOf", desc := "(J)I" } : Jvm.MethodName)).before a0 Z = true := hw _ (List.mem_of_getElem? (i := 137) rfl)
theorem wk138 {Z a0} (hw : HW Z a0) : (Jvm.Cond.privateMethod ({ cls := cs2, name := "slotOf", desc := "(J)I" } : Jvm.MethodName)).before a0 Z = true := hw _ (List.mem_of_getElem? (i := 138) rfl)
theorem wk139 {Z a0} (hw : HW Z a0) : (Jvm.Cond.code ({ cls := cs2, name := "slotOf", desc := "(J)I" } : Jvm.MethodName) prog_14_method_7_code (5 : Nat) (Option.some Jvm.ClassFile.FieldType.int)).before a0 Z = true := hw _ (List.mem_of_getElem? (i := 139) rfl)
theorem wk140 {Z a0} (hw : HW Z a0) : (Jvm.Cond.methodLink cs2 (71 : Nat) ({ cls := "java/lang/Long", name := "numberOfLeadingZeros", desc := "(J)I" } : Jvm.MethodName)).before a0 Z = true := hw _ (List.mem_of_getElem? (i := 140) rfl)
theorem wk141 {Z a0} (hw : HW Z a0) : (Jvm.Cond.static ({ cls := "java/lang/Long", name := "numberOfLeadingZeros", desc := "(J)I" } : Jvm.MethodName)).before a0 Z = true := hw _ (List.mem_of_getElem? (i := 141) rfl)
theorem wk142 {Z a0} (hw : HW Z a0) : (Jvm.Cond.initialized "java/lang/Long").before a0 Z = true := hw _ (List.mem_of_getElem? (i := 142) rfl)
theorem wk143 {Z a0} (hw : HW Z a0) : (Jvm.Cond.code ({ cls := "java/lang/Long", name := "numberOfLeadingZeros", desc := "(J)I" } : Jvm.MethodName) jdk_35_method_48_code (3 : Nat) (Option.some Jvm.ClassFile.FieldType.int)).before a0 Z = true := hw _ (List.mem_of_getElem? (i := 143) rfl)
theorem wk144 {Z a0} (hw : HW Z a0) : (Jvm.Cond.methodLink "java/lang/Long" (308 : Nat) ({ cls := cs9, name := "numberOfLeadingZeros", desc := "(I)I" } : Jvm.MethodName)).before a0 Z = true := hw _ (List.mem_of_getElem? (i := 144) rfl)
theorem wk145 {Z a0} (hw : HW Z a0) : (Jvm.Cond.static ({ cls := cs9, name := "numberOfLeadingZeros", desc := "(I)I" } : Jvm.MethodName)).before a0 Z = true := hw _ (List.mem_of_getElem? (i := 145) rfl)
theorem wk146 {Z a0} (hw : HW Z a0) : (Jvm.Cond.code ({ cls := cs9, name := "numberOfLeadingZeros", desc := "(I)I" } : Jvm.MethodName) jdk_33_method_47_code (2 : Nat) (Option.some Jvm.ClassFile.FieldType.int)).before a0 Z = true := hw _ (List.mem_of_getElem? (i := 146) rfl)
theorem wk147 {Z a0} (hw : HW Z a0) : (Jvm.Cond.constant cs9 (264 : Nat) (65536 : Int32)).before a0 Z = true := hw _ (List.mem_of_getElem? (i := 147) rfl)
theorem wk148 {Z a0} (hw : HW Z a0) : (Jvm.Cond.constantLong cs2 (65 : Nat) (63 : Int64)).before a0 Z = true := hw _ (List.mem_of_getElem? (i := 148) rfl)
theorem wk149 {Z a0} (hw : HW Z a0) : (Jvm.Cond.methodLink cs2 (48 : Nat) ({ cls := cs2, name := "unfile", desc := "(Lcom/example/tidemark/tidemark/MemoryEntry;)V" } : Jvm.MethodName)).before a0 Z = true := hw _ (List.mem_of_getElem? (i := 149) rfl)
theorem wk150 {Z a0} (hw : HW Z a0) : (Jvm.Cond.methodLink cs2 (52 : Nat) ({ cls := cs2, name := "link", desc := "(Lcom/example/tidemark/tidemark/MemoryEntry;I)V" } : Jvm.MethodName)).before a0 Z = true := hw _ (List.mem_of_getElem? (i := 150) rfl)
theorem wk151 {Z a0} (hw : HW Z a0) : (Jvm.Cond.instanceMethod ({ cls := cs2, name := "link", desc := "(Lcom/example/tidemark/tidemark/MemoryEntry;I)V" } : Jvm.MethodName)).before a0 Z = true := hw _ (List.mem_of_getElem? (i := 151) rfl)
theorem wk152 {Z a0} (hw : HW Z a0) : (Jvm.Cond.privateMethod ({ cls := cs2, name := "link", desc := "(Lcom/example/tidemark/tidemark/MemoryEntry;I)V" } : Jvm.MethodName)).before a0 Z = true := hw _ (List.mem_of_getElem? (i := 152) rfl)
theorem wk153 {Z a0} (hw : HW Z a0) : (Jvm.Cond.code ({ cls := cs2, name := "link", desc := "(Lcom/example/tidemark/tidemark/MemoryEntry;I)V" } : Jvm.MethodName) prog_14_method_9_code (4 : Nat) (Option.none : Option Jvm.ClassFile.FieldType)).before a0 Z = true := hw _ (List.mem_of_getElem? (i := 153) rfl)
theorem wk154 {Z a0} (hw : HW Z a0) : (Jvm.Cond.fieldLink cs2 (56 : Nat) cs0 cs3 cs1).before a0 Z = true := hw _ (List.mem_of_getElem? (i := 154) rfl)
theorem wk155 {Z a0} (hw : HW Z a0) : (Jvm.Cond.fieldLink cs2 (60 : Nat) cs0 cs4 cs1).before a0 Z = true := hw _ (List.mem_of_getElem? (i := 155) rfl)
theorem sn0 {Z a0} (hw : HW Z a0) : Jvm.RoadKit.slotOf Z cs5 "maxIdle" "J" ≠ Jvm.RoadKit.slotOf Z cs5 "lifespan" "J" := slot_ne (Or.inr (wk33 hw)) (Or.inr (wk31 hw)) (by decide +kernel) pf0 pf0
theorem sn1 {Z a0} (hw : HW Z a0) : Jvm.RoadKit.slotOf Z cs5 "lifespan" "J" ≠ Jvm.RoadKit.slotOf Z cs5 "maxIdle" "J" := slot_ne (Or.inr (wk31 hw)) (Or.inr (wk33 hw)) (by decide +kernel) pf0 pf0
theorem sn2 {Z a0} (hw : HW Z a0) : Jvm.RoadKit.slotOf Z cs2 "firsts" cs8 ≠ Jvm.RoadKit.slotOf Z cs2 "time" "J" := slot_ne (Or.inr (wk47 hw)) (Or.inl (wk43 hw)) (by decide +kernel) pf1 pf0
theorem sn3 {Z a0} (hw : HW Z a0) : Jvm.RoadKit.slotOf Z cs2 "time" "J" ≠ Jvm.RoadKit.slotOf Z cs2 "firsts" cs8 := slot_ne (Or.inl (wk43 hw)) (Or.inr (wk47 hw)) (by decide +kernel) pf0 pf1
theorem sn4 {Z a0} (hw : HW Z a0) : Jvm.RoadKit.slotOf Z cs0 "key" cs6 ≠ Jvm.RoadKit.slotOf Z cs0 "slot" "I" := slot_ne (Or.inr (wk65 hw)) (Or.inl (wk63 hw)) (by decide +kernel) pf2 pf3
theorem sn5 {Z a0} (hw : HW Z a0) : Jvm.RoadKit.slotOf Z cs0 "charge" "J" ≠ Jvm.RoadKit.slotOf Z cs0 "slot" "I" := slot_ne (Or.inl (wk67 hw)) (Or.inl (wk63 hw)) (by decide +kernel) pf0 pf3
theorem sn6 {Z a0} (hw : HW Z a0) : Jvm.RoadKit.slotOf Z cs0 "charge" "J" ≠ Jvm.RoadKit.slotOf Z cs0 "key" cs6 := slot_ne (Or.inl (wk67 hw)) (Or.inr (wk65 hw)) (by decide +kernel) pf0 pf2
theorem sn7 {Z a0} (hw : HW Z a0) : Jvm.RoadKit.slotOf Z cs0 "expiry" cs7 ≠ Jvm.RoadKit.slotOf Z cs0 "value" cs6 := slot_ne (Or.inl (wk76 hw)) (Or.inl (wk74 hw)) (by decide +kernel) pf4 pf2
theorem sn8 {Z a0} (hw : HW Z a0) : Jvm.RoadKit.slotOf Z cs0 "lastUsed" "J" ≠ Jvm.RoadKit.slotOf Z cs0 "created" "J" := slot_ne (Or.inl (wk85 hw)) (Or.inl (wk83 hw)) (by decide +kernel) pf0 pf0
theorem sn9 {Z a0} (hw : HW Z a0) : Jvm.RoadKit.slotOf Z cs0 "created" "J" ≠ Jvm.RoadKit.slotOf Z cs0 "lastUsed" "J" := slot_ne (Or.inl (wk83 hw)) (Or.inl (wk85 hw)) (by decide +kernel) pf0 pf0
theorem sn10 {Z a0} (hw : HW Z a0) : Jvm.RoadKit.slotOf Z cs0 "created" "J" ≠ Jvm.RoadKit.slotOf Z cs0 "value" cs6 := slot_ne (Or.inl (wk83 hw)) (Or.inl (wk74 hw)) (by decide +kernel) pf0 pf2
theorem sn11 {Z a0} (hw : HW Z a0) : Jvm.RoadKit.slotOf Z cs0 "created" "J" ≠ Jvm.RoadKit.slotOf Z cs0 "expiry" cs7 := slot_ne (Or.inl (wk83 hw)) (Or.inl (wk76 hw)) (by decide +kernel) pf0 pf4
theorem sn12 {Z a0} (hw : HW Z a0) : Jvm.RoadKit.slotOf Z cs0 "lastUsed" "J" ≠ Jvm.RoadKit.slotOf Z cs0 "value" cs6 := slot_ne (Or.inl (wk85 hw)) (Or.inl (wk74 hw)) (by decide +kernel) pf0 pf2
theorem sn13 {Z a0} (hw : HW Z a0) : Jvm.RoadKit.slotOf Z cs0 "lastUsed" "J" ≠ Jvm.RoadKit.slotOf Z cs0 "expiry" cs7 := slot_ne (Or.inl (wk85 hw)) (Or.inl (wk76 hw)) (by decide +kernel) pf0 pf4
theorem sn14 {Z a0} (hw : HW Z a0) : Jvm.RoadKit.slotOf Z cs0 "expiry" cs7 ≠ Jvm.RoadKit.slotOf Z cs0 "lastUsed" "J" := slot_ne (Or.inl (wk76 hw)) (Or.inl (wk85 hw)) (by decide +kernel) pf4 pf0
theorem sn15 {Z a0} (hw : HW Z a0) : Jvm.RoadKit.slotOf Z cs0 "expiry" cs7 ≠ Jvm.RoadKit.slotOf Z cs0 "created" "J" := slot_ne (Or.inl (wk76 hw)) (Or.inl (wk83 hw)) (by decide +kernel) pf4 pf0
theorem sn16 {Z a0} (hw : HW Z a0) : Jvm.RoadKit.slotOf Z cs0 cs10 cs6 ≠ Jvm.RoadKit.slotOf Z cs0 "value" cs6 := slot_ne (Or.inl (wk92 hw)) (Or.inl (wk74 hw)) (by decide +kernel) pf2 pf2
theorem sn17 {Z a0} (hw : HW Z a0) : Jvm.RoadKit.slotOf Z cs0 cs10 cs6 ≠ Jvm.RoadKit.slotOf Z cs0 "expiry" cs7 := slot_ne (Or.inl (wk92 hw)) (Or.inl (wk76 hw)) (by decide +kernel) pf2 pf4
theorem sn18 {Z a0} (hw : HW Z a0) : Jvm.RoadKit.slotOf Z cs0 cs10 cs6 ≠ Jvm.RoadKit.slotOf Z cs0 "lastUsed" "J" := slot_ne (Or.inl (wk92 hw)) (Or.inl (wk85 hw)) (by decide +kernel) pf2 pf0
theorem sn19 {Z a0} (hw : HW Z a0) : Jvm.RoadKit.slotOf Z cs0 cs10 cs6 ≠ Jvm.RoadKit.slotOf Z cs0 "created" "J" := slot_ne (Or.inl (wk92 hw)) (Or.inl (wk83 hw)) (by decide +kernel) pf2 pf0
theorem sn20 {Z a0} (hw : HW Z a0) : Jvm.RoadKit.slotOf Z cs0 "value" cs6 ≠ Jvm.RoadKit.slotOf Z cs0 "expiry" cs7 := slot_ne (Or.inl (wk74 hw)) (Or.inl (wk76 hw)) (by decide +kernel) pf2 pf4
theorem sn21 {Z a0} (hw : HW Z a0) : Jvm.RoadKit.slotOf Z cs0 "value" cs6 ≠ Jvm.RoadKit.slotOf Z cs0 "lastUsed" "J" := slot_ne (Or.inl (wk74 hw)) (Or.inl (wk85 hw)) (by decide +kernel) pf2 pf0
theorem sn22 {Z a0} (hw : HW Z a0) : Jvm.RoadKit.slotOf Z cs0 "value" cs6 ≠ Jvm.RoadKit.slotOf Z cs0 "created" "J" := slot_ne (Or.inl (wk74 hw)) (Or.inl (wk83 hw)) (by decide +kernel) pf2 pf0
theorem sn23 {Z a0} (hw : HW Z a0) : Jvm.RoadKit.slotOf Z cs0 "value" cs6 ≠ Jvm.RoadKit.slotOf Z cs0 cs10 cs6 := slot_ne (Or.inl (wk74 hw)) (Or.inl (wk92 hw)) (by decide +kernel) pf2 pf2
theorem sn24 {Z a0} (hw : HW Z a0) : Jvm.RoadKit.slotOf Z cs0 "expiry" cs7 ≠ Jvm.RoadKit.slotOf Z cs0 cs10 cs6 := slot_ne (Or.inl (wk76 hw)) (Or.inl (wk92 hw)) (by decide +kernel) pf4 pf2
theorem sn25 {Z a0} (hw : HW Z a0) : Jvm.RoadKit.slotOf Z cs0 "created" "J" ≠ Jvm.RoadKit.slotOf Z cs0 cs10 cs6 := slot_ne (Or.inl (wk83 hw)) (Or.inl (wk92 hw)) (by decide +kernel) pf0 pf2
theorem sn26 {Z a0} (hw : HW Z a0) : Jvm.RoadKit.slotOf Z cs0 "lastUsed" "J" ≠ Jvm.RoadKit.slotOf Z cs0 cs10 cs6 := slot_ne (Or.inl (wk85 hw)) (Or.inl (wk92 hw)) (by decide +kernel) pf0 pf2
theorem sn27 {Z a0} (hw : HW Z a0) : Jvm.RoadKit.slotOf Z cs0 "value" cs6 ≠ Jvm.RoadKit.slotOf Z cs0 "slot" "I" := slot_ne (Or.inl (wk74 hw)) (Or.inl (wk63 hw)) (by decide +kernel) pf2 pf3
theorem sn28 {Z a0} (hw : HW Z a0) : Jvm.RoadKit.slotOf Z cs0 "value" cs6 ≠ Jvm.RoadKit.slotOf Z cs0 "key" cs6 := slot_ne (Or.inl (wk74 hw)) (Or.inr (wk65 hw)) (by decide +kernel) pf2 pf2
theorem sn29 {Z a0} (hw : HW Z a0) : Jvm.RoadKit.slotOf Z cs0 "value" cs6 ≠ Jvm.RoadKit.slotOf Z cs0 "charge" "J" := slot_ne (Or.inl (wk74 hw)) (Or.inl (wk67 hw)) (by decide +kernel) pf2 pf0
theorem sn30 {Z a0} (hw : HW Z a0) : Jvm.RoadKit.slotOf Z cs0 "expiry" cs7 ≠ Jvm.RoadKit.slotOf Z cs0 "slot" "I" := slot_ne (Or.inl (wk76 hw)) (Or.inl (wk63 hw)) (by decide +kernel) pf4 pf3
theorem sn31 {Z a0} (hw : HW Z a0) : Jvm.RoadKit.slotOf Z cs0 "expiry" cs7 ≠ Jvm.RoadKit.slotOf Z cs0 "key" cs6 := slot_ne (Or.inl (wk76 hw)) (Or.inr (wk65 hw)) (by decide +kernel) pf4 pf2
theorem sn32 {Z a0} (hw : HW Z a0) : Jvm.RoadKit.slotOf Z cs0 "expiry" cs7 ≠ Jvm.RoadKit.slotOf Z cs0 "charge" "J" := slot_ne (Or.inl (wk76 hw)) (Or.inl (wk67 hw)) (by decide +kernel) pf4 pf0
theorem sn33 {Z a0} (hw : HW Z a0) : Jvm.RoadKit.slotOf Z cs0 "created" "J" ≠ Jvm.RoadKit.slotOf Z cs0 "slot" "I" := slot_ne (Or.inl (wk83 hw)) (Or.inl (wk63 hw)) (by decide +kernel) pf0 pf3
theorem sn34 {Z a0} (hw : HW Z a0) : Jvm.RoadKit.slotOf Z cs0 "created" "J" ≠ Jvm.RoadKit.slotOf Z cs0 "key" cs6 := slot_ne (Or.inl (wk83 hw)) (Or.inr (wk65 hw)) (by decide +kernel) pf0 pf2
theorem sn35 {Z a0} (hw : HW Z a0) : Jvm.RoadKit.slotOf Z cs0 "created" "J" ≠ Jvm.RoadKit.slotOf Z cs0 "charge" "J" := slot_ne (Or.inl (wk83 hw)) (Or.inl (wk67 hw)) (by decide +kernel) pf0 pf0
theorem sn36 {Z a0} (hw : HW Z a0) : Jvm.RoadKit.slotOf Z cs0 "lastUsed" "J" ≠ Jvm.RoadKit.slotOf Z cs0 "slot" "I" := slot_ne (Or.inl (wk85 hw)) (Or.inl (wk63 hw)) (by decide +kernel) pf0 pf3
theorem sn37 {Z a0} (hw : HW Z a0) : Jvm.RoadKit.slotOf Z cs0 "lastUsed" "J" ≠ Jvm.RoadKit.slotOf Z cs0 "key" cs6 := slot_ne (Or.inl (wk85 hw)) (Or.inr (wk65 hw)) (by decide +kernel) pf0 pf2
theorem sn38 {Z a0} (hw : HW Z a0) : Jvm.RoadKit.slotOf Z cs0 "lastUsed" "J" ≠ Jvm.RoadKit.slotOf Z cs0 "charge" "J" := slot_ne (Or.inl (wk85 hw)) (Or.inl (wk67 hw)) (by decide +kernel) pf0 pf0
theorem sn39 {Z a0} (hw : HW Z a0) : Jvm.RoadKit.slotOf Z cs0 cs10 cs6 ≠ Jvm.RoadKit.slotOf Z cs0 "slot" "I" := slot_ne (Or.inl (wk92 hw)) (Or.inl (wk63 hw)) (by decide +kernel) pf2 pf3
theorem sn40 {Z a0} (hw : HW Z a0) : Jvm.RoadKit.slotOf Z cs0 cs10 cs6 ≠ Jvm.RoadKit.slotOf Z cs0 "key" cs6 := slot_ne (Or.inl (wk92 hw)) (Or.inr (wk65 hw)) (by decide +kernel) pf2 pf2
theorem sn41 {Z a0} (hw : HW Z a0) : Jvm.RoadKit.slotOf Z cs0 cs10 cs6 ≠ Jvm.RoadKit.slotOf Z cs0 "charge" "J" := slot_ne (Or.inl (wk92 hw)) (Or.inl (wk67 hw)) (by decide +kernel) pf2 pf0
theorem sn42 {Z a0} (hw : HW Z a0) : Jvm.RoadKit.slotOf Z cs0 "slot" "I" ≠ Jvm.RoadKit.slotOf Z cs0 "key" cs6 := slot_ne (Or.inl (wk63 hw)) (Or.inr (wk65 hw)) (by decide +kernel) pf3 pf2
theorem sn43 {Z a0} (hw : HW Z a0) : Jvm.RoadKit.slotOf Z cs0 "slot" "I" ≠ Jvm.RoadKit.slotOf Z cs0 "charge" "J" := slot_ne (Or.inl (wk63 hw)) (Or.inl (wk67 hw)) (by decide +kernel) pf3 pf0
theorem sn44 {Z a0} (hw : HW Z a0) : Jvm.RoadKit.slotOf Z cs0 "slot" "I" ≠ Jvm.RoadKit.slotOf Z cs0 cs10 cs6 := slot_ne (Or.inl (wk63 hw)) (Or.inl (wk92 hw)) (by decide +kernel) pf3 pf2
theorem sn45 {Z a0} (hw : HW Z a0) : Jvm.RoadKit.slotOf Z cs0 "slot" "I" ≠ Jvm.RoadKit.slotOf Z cs0 "lastUsed" "J" := slot_ne (Or.inl (wk63 hw)) (Or.inl (wk85 hw)) (by decide +kernel) pf3 pf0
theorem sn46 {Z a0} (hw : HW Z a0) : Jvm.RoadKit.slotOf Z cs0 "slot" "I" ≠ Jvm.RoadKit.slotOf Z cs0 "created" "J" := slot_ne (Or.inl (wk63 hw)) (Or.inl (wk83 hw)) (by decide +kernel) pf3 pf0
theorem sn47 {Z a0} (hw : HW Z a0) : Jvm.RoadKit.slotOf Z cs0 "slot" "I" ≠ Jvm.RoadKit.slotOf Z cs0 "expiry" cs7 := slot_ne (Or.inl (wk63 hw)) (Or.inl (wk76 hw)) (by decide +kernel) pf3 pf4
theorem sn48 {Z a0} (hw : HW Z a0) : Jvm.RoadKit.slotOf Z cs0 "slot" "I" ≠ Jvm.RoadKit.slotOf Z cs0 "value" cs6 := slot_ne (Or.inl (wk63 hw)) (Or.inl (wk74 hw)) (by decide +kernel) pf3 pf2
theorem sn49 {Z a0} (hw : HW Z a0) : Jvm.RoadKit.slotOf Z cs0 "key" cs6 ≠ Jvm.RoadKit.slotOf Z cs0 "charge" "J" := slot_ne (Or.inr (wk65 hw)) (Or.inl (wk67 hw)) (by decide +kernel) pf2 pf0
theorem sn50 {Z a0} (hw : HW Z a0) : Jvm.RoadKit.slotOf Z cs0 "key" cs6 ≠ Jvm.RoadKit.slotOf Z cs0 cs10 cs6 := slot_ne (Or.inr (wk65 hw)) (Or.inl (wk92 hw)) (by decide +kernel) pf2 pf2
theorem sn51 {Z a0} (hw : HW Z a0) : Jvm.RoadKit.slotOf Z cs0 "key" cs6 ≠ Jvm.RoadKit.slotOf Z cs0 "lastUsed" "J" := slot_ne (Or.inr (wk65 hw)) (Or.inl (wk85 hw)) (by decide +kernel) pf2 pf0
theorem sn52 {Z a0} (hw : HW Z a0) : Jvm.RoadKit.slotOf Z cs0 "key" cs6 ≠ Jvm.RoadKit.slotOf Z cs0 "created" "J" := slot_ne (Or.inr (wk65 hw)) (Or.inl (wk83 hw)) (by decide +kernel) pf2 pf0
theorem sn53 {Z a0} (hw : HW Z a0) : Jvm.RoadKit.slotOf Z cs0 "key" cs6 ≠ Jvm.RoadKit.slotOf Z cs0 "expiry" cs7 := slot_ne (Or.inr (wk65 hw)) (Or.inl (wk76 hw)) (by decide +kernel) pf2 pf4
theorem sn54 {Z a0} (hw : HW Z a0) : Jvm.RoadKit.slotOf Z cs0 "key" cs6 ≠ Jvm.RoadKit.slotOf Z cs0 "value" cs6 := slot_ne (Or.inr (wk65 hw)) (Or.inl (wk74 hw)) (by decide +kernel) pf2 pf2
theorem sn55 {Z a0} (hw : HW Z a0) : Jvm.RoadKit.slotOf Z cs0 "charge" "J" ≠ Jvm.RoadKit.slotOf Z cs0 cs10 cs6 := slot_ne (Or.inl (wk67 hw)) (Or.inl (wk92 hw)) (by decide +kernel) pf0 pf2
theorem sn56 {Z a0} (hw : HW Z a0) : Jvm.RoadKit.slotOf Z cs0 "charge" "J" ≠ Jvm.RoadKit.slotOf Z cs0 "lastUsed" "J" := slot_ne (Or.inl (wk67 hw)) (Or.inl (wk85 hw)) (by decide +kernel) pf0 pf0
theorem sn57 {Z a0} (hw : HW Z a0) : Jvm.RoadKit.slotOf Z cs0 "charge" "J" ≠ Jvm.RoadKit.slotOf Z cs0 "created" "J" := slot_ne (Or.inl (wk67 hw)) (Or.inl (wk83 hw)) (by decide +kernel) pf0 pf0
theorem sn58 {Z a0} (hw : HW Z a0) : Jvm.RoadKit.slotOf Z cs0 "charge" "J" ≠ Jvm.RoadKit.slotOf Z cs0 "expiry" cs7 := slot_ne (Or.inl (wk67 hw)) (Or.inl (wk76 hw)) (by decide +kernel) pf0 pf4
theorem sn59 {Z a0} (hw : HW Z a0) : Jvm.RoadKit.slotOf Z cs0 "charge" "J" ≠ Jvm.RoadKit.slotOf Z cs0 "value" cs6 := slot_ne (Or.inl (wk67 hw)) (Or.inl (wk74 hw)) (by decide +kernel) pf0 pf2
theorem sn60 {Z a0} (hw : HW Z a0) : Jvm.RoadKit.slotOf Z cs2 "size" "J" ≠ Jvm.RoadKit.slotOf Z cs2 "firsts" cs8 := slot_ne (Or.inl (wk106 hw)) (Or.inr (wk47 hw)) (by decide +kernel) pf0 pf1
theorem sn61 {Z a0} (hw : HW Z a0) : Jvm.RoadKit.slotOf Z cs2 "size" "J" ≠ Jvm.RoadKit.slotOf Z cs2 "time" "J" := slot_ne (Or.inl (wk106 hw)) (Or.inl (wk43 hw)) (by decide +kernel) pf0 pf0
theorem sn62 {Z a0} (hw : HW Z a0) : Jvm.RoadKit.slotOf Z cs0 cs3 cs1 ≠ Jvm.RoadKit.slotOf Z cs0 cs10 cs6 := slot_ne (Or.inl (wk108 hw)) (Or.inl (wk92 hw)) (by decide +kernel) pf5 pf2
theorem sn63 {Z a0} (hw : HW Z a0) : Jvm.RoadKit.slotOf Z cs0 cs3 cs1 ≠ Jvm.RoadKit.slotOf Z cs0 "lastUsed" "J" := slot_ne (Or.inl (wk108 hw)) (Or.inl (wk85 hw)) (by decide +kernel) pf5 pf0
theorem sn64 {Z a0} (hw : HW Z a0) : Jvm.RoadKit.slotOf Z cs0 cs3 cs1 ≠ Jvm.RoadKit.slotOf Z cs0 "created" "J" := slot_ne (Or.inl (wk108 hw)) (Or.inl (wk83 hw)) (by decide +kernel) pf5 pf0
theorem sn65 {Z a0} (hw : HW Z a0) : Jvm.RoadKit.slotOf Z cs0 cs3 cs1 ≠ Jvm.RoadKit.slotOf Z cs0 "expiry" cs7 := slot_ne (Or.inl (wk108 hw)) (Or.inl (wk76 hw)) (by decide +kernel) pf5 pf4
theorem sn66 {Z a0} (hw : HW Z a0) : Jvm.RoadKit.slotOf Z cs0 cs3 cs1 ≠ Jvm.RoadKit.slotOf Z cs0 "value" cs6 := slot_ne (Or.inl (wk108 hw)) (Or.inl (wk74 hw)) (by decide +kernel) pf5 pf2
theorem sn67 {Z a0} (hw : HW Z a0) : Jvm.RoadKit.slotOf Z cs0 cs3 cs1 ≠ Jvm.RoadKit.slotOf Z cs0 "charge" "J" := slot_ne (Or.inl (wk108 hw)) (Or.inl (wk67 hw)) (by decide +kernel) pf5 pf0
theorem sn68 {Z a0} (hw : HW Z a0) : Jvm.RoadKit.slotOf Z cs0 cs3 cs1 ≠ Jvm.RoadKit.slotOf Z cs0 "key" cs6 := slot_ne (Or.inl (wk108 hw)) (Or.inr (wk65 hw)) (by decide +kernel) pf5 pf2
theorem sn69 {Z a0} (hw : HW Z a0) : Jvm.RoadKit.slotOf Z cs0 cs3 cs1 ≠ Jvm.RoadKit.slotOf Z cs0 "slot" "I" := slot_ne (Or.inl (wk108 hw)) (Or.inl (wk63 hw)) (by decide +kernel) pf5 pf3
theorem sn70 {Z a0} (hw : HW Z a0) : Jvm.RoadKit.slotOf Z cs0 cs4 cs1 ≠ Jvm.RoadKit.slotOf Z cs0 cs10 cs6 := slot_ne (Or.inl (wk110 hw)) (Or.inl (wk92 hw)) (by decide +kernel) pf5 pf2
theorem sn71 {Z a0} (hw : HW Z a0) : Jvm.RoadKit.slotOf Z cs0 cs4 cs1 ≠ Jvm.RoadKit.slotOf Z cs0 "lastUsed" "J" := slot_ne (Or.inl (wk110 hw)) (Or.inl (wk85 hw)) (by decide +kernel) pf5 pf0
theorem sn72 {Z a0} (hw : HW Z a0) : Jvm.RoadKit.slotOf Z cs0 cs4 cs1 ≠ Jvm.RoadKit.slotOf Z cs0 "created" "J" := slot_ne (Or.inl (wk110 hw)) (Or.inl (wk83 hw)) (by decide +kernel) pf5 pf0
theorem sn73 {Z a0} (hw : HW Z a0) : Jvm.RoadKit.slotOf Z cs0 cs4 cs1 ≠ Jvm.RoadKit.slotOf Z cs0 "expiry" cs7 := slot_ne (Or.inl (wk110 hw)) (Or.inl (wk76 hw)) (by decide +kernel) pf5 pf4
theorem sn74 {Z a0} (hw : HW Z a0) : Jvm.RoadKit.slotOf Z cs0 cs4 cs1 ≠ Jvm.RoadKit.slotOf Z cs0 "value" cs6 := slot_ne (Or.inl (wk110 hw)) (Or.inl (wk74 hw)) (by decide +kernel) pf5 pf2
theorem sn75 {Z a0} (hw : HW Z a0) : Jvm.RoadKit.slotOf Z cs0 cs4 cs1 ≠ Jvm.RoadKit.slotOf Z cs0 "charge" "J" := slot_ne (Or.inl (wk110 hw)) (Or.inl (wk67 hw)) (by decide +kernel) pf5 pf0
theorem sn76 {Z a0} (hw : HW Z a0) : Jvm.RoadKit.slotOf Z cs0 cs4 cs1 ≠ Jvm.RoadKit.slotOf Z cs0 "key" cs6 := slot_ne (Or.inl (wk110 hw)) (Or.inr (wk65 hw)) (by decide +kernel) pf5 pf2
theorem sn77 {Z a0} (hw : HW Z a0) : Jvm.RoadKit.slotOf Z cs0 cs4 cs1 ≠ Jvm.RoadKit.slotOf Z cs0 "slot" "I" := slot_ne (Or.inl (wk110 hw)) (Or.inl (wk63 hw)) (by decide +kernel) pf5 pf3
theorem sn78 {Z a0} (hw : HW Z a0) : Jvm.RoadKit.slotOf Z cs0 cs4 cs1 ≠ Jvm.RoadKit.slotOf Z cs0 cs3 cs1 := slot_ne (Or.inl (wk110 hw)) (Or.inl (wk108 hw)) (by decide +kernel) pf5 pf5
theorem sn79 {Z a0} (hw : HW Z a0) : Jvm.RoadKit.slotOf Z cs0 "slot" "I" ≠ Jvm.RoadKit.slotOf Z cs0 cs3 cs1 := slot_ne (Or.inl (wk63 hw)) (Or.inl (wk108 hw)) (by decide +kernel) pf3 pf5
theorem sn80 {Z a0} (hw : HW Z a0) : Jvm.RoadKit.slotOf Z cs0 "slot" "I" ≠ Jvm.RoadKit.slotOf Z cs0 cs4 cs1 := slot_ne (Or.inl (wk63 hw)) (Or.inl (wk110 hw)) (by decide +kernel) pf3 pf5
theorem sn81 {Z a0} (hw : HW Z a0) : Jvm.RoadKit.slotOf Z cs0 cs3 cs1 ≠ Jvm.RoadKit.slotOf Z cs0 cs4 cs1 := slot_ne (Or.inl (wk108 hw)) (Or.inl (wk110 hw)) (by decide +kernel) pf5 pf5
theorem sn82 {Z a0} (hw : HW Z a0) : Jvm.RoadKit.slotOf Z cs2 "time" "J" ≠ Jvm.RoadKit.slotOf Z cs2 "size" "J" := slot_ne (Or.inl (wk43 hw)) (Or.inl (wk106 hw)) (by decide +kernel) pf0 pf0
theorem sn83 {Z a0} (hw : HW Z a0) : Jvm.RoadKit.slotOf Z cs2 "firsts" cs8 ≠ Jvm.RoadKit.slotOf Z cs2 "size" "J" := slot_ne (Or.inr (wk47 hw)) (Or.inl (wk106 hw)) (by decide +kernel) pf1 pf0
theorem sn84 {Z a0} (hw : HW Z a0) : Jvm.RoadKit.slotOf Z cs0 "expiry" cs7 ≠ Jvm.RoadKit.slotOf Z cs0 cs4 cs1 := slot_ne (Or.inl (wk76 hw)) (Or.inl (wk110 hw)) (by decide +kernel) pf4 pf5
theorem sn85 {Z a0} (hw : HW Z a0) : Jvm.RoadKit.slotOf Z cs0 "expiry" cs7 ≠ Jvm.RoadKit.slotOf Z cs0 cs3 cs1 := slot_ne (Or.inl (wk76 hw)) (Or.inl (wk108 hw)) (by decide +kernel) pf4 pf5
theorem sn86 {Z a0} (hw : HW Z a0) : Jvm.RoadKit.slotOf Z cs0 "created" "J" ≠ Jvm.RoadKit.slotOf Z cs0 cs4 cs1 := slot_ne (Or.inl (wk83 hw)) (Or.inl (wk110 hw)) (by decide +kernel) pf0 pf5
theorem sn87 {Z a0} (hw : HW Z a0) : Jvm.RoadKit.slotOf Z cs0 "created" "J" ≠ Jvm.RoadKit.slotOf Z cs0 cs3 cs1 := slot_ne (Or.inl (wk83 hw)) (Or.inl (wk108 hw)) (by decide +kernel) pf0 pf5
theorem sn88 {Z a0} (hw : HW Z a0) : Jvm.RoadKit.slotOf Z cs0 "lastUsed" "J" ≠ Jvm.RoadKit.slotOf Z cs0 cs4 cs1 := slot_ne (Or.inl (wk85 hw)) (Or.inl (wk110 hw)) (by decide +kernel) pf0 pf5
theorem sn89 {Z a0} (hw : HW Z a0) : Jvm.RoadKit.slotOf Z cs0 "lastUsed" "J" ≠ Jvm.RoadKit.slotOf Z cs0 cs3 cs1 := slot_ne (Or.inl (wk85 hw)) (Or.inl (wk108 hw)) (by decide +kernel) pf0 pf5
theorem own_wS {Z a0} (hw : HW Z a0) : ∀ a ∈ Bundle.stringAtoms, a.before a0 Z = true := fun d hd => by
  simp only [Bundle.stringAtoms, List.mem_cons, List.not_mem_nil, or_false] at hd
  rcases hd with rfl | rfl | rfl | rfl | rfl | rfl | rfl
  · exact hw _ (List.mem_of_getElem? (i := 18) rfl)
  · exact hw _ (List.mem_of_getElem? (i := 19) rfl)
  · exact hw _ (List.mem_of_getElem? (i := 20) rfl)
  · exact hw _ (List.mem_of_getElem? (i := 21) rfl)
  · exact hw _ (List.mem_of_getElem? (i := 22) rfl)
  · exact hw _ (List.mem_of_getElem? (i := 23) rfl)
  · exact hw _ (List.mem_of_getElem? (i := 24) rfl)
def Wd (Z : State) (w : Nat → Addr) : Prop := Sta Z Z.heap "java/lang/Integer$IntegerCache" "high" "I" (.int (127 : Int32)) ∧ Sta Z Z.heap "java/lang/Integer$IntegerCache" "cache" "[Ljava/lang/Integer;" (.ref (w 0)) ∧ Exa Z Z.heap (w 0) "[Ljava/lang/Integer;" ∧ (∃ c, Bxs Z (w 0) c cs9 "I" (256 : Int32) (fun j => .int (j - 128))) ∧ True
theorem wd0 {Z : State} {w : Nat → Addr} (hW : Wd Z w) : Sta Z Z.heap "java/lang/Integer$IntegerCache" "high" "I" (.int (127 : Int32)) := hW.1
theorem wd1 {Z : State} {w : Nat → Addr} (hW : Wd Z w) : Sta Z Z.heap "java/lang/Integer$IntegerCache" "cache" "[Ljava/lang/Integer;" (.ref (w 0)) := hW.2.1
theorem wd2 {Z : State} {w : Nat → Addr} (hW : Wd Z w) : Exa Z Z.heap (w 0) "[Ljava/lang/Integer;" := hW.2.2.1
theorem wd3 {Z : State} {w : Nat → Addr} (hW : Wd Z w) : (∃ c, Bxs Z (w 0) c cs9 "I" (256 : Int32) (fun j => .int (j - 128))) := hW.2.2.2.1
theorem d1_0 : decode prog_22_method_1_code 0 = .ok (.aload_n 0, 1) := by decide +kernel
theorem d1_1 : decode prog_22_method_1_code 1 = .ok (.invokespecial 1, 3) := by decide +kernel
theorem d2_0 : decode jdk_30_method_1_code 0 = .ok (.aload_n 0, 1) := by decide +kernel
theorem d2_1 : decode jdk_30_method_1_code 1 = .ok (.invokespecial 1, 3) := by decide +kernel
theorem d2_4 : decode jdk_30_method_1_code 4 = .ok (.return_, 1) := by decide +kernel
theorem ef_2_1 (m : MethodId) (o1 : Addr) : entryFrame m #[(.ref o1)] 1 = mkF m 0 #[.val (.ref o1)] [] := by first | (simp [entryFrame, mkF, argsToLocals, Value.category]; done) | rfl
theorem pnc_0 : plainName "java/lang/Record" = true := by first | (simp [plainName, overriddenIn]; done) | decide +kernel
def Q2_1 (Z : State) (w : Nat → Addr) (o1 : Addr) (h0 : Heap) (n0 : Nat) (v : Option Value) (h : Heap) (L : List Loc) : Prop := v = none ∧ Fr n0 L ∧ h = h0
set_option maxRecDepth 65536 in
set_option maxHeartbeats 40000000 in
theorem rm2_1 (l : Launch) (Z : State) (a0 : Array Value) (hw : HW Z a0) (w : Nat → Addr) (hW : Wd Z w) (ws : List Jvm.Cond) (o1 : Addr) (h0 : Heap) (n0 : Nat) (O0 : Old Z n0 h0) :
    MetFree l ym0 (head1 (Jvm.Cond.code ym0 jdk_30_method_1_code 1 none :: ws) ({ frames := 1, cells := 0, slots := 0, locals := 12 } : Room)) (fun a U => a = #[(.ref o1)] ∧ Z.Warmed39 U.vm ∧ U.heap = h0) (fun _ _ _ _ _ => True) (fun _ U o U' => ∃ v L, o = .returned v ∧ Q2_1 Z w o1 h0 n0 v U'.heap L ∧ FrameEnd U o U' L ({ frames := 1, cells := 0, slots := 0, locals := 12 } : Room).cells ({ frames := 1, cells := 0, slots := 0, locals := 12 } : Room).slots) := by
  refine MetFree.of_bodySF (plainFor_of_name pnc_0) hisR ?_
  intro p e s m args below meth c s₁ Bd hml0 hP hK
  obtain ⟨rfl, hZ, hh⟩ := hP
  have hx := Bd.exec
  have hby := Bd.bytes
  have hml : c.maxLocals = 1 := hml0
  have hown : s.vm.findClass "java/lang/Record" = some m.cls := findClass_of_methodNamed Bd.named
  have hnm := (name_of_methodNamed Bd.named Bd.method).1
  have X0 : Stand p l e ({ frames := 1, cells := 0, slots := 0, locals := 12 } : Room) s m #[(.ref o1)] below meth c s₁ [] 0 0 := Stand.of_body Bd
  have e0 : s₁.heap = h0 := by rw [← hh, Bd.state]; rfl
  have N0 := Fr.nil n0
  skip
  have pre0 : ∀ t, Steps p.tables e below (s₁.setTop (mkF m 0 #[.val (.ref o1)] [])) t → Steps p.tables e below (s₁.setTop (entryFrame m #[(.ref o1)] 1)) t := fun t k => castTop (ef_2_1 m o1) k
  obtain ⟨T1, X1, e1, st1⟩ := initO X0 hx hZ hown (wk14 hw) (wk15 hw) (wk16 hw) e0 (g := (mkF m 1 #[.val (.ref o1)] [(.ref o1)])) rfl (by rw [hml]; rfl) rfl (hb hby d2_1) (by decide) (W := 0) (by show 2 * 0 + _ ≤ _; exact Nat.le_of_eq rfl) (by decide)
  obtain ⟨fs, hr, hrun, hended, hWm, hsame⟩ := X1.leave (v := none) (fun _ => rfl)
  refine ⟨_, _, pre0 _ ?_, hrun, hended, _, _, rfl, ?_, ⟨_, rfl⟩, hWm, hsame.mono (by decide) (by decide)⟩
  · show Steps p.tables e below (s₁.setTop (mkF m 0 #[.val (.ref o1)] [])) _
    refine sA X0 hx hby d2_0 rfl rfl ?_
    refine st1 _ ?_
    exact X1.returnOut hx Bd.returns (hb hby d2_4) hr
  · show Q2_1 Z w o1 h0 n0 _ T1.heap _
    rw [e1]
    exact ⟨rfl, N0, rfl⟩
theorem pds_0 : parseMethodDescriptor "()V" = some ⟨[], none⟩ := by decide +kernel
theorem d1_4 : decode prog_22_method_1_code 4 = .ok (.ldc 7, 2) := by decide +kernel
theorem d1_6 : decode prog_22_method_1_code 6 = .ok (.lload_n 1, 1) := by decide +kernel
theorem d1_7 : decode prog_22_method_1_code 7 = .ok (.invokestatic 9, 3) := by decide +kernel
theorem d4_0 : decode prog_22_method_9_code 0 = .ok (.lload_n 1, 1) := by decide +kernel
theorem d4_1 : decode prog_22_method_9_code 1 = .ok (.ldc2_w 29, 3) := by decide +kernel
theorem d4_4 : decode prog_22_method_9_code 4 = .ok (.lcmp, 1) := by decide +kernel
theorem d4_5 : decode prog_22_method_9_code 5 = .ok (.ifCond .ge 18, 3) := by decide +kernel
theorem d4_23 : decode prog_22_method_9_code 23 = .ok (.return_, 1) := by decide +kernel
theorem ef_4_2 (m : MethodId) (o1 : Addr) (q2 : Int64) : entryFrame m #[(.ref o1), (.long q2)] 3 = mkF m 0 #[.val (.ref o1), .val (.long q2), .second] [] := by first | (simp [entryFrame, mkF, argsToLocals, Value.category]; done) | rfl
theorem pnc_1 : plainName "com/example/tidemark/tidemark/Expiry" = true := by first | (simp [plainName, overriddenIn]; done) | decide +kernel
def Q4_2 (Z : State) (w : Nat → Addr) (o1 : Addr) (q2 : Int64) (h0 : Heap) (n0 : Nat) (v : Option Value) (h : Heap) (L : List Loc) : Prop := v = none ∧ Fr n0 L ∧ h = h0
set_option maxRecDepth 65536 in
set_option maxHeartbeats 40000000 in
theorem rm4_2 (l : Launch) (Z : State) (a0 : Array Value) (hw : HW Z a0) (w : Nat → Addr) (hW : Wd Z w) (ws : List Jvm.Cond) (o1 : Addr) (q2 : Int64) (h0 : Heap) (n0 : Nat) (O0 : Old Z n0 h0) (c1 : ¬ (q2 < (-1 : Int64))) :
    MetFree l ym1 (head1 (Jvm.Cond.code ym1 prog_22_method_9_code 3 none :: ws) ({ frames := 0, cells := 0, slots := 0, locals := 0 } : Room)) (fun a U => a = #[(.ref o1), (.long q2)] ∧ Z.Warmed39 U.vm ∧ U.heap = h0) (fun _ _ _ _ _ => True) (fun _ U o U' => ∃ v L, o = .returned v ∧ Q4_2 Z w o1 q2 h0 n0 v U'.heap L ∧ FrameEnd U o U' L ({ frames := 0, cells := 0, slots := 0, locals := 0 } : Room).cells ({ frames := 0, cells := 0, slots := 0, locals := 0 } : Room).slots) := by
  refine MetFree.of_bodySF (plainFor_of_name pnc_1) hisR ?_
  intro p e s m args below meth c s₁ Bd hml0 hP hK
  obtain ⟨rfl, hZ, hh⟩ := hP
  have hx := Bd.exec
  have hby := Bd.bytes
  have hml : c.maxLocals = 3 := hml0
  have hown : s.vm.findClass cs5 = some m.cls := findClass_of_methodNamed Bd.named
  have hnm := (name_of_methodNamed Bd.named Bd.method).1
  have X0 : Stand p l e ({ frames := 0, cells := 0, slots := 0, locals := 0 } : Room) s m #[(.ref o1), (.long q2)] below meth c s₁ [] 0 0 := Stand.of_body Bd
  have e0 : s₁.heap = h0 := by rw [← hh, Bd.state]; rfl
  have N0 := Fr.nil n0
  skip
  have pre0 : ∀ t, Steps p.tables e below (s₁.setTop (mkF m 0 #[.val (.ref o1), .val (.long q2), .second] [])) t → Steps p.tables e below (s₁.setTop (entryFrame m #[(.ref o1), (.long q2)] 3)) t := fun t k => castTop (ef_4_2 m o1 q2) k
  obtain ⟨fs, hr, hrun, hended, hWm, hsame⟩ := X0.leave (v := none) (fun _ => rfl)
  refine ⟨_, _, pre0 _ ?_, hrun, hended, _, _, rfl, ?_, ⟨_, rfl⟩, hWm, hsame.mono (by decide) (by decide)⟩
  · show Steps p.tables e below (s₁.setTop (mkF m 0 #[.val (.ref o1), .val (.long q2), .second] [])) _
    refine sL X0 hx hby d4_0 rfl ?_
    refine X0.ldc2Long hx hown (mvT hZ (wk28 hw)) (g := (mkF m 1 #[.val (.ref o1), .val (.long q2), .second] [(.long q2)])) rfl (hb hby d4_1) _ ?_
    refine XS.lcmp X0.here hx rfl (hb hby d4_4) rfl ?_
    refine XS.ifYes X0.here hx rfl (pc0 := 5) (pc' := 23) rfl (hb hby d4_5) rfl ((if0 _ _).trans (flt ((fun q => c1 ((lw_lt _ _).mp q)) : ¬ ((lcmpW q2 (-1 : Int64)) < (0 : Int32)))).2.1) (by decide) (by decide) ?_
    exact X0.returnOut hx Bd.returns (hb hby d4_23) hr
  · show Q4_2 Z w o1 q2 h0 n0 _ s₁.heap _
    rw [e0]
    exact ⟨rfl, N0, rfl⟩
theorem pds_1 : parseMethodDescriptor "(Ljava/lang/String;J)V" = some ⟨[(.object "java/lang/String"), .long], none⟩ := by decide +kernel
theorem d1_10 : decode prog_22_method_1_code 10 = .ok (.ldc 15, 2) := by decide +kernel
theorem d1_12 : decode prog_22_method_1_code 12 = .ok (.lload_n 3, 1) := by decide +kernel
theorem d1_13 : decode prog_22_method_1_code 13 = .ok (.invokestatic 9, 3) := by decide +kernel
theorem d1_16 : decode prog_22_method_1_code 16 = .ok (.aload_n 0, 1) := by decide +kernel
theorem d1_17 : decode prog_22_method_1_code 17 = .ok (.lload_n 1, 1) := by decide +kernel
theorem d1_18 : decode prog_22_method_1_code 18 = .ok (.putfield 17, 3) := by decide +kernel
theorem d1_21 : decode prog_22_method_1_code 21 = .ok (.aload_n 0, 1) := by decide +kernel
theorem d1_22 : decode prog_22_method_1_code 22 = .ok (.lload_n 3, 1) := by decide +kernel
theorem d1_23 : decode prog_22_method_1_code 23 = .ok (.putfield 20, 3) := by decide +kernel
theorem d1_26 : decode prog_22_method_1_code 26 = .ok (.return_, 1) := by decide +kernel
theorem ef_1_3 (m : MethodId) (o1 : Addr) (q2 : Int64) : entryFrame m #[(.ref o1), (.long q2), (.long (-1 : Int64))] 5 = mkF m 0 #[.val (.ref o1), .val (.long q2), .second, .val (.long (-1 : Int64)), .second] [] := by first | (simp [entryFrame, mkF, argsToLocals, Value.category]; done) | rfl
def Q1_3 (Z : State) (w : Nat → Addr) (o1 : Addr) (q2 : Int64) (h0 : Heap) (n0 : Nat) (v : Option Value) (h : Heap) (L : List Loc) : Prop := v = none ∧ Fr n0 L ∧ own_KL h0 h [⟨o1, Jvm.RoadKit.slotOf Z cs5 "lifespan" "J"⟩, ⟨o1, Jvm.RoadKit.slotOf Z cs5 "maxIdle" "J"⟩] ∧ Fld Z h o1 cs5 "lifespan" "J" (.long q2) ∧ Fld Z h o1 cs5 "maxIdle" "J" (.long (-1 : Int64))
set_option maxRecDepth 65536 in
set_option maxHeartbeats 40000000 in
theorem rm1_3 (l : Launch) (Z : State) (a0 : Array Value) (hw : HW Z a0) (w : Nat → Addr) (hW : Wd Z w) (ws : List Jvm.Cond) (o1 : Addr) (q2 : Int64) (h0 : Heap) (n0 : Nat) (O0 : Old Z n0 h0) (c1 : ¬ (q2 < (-1 : Int64))) (f2 : Exa Z h0 o1 cs5) (f3 : Fld Z h0 o1 cs5 "lifespan" "J" (.long (0 : Int64))) (g4 : n0 ≤ o1) (f5 : Fld Z h0 o1 cs5 "maxIdle" "J" (.long (0 : Int64))) :
    MetFree l ym2 (head1 (Jvm.Cond.code ym2 prog_22_method_1_code 5 none :: ws) ({ frames := 2, cells := 4, slots := 68, locals := 24 } : Room)) (fun a U => a = #[(.ref o1), (.long q2), (.long (-1 : Int64))] ∧ Z.Warmed39 U.vm ∧ U.heap = h0) (fun _ _ _ _ _ => True) (fun _ U o U' => ∃ v L, o = .returned v ∧ Q1_3 Z w o1 q2 h0 n0 v U'.heap L ∧ ReturnedEndW U o U' L ({ frames := 2, cells := 4, slots := 68, locals := 24 } : Room).cells ({ frames := 2, cells := 4, slots := 68, locals := 24 } : Room).slots) := by
  refine MetFree.of_bodySF (plainFor_of_name pnc_1) hisR ?_
  intro p e s m args below meth c s₁ Bd hml0 hP hK
  obtain ⟨rfl, hZ, hh⟩ := hP
  have hx := Bd.exec
  have hby := Bd.bytes
  have hml : c.maxLocals = 5 := hml0
  have hown : s.vm.findClass cs5 = some m.cls := findClass_of_methodNamed Bd.named
  have hnm := (name_of_methodNamed Bd.named Bd.method).1
  have X0 : Stand p l e ({ frames := 2, cells := 4, slots := 68, locals := 24 } : Room) s m #[(.ref o1), (.long q2), (.long (-1 : Int64))] below meth c s₁ [] 0 0 := Stand.of_body Bd
  have hS0 : s.Since s.vm 0 := (State.WarmedH.refl s).since 0
  have e0 : s₁.heap = h0 := by rw [← hh, Bd.state]; rfl
  have N0 := Fr.nil n0
  let La : Array Slot := #[.val (.ref o1), .val (.long q2), .second, .val (.long (-1 : Int64)), .second]
  have pre0 : ∀ t, Steps p.tables e below (s₁.setTop (mkF m 0 #[.val (.ref o1), .val (.long q2), .second, .val (.long (-1 : Int64)), .second] [])) t → Steps p.tables e below (s₁.setTop (entryFrame m #[(.ref o1), (.long q2), (.long (-1 : Int64))] 5)) t := fun t k => castTop (ef_1_3 m o1 q2) k
  obtain ⟨_, _, ⟨T1, L1, kk1, nn1⟩, -, X1, ⟨Lc1, hQ1, l1, y1, z1⟩, st1⟩ := X0.specialBack hx (y := ym0) rfl hown (mvT hZ (wk9 hw)) (mvT hZ (wk10 hw)) (mvT hZ (wk13 hw)) (by decide) (backOf (W := 0) (rm2_1 l Z a0 hw w hW [] o1 h0 n0 O0 ) hZ (wk13 hw) (wk12 hw) (by decide) (by decide)) (g := (mkF m 1 La [(.ref o1)])) rfl (by rw [hml]; rfl) (Steps.refl _) (a := o1) (argsL := []) (rest := []) (lenOf pds_0 rfl) rfl (by show 2 * 0 + _ ≤ _; exact Nat.le_of_eq rfl) (hb hby d1_1) (fun _ _ => ⟨rfl, e0, (by decide : 0 + 0 ≤ _), (by decide : 0 + 0 ≤ _)⟩)
  dsimp only [Pt.U, Pt.locs, Pt.cells, Pt.slots] at X1 l1 y1 z1 st1 hQ1
  rw [l1, y1, z1] at X1
  obtain ⟨rfl, N1q, e1⟩ := hQ1
  have N1 := Fr.app N0 N1q
  obtain ⟨a2, T2, h2, kk2, X2, e2, E2, hS2, hk2, hZ, hown, st2⟩ := ldcS (s := s) (vm0 := s.vm) X1 hx hZ hown (wk17 hw) (own_wS hw) e1 hS0 (Nat.zero_le _) (g := (mkF m 4 La [])) rfl (hb hby d1_4) (n := 32) (by decide) (by decide) (by decide) (by decide)
  have O3 := O0.ext E2
  obtain ⟨_, _, ⟨T4, L4, kk4, nn4⟩, -, X4, ⟨Lc4, hQ4, l4, y4, z4⟩, st4⟩ := Jvm.LawKit.callS X2 hx (y := ym1) hown (mvT hZ (wk25 hw)) (mvT hZ (wk26 hw)) (mvT hZ (wk4 hw)) (mvT hZ (wk27 hw)) (by decide) (backOf (W := 0) (rm4_2 l Z a0 hw w hW [] a2 q2 h2 n0 O3 c1) hZ (wk27 hw) (wk4 hw) (by decide) (by decide)) (g := (mkF m 7 La [(.long q2), (.ref a2)])) rfl (by rw [hml]; rfl) (argsL := [(.ref a2), (.long q2)]) (rest := []) (lenOf pds_1 rfl) rfl (by show 2 * 0 + _ ≤ _; exact Nat.le_of_eq rfl) (hb hby d1_7) (fun _ _ => ⟨rfl, e2, (by decide : 2 + 0 ≤ _), (by decide : 36 + 0 ≤ _)⟩)
  dsimp only [Pt.U, Pt.locs, Pt.cells, Pt.slots] at X4 l4 y4 z4 st4 hQ4
  rw [l4, y4, z4] at X4
  obtain ⟨rfl, N4q, e4⟩ := hQ4
  have N4 := Fr.app N1 N4q
  obtain ⟨a5, T5, h5, kk5, X5, e5, E5, hS5, hk5, hZ, hown, st5⟩ := ldcS (s := s) (vm0 := T2.vm) X4 hx hZ hown (wk29 hw) (own_wS hw) e4 hS2 hk2 (g := (mkF m 10 La [])) rfl (hb hby d1_10) (n := 28) (by decide) (by decide) (by decide) (by decide)
  have O6 := O3.ext E5
  obtain ⟨_, _, ⟨T7, L7, kk7, nn7⟩, -, X7, ⟨Lc7, hQ7, l7, y7, z7⟩, st7⟩ := Jvm.LawKit.callS X5 hx (y := ym1) hown (mvT hZ (wk25 hw)) (mvT hZ (wk26 hw)) (mvT hZ (wk4 hw)) (mvT hZ (wk27 hw)) (by decide) (backOf (W := 0) (rm4_2 l Z a0 hw w hW [] a5 (-1 : Int64) h5 n0 O6 (by decide)) hZ (wk27 hw) (wk4 hw) (by decide) (by decide)) (g := (mkF m 13 La [(.long (-1 : Int64)), (.ref a5)])) rfl (by rw [hml]; rfl) (argsL := [(.ref a5), (.long (-1 : Int64))]) (rest := []) (lenOf pds_1 rfl) rfl (by show 2 * 0 + _ ≤ _; exact Nat.le_of_eq rfl) (hb hby d1_13) (fun _ _ => ⟨rfl, e5, (by decide : 4 + 0 ≤ _), (by decide : 68 + 0 ≤ _)⟩)
  dsimp only [Pt.U, Pt.locs, Pt.cells, Pt.slots] at X7 l7 y7 z7 st7 hQ7
  rw [l7, y7, z7] at X7
  obtain ⟨rfl, N7q, e7⟩ := hQ7
  have N7 := Fr.app N4 N7q
  have t8 := ((f3.ext E2).ext E5)
  have t9 := ((f2.ext E2).ext E5)
  obtain ⟨T10, h10, X10, e10, W10, st10⟩ := putF X7 hx hZ hown (host := "") (Or.inl (wk30 hw)) Via.refl e7 t8 t9 (Or.inr ⟨(wk31 hw), rfl, hnm⟩) (wk3 hw) (ty := .long) (by decide) rfl rfl (g := (mkF m 18 La [(.long q2), (.ref o1)])) rfl rfl (hb hby d1_18)
  have F10 : Fld Z h10 o1 cs5 "lifespan" "J" (.long q2) := t8.same W10
  have N10 := Fr.snoc X10 N7 g4
  have O11 := O6.wr W10 g4
  have t12 := (((f5.ext E2).ext E5).other W10 (Or.inr (sn0 hw)))
  have t13 := (t9.wr W10)
  obtain ⟨T14, h14, X14, e14, W14, st14⟩ := putF X10 hx hZ hown (host := "") (Or.inl (wk32 hw)) Via.refl e10 t12 t13 (Or.inr ⟨(wk33 hw), rfl, hnm⟩) (wk3 hw) (ty := .long) (by decide) rfl rfl (g := (mkF m 23 La [(.long (-1 : Int64)), (.ref o1)])) rfl rfl (hb hby d1_23)
  have F14 : Fld Z h14 o1 cs5 "maxIdle" "J" (.long (-1 : Int64)) := t12.same W14
  have N14 := Fr.snoc X14 N10 g4
  have O15 := O11.wr W14 g4
  obtain ⟨fs, hr, hrun, hended, hREW⟩ := Stand.leaveW (s := s) (vm₁ := T5.vm) X14 hS5 (by rw [e14]; exact (Nat.le_trans (Nat.le_trans hk5 (Nat.le_of_eq W10.size.symm)) (Nat.le_of_eq W14.size.symm))) (v := none) (fun _ => rfl)
  have Kf16 : own_KL h0 h14 [⟨o1, Jvm.RoadKit.slotOf Z cs5 "lifespan" "J"⟩, ⟨o1, Jvm.RoadKit.slotOf Z cs5 "maxIdle" "J"⟩] := (own_klW (own_klW (own_klE (own_klE (own_kl0 h0 [⟨o1, Jvm.RoadKit.slotOf Z cs5 "lifespan" "J"⟩, ⟨o1, Jvm.RoadKit.slotOf Z cs5 "maxIdle" "J"⟩]) E2) E5) W10 (Or.inl (List.mem_of_getElem? (i := 0) rfl))) W14 (Or.inl (List.mem_of_getElem? (i := 1) rfl)))
  have t17 := (F10.other W14 (Or.inr (sn1 hw)))
  refine ⟨_, _, pre0 _ ?_, hrun, hended, _, _, rfl, ?_, hREW.1, hREW.2.1, hREW.2.2.1, hREW.2.2.2.mono (by decide) (by decide)⟩
  · show Steps p.tables e below (s₁.setTop (mkF m 0 La [])) _
    refine sA X0 hx hby d1_0 rfl rfl ?_
    refine st1.trans ?_
    refine st2 _ ?_
    refine sL X2 hx hby d1_6 rfl ?_
    refine st4 _ ?_
    refine st5 _ ?_
    refine sL X5 hx hby d1_12 rfl ?_
    refine st7 _ ?_
    refine sA X7 hx hby d1_16 rfl rfl ?_
    refine sL X7 hx hby d1_17 rfl ?_
    refine st10 _ ?_
    refine sA X10 hx hby d1_21 rfl rfl ?_
    refine sL X10 hx hby d1_22 rfl ?_
    refine st14 _ ?_
    exact X14.returnOut hx Bd.returns (hb hby d1_26) hr
  · show Q1_3 Z w o1 q2 h0 n0 _ T14.heap _
    rw [e14]
    exact ⟨rfl, N14, Kf16, t17, F14⟩
theorem pds_2 : parseMethodDescriptor "(JJ)V" = some ⟨[.long, .long], none⟩ := by decide +kernel
theorem d5_0 : decode prog_14_method_1_code 0 = .ok (.aload_n 0, 1) := by decide +kernel
theorem d5_1 : decode prog_14_method_1_code 1 = .ok (.invokespecial 3, 3) := by decide +kernel
theorem d5_4 : decode prog_14_method_1_code 4 = .ok (.aload_n 0, 1) := by decide +kernel
theorem d5_5 : decode prog_14_method_1_code 5 = .ok (.ldc2_w 11, 3) := by decide +kernel
theorem d5_8 : decode prog_14_method_1_code 8 = .ok (.putfield 13, 3) := by decide +kernel
theorem d5_11 : decode prog_14_method_1_code 11 = .ok (.sipush 386, 3) := by decide +kernel
theorem d5_14 : decode prog_14_method_1_code 14 = .ok (.anewarray 17, 3) := by decide +kernel
theorem d5_17 : decode prog_14_method_1_code 17 = .ok (.astore_n 1, 1) := by decide +kernel
theorem d5_18 : decode prog_14_method_1_code 18 = .ok (.aload_n 0, 1) := by decide +kernel
theorem d5_19 : decode prog_14_method_1_code 19 = .ok (.aload_n 1, 1) := by decide +kernel
theorem d5_20 : decode prog_14_method_1_code 20 = .ok (.putfield 19, 3) := by decide +kernel
theorem d5_23 : decode prog_14_method_1_code 23 = .ok (.return_, 1) := by decide +kernel
theorem ef_5_4 (m : MethodId) (o1 : Addr) : entryFrame m #[(.ref o1)] 2 = mkF m 0 #[.val (.ref o1), .unset] [] := by first | (simp [entryFrame, mkF, argsToLocals, Value.category]; done) | rfl
theorem pnc_2 : plainName "com/example/tidemark/tidemark/Deadlines" = true := by first | (simp [plainName, overriddenIn]; done) | decide +kernel
def Q5_4 (Z : State) (w : Nat → Addr) (o1 : Addr) (h0 : Heap) (n0 : Nat) (v : Option Value) (h : Heap) (L : List Loc) : Prop := ∃ (b4 : Addr) (k4 : ClassId), v = none ∧ Fr n0 L ∧ own_KL h0 h [⟨o1, Jvm.RoadKit.slotOf Z cs2 "time" "J"⟩, ⟨o1, Jvm.RoadKit.slotOf Z cs2 "firsts" cs8⟩] ∧ Fld Z h o1 cs2 "time" "J" (.long (-9223372036854775808 : Int64)) ∧ Arv Z h b4 k4 (.object cs0) (386 : Int32) [] .null ∧ Fld Z h o1 cs2 "firsts" cs8 (.ref b4) ∧ h0.size ≤ b4 ∧ Ovr Z k4 cs0
set_option maxRecDepth 65536 in
set_option maxHeartbeats 40000000 in
theorem rm5_4 (l : Launch) (Z : State) (a0 : Array Value) (hw : HW Z a0) (w : Nat → Addr) (hW : Wd Z w) (ws : List Jvm.Cond) (o1 : Addr) (h0 : Heap) (n0 : Nat) (O0 : Old Z n0 h0) (f1 : Exa Z h0 o1 cs2) (f2 : Fld Z h0 o1 cs2 "time" "J" (.long (0 : Int64))) (g3 : n0 ≤ o1) (f4 : Fld Z h0 o1 cs2 "firsts" cs8 .null) :
    MetFree l ym3 (head1 (Jvm.Cond.code ym3 prog_14_method_1_code 2 none :: ws) ({ frames := 1, cells := 1, slots := 386, locals := 12 } : Room)) (fun a U => a = #[(.ref o1)] ∧ Z.Warmed39 U.vm ∧ U.heap = h0) (fun _ _ _ _ _ => True) (fun _ U o U' => ∃ v L, o = .returned v ∧ Q5_4 Z w o1 h0 n0 v U'.heap L ∧ FrameEnd U o U' L ({ frames := 1, cells := 1, slots := 386, locals := 12 } : Room).cells ({ frames := 1, cells := 1, slots := 386, locals := 12 } : Room).slots) := by
  refine MetFree.of_bodySF (plainFor_of_name pnc_2) hisR ?_
  intro p e s m args below meth c s₁ Bd hml0 hP hK
  obtain ⟨rfl, hZ, hh⟩ := hP
  have hx := Bd.exec
  have hby := Bd.bytes
  have hml : c.maxLocals = 2 := hml0
  have hown : s.vm.findClass cs2 = some m.cls := findClass_of_methodNamed Bd.named
  have hnm := (name_of_methodNamed Bd.named Bd.method).1
  have X0 : Stand p l e ({ frames := 1, cells := 1, slots := 386, locals := 12 } : Room) s m #[(.ref o1)] below meth c s₁ [] 0 0 := Stand.of_body Bd
  have e0 : s₁.heap = h0 := by rw [← hh, Bd.state]; rfl
  have N0 := Fr.nil n0
  skip
  have pre0 : ∀ t, Steps p.tables e below (s₁.setTop (mkF m 0 #[.val (.ref o1), .unset] [])) t → Steps p.tables e below (s₁.setTop (entryFrame m #[(.ref o1)] 2)) t := fun t k => castTop (ef_5_4 m o1) k
  obtain ⟨T1, X1, e1, st1⟩ := initO X0 hx hZ hown (wk40 hw) (wk15 hw) (wk16 hw) e0 (g := (mkF m 1 #[.val (.ref o1), .unset] [(.ref o1)])) rfl (by rw [hml]; rfl) rfl (hb hby d5_1) (by decide) (W := 0) (by show 2 * 0 + _ ≤ _; exact Nat.le_of_eq rfl) (by decide)
  obtain ⟨T2, h2, X2, e2, W2, st2⟩ := putF X1 hx hZ hown (host := "") (Or.inl (wk42 hw)) Via.refl e1 f2 f1 (Or.inl (wk43 hw)) (wk35 hw) (ty := .long) (by decide) rfl rfl (g := (mkF m 8 #[.val (.ref o1), .unset] [(.long (-9223372036854775808 : Int64)), (.ref o1)])) rfl rfl (hb hby d5_8)
  have F2 : Fld Z h2 o1 cs2 "time" "J" (.long (-9223372036854775808 : Int64)) := f2.same W2
  have N2 := Fr.snoc X2 N0 g3
  have O3 := O0.wr W2 g3
  obtain ⟨T4, h4, k4, X4, e4, E4, A4, Ov4, st4⟩ := newR X2 hx hZ hown (wk44 hw) (wk45 hw) e2 (g := (mkF m 14 #[.val (.ref o1), .unset] [(.int (386 : Int32))])) rfl (hb hby d5_14) rfl (by decide) (cap := 386) (by decide) (by decide) (by decide) (by decide)
  obtain ⟨b4, g4⟩ : ∃ z, z = h2.size := ⟨_, rfl⟩
  rw [← g4] at A4 st4
  have gg4 : n0 ≤ b4 := by rw [← O3.1, g4]; exact O3.2.1
  have O5 := O3.ext E4
  have V4 : Arv Z h4 b4 k4 (.object cs0) (386 : Int32) [] .null := Arv.new A4 (by decide)
  have t6 := ((f4.other W2 (Or.inr (sn2 hw))).ext E4)
  have t7 := ((f1.wr W2).ext E4)
  obtain ⟨T8, h8, X8, e8, W8, st8⟩ := putF X4 hx hZ hown (host := "") (Or.inl (wk46 hw)) Via.refl e4 t6 t7 (Or.inr ⟨(wk47 hw), rfl, hnm⟩) (wk35 hw) (ty := (.array (.object cs0))) (by decide) rfl rfl (g := (mkF m 20 #[.val (.ref o1), .val (.ref b4)] [(.ref b4), (.ref o1)])) rfl rfl (hb hby d5_20)
  have F8 : Fld Z h8 o1 cs2 "firsts" cs8 (.ref b4) := t6.same W8
  have N8 := Fr.snoc X8 N2 g3
  have O9 := O5.wr W8 g3
  obtain ⟨fs, hr, hrun, hended, hWm, hsame⟩ := X8.leave (v := none) (fun _ => rfl)
  have Kf10 : own_KL h0 h8 [⟨o1, Jvm.RoadKit.slotOf Z cs2 "time" "J"⟩, ⟨o1, Jvm.RoadKit.slotOf Z cs2 "firsts" cs8⟩] := (own_klW (own_klE (own_klW (own_kl0 h0 [⟨o1, Jvm.RoadKit.slotOf Z cs2 "time" "J"⟩, ⟨o1, Jvm.RoadKit.slotOf Z cs2 "firsts" cs8⟩]) W2 (Or.inl (List.mem_of_getElem? (i := 0) rfl))) E4) W8 (Or.inl (List.mem_of_getElem? (i := 1) rfl)))
  have t11 := ((F2.ext E4).other W8 (Or.inr (sn3 hw)))
  have ne12 : o1 ≠ b4 := (Nat.ne_of_lt (Nat.lt_of_lt_of_le (Nat.lt_of_lt_of_le f1.lt (Nat.le_of_eq W2.size.symm)) (Nat.le_of_eq g4.symm)))
  have t13 := (V4.other W8 (Ne.symm ne12))
  refine ⟨_, _, pre0 _ ?_, hrun, hended, _, _, rfl, ?_, ⟨_, rfl⟩, hWm, hsame.mono (by decide) (by decide)⟩
  · show Steps p.tables e below (s₁.setTop (mkF m 0 #[.val (.ref o1), .unset] [])) _
    refine sA X0 hx hby d5_0 rfl rfl ?_
    refine st1 _ ?_
    refine sA X1 hx hby d5_4 rfl rfl ?_
    refine X1.ldc2Long hx hown (mvT hZ (wk41 hw)) (g := (mkF m 5 #[.val (.ref o1), .unset] [(.ref o1)])) rfl (hb hby d5_5) _ ?_
    refine st2 _ ?_
    refine XS.sipush X2.here hx rfl (hb hby d5_11) ?_
    refine st4 _ ?_
    refine XS.astoreN X4.here hx rfl (hb hby d5_17) rfl rfl (l' := #[.val (.ref o1), .val (.ref b4)]) rfl ?_
    refine sA X4 hx hby d5_18 rfl rfl ?_
    refine sA X4 hx hby d5_19 rfl rfl ?_
    refine st8 _ ?_
    exact X8.returnOut hx Bd.returns (hb hby d5_23) hr
  · show Q5_4 Z w o1 h0 n0 _ T8.heap _
    rw [e8]
    exact ⟨b4, k4, rfl, N8, Kf10, t11, t13, F8, (Nat.le_trans (Nat.le_trans (Nat.le_refl _) (Nat.le_of_eq W2.size.symm)) (Nat.le_of_eq g4.symm)), Ov4⟩
theorem d6_0 : decode jdk_33_method_22_code 0 = .ok (.iload_n 0, 1) := by decide +kernel
theorem d6_1 : decode jdk_33_method_22_code 1 = .ok (.bipush (-128), 2) := by decide +kernel
theorem d6_3 : decode jdk_33_method_22_code 3 = .ok (.if_icmp .lt 20, 3) := by decide +kernel
theorem d6_6 : decode jdk_33_method_22_code 6 = .ok (.iload_n 0, 1) := by decide +kernel
theorem d6_7 : decode jdk_33_method_22_code 7 = .ok (.getstatic 191, 3) := by decide +kernel
theorem d6_10 : decode jdk_33_method_22_code 10 = .ok (.if_icmp .gt 13, 3) := by decide +kernel
theorem d6_13 : decode jdk_33_method_22_code 13 = .ok (.getstatic 195, 3) := by decide +kernel
theorem d6_16 : decode jdk_33_method_22_code 16 = .ok (.iload_n 0, 1) := by decide +kernel
theorem d6_17 : decode jdk_33_method_22_code 17 = .ok (.sipush 128, 3) := by decide +kernel
theorem d6_20 : decode jdk_33_method_22_code 20 = .ok (.iadd, 1) := by decide +kernel
theorem d6_21 : decode jdk_33_method_22_code 21 = .ok (.aaload, 1) := by decide +kernel
theorem d6_22 : decode jdk_33_method_22_code 22 = .ok (.areturn, 1) := by decide +kernel
theorem ef_6_5 (m : MethodId) : entryFrame m #[(.int (0 : Int32))] 1 = mkF m 0 #[.val (.int (0 : Int32))] [] := by first | (simp [entryFrame, mkF, argsToLocals, Value.category]; done) | rfl
theorem pnc_3 : plainName "java/lang/Integer" = true := by first | (simp [plainName, overriddenIn]; done) | decide +kernel
def Q6_5 (Z : State) (w : Nat → Addr) (h0 : Heap) (n0 : Nat) (v : Option Value) (h : Heap) (L : List Loc) : Prop := ∃ (y3 : Addr), v = some (.ref y3) ∧ Fr n0 L ∧ own_KL h0 h [] ∧ Exa Z Z.heap y3 cs9 ∧ Fld Z Z.heap y3 cs9 "value" "I" (.int (0 : Int32))
set_option maxRecDepth 65536 in
set_option maxHeartbeats 40000000 in
theorem rm6_5 (l : Launch) (Z : State) (a0 : Array Value) (hw : HW Z a0) (w : Nat → Addr) (hW : Wd Z w) (ws : List Jvm.Cond) (h0 : Heap) (n0 : Nat) (O0 : Old Z n0 h0) :
    MetFree l ym4 (head1 (Jvm.Cond.code ym4 jdk_33_method_22_code 1 (some (.object cs9)) :: ws) ({ frames := 0, cells := 0, slots := 0, locals := 0 } : Room)) (fun a U => a = #[(.int (0 : Int32))] ∧ Z.Warmed39 U.vm ∧ U.heap = h0) (fun _ _ _ _ _ => True) (fun _ U o U' => ∃ v L, o = .returned v ∧ Q6_5 Z w h0 n0 v U'.heap L ∧ FrameEnd U o U' L ({ frames := 0, cells := 0, slots := 0, locals := 0 } : Room).cells ({ frames := 0, cells := 0, slots := 0, locals := 0 } : Room).slots) := by
  refine MetFree.of_bodySF (plainFor_of_name pnc_3) hisR ?_
  intro p e s m args below meth c s₁ Bd hml0 hP hK
  obtain ⟨rfl, hZ, hh⟩ := hP
  have hx := Bd.exec
  have hby := Bd.bytes
  have hml : c.maxLocals = 1 := hml0
  have hown : s.vm.findClass cs9 = some m.cls := findClass_of_methodNamed Bd.named
  have hnm := (name_of_methodNamed Bd.named Bd.method).1
  have X0 : Stand p l e ({ frames := 0, cells := 0, slots := 0, locals := 0 } : Room) s m #[(.int (0 : Int32))] below meth c s₁ [] 0 0 := Stand.of_body Bd
  have e0 : s₁.heap = h0 := by rw [← hh, Bd.state]; rfl
  have N0 := Fr.nil n0
  skip
  have pre0 : ∀ t, Steps p.tables e below (s₁.setTop (mkF m 0 #[.val (.int (0 : Int32))] [])) t → Steps p.tables e below (s₁.setTop (entryFrame m #[(.int (0 : Int32))] 1)) t := fun t k => castTop (ef_6_5 m) k
  obtain ⟨T1, X1, e1, st1⟩ := getS2 X0 hx hZ hown (host := "") (Or.inl (wk55 hw)) Via.refl e0 ((wd0 hW).ext O0.2) (g := (mkF m 7 #[.val (.int (0 : Int32))] [(.int (0 : Int32))])) rfl (hb hby d6_7)
  obtain ⟨T2, X2, e2, st2⟩ := getS2 X1 hx hZ hown (host := "") (Or.inl (wk57 hw)) Via.refl e1 ((wd1 hW).ext O0.2) (g := (mkF m 13 #[.val (.int (0 : Int32))] [])) rfl (hb hby d6_13)
  obtain ⟨cl3, Bx3⟩ := (wd3 hW)
  have hin3 : ¬ ((128 : Int32) < 0 ∨ cl3.slots.size ≤ ((128 : Int32)).toNatClampNeg) := inb_of Bx3.2.1 ⟨by decide, by decide⟩
  obtain ⟨y3, hy3, Ey3, Fy3⟩ := Bx3.2.2.2 _ hin3
  have Fz3 : Fld Z Z.heap y3 cs9 "value" "I" (.int (0 : Int32)) := Fy3
  obtain ⟨fs, hr, hrun, hended, hWm, hsame⟩ := X2.leave (v := some (.ref y3)) (fun h => by rw [Bd.returns] at h; cases h)
  have Kf4 : own_KL h0 h0 [] := (own_kl0 h0 [])
  refine ⟨_, _, pre0 _ ?_, hrun, hended, _, _, rfl, ?_, ⟨_, rfl⟩, hWm, hsame.mono (by decide) (by decide)⟩
  · show Steps p.tables e below (s₁.setTop (mkF m 0 #[.val (.int (0 : Int32))] [])) _
    refine sI X0 hx hby d6_0 rfl ?_
    refine XS.bipush X0.here hx rfl (hb hby d6_1) ?_
    refine sn X0 hx hby d6_3 (by decide) ?_
    refine sI X0 hx hby d6_6 rfl ?_
    refine st1 _ ?_
    refine sn X1 hx hby d6_10 (by decide) ?_
    refine st2 _ ?_
    refine sI X2 hx hby d6_16 rfl ?_
    refine XS.sipush X2.here hx rfl (hb hby d6_17) ?_
    refine XS.iadd X2.here hx rfl (hb hby d6_20) rfl ?_
    refine X2.aaload hx (j := (128 : Int32)) (v := (.ref y3)) (by rw [e2]; exact (Bx3.1.ext O0.2).1) (State.isArrayOf_alike hZ.alike Bx3.1.2.1) rfl Bx3.1.2.2 hin3 hy3 (g := (mkF m 21 #[.val (.int (0 : Int32))] [(.int (128 : Int32)), (.ref (w 0))])) rfl rfl (hb hby d6_21) _ ?_
    jvm_step X2.here [X2.here.top, hx, (hb hby d6_22), X2.method', Bd.returns, Value.isRef, FieldType.isReference]
    first | (intro acts; rw [hr _ acts rfl rfl rfl]) | rw [hr _ _ rfl rfl rfl]
    exact Steps.refl _
  · show Q6_5 Z w h0 n0 _ T2.heap _
    rw [e2]
    exact ⟨y3, rfl, N0, Kf4, Ey3, Fz3⟩
theorem pds_3 : parseMethodDescriptor "(I)Ljava/lang/Integer;" = some ⟨[.int], some (.object "java/lang/Integer")⟩ := by decide +kernel
theorem d7_0 : decode prog_41_method_1_code 0 = .ok (.aload_n 0, 1) := by decide +kernel
theorem d7_1 : decode prog_41_method_1_code 1 = .ok (.invokespecial 1, 3) := by decide +kernel
theorem d7_4 : decode prog_41_method_1_code 4 = .ok (.aload_n 0, 1) := by decide +kernel
theorem d7_5 : decode prog_41_method_1_code 5 = .ok (.iconst (-1), 1) := by decide +kernel
theorem d7_6 : decode prog_41_method_1_code 6 = .ok (.putfield 9, 3) := by decide +kernel
theorem d7_9 : decode prog_41_method_1_code 9 = .ok (.aload_n 0, 1) := by decide +kernel
theorem d7_10 : decode prog_41_method_1_code 10 = .ok (.aload_n 1, 1) := by decide +kernel
theorem d7_11 : decode prog_41_method_1_code 11 = .ok (.putfield 15, 3) := by decide +kernel
theorem d7_14 : decode prog_41_method_1_code 14 = .ok (.aload_n 0, 1) := by decide +kernel
theorem d7_15 : decode prog_41_method_1_code 15 = .ok (.lload 6, 2) := by decide +kernel
theorem d7_17 : decode prog_41_method_1_code 17 = .ok (.putfield 19, 3) := by decide +kernel
theorem d7_20 : decode prog_41_method_1_code 20 = .ok (.aload_n 0, 1) := by decide +kernel
theorem d7_21 : decode prog_41_method_1_code 21 = .ok (.aload_n 2, 1) := by decide +kernel
theorem d7_22 : decode prog_41_method_1_code 22 = .ok (.aload_n 3, 1) := by decide +kernel
theorem d7_23 : decode prog_41_method_1_code 23 = .ok (.lload 4, 2) := by decide +kernel
theorem d7_25 : decode prog_41_method_1_code 25 = .ok (.invokevirtual 23, 3) := by decide +kernel
theorem d8_0 : decode prog_41_method_2_code 0 = .ok (.aload_n 0, 1) := by decide +kernel
theorem d8_1 : decode prog_41_method_2_code 1 = .ok (.aload_n 1, 1) := by decide +kernel
theorem d8_2 : decode prog_41_method_2_code 2 = .ok (.putfield 27, 3) := by decide +kernel
theorem d8_5 : decode prog_41_method_2_code 5 = .ok (.aload_n 2, 1) := by decide +kernel
theorem d8_6 : decode prog_41_method_2_code 6 = .ok (.ifnonnull 11, 3) := by decide +kernel
theorem d8_17 : decode prog_41_method_2_code 17 = .ok (.aload_n 0, 1) := by decide +kernel
theorem d8_18 : decode prog_41_method_2_code 18 = .ok (.aload_n 2, 1) := by decide +kernel
theorem d8_19 : decode prog_41_method_2_code 19 = .ok (.putfield 33, 3) := by decide +kernel
theorem d8_22 : decode prog_41_method_2_code 22 = .ok (.aload_n 0, 1) := by decide +kernel
theorem d8_23 : decode prog_41_method_2_code 23 = .ok (.lload_n 3, 1) := by decide +kernel
theorem d8_24 : decode prog_41_method_2_code 24 = .ok (.invokevirtual 37, 3) := by decide +kernel
theorem d9_0 : decode prog_41_method_6_code 0 = .ok (.aload_n 0, 1) := by decide +kernel
theorem d9_1 : decode prog_41_method_6_code 1 = .ok (.lload_n 1, 1) := by decide +kernel
theorem d9_2 : decode prog_41_method_6_code 2 = .ok (.putfield 67, 3) := by decide +kernel
theorem d9_5 : decode prog_41_method_6_code 5 = .ok (.aload_n 0, 1) := by decide +kernel
theorem d9_6 : decode prog_41_method_6_code 6 = .ok (.lload_n 1, 1) := by decide +kernel
theorem d9_7 : decode prog_41_method_6_code 7 = .ok (.putfield 30, 3) := by decide +kernel
theorem d9_10 : decode prog_41_method_6_code 10 = .ok (.return_, 1) := by decide +kernel
theorem ef_9_6 (m : MethodId) (o1 : Addr) (q2 : Int64) : entryFrame m #[(.ref o1), (.long q2)] 3 = mkF m 0 #[.val (.ref o1), .val (.long q2), .second] [] := by first | (simp [entryFrame, mkF, argsToLocals, Value.category]; done) | rfl
theorem pnc_4 : plainName "com/example/tidemark/tidemark/MemoryEntry" = true := by first | (simp [plainName, overriddenIn]; done) | decide +kernel
def Q9_6 (Z : State) (w : Nat → Addr) (o1 : Addr) (q2 : Int64) (h0 : Heap) (n0 : Nat) (v : Option Value) (h : Heap) (L : List Loc) : Prop := v = none ∧ Fr n0 L ∧ own_KL h0 h [⟨o1, Jvm.RoadKit.slotOf Z cs0 "created" "J"⟩, ⟨o1, Jvm.RoadKit.slotOf Z cs0 "lastUsed" "J"⟩] ∧ Fld Z h o1 cs0 "created" "J" (.long q2) ∧ Fld Z h o1 cs0 "lastUsed" "J" (.long q2)
set_option maxRecDepth 65536 in
set_option maxHeartbeats 40000000 in
theorem rm9_6 (l : Launch) (Z : State) (a0 : Array Value) (hw : HW Z a0) (w : Nat → Addr) (hW : Wd Z w) (ws : List Jvm.Cond) (o1 : Addr) (q2 : Int64) (h0 : Heap) (n0 : Nat) (O0 : Old Z n0 h0) (f1 : Exa Z h0 o1 cs0) (f2 : Fld Z h0 o1 cs0 "created" "J" (.long (0 : Int64))) (g3 : n0 ≤ o1) (f4 : Fld Z h0 o1 cs0 "lastUsed" "J" (.long (0 : Int64))) :
    MetFree l ym5 (head1 (Jvm.Cond.code ym5 prog_41_method_6_code 3 none :: ws) ({ frames := 0, cells := 0, slots := 0, locals := 0 } : Room)) (fun a U => a = #[(.ref o1), (.long q2)] ∧ Z.Warmed39 U.vm ∧ U.heap = h0) (fun _ _ _ _ _ => True) (fun _ U o U' => ∃ v L, o = .returned v ∧ Q9_6 Z w o1 q2 h0 n0 v U'.heap L ∧ FrameEnd U o U' L ({ frames := 0, cells := 0, slots := 0, locals := 0 } : Room).cells ({ frames := 0, cells := 0, slots := 0, locals := 0 } : Room).slots) := by
  refine MetFree.of_bodySF (plainFor_of_name pnc_4) hisR ?_
  intro p e s m args below meth c s₁ Bd hml0 hP hK
  obtain ⟨rfl, hZ, hh⟩ := hP
  have hx := Bd.exec
  have hby := Bd.bytes
  have hml : c.maxLocals = 3 := hml0
  have hown : s.vm.findClass cs0 = some m.cls := findClass_of_methodNamed Bd.named
  have hnm := (name_of_methodNamed Bd.named Bd.method).1
  have X0 : Stand p l e ({ frames := 0, cells := 0, slots := 0, locals := 0 } : Room) s m #[(.ref o1), (.long q2)] below meth c s₁ [] 0 0 := Stand.of_body Bd
  have e0 : s₁.heap = h0 := by rw [← hh, Bd.state]; rfl
  have N0 := Fr.nil n0
  skip
  have pre0 : ∀ t, Steps p.tables e below (s₁.setTop (mkF m 0 #[.val (.ref o1), .val (.long q2), .second] [])) t → Steps p.tables e below (s₁.setTop (entryFrame m #[(.ref o1), (.long q2)] 3)) t := fun t k => castTop (ef_9_6 m o1 q2) k
  obtain ⟨T1, h1, X1, e1, W1, st1⟩ := putF X0 hx hZ hown (host := "") (Or.inl (wk82 hw)) Via.refl e0 f2 f1 (Or.inl (wk83 hw)) (wk49 hw) (ty := .long) (by decide) rfl rfl (g := (mkF m 2 #[.val (.ref o1), .val (.long q2), .second] [(.long q2), (.ref o1)])) rfl rfl (hb hby d9_2)
  have F1 : Fld Z h1 o1 cs0 "created" "J" (.long q2) := f2.same W1
  have N1 := Fr.snoc X1 N0 g3
  have O2 := O0.wr W1 g3
  have t3 := (f4.other W1 (Or.inr (sn8 hw)))
  have t4 := (f1.wr W1)
  obtain ⟨T5, h5, X5, e5, W5, st5⟩ := putF X1 hx hZ hown (host := "") (Or.inl (wk84 hw)) Via.refl e1 t3 t4 (Or.inl (wk85 hw)) (wk49 hw) (ty := .long) (by decide) rfl rfl (g := (mkF m 7 #[.val (.ref o1), .val (.long q2), .second] [(.long q2), (.ref o1)])) rfl rfl (hb hby d9_7)
  have F5 : Fld Z h5 o1 cs0 "lastUsed" "J" (.long q2) := t3.same W5
  have N5 := Fr.snoc X5 N1 g3
  have O6 := O2.wr W5 g3
  obtain ⟨fs, hr, hrun, hended, hWm, hsame⟩ := X5.leave (v := none) (fun _ => rfl)
  have Kf7 : own_KL h0 h5 [⟨o1, Jvm.RoadKit.slotOf Z cs0 "created" "J"⟩, ⟨o1, Jvm.RoadKit.slotOf Z cs0 "lastUsed" "J"⟩] := (own_klW (own_klW (own_kl0 h0 [⟨o1, Jvm.RoadKit.slotOf Z cs0 "created" "J"⟩, ⟨o1, Jvm.RoadKit.slotOf Z cs0 "lastUsed" "J"⟩]) W1 (Or.inl (List.mem_of_getElem? (i := 0) rfl))) W5 (Or.inl (List.mem_of_getElem? (i := 1) rfl)))
  have t8 := (F1.other W5 (Or.inr (sn9 hw)))
  refine ⟨_, _, pre0 _ ?_, hrun, hended, _, _, rfl, ?_, ⟨_, rfl⟩, hWm, hsame.mono (by decide) (by decide)⟩
  · show Steps p.tables e below (s₁.setTop (mkF m 0 #[.val (.ref o1), .val (.long q2), .second] [])) _
    refine sA X0 hx hby d9_0 rfl rfl ?_
    refine sL X0 hx hby d9_1 rfl ?_
    refine st1 _ ?_
    refine sA X1 hx hby d9_5 rfl rfl ?_
    refine sL X1 hx hby d9_6 rfl ?_
    refine st5 _ ?_
    exact X5.returnOut hx Bd.returns (hb hby d9_10) hr
  · show Q9_6 Z w o1 q2 h0 n0 _ T5.heap _
    rw [e5]
    exact ⟨rfl, N5, Kf7, t8, F5⟩
theorem pds_4 : parseMethodDescriptor "(J)V" = some ⟨[.long], none⟩ := by decide +kernel
theorem d8_27 : decode prog_41_method_2_code 27 = .ok (.aload_n 0, 1) := by decide +kernel
theorem d8_28 : decode prog_41_method_2_code 28 = .ok (.aload_n 0, 1) := by decide +kernel
theorem d8_29 : decode prog_41_method_2_code 29 = .ok (.getfield 33, 3) := by decide +kernel
theorem d8_32 : decode prog_41_method_2_code 32 = .ok (.invokevirtual 41, 3) := by decide +kernel
theorem d10_0 : decode prog_22_method_5_code 0 = .ok (.aload_n 0, 1) := by decide +kernel
theorem d10_1 : decode prog_22_method_5_code 1 = .ok (.getfield 17, 3) := by decide +kernel
theorem d10_4 : decode prog_22_method_5_code 4 = .ok (.ldc2_w 29, 3) := by decide +kernel
theorem d10_7 : decode prog_22_method_5_code 7 = .ok (.lcmp, 1) := by decide +kernel
theorem d10_8 : decode prog_22_method_5_code 8 = .ok (.ifCond .ne 14, 3) := by decide +kernel
theorem d10_22 : decode prog_22_method_5_code 22 = .ok (.iconst 1, 1) := by decide +kernel
theorem d10_23 : decode prog_22_method_5_code 23 = .ok (.goto 4, 3) := by decide +kernel
theorem d10_27 : decode prog_22_method_5_code 27 = .ok (.ireturn, 1) := by decide +kernel
theorem ef_10_7 (m : MethodId) (o1 : Addr) : entryFrame m #[(.ref o1)] 1 = mkF m 0 #[.val (.ref o1)] [] := by first | (simp [entryFrame, mkF, argsToLocals, Value.category]; done) | rfl
def Q10_7 (Z : State) (w : Nat → Addr) (o1 : Addr) (q2 : Int64) (h0 : Heap) (n0 : Nat) (v : Option Value) (h : Heap) (L : List Loc) : Prop := v = some (.int (1 : Int32)) ∧ Fr n0 L ∧ h = h0
set_option maxRecDepth 65536 in
set_option maxHeartbeats 40000000 in
theorem rm10_7 (l : Launch) (Z : State) (a0 : Array Value) (hw : HW Z a0) (w : Nat → Addr) (hW : Wd Z w) (ws : List Jvm.Cond) (o1 : Addr) (q2 : Int64) (h0 : Heap) (n0 : Nat) (O0 : Old Z n0 h0) (f1 : Fld Z h0 o1 cs5 "lifespan" "J" (.long q2)) (c2 : ¬ (q2 = (-1 : Int64))) :
    MetFree l ym6 (head1 (Jvm.Cond.code ym6 prog_22_method_5_code 1 (some .boolean) :: ws) ({ frames := 0, cells := 0, slots := 0, locals := 0 } : Room)) (fun a U => a = #[(.ref o1)] ∧ Z.Warmed39 U.vm ∧ U.heap = h0) (fun _ _ _ _ _ => True) (fun _ U o U' => ∃ v L, o = .returned v ∧ Q10_7 Z w o1 q2 h0 n0 v U'.heap L ∧ FrameEnd U o U' L ({ frames := 0, cells := 0, slots := 0, locals := 0 } : Room).cells ({ frames := 0, cells := 0, slots := 0, locals := 0 } : Room).slots) := by
  refine MetFree.of_bodySF (plainFor_of_name pnc_1) hisR ?_
  intro p e s m args below meth c s₁ Bd hml0 hP hK
  obtain ⟨rfl, hZ, hh⟩ := hP
  have hx := Bd.exec
  have hby := Bd.bytes
  have hml : c.maxLocals = 1 := hml0
  have hown : s.vm.findClass cs5 = some m.cls := findClass_of_methodNamed Bd.named
  have hnm := (name_of_methodNamed Bd.named Bd.method).1
  have X0 : Stand p l e ({ frames := 0, cells := 0, slots := 0, locals := 0 } : Room) s m #[(.ref o1)] below meth c s₁ [] 0 0 := Stand.of_body Bd
  have e0 : s₁.heap = h0 := by rw [← hh, Bd.state]; rfl
  have N0 := Fr.nil n0
  skip
  have pre0 : ∀ t, Steps p.tables e below (s₁.setTop (mkF m 0 #[.val (.ref o1)] [])) t → Steps p.tables e below (s₁.setTop (entryFrame m #[(.ref o1)] 1)) t := fun t k => castTop (ef_10_7 m o1) k
  obtain ⟨T1, X1, e1, st1⟩ := getF X0 hx hZ hown (host := "") (Or.inl (wk30 hw)) Via.refl e0 f1 (g := (mkF m 1 #[.val (.ref o1)] [(.ref o1)])) rfl rfl (hb hby d10_1)
  obtain ⟨fs, hr, hrun, hended, hWm, hsame⟩ := X1.leave (v := some (.int (1 : Int32))) (fun h => by rw [Bd.returns] at h; cases h)
  refine ⟨_, _, pre0 _ ?_, hrun, hended, _, _, rfl, ?_, ⟨_, rfl⟩, hWm, hsame.mono (by decide) (by decide)⟩
  · show Steps p.tables e below (s₁.setTop (mkF m 0 #[.val (.ref o1)] [])) _
    refine sA X0 hx hby d10_0 rfl rfl ?_
    refine st1 _ ?_
    refine X1.ldc2Long hx hown (mvT hZ (wk28 hw)) (g := (mkF m 4 #[.val (.ref o1)] [(.long q2)])) rfl (hb hby d10_4) _ ?_
    refine XS.lcmp X1.here hx rfl (hb hby d10_7) rfl ?_
    refine XS.ifYes X1.here hx rfl (pc0 := 8) (pc' := 22) rfl (hb hby d10_8) rfl ((if0 _ _).trans (feq ((fun q => c2 ((lw_eq _ _).mp q)) : ¬ ((lcmpW q2 (-1 : Int64)) = (0 : Int32)))).2) (by decide) (by decide) ?_
    refine sc X1 hx hby d10_22 ?_
    refine sg (pc := 23) (pc' := 27) X1 hx hby d10_23 (by decide) (by decide) ?_
    show Steps p.tables e below (T1.setTop (mkF m 27 #[.val (.ref o1)] [(.int (1 : Int32))])) _
    exact retN X1 hx (t := .boolean) Bd.returns (by simp) (hb hby d10_27) hr
  · show Q10_7 Z w o1 q2 h0 n0 _ T1.heap _
    rw [e1]
    exact ⟨rfl, N0, rfl⟩
theorem pds_5 : parseMethodDescriptor "()Z" = some ⟨[], some .boolean⟩ := by decide +kernel
theorem d8_35 : decode prog_41_method_2_code 35 = .ok (.ifCond .eq 7, 3) := by decide +kernel
theorem d8_38 : decode prog_41_method_2_code 38 = .ok (.aconst_null, 1) := by decide +kernel
theorem d8_39 : decode prog_41_method_2_code 39 = .ok (.goto 4, 3) := by decide +kernel
theorem d8_43 : decode prog_41_method_2_code 43 = .ok (.putfield 47, 3) := by decide +kernel
theorem d8_46 : decode prog_41_method_2_code 46 = .ok (.return_, 1) := by decide +kernel
theorem ef_8_8 (m : MethodId) (o1 : Addr) (o2 : Addr) (o3 : Addr) (q4 : Int64) : entryFrame m #[(.ref o1), (.ref o2), (.ref o3), (.long q4)] 5 = mkF m 0 #[.val (.ref o1), .val (.ref o2), .val (.ref o3), .val (.long q4), .second] [] := by first | (simp [entryFrame, mkF, argsToLocals, Value.category]; done) | rfl
def Q8_8 (Z : State) (w : Nat → Addr) (o1 : Addr) (o2 : Addr) (o3 : Addr) (q4 : Int64) (q5 : Int64) (h0 : Heap) (n0 : Nat) (v : Option Value) (h : Heap) (L : List Loc) : Prop := v = none ∧ Fr n0 L ∧ own_KL h0 h [⟨o1, Jvm.RoadKit.slotOf Z cs0 "value" cs6⟩, ⟨o1, Jvm.RoadKit.slotOf Z cs0 "expiry" cs7⟩, ⟨o1, Jvm.RoadKit.slotOf Z cs0 "created" "J"⟩, ⟨o1, Jvm.RoadKit.slotOf Z cs0 "lastUsed" "J"⟩, ⟨o1, Jvm.RoadKit.slotOf Z cs0 cs10 cs6⟩] ∧ Fld Z h o1 cs0 "value" cs6 (.ref o2) ∧ Fld Z h o1 cs0 "expiry" cs7 (.ref o3) ∧ Fld Z h o1 cs0 "created" "J" (.long q4) ∧ Fld Z h o1 cs0 "lastUsed" "J" (.long q4) ∧ Fld Z h o1 cs0 cs10 cs6 .null
set_option maxRecDepth 65536 in
set_option maxHeartbeats 40000000 in
theorem rm8_8 (l : Launch) (Z : State) (a0 : Array Value) (hw : HW Z a0) (w : Nat → Addr) (hW : Wd Z w) (ws : List Jvm.Cond) (o1 : Addr) (o2 : Addr) (o3 : Addr) (q4 : Int64) (q5 : Int64) (h0 : Heap) (n0 : Nat) (O0 : Old Z n0 h0) (f1 : Exa Z h0 o1 cs0) (f2 : Fld Z h0 o1 cs0 "value" cs6 .null) (g3 : n0 ≤ o1) (f4 : Fld Z h0 o1 cs0 "expiry" cs7 .null) (f5 : Fld Z h0 o1 cs0 "created" "J" (.long (0 : Int64))) (f6 : Fld Z h0 o1 cs0 "lastUsed" "J" (.long (0 : Int64))) (f7 : Exa Z h0 o3 cs5) (f8 : Fld Z h0 o3 cs5 "lifespan" "J" (.long q5)) (c9 : ¬ (q5 = (-1 : Int64))) (u10 : o3 ≠ o1) (f11 : Fld Z h0 o1 cs0 cs10 cs6 .null) :
    MetFree l ym7 (head1 (Jvm.Cond.code ym7 prog_41_method_2_code 5 none :: ws) ({ frames := 1, cells := 0, slots := 0, locals := 14 } : Room)) (fun a U => a = #[(.ref o1), (.ref o2), (.ref o3), (.long q4)] ∧ Z.Warmed39 U.vm ∧ U.heap = h0) (fun _ _ _ _ _ => True) (fun _ U o U' => ∃ v L, o = .returned v ∧ Q8_8 Z w o1 o2 o3 q4 q5 h0 n0 v U'.heap L ∧ FrameEnd U o U' L ({ frames := 1, cells := 0, slots := 0, locals := 14 } : Room).cells ({ frames := 1, cells := 0, slots := 0, locals := 14 } : Room).slots) := by
  refine MetFree.of_bodySF (plainFor_of_name pnc_4) hisR ?_
  intro p e s m args below meth c s₁ Bd hml0 hP hK
  obtain ⟨rfl, hZ, hh⟩ := hP
  have hx := Bd.exec
  have hby := Bd.bytes
  have hml : c.maxLocals = 5 := hml0
  have hown : s.vm.findClass cs0 = some m.cls := findClass_of_methodNamed Bd.named
  have hnm := (name_of_methodNamed Bd.named Bd.method).1
  have X0 : Stand p l e ({ frames := 1, cells := 0, slots := 0, locals := 14 } : Room) s m #[(.ref o1), (.ref o2), (.ref o3), (.long q4)] below meth c s₁ [] 0 0 := Stand.of_body Bd
  have e0 : s₁.heap = h0 := by rw [← hh, Bd.state]; rfl
  have N0 := Fr.nil n0
  let La : Array Slot := #[.val (.ref o1), .val (.ref o2), .val (.ref o3), .val (.long q4), .second]
  have pre0 : ∀ t, Steps p.tables e below (s₁.setTop (mkF m 0 #[.val (.ref o1), .val (.ref o2), .val (.ref o3), .val (.long q4), .second] [])) t → Steps p.tables e below (s₁.setTop (entryFrame m #[(.ref o1), (.ref o2), (.ref o3), (.long q4)] 5)) t := fun t k => castTop (ef_8_8 m o1 o2 o3 q4) k
  obtain ⟨T1, h1, X1, e1, W1, st1⟩ := putF X0 hx hZ hown (host := "") (Or.inl (wk73 hw)) Via.refl e0 f2 f1 (Or.inl (wk74 hw)) (wk49 hw) (ty := (.object cs11)) (by decide) rfl rfl (g := (mkF m 2 La [(.ref o2), (.ref o1)])) rfl rfl (hb hby d8_2)
  have F1 : Fld Z h1 o1 cs0 "value" cs6 (.ref o2) := f2.same W1
  have N1 := Fr.snoc X1 N0 g3
  have O2 := O0.wr W1 g3
  have t3 := (f4.other W1 (Or.inr (sn7 hw)))
  have t4 := (f1.wr W1)
  obtain ⟨T5, h5, X5, e5, W5, st5⟩ := putF X1 hx hZ hown (host := "") (Or.inl (wk75 hw)) Via.refl e1 t3 t4 (Or.inl (wk76 hw)) (wk49 hw) (ty := (.object cs5)) (by decide) rfl rfl (g := (mkF m 19 La [(.ref o3), (.ref o1)])) rfl rfl (hb hby d8_19)
  have F5 : Fld Z h5 o1 cs0 "expiry" cs7 (.ref o3) := t3.same W5
  have N5 := Fr.snoc X5 N1 g3
  have O6 := O2.wr W5 g3
  have t7 := (t4.wr W5)
  have t8 := ((f5.other W1 (Or.inr (sn10 hw))).other W5 (Or.inr (sn11 hw)))
  have t9 := ((f6.other W1 (Or.inr (sn12 hw))).other W5 (Or.inr (sn13 hw)))
  obtain ⟨cq10, kq10, q10a, q10b, q10c⟩ := isOf hZ e5 t7
  obtain ⟨_, _, ⟨T10, L10, kk10, nn10⟩, -, X10, ⟨Lc10, hQ10, l10, y10, z10⟩, st10⟩ := X5.virtualBack hx (y := ym5) (z := ym5) hown (mvT hZ (wk77 hw)) (mvT hZ (wk78 hw)) (notFace_of_selects (args := #[]) (mvT hZ (wk80 hw))) (mvT hZ (wk80 hw)) (mvT hZ (wk79 hw)) (by decide) (backOf (W := 0) (rm9_6 l Z a0 hw w hW [] o1 q4 h5 n0 O6 t7 t8 g3 t9) hZ (wk81 hw) (wk50 hw) (by decide) (by decide)) q10a q10c (g := (mkF m 24 La [(.long q4), (.ref o1)])) rfl (by rw [hml]; rfl) (Steps.refl _) (argsL := [(.long q4)]) (rest := []) (lenOf pds_4 rfl) rfl (by show 2 * 0 + _ ≤ _; exact Nat.le_of_eq rfl) (hb hby d8_24) (fun _ _ => ⟨rfl, e5, (by decide : 0 + 0 ≤ _), (by decide : 0 + 0 ≤ _)⟩)
  dsimp only [Pt.U, Pt.locs, Pt.cells, Pt.slots] at X10 l10 y10 z10 st10 hQ10
  rw [l10, y10, z10] at X10
  obtain ⟨rfl, N10q, K10, r10_0, r10_1⟩ := hQ10
  have N10 := Fr.app N5 N10q
  have O11 := own_old O6 K10 (own_ngc g3 (own_ngc g3 own_ng0))
  have t12 := (own_fld F5 K10 (own_nls (sn15 hw) (own_nls (sn14 hw) own_nl0)))
  obtain ⟨T13, X13, e13, st13⟩ := getF X10 hx hZ hown (host := "") (Or.inl (wk75 hw)) Via.refl rfl t12 (g := (mkF m 29 La [(.ref o1), (.ref o1)])) rfl rfl (hb hby d8_29)
  have t14 := (own_fld ((f8.other W1 (Or.inl u10)).other W5 (Or.inl u10)) K10 (own_nlb u10 (own_nlb u10 own_nl0)))
  have t16 := (own_exa ((f7.wr W1).wr W5) K10)
  obtain ⟨cq15, kq15, q15a, q15b, q15c⟩ := isOf hZ e13 t16
  obtain ⟨_, _, ⟨T15, L15, kk15, nn15⟩, -, X15, ⟨Lc15, hQ15, l15, y15, z15⟩, st15⟩ := X13.virtualBack hx (y := ym6) (z := ym6) hown (mvT hZ (wk86 hw)) (mvT hZ (wk87 hw)) (notFace_of_selects (args := #[]) (mvT hZ (wk89 hw))) (mvT hZ (wk89 hw)) (mvT hZ (wk88 hw)) (by decide) (backOf (W := 1) (rm10_7 l Z a0 hw w hW [] o3 q5 T10.heap n0 O11 t14 c9) hZ (wk90 hw) (wk4 hw) (by decide) (by decide)) q15a q15c (g := (mkF m 32 La [(.ref o3), (.ref o1)])) rfl (by rw [hml]; rfl) (Steps.refl _) (argsL := []) (rest := [(.ref o1)]) (lenOf pds_5 rfl) rfl (by show 2 * 0 + _ ≤ _; exact Nat.le_of_eq rfl) (hb hby d8_32) (fun _ _ => ⟨rfl, e13, (by decide : 0 + 0 ≤ _), (by decide : 0 + 0 ≤ _)⟩)
  dsimp only [Pt.U, Pt.locs, Pt.cells, Pt.slots] at X15 l15 y15 z15 st15 hQ15
  rw [l15, y15, z15] at X15
  obtain ⟨rfl, N15q, e15⟩ := hQ15
  have N15 := Fr.app N10 N15q
  have t17 := (own_fld ((f11.other W1 (Or.inr (sn16 hw))).other W5 (Or.inr (sn17 hw))) K10 (own_nls (sn19 hw) (own_nls (sn18 hw) own_nl0)))
  have t18 := (own_exa t7 K10)
  obtain ⟨T19, h19, X19, e19, W19, st19⟩ := putF X15 hx hZ hown (host := "") (Or.inl (wk91 hw)) Via.refl e15 t17 t18 (Or.inl (wk92 hw)) (wk49 hw) (ty := (.object cs11)) (by decide) rfl rfl (g := (mkF m 43 La [.null, (.ref o1)])) rfl rfl (hb hby d8_43)
  have F19 : Fld Z h19 o1 cs0 cs10 cs6 .null := t17.same W19
  have N19 := Fr.snoc X19 N15 g3
  have O20 := O11.wr W19 g3
  obtain ⟨fs, hr, hrun, hended, hWm, hsame⟩ := X19.leave (v := none) (fun _ => rfl)
  have Kf21 : own_KL h0 h19 [⟨o1, Jvm.RoadKit.slotOf Z cs0 "value" cs6⟩, ⟨o1, Jvm.RoadKit.slotOf Z cs0 "expiry" cs7⟩, ⟨o1, Jvm.RoadKit.slotOf Z cs0 "created" "J"⟩, ⟨o1, Jvm.RoadKit.slotOf Z cs0 "lastUsed" "J"⟩, ⟨o1, Jvm.RoadKit.slotOf Z cs0 cs10 cs6⟩] := (own_klW (own_klT (own_klW (own_klW (own_kl0 h0 [⟨o1, Jvm.RoadKit.slotOf Z cs0 "value" cs6⟩, ⟨o1, Jvm.RoadKit.slotOf Z cs0 "expiry" cs7⟩, ⟨o1, Jvm.RoadKit.slotOf Z cs0 "created" "J"⟩, ⟨o1, Jvm.RoadKit.slotOf Z cs0 "lastUsed" "J"⟩, ⟨o1, Jvm.RoadKit.slotOf Z cs0 cs10 cs6⟩]) W1 (Or.inl (List.mem_of_getElem? (i := 0) rfl))) W5 (Or.inl (List.mem_of_getElem? (i := 1) rfl))) K10 (own_kac (Or.inl (List.mem_of_getElem? (i := 2) rfl)) (own_kac (Or.inl (List.mem_of_getElem? (i := 3) rfl)) own_ka0))) W19 (Or.inl (List.mem_of_getElem? (i := 4) rfl)))
  have t22 := ((own_fld (F1.other W5 (Or.inr (sn20 hw))) K10 (own_nls (sn22 hw) (own_nls (sn21 hw) own_nl0))).other W19 (Or.inr (sn23 hw)))
  have t23 := (t12.other W19 (Or.inr (sn24 hw)))
  have t24 := (r10_0.other W19 (Or.inr (sn25 hw)))
  have t25 := (r10_1.other W19 (Or.inr (sn26 hw)))
  refine ⟨_, _, pre0 _ ?_, hrun, hended, _, _, rfl, ?_, ⟨_, rfl⟩, hWm, hsame.mono (by decide) (by decide)⟩
  · show Steps p.tables e below (s₁.setTop (mkF m 0 La [])) _
    refine sA X0 hx hby d8_0 rfl rfl ?_
    refine sA X0 hx hby d8_1 rfl rfl ?_
    refine st1 _ ?_
    refine sA X1 hx hby d8_5 rfl rfl ?_
    refine XS.ifnonnullYes X1.here hx rfl (pc0 := 6) (pc' := 17) rfl (hb hby d8_6) rfl (by decide) (by decide) ?_
    refine sA X1 hx hby d8_17 rfl rfl ?_
    refine sA X1 hx hby d8_18 rfl rfl ?_
    refine st5 _ ?_
    refine sA X5 hx hby d8_22 rfl rfl ?_
    refine sL X5 hx hby d8_23 rfl ?_
    refine st10.trans ?_
    refine sA X10 hx hby d8_27 rfl rfl ?_
    refine sA X10 hx hby d8_28 rfl rfl ?_
    refine st13 _ ?_
    refine st15.trans ?_
    refine sN X15 hx hby d8_35 (by decide) ?_
    refine XS.aconstNull X15.here hx rfl (hb hby d8_38) ?_
    refine sg (pc := 39) (pc' := 43) X15 hx hby d8_39 (by decide) (by decide) ?_
    refine st19 _ ?_
    exact X19.returnOut hx Bd.returns (hb hby d8_46) hr
  · show Q8_8 Z w o1 o2 o3 q4 q5 h0 n0 _ T19.heap _
    rw [e19]
    exact ⟨rfl, N19, Kf21, t22, t23, t24, t25, F19⟩
theorem pds_6 : parseMethodDescriptor "(Ljava/lang/Object;Lcom/example/tidemark/tidemark/Expiry;J)V" = some ⟨[(.object "java/lang/Object"), (.object "com/example/tidemark/tidemark/Expiry"), .long], none⟩ := by decide +kernel
theorem d7_28 : decode prog_41_method_1_code 28 = .ok (.return_, 1) := by decide +kernel
theorem ef_7_9 (m : MethodId) (o1 : Addr) (o2 : Addr) (o3 : Addr) (o4 : Addr) (q5 : Int64) : entryFrame m #[(.ref o1), (.ref o2), (.ref o3), (.ref o4), (.long q5), (.long (0 : Int64))] 8 = mkF m 0 #[.val (.ref o1), .val (.ref o2), .val (.ref o3), .val (.ref o4), .val (.long q5), .second, .val (.long (0 : Int64)), .second] [] := by first | (simp [entryFrame, mkF, argsToLocals, Value.category]; done) | rfl
def Q7_9 (Z : State) (w : Nat → Addr) (o1 : Addr) (o2 : Addr) (o3 : Addr) (o4 : Addr) (q5 : Int64) (q6 : Int64) (h0 : Heap) (n0 : Nat) (v : Option Value) (h : Heap) (L : List Loc) : Prop := v = none ∧ Fr n0 L ∧ own_KL h0 h [⟨o1, Jvm.RoadKit.slotOf Z cs0 "slot" "I"⟩, ⟨o1, Jvm.RoadKit.slotOf Z cs0 "key" cs6⟩, ⟨o1, Jvm.RoadKit.slotOf Z cs0 "charge" "J"⟩, ⟨o1, Jvm.RoadKit.slotOf Z cs0 "value" cs6⟩, ⟨o1, Jvm.RoadKit.slotOf Z cs0 "expiry" cs7⟩, ⟨o1, Jvm.RoadKit.slotOf Z cs0 "created" "J"⟩, ⟨o1, Jvm.RoadKit.slotOf Z cs0 "lastUsed" "J"⟩, ⟨o1, Jvm.RoadKit.slotOf Z cs0 cs10 cs6⟩] ∧ Fld Z h o1 cs0 "slot" "I" (.int (-1 : Int32)) ∧ Fld Z h o1 cs0 "key" cs6 (.ref o2) ∧ Fld Z h o1 cs0 "charge" "J" (.long (0 : Int64)) ∧ Fld Z h o1 cs0 "value" cs6 (.ref o3) ∧ Fld Z h o1 cs0 "expiry" cs7 (.ref o4) ∧ Fld Z h o1 cs0 "created" "J" (.long q5) ∧ Fld Z h o1 cs0 "lastUsed" "J" (.long q5) ∧ Fld Z h o1 cs0 cs10 cs6 .null
set_option maxRecDepth 65536 in
set_option maxHeartbeats 40000000 in
theorem rm7_9 (l : Launch) (Z : State) (a0 : Array Value) (hw : HW Z a0) (w : Nat → Addr) (hW : Wd Z w) (ws : List Jvm.Cond) (o1 : Addr) (o2 : Addr) (o3 : Addr) (o4 : Addr) (q5 : Int64) (q6 : Int64) (h0 : Heap) (n0 : Nat) (O0 : Old Z n0 h0) (f1 : Exa Z h0 o1 cs0) (f2 : Fld Z h0 o1 cs0 "slot" "I" (.int (0 : Int32))) (g3 : n0 ≤ o1) (f4 : Fld Z h0 o1 cs0 "key" cs6 .null) (f5 : Fld Z h0 o1 cs0 "charge" "J" (.long (0 : Int64))) (f6 : Fld Z h0 o1 cs0 "value" cs6 .null) (f7 : Fld Z h0 o1 cs0 "expiry" cs7 .null) (f8 : Fld Z h0 o1 cs0 "created" "J" (.long (0 : Int64))) (f9 : Fld Z h0 o1 cs0 "lastUsed" "J" (.long (0 : Int64))) (f10 : Exa Z h0 o4 cs5) (f11 : Fld Z h0 o4 cs5 "lifespan" "J" (.long q6)) (c12 : ¬ (q6 = (-1 : Int64))) (f13 : Fld Z h0 o1 cs0 cs10 cs6 .null) (u14 : o4 ≠ o1) :
    MetFree l ym8 (head1 (Jvm.Cond.code ym8 prog_41_method_1_code 8 none :: ws) ({ frames := 2, cells := 0, slots := 0, locals := 30 } : Room)) (fun a U => a = #[(.ref o1), (.ref o2), (.ref o3), (.ref o4), (.long q5), (.long (0 : Int64))] ∧ Z.Warmed39 U.vm ∧ U.heap = h0) (fun _ _ _ _ _ => True) (fun _ U o U' => ∃ v L, o = .returned v ∧ Q7_9 Z w o1 o2 o3 o4 q5 q6 h0 n0 v U'.heap L ∧ FrameEnd U o U' L ({ frames := 2, cells := 0, slots := 0, locals := 30 } : Room).cells ({ frames := 2, cells := 0, slots := 0, locals := 30 } : Room).slots) := by
  refine MetFree.of_bodySF (plainFor_of_name pnc_4) hisR ?_
  intro p e s m args below meth c s₁ Bd hml0 hP hK
  obtain ⟨rfl, hZ, hh⟩ := hP
  have hx := Bd.exec
  have hby := Bd.bytes
  have hml : c.maxLocals = 8 := hml0
  have hown : s.vm.findClass cs0 = some m.cls := findClass_of_methodNamed Bd.named
  have hnm := (name_of_methodNamed Bd.named Bd.method).1
  have X0 : Stand p l e ({ frames := 2, cells := 0, slots := 0, locals := 30 } : Room) s m #[(.ref o1), (.ref o2), (.ref o3), (.ref o4), (.long q5), (.long (0 : Int64))] below meth c s₁ [] 0 0 := Stand.of_body Bd
  have e0 : s₁.heap = h0 := by rw [← hh, Bd.state]; rfl
  have N0 := Fr.nil n0
  let La : Array Slot := #[.val (.ref o1), .val (.ref o2), .val (.ref o3), .val (.ref o4), .val (.long q5), .second, .val (.long (0 : Int64)), .second]
  have pre0 : ∀ t, Steps p.tables e below (s₁.setTop (mkF m 0 #[.val (.ref o1), .val (.ref o2), .val (.ref o3), .val (.ref o4), .val (.long q5), .second, .val (.long (0 : Int64)), .second] [])) t → Steps p.tables e below (s₁.setTop (entryFrame m #[(.ref o1), (.ref o2), (.ref o3), (.ref o4), (.long q5), (.long (0 : Int64))] 8)) t := fun t k => castTop (ef_7_9 m o1 o2 o3 o4 q5) k
  obtain ⟨T1, X1, e1, st1⟩ := initO X0 hx hZ hown (wk61 hw) (wk15 hw) (wk16 hw) e0 (g := (mkF m 1 La [(.ref o1)])) rfl (by rw [hml]; rfl) rfl (hb hby d7_1) (by decide) (W := 0) (by show 2 * 0 + _ ≤ _; exact Nat.le_of_eq rfl) (by decide)
  obtain ⟨T2, h2, X2, e2, W2, st2⟩ := putF X1 hx hZ hown (host := "") (Or.inl (wk62 hw)) Via.refl e1 f2 f1 (Or.inl (wk63 hw)) (wk49 hw) (ty := .int) (by decide) rfl rfl (g := (mkF m 6 La [(.int (-1 : Int32)), (.ref o1)])) rfl rfl (hb hby d7_6)
  have F2 : Fld Z h2 o1 cs0 "slot" "I" (.int (-1 : Int32)) := f2.same W2
  have N2 := Fr.snoc X2 N0 g3
  have O3 := O0.wr W2 g3
  have t4 := (f4.other W2 (Or.inr (sn4 hw)))
  have t5 := (f1.wr W2)
  obtain ⟨T6, h6, X6, e6, W6, st6⟩ := putF X2 hx hZ hown (host := "") (Or.inl (wk64 hw)) Via.refl e2 t4 t5 (Or.inr ⟨(wk65 hw), rfl, hnm⟩) (wk49 hw) (ty := (.object cs11)) (by decide) rfl rfl (g := (mkF m 11 La [(.ref o2), (.ref o1)])) rfl rfl (hb hby d7_11)
  have F6 : Fld Z h6 o1 cs0 "key" cs6 (.ref o2) := t4.same W6
  have N6 := Fr.snoc X6 N2 g3
  have O7 := O3.wr W6 g3
  have t8 := ((f5.other W2 (Or.inr (sn5 hw))).other W6 (Or.inr (sn6 hw)))
  have t9 := (t5.wr W6)
  obtain ⟨T10, h10, X10, e10, W10, st10⟩ := putF X6 hx hZ hown (host := "") (Or.inl (wk66 hw)) Via.refl e6 t8 t9 (Or.inl (wk67 hw)) (wk49 hw) (ty := .long) (by decide) rfl rfl (g := (mkF m 17 La [(.long (0 : Int64)), (.ref o1)])) rfl rfl (hb hby d7_17)
  have F10 : Fld Z h10 o1 cs0 "charge" "J" (.long (0 : Int64)) := t8.same W10
  have N10 := Fr.snoc X10 N6 g3
  have O11 := O7.wr W10 g3
  have t12 := (t9.wr W10)
  have t13 := (((f6.other W2 (Or.inr (sn27 hw))).other W6 (Or.inr (sn28 hw))).other W10 (Or.inr (sn29 hw)))
  have t14 := (((f7.other W2 (Or.inr (sn30 hw))).other W6 (Or.inr (sn31 hw))).other W10 (Or.inr (sn32 hw)))
  have t15 := (((f8.other W2 (Or.inr (sn33 hw))).other W6 (Or.inr (sn34 hw))).other W10 (Or.inr (sn35 hw)))
  have t16 := (((f9.other W2 (Or.inr (sn36 hw))).other W6 (Or.inr (sn37 hw))).other W10 (Or.inr (sn38 hw)))
  have t17 := (((f10.wr W2).wr W6).wr W10)
  have t18 := (((f11.other W2 (Or.inl u14)).other W6 (Or.inl u14)).other W10 (Or.inl u14))
  have t19 := (((f13.other W2 (Or.inr (sn39 hw))).other W6 (Or.inr (sn40 hw))).other W10 (Or.inr (sn41 hw)))
  obtain ⟨cq20, kq20, q20a, q20b, q20c⟩ := isOf hZ e10 t12
  obtain ⟨_, _, ⟨T20, L20, kk20, nn20⟩, -, X20, ⟨Lc20, hQ20, l20, y20, z20⟩, st20⟩ := X10.virtualBack hx (y := ym7) (z := ym7) hown (mvT hZ (wk68 hw)) (mvT hZ (wk69 hw)) (notFace_of_selects (args := #[]) (mvT hZ (wk71 hw))) (mvT hZ (wk71 hw)) (mvT hZ (wk70 hw)) (by decide) (backOf (W := 0) (rm8_8 l Z a0 hw w hW [] o1 o3 o4 q5 q6 h10 n0 O11 t12 t13 g3 t14 t15 t16 t17 t18 c12 u14 t19) hZ (wk72 hw) (wk50 hw) (by decide) (by decide)) q20a q20c (g := (mkF m 25 La [(.long q5), (.ref o4), (.ref o3), (.ref o1)])) rfl (by rw [hml]; rfl) (Steps.refl _) (argsL := [(.ref o3), (.ref o4), (.long q5)]) (rest := []) (lenOf pds_6 rfl) rfl (by show 2 * 0 + _ ≤ _; exact Nat.le_of_eq rfl) (hb hby d7_25) (fun _ _ => ⟨rfl, e10, (by decide : 0 + 0 ≤ _), (by decide : 0 + 0 ≤ _)⟩)
  dsimp only [Pt.U, Pt.locs, Pt.cells, Pt.slots] at X20 l20 y20 z20 st20 hQ20
  rw [l20, y20, z20] at X20
  obtain ⟨rfl, N20q, K20, r20_0, r20_1, r20_2, r20_3, r20_4⟩ := hQ20
  have N20 := Fr.app N10 N20q
  have O21 := own_old O11 K20 (own_ngc g3 (own_ngc g3 (own_ngc g3 (own_ngc g3 (own_ngc g3 own_ng0)))))
  obtain ⟨fs, hr, hrun, hended, hWm, hsame⟩ := X20.leave (v := none) (fun _ => rfl)
  have Kf22 : own_KL h0 T20.heap [⟨o1, Jvm.RoadKit.slotOf Z cs0 "slot" "I"⟩, ⟨o1, Jvm.RoadKit.slotOf Z cs0 "key" cs6⟩, ⟨o1, Jvm.RoadKit.slotOf Z cs0 "charge" "J"⟩, ⟨o1, Jvm.RoadKit.slotOf Z cs0 "value" cs6⟩, ⟨o1, Jvm.RoadKit.slotOf Z cs0 "expiry" cs7⟩, ⟨o1, Jvm.RoadKit.slotOf Z cs0 "created" "J"⟩, ⟨o1, Jvm.RoadKit.slotOf Z cs0 "lastUsed" "J"⟩, ⟨o1, Jvm.RoadKit.slotOf Z cs0 cs10 cs6⟩] := (own_klT (own_klW (own_klW (own_klW (own_kl0 h0 [⟨o1, Jvm.RoadKit.slotOf Z cs0 "slot" "I"⟩, ⟨o1, Jvm.RoadKit.slotOf Z cs0 "key" cs6⟩, ⟨o1, Jvm.RoadKit.slotOf Z cs0 "charge" "J"⟩, ⟨o1, Jvm.RoadKit.slotOf Z cs0 "value" cs6⟩, ⟨o1, Jvm.RoadKit.slotOf Z cs0 "expiry" cs7⟩, ⟨o1, Jvm.RoadKit.slotOf Z cs0 "created" "J"⟩, ⟨o1, Jvm.RoadKit.slotOf Z cs0 "lastUsed" "J"⟩, ⟨o1, Jvm.RoadKit.slotOf Z cs0 cs10 cs6⟩]) W2 (Or.inl (List.mem_of_getElem? (i := 0) rfl))) W6 (Or.inl (List.mem_of_getElem? (i := 1) rfl))) W10 (Or.inl (List.mem_of_getElem? (i := 2) rfl))) K20 (own_kac (Or.inl (List.mem_of_getElem? (i := 3) rfl)) (own_kac (Or.inl (List.mem_of_getElem? (i := 4) rfl)) (own_kac (Or.inl (List.mem_of_getElem? (i := 5) rfl)) (own_kac (Or.inl (List.mem_of_getElem? (i := 6) rfl)) (own_kac (Or.inl (List.mem_of_getElem? (i := 7) rfl)) own_ka0))))))
  have t23 := (own_fld ((F2.other W6 (Or.inr (sn42 hw))).other W10 (Or.inr (sn43 hw))) K20 (own_nls (sn48 hw) (own_nls (sn47 hw) (own_nls (sn46 hw) (own_nls (sn45 hw) (own_nls (sn44 hw) own_nl0))))))
  have t24 := (own_fld (F6.other W10 (Or.inr (sn49 hw))) K20 (own_nls (sn54 hw) (own_nls (sn53 hw) (own_nls (sn52 hw) (own_nls (sn51 hw) (own_nls (sn50 hw) own_nl0))))))
  have t25 := (own_fld F10 K20 (own_nls (sn59 hw) (own_nls (sn58 hw) (own_nls (sn57 hw) (own_nls (sn56 hw) (own_nls (sn55 hw) own_nl0))))))
  refine ⟨_, _, pre0 _ ?_, hrun, hended, _, _, rfl, ?_, ⟨_, rfl⟩, hWm, hsame.mono (by decide) (by decide)⟩
  · show Steps p.tables e below (s₁.setTop (mkF m 0 La [])) _
    refine sA X0 hx hby d7_0 rfl rfl ?_
    refine st1 _ ?_
    refine sA X1 hx hby d7_4 rfl rfl ?_
    refine sc X1 hx hby d7_5 ?_
    refine st2 _ ?_
    refine sA X2 hx hby d7_9 rfl rfl ?_
    refine sA X2 hx hby d7_10 rfl rfl ?_
    refine st6 _ ?_
    refine sA X6 hx hby d7_14 rfl rfl ?_
    refine XS.lload X6.here hx rfl (hb hby d7_15) rfl ?_
    refine st10 _ ?_
    refine sA X10 hx hby d7_20 rfl rfl ?_
    refine sA X10 hx hby d7_21 rfl rfl ?_
    refine sA X10 hx hby d7_22 rfl rfl ?_
    refine XS.lload X10.here hx rfl (hb hby d7_23) rfl ?_
    refine st20.trans ?_
    exact X20.returnOut hx Bd.returns (hb hby d7_28) hr
  · show Q7_9 Z w o1 o2 o3 o4 q5 q6 h0 n0 _ T20.heap _
    exact ⟨rfl, N20, Kf22, t23, t24, t25, r20_0, r20_1, r20_2, r20_3, r20_4⟩
theorem pds_7 : parseMethodDescriptor "(Ljava/lang/Object;Ljava/lang/Object;Lcom/example/tidemark/tidemark/Expiry;JJ)V" = some ⟨[(.object "java/lang/Object"), (.object "java/lang/Object"), (.object "com/example/tidemark/tidemark/Expiry"), .long, .long], none⟩ := by decide +kernel
theorem ef_6_10 (m : MethodId) : entryFrame m #[(.int (1 : Int32))] 1 = mkF m 0 #[.val (.int (1 : Int32))] [] := by first | (simp [entryFrame, mkF, argsToLocals, Value.category]; done) | rfl
def Q6_10 (Z : State) (w : Nat → Addr) (h0 : Heap) (n0 : Nat) (v : Option Value) (h : Heap) (L : List Loc) : Prop := ∃ (y3 : Addr), v = some (.ref y3) ∧ Fr n0 L ∧ own_KL h0 h [] ∧ Exa Z Z.heap y3 cs9 ∧ Fld Z Z.heap y3 cs9 "value" "I" (.int (1 : Int32))
set_option maxRecDepth 65536 in
set_option maxHeartbeats 40000000 in
theorem rm6_10 (l : Launch) (Z : State) (a0 : Array Value) (hw : HW Z a0) (w : Nat → Addr) (hW : Wd Z w) (ws : List Jvm.Cond) (h0 : Heap) (n0 : Nat) (O0 : Old Z n0 h0) :
    MetFree l ym4 (head1 (Jvm.Cond.code ym4 jdk_33_method_22_code 1 (some (.object cs9)) :: ws) ({ frames := 0, cells := 0, slots := 0, locals := 0 } : Room)) (fun a U => a = #[(.int (1 : Int32))] ∧ Z.Warmed39 U.vm ∧ U.heap = h0) (fun _ _ _ _ _ => True) (fun _ U o U' => ∃ v L, o = .returned v ∧ Q6_10 Z w h0 n0 v U'.heap L ∧ FrameEnd U o U' L ({ frames := 0, cells := 0, slots := 0, locals := 0 } : Room).cells ({ frames := 0, cells := 0, slots := 0, locals := 0 } : Room).slots) := by
  refine MetFree.of_bodySF (plainFor_of_name pnc_3) hisR ?_
  intro p e s m args below meth c s₁ Bd hml0 hP hK
  obtain ⟨rfl, hZ, hh⟩ := hP
  have hx := Bd.exec
  have hby := Bd.bytes
  have hml : c.maxLocals = 1 := hml0
  have hown : s.vm.findClass cs9 = some m.cls := findClass_of_methodNamed Bd.named
  have hnm := (name_of_methodNamed Bd.named Bd.method).1
  have X0 : Stand p l e ({ frames := 0, cells := 0, slots := 0, locals := 0 } : Room) s m #[(.int (1 : Int32))] below meth c s₁ [] 0 0 := Stand.of_body Bd
  have e0 : s₁.heap = h0 := by rw [← hh, Bd.state]; rfl
  have N0 := Fr.nil n0
  skip
  have pre0 : ∀ t, Steps p.tables e below (s₁.setTop (mkF m 0 #[.val (.int (1 : Int32))] [])) t → Steps p.tables e below (s₁.setTop (entryFrame m #[(.int (1 : Int32))] 1)) t := fun t k => castTop (ef_6_10 m) k
  obtain ⟨T1, X1, e1, st1⟩ := getS2 X0 hx hZ hown (host := "") (Or.inl (wk55 hw)) Via.refl e0 ((wd0 hW).ext O0.2) (g := (mkF m 7 #[.val (.int (1 : Int32))] [(.int (1 : Int32))])) rfl (hb hby d6_7)
  obtain ⟨T2, X2, e2, st2⟩ := getS2 X1 hx hZ hown (host := "") (Or.inl (wk57 hw)) Via.refl e1 ((wd1 hW).ext O0.2) (g := (mkF m 13 #[.val (.int (1 : Int32))] [])) rfl (hb hby d6_13)
  obtain ⟨cl3, Bx3⟩ := (wd3 hW)
  have hin3 : ¬ ((129 : Int32) < 0 ∨ cl3.slots.size ≤ ((129 : Int32)).toNatClampNeg) := inb_of Bx3.2.1 ⟨by decide, by decide⟩
  obtain ⟨y3, hy3, Ey3, Fy3⟩ := Bx3.2.2.2 _ hin3
  have Fz3 : Fld Z Z.heap y3 cs9 "value" "I" (.int (1 : Int32)) := Fy3
  obtain ⟨fs, hr, hrun, hended, hWm, hsame⟩ := X2.leave (v := some (.ref y3)) (fun h => by rw [Bd.returns] at h; cases h)
  have Kf4 : own_KL h0 h0 [] := (own_kl0 h0 [])
  refine ⟨_, _, pre0 _ ?_, hrun, hended, _, _, rfl, ?_, ⟨_, rfl⟩, hWm, hsame.mono (by decide) (by decide)⟩
  · show Steps p.tables e below (s₁.setTop (mkF m 0 #[.val (.int (1 : Int32))] [])) _
    refine sI X0 hx hby d6_0 rfl ?_
    refine XS.bipush X0.here hx rfl (hb hby d6_1) ?_
    refine sn X0 hx hby d6_3 (by decide) ?_
    refine sI X0 hx hby d6_6 rfl ?_
    refine st1 _ ?_
    refine sn X1 hx hby d6_10 (by decide) ?_
    refine st2 _ ?_
    refine sI X2 hx hby d6_16 rfl ?_
    refine XS.sipush X2.here hx rfl (hb hby d6_17) ?_
    refine XS.iadd X2.here hx rfl (hb hby d6_20) rfl ?_
    refine X2.aaload hx (j := (129 : Int32)) (v := (.ref y3)) (by rw [e2]; exact (Bx3.1.ext O0.2).1) (State.isArrayOf_alike hZ.alike Bx3.1.2.1) rfl Bx3.1.2.2 hin3 hy3 (g := (mkF m 21 #[.val (.int (1 : Int32))] [(.int (129 : Int32)), (.ref (w 0))])) rfl rfl (hb hby d6_21) _ ?_
    jvm_step X2.here [X2.here.top, hx, (hb hby d6_22), X2.method', Bd.returns, Value.isRef, FieldType.isReference]
    first | (intro acts; rw [hr _ acts rfl rfl rfl]) | rw [hr _ _ rfl rfl rfl]
    exact Steps.refl _
  · show Q6_10 Z w h0 n0 _ T2.heap _
    rw [e2]
    exact ⟨y3, rfl, N0, Kf4, Ey3, Fz3⟩
theorem ef_6_11 (m : MethodId) : entryFrame m #[(.int (2 : Int32))] 1 = mkF m 0 #[.val (.int (2 : Int32))] [] := by first | (simp [entryFrame, mkF, argsToLocals, Value.category]; done) | rfl
def Q6_11 (Z : State) (w : Nat → Addr) (h0 : Heap) (n0 : Nat) (v : Option Value) (h : Heap) (L : List Loc) : Prop := ∃ (y3 : Addr), v = some (.ref y3) ∧ Fr n0 L ∧ own_KL h0 h [] ∧ Exa Z Z.heap y3 cs9 ∧ Fld Z Z.heap y3 cs9 "value" "I" (.int (2 : Int32))
set_option maxRecDepth 65536 in
set_option maxHeartbeats 40000000 in
theorem rm6_11 (l : Launch) (Z : State) (a0 : Array Value) (hw : HW Z a0) (w : Nat → Addr) (hW : Wd Z w) (ws : List Jvm.Cond) (h0 : Heap) (n0 : Nat) (O0 : Old Z n0 h0) :
    MetFree l ym4 (head1 (Jvm.Cond.code ym4 jdk_33_method_22_code 1 (some (.object cs9)) :: ws) ({ frames := 0, cells := 0, slots := 0, locals := 0 } : Room)) (fun a U => a = #[(.int (2 : Int32))] ∧ Z.Warmed39 U.vm ∧ U.heap = h0) (fun _ _ _ _ _ => True) (fun _ U o U' => ∃ v L, o = .returned v ∧ Q6_11 Z w h0 n0 v U'.heap L ∧ FrameEnd U o U' L ({ frames := 0, cells := 0, slots := 0, locals := 0 } : Room).cells ({ frames := 0, cells := 0, slots := 0, locals := 0 } : Room).slots) := by
  refine MetFree.of_bodySF (plainFor_of_name pnc_3) hisR ?_
  intro p e s m args below meth c s₁ Bd hml0 hP hK
  obtain ⟨rfl, hZ, hh⟩ := hP
  have hx := Bd.exec
  have hby := Bd.bytes
  have hml : c.maxLocals = 1 := hml0
  have hown : s.vm.findClass cs9 = some m.cls := findClass_of_methodNamed Bd.named
  have hnm := (name_of_methodNamed Bd.named Bd.method).1
  have X0 : Stand p l e ({ frames := 0, cells := 0, slots := 0, locals := 0 } : Room) s m #[(.int (2 : Int32))] below meth c s₁ [] 0 0 := Stand.of_body Bd
  have e0 : s₁.heap = h0 := by rw [← hh, Bd.state]; rfl
  have N0 := Fr.nil n0
  skip
  have pre0 : ∀ t, Steps p.tables e below (s₁.setTop (mkF m 0 #[.val (.int (2 : Int32))] [])) t → Steps p.tables e below (s₁.setTop (entryFrame m #[(.int (2 : Int32))] 1)) t := fun t k => castTop (ef_6_11 m) k
  obtain ⟨T1, X1, e1, st1⟩ := getS2 X0 hx hZ hown (host := "") (Or.inl (wk55 hw)) Via.refl e0 ((wd0 hW).ext O0.2) (g := (mkF m 7 #[.val (.int (2 : Int32))] [(.int (2 : Int32))])) rfl (hb hby d6_7)
  obtain ⟨T2, X2, e2, st2⟩ := getS2 X1 hx hZ hown (host := "") (Or.inl (wk57 hw)) Via.refl e1 ((wd1 hW).ext O0.2) (g := (mkF m 13 #[.val (.int (2 : Int32))] [])) rfl (hb hby d6_13)
  obtain ⟨cl3, Bx3⟩ := (wd3 hW)
  have hin3 : ¬ ((130 : Int32) < 0 ∨ cl3.slots.size ≤ ((130 : Int32)).toNatClampNeg) := inb_of Bx3.2.1 ⟨by decide, by decide⟩
  obtain ⟨y3, hy3, Ey3, Fy3⟩ := Bx3.2.2.2 _ hin3
  have Fz3 : Fld Z Z.heap y3 cs9 "value" "I" (.int (2 : Int32)) := Fy3
  obtain ⟨fs, hr, hrun, hended, hWm, hsame⟩ := X2.leave (v := some (.ref y3)) (fun h => by rw [Bd.returns] at h; cases h)
  have Kf4 : own_KL h0 h0 [] := (own_kl0 h0 [])
  refine ⟨_, _, pre0 _ ?_, hrun, hended, _, _, rfl, ?_, ⟨_, rfl⟩, hWm, hsame.mono (by decide) (by decide)⟩
  · show Steps p.tables e below (s₁.setTop (mkF m 0 #[.val (.int (2 : Int32))] [])) _
    refine sI X0 hx hby d6_0 rfl ?_
    refine XS.bipush X0.here hx rfl (hb hby d6_1) ?_
    refine sn X0 hx hby d6_3 (by decide) ?_
    refine sI X0 hx hby d6_6 rfl ?_
    refine st1 _ ?_
    refine sn X1 hx hby d6_10 (by decide) ?_
    refine st2 _ ?_
    refine sI X2 hx hby d6_16 rfl ?_
    refine XS.sipush X2.here hx rfl (hb hby d6_17) ?_
    refine XS.iadd X2.here hx rfl (hb hby d6_20) rfl ?_
    refine X2.aaload hx (j := (130 : Int32)) (v := (.ref y3)) (by rw [e2]; exact (Bx3.1.ext O0.2).1) (State.isArrayOf_alike hZ.alike Bx3.1.2.1) rfl Bx3.1.2.2 hin3 hy3 (g := (mkF m 21 #[.val (.int (2 : Int32))] [(.int (130 : Int32)), (.ref (w 0))])) rfl rfl (hb hby d6_21) _ ?_
    jvm_step X2.here [X2.here.top, hx, (hb hby d6_22), X2.method', Bd.returns, Value.isRef, FieldType.isReference]
    first | (intro acts; rw [hr _ acts rfl rfl rfl]) | rw [hr _ _ rfl rfl rfl]
    exact Steps.refl _
  · show Q6_11 Z w h0 n0 _ T2.heap _
    rw [e2]
    exact ⟨y3, rfl, N0, Kf4, Ey3, Fz3⟩
theorem d11_0 : decode prog_14_method_4_code 0 = .ok (.aload_n 1, 1) := by decide +kernel
theorem d11_1 : decode prog_14_method_4_code 1 = .ok (.getfield 44, 3) := by decide +kernel
theorem d11_4 : decode prog_14_method_4_code 4 = .ok (.iconst (-1), 1) := by decide +kernel
theorem d11_5 : decode prog_14_method_4_code 5 = .ok (.if_icmp .ne 4, 3) := by decide +kernel
theorem d11_8 : decode prog_14_method_4_code 8 = .ok (.return_, 1) := by decide +kernel
theorem ef_11_12 (m : MethodId) (o1 : Addr) (o2 : Addr) : entryFrame m #[(.ref o1), (.ref o2)] 2 = mkF m 0 #[.val (.ref o1), .val (.ref o2)] [] := by first | (simp [entryFrame, mkF, argsToLocals, Value.category]; done) | rfl
def Q11_12 (Z : State) (w : Nat → Addr) (o1 : Addr) (o2 : Addr) (h0 : Heap) (n0 : Nat) (v : Option Value) (h : Heap) (L : List Loc) : Prop := v = none ∧ Fr n0 L ∧ h = h0
set_option maxRecDepth 65536 in
set_option maxHeartbeats 40000000 in
theorem rm11_12 (l : Launch) (Z : State) (a0 : Array Value) (hw : HW Z a0) (w : Nat → Addr) (hW : Wd Z w) (ws : List Jvm.Cond) (o1 : Addr) (o2 : Addr) (h0 : Heap) (n0 : Nat) (O0 : Old Z n0 h0) (f1 : Fld Z h0 o2 cs0 "slot" "I" (.int (-1 : Int32))) :
    MetFree l ym9 (head1 (Jvm.Cond.code ym9 prog_14_method_4_code 2 none :: ws) ({ frames := 0, cells := 0, slots := 0, locals := 0 } : Room)) (fun a U => a = #[(.ref o1), (.ref o2)] ∧ Z.Warmed39 U.vm ∧ U.heap = h0) (fun _ _ _ _ _ => True) (fun _ U o U' => ∃ v L, o = .returned v ∧ Q11_12 Z w o1 o2 h0 n0 v U'.heap L ∧ FrameEnd U o U' L ({ frames := 0, cells := 0, slots := 0, locals := 0 } : Room).cells ({ frames := 0, cells := 0, slots := 0, locals := 0 } : Room).slots) := by
  refine MetFree.of_bodySF (plainFor_of_name pnc_2) hisR ?_
  intro p e s m args below meth c s₁ Bd hml0 hP hK
  obtain ⟨rfl, hZ, hh⟩ := hP
  have hx := Bd.exec
  have hby := Bd.bytes
  have hml : c.maxLocals = 2 := hml0
  have hown : s.vm.findClass cs2 = some m.cls := findClass_of_methodNamed Bd.named
  have hnm := (name_of_methodNamed Bd.named Bd.method).1
  have X0 : Stand p l e ({ frames := 0, cells := 0, slots := 0, locals := 0 } : Room) s m #[(.ref o1), (.ref o2)] below meth c s₁ [] 0 0 := Stand.of_body Bd
  have e0 : s₁.heap = h0 := by rw [← hh, Bd.state]; rfl
  have N0 := Fr.nil n0
  skip
  have pre0 : ∀ t, Steps p.tables e below (s₁.setTop (mkF m 0 #[.val (.ref o1), .val (.ref o2)] [])) t → Steps p.tables e below (s₁.setTop (entryFrame m #[(.ref o1), (.ref o2)] 2)) t := fun t k => castTop (ef_11_12 m o1 o2) k
  obtain ⟨T1, X1, e1, st1⟩ := getF X0 hx hZ hown (host := "") (Or.inl (wk99 hw)) Via.refl e0 f1 (g := (mkF m 1 #[.val (.ref o1), .val (.ref o2)] [(.ref o2)])) rfl rfl (hb hby d11_1)
  obtain ⟨fs, hr, hrun, hended, hWm, hsame⟩ := X1.leave (v := none) (fun _ => rfl)
  refine ⟨_, _, pre0 _ ?_, hrun, hended, _, _, rfl, ?_, ⟨_, rfl⟩, hWm, hsame.mono (by decide) (by decide)⟩
  · show Steps p.tables e below (s₁.setTop (mkF m 0 #[.val (.ref o1), .val (.ref o2)] [])) _
    refine sA X0 hx hby d11_0 rfl rfl ?_
    refine st1 _ ?_
    refine sc X1 hx hby d11_4 ?_
    refine sn X1 hx hby d11_5 (by decide) ?_
    exact X1.returnOut hx Bd.returns (hb hby d11_8) hr
  · show Q11_12 Z w o1 o2 h0 n0 _ T1.heap _
    rw [e1]
    exact ⟨rfl, N0, rfl⟩
theorem pds_8 : parseMethodDescriptor "(Lcom/example/tidemark/tidemark/MemoryEntry;)V" = some ⟨[(.object "com/example/tidemark/tidemark/MemoryEntry")], none⟩ := by decide +kernel
theorem d12_0 : decode prog_14_method_2_code 0 = .ok (.aload_n 0, 1) := by decide +kernel
theorem d12_1 : decode prog_14_method_2_code 1 = .ok (.getfield 23, 3) := by decide +kernel
theorem d12_4 : decode prog_14_method_2_code 4 = .ok (.lreturn, 1) := by decide +kernel
theorem ef_12_13 (m : MethodId) (o1 : Addr) : entryFrame m #[(.ref o1)] 1 = mkF m 0 #[.val (.ref o1)] [] := by first | (simp [entryFrame, mkF, argsToLocals, Value.category]; done) | rfl
def Q12_13 (Z : State) (w : Nat → Addr) (o1 : Addr) (h0 : Heap) (n0 : Nat) (v : Option Value) (h : Heap) (L : List Loc) : Prop := v = some (.long (0 : Int64)) ∧ Fr n0 L ∧ h = h0
set_option maxRecDepth 65536 in
set_option maxHeartbeats 40000000 in
theorem rm12_13 (l : Launch) (Z : State) (a0 : Array Value) (hw : HW Z a0) (w : Nat → Addr) (hW : Wd Z w) (ws : List Jvm.Cond) (o1 : Addr) (h0 : Heap) (n0 : Nat) (O0 : Old Z n0 h0) (f1 : Fld Z h0 o1 cs2 "size" "J" (.long (0 : Int64))) :
    MetFree l ym10 (head1 (Jvm.Cond.code ym10 prog_14_method_2_code 1 (some .long) :: ws) ({ frames := 0, cells := 0, slots := 0, locals := 0 } : Room)) (fun a U => a = #[(.ref o1)] ∧ Z.Warmed39 U.vm ∧ U.heap = h0) (fun _ _ _ _ _ => True) (fun _ U o U' => ∃ v L, o = .returned v ∧ Q12_13 Z w o1 h0 n0 v U'.heap L ∧ FrameEnd U o U' L ({ frames := 0, cells := 0, slots := 0, locals := 0 } : Room).cells ({ frames := 0, cells := 0, slots := 0, locals := 0 } : Room).slots) := by
  refine MetFree.of_bodySF (plainFor_of_name pnc_2) hisR ?_
  intro p e s m args below meth c s₁ Bd hml0 hP hK
  obtain ⟨rfl, hZ, hh⟩ := hP
  have hx := Bd.exec
  have hby := Bd.bytes
  have hml : c.maxLocals = 1 := hml0
  have hown : s.vm.findClass cs2 = some m.cls := findClass_of_methodNamed Bd.named
  have hnm := (name_of_methodNamed Bd.named Bd.method).1
  have X0 : Stand p l e ({ frames := 0, cells := 0, slots := 0, locals := 0 } : Room) s m #[(.ref o1)] below meth c s₁ [] 0 0 := Stand.of_body Bd
  have e0 : s₁.heap = h0 := by rw [← hh, Bd.state]; rfl
  have N0 := Fr.nil n0
  skip
  have pre0 : ∀ t, Steps p.tables e below (s₁.setTop (mkF m 0 #[.val (.ref o1)] [])) t → Steps p.tables e below (s₁.setTop (entryFrame m #[(.ref o1)] 1)) t := fun t k => castTop (ef_12_13 m o1) k
  obtain ⟨T1, X1, e1, st1⟩ := getF X0 hx hZ hown (host := "") (Or.inl (wk105 hw)) Via.refl e0 f1 (g := (mkF m 1 #[.val (.ref o1)] [(.ref o1)])) rfl rfl (hb hby d12_1)
  obtain ⟨fs, hr, hrun, hended, hWm, hsame⟩ := X1.leave (v := some (.long (0 : Int64))) (fun h => by rw [Bd.returns] at h; cases h)
  refine ⟨_, _, pre0 _ ?_, hrun, hended, _, _, rfl, ?_, ⟨_, rfl⟩, hWm, hsame.mono (by decide) (by decide)⟩
  · show Steps p.tables e below (s₁.setTop (mkF m 0 #[.val (.ref o1)] [])) _
    refine sA X0 hx hby d12_0 rfl rfl ?_
    refine st1 _ ?_
    jvm_step X1.here [X1.here.top, hx, (hb hby d12_4), X1.method', Bd.returns, narrow]
    first | (intro acts; rw [hr _ acts rfl rfl rfl]) | rw [hr _ _ rfl rfl rfl]
    exact Steps.refl _
  · show Q12_13 Z w o1 h0 n0 _ T1.heap _
    rw [e1]
    exact ⟨rfl, N0, rfl⟩
theorem pds_9 : parseMethodDescriptor "()J" = some ⟨[], some .long⟩ := by decide +kernel
theorem d13_0 : decode prog_14_method_3_code 0 = .ok (.aload_n 0, 1) := by decide +kernel
theorem d13_1 : decode prog_14_method_3_code 1 = .ok (.getfield 23, 3) := by decide +kernel
theorem d13_4 : decode prog_14_method_3_code 4 = .ok (.lconst 0, 1) := by decide +kernel
theorem d13_5 : decode prog_14_method_3_code 5 = .ok (.lcmp, 1) := by decide +kernel
theorem d13_6 : decode prog_14_method_3_code 6 = .ok (.ifCond .ne 17, 3) := by decide +kernel
theorem d13_9 : decode prog_14_method_3_code 9 = .ok (.lload_n 2, 1) := by decide +kernel
theorem d13_10 : decode prog_14_method_3_code 10 = .ok (.aload_n 0, 1) := by decide +kernel
theorem d13_11 : decode prog_14_method_3_code 11 = .ok (.getfield 13, 3) := by decide +kernel
theorem d13_14 : decode prog_14_method_3_code 14 = .ok (.lcmp, 1) := by decide +kernel
theorem d13_15 : decode prog_14_method_3_code 15 = .ok (.ifCond .le 8, 3) := by decide +kernel
theorem d13_18 : decode prog_14_method_3_code 18 = .ok (.aload_n 0, 1) := by decide +kernel
theorem d13_19 : decode prog_14_method_3_code 19 = .ok (.lload_n 2, 1) := by decide +kernel
theorem d13_20 : decode prog_14_method_3_code 20 = .ok (.putfield 13, 3) := by decide +kernel
theorem d13_23 : decode prog_14_method_3_code 23 = .ok (.aload_n 1, 1) := by decide +kernel
theorem d13_24 : decode prog_14_method_3_code 24 = .ok (.getfield 26, 3) := by decide +kernel
theorem d13_27 : decode prog_14_method_3_code 27 = .ok (.invokevirtual 30, 3) := by decide +kernel
theorem d13_30 : decode prog_14_method_3_code 30 = .ok (.ifCond .eq 14, 3) := by decide +kernel
theorem d13_33 : decode prog_14_method_3_code 33 = .ok (.aload_n 0, 1) := by decide +kernel
theorem d13_34 : decode prog_14_method_3_code 34 = .ok (.aload_n 1, 1) := by decide +kernel
theorem d13_35 : decode prog_14_method_3_code 35 = .ok (.invokevirtual 36, 3) := by decide +kernel
theorem d14_0 : decode prog_41_method_9_code 0 = .ok (.aload_n 0, 1) := by decide +kernel
theorem d14_1 : decode prog_41_method_9_code 1 = .ok (.getfield 33, 3) := by decide +kernel
theorem d14_4 : decode prog_41_method_9_code 4 = .ok (.aload_n 0, 1) := by decide +kernel
theorem d14_5 : decode prog_41_method_9_code 5 = .ok (.getfield 67, 3) := by decide +kernel
theorem d14_8 : decode prog_41_method_9_code 8 = .ok (.aload_n 0, 1) := by decide +kernel
theorem d14_9 : decode prog_41_method_9_code 9 = .ok (.getfield 30, 3) := by decide +kernel
theorem d14_12 : decode prog_41_method_9_code 12 = .ok (.invokevirtual 74, 3) := by decide +kernel
theorem d15_0 : decode prog_22_method_6_code 0 = .ok (.lload_n 1, 1) := by decide +kernel
theorem d15_1 : decode prog_22_method_6_code 1 = .ok (.aload_n 0, 1) := by decide +kernel
theorem d15_2 : decode prog_22_method_6_code 2 = .ok (.getfield 17, 3) := by decide +kernel
theorem d15_5 : decode prog_22_method_6_code 5 = .ok (.invokestatic 31, 3) := by decide +kernel
theorem d16_0 : decode prog_22_method_7_code 0 = .ok (.lload_n 2, 1) := by decide +kernel
theorem d16_1 : decode prog_22_method_7_code 1 = .ok (.ldc2_w 29, 3) := by decide +kernel
theorem d16_4 : decode prog_22_method_7_code 4 = .ok (.lcmp, 1) := by decide +kernel
theorem d16_5 : decode prog_22_method_7_code 5 = .ok (.ifCond .eq 13, 3) := by decide +kernel
theorem d16_18 : decode prog_22_method_7_code 18 = .ok (.ldc2_w 42, 3) := by decide +kernel
theorem d16_21 : decode prog_22_method_7_code 21 = .ok (.goto 6, 3) := by decide +kernel
theorem d16_27 : decode prog_22_method_7_code 27 = .ok (.lreturn, 1) := by decide +kernel
theorem d16_8 : decode prog_22_method_7_code 8 = .ok (.lload_n 0, 1) := by decide +kernel
theorem d16_9 : decode prog_22_method_7_code 9 = .ok (.ldc2_w 42, 3) := by decide +kernel
theorem d16_12 : decode prog_22_method_7_code 12 = .ok (.lload_n 2, 1) := by decide +kernel
theorem d16_13 : decode prog_22_method_7_code 13 = .ok (.lsub, 1) := by decide +kernel
theorem d16_14 : decode prog_22_method_7_code 14 = .ok (.lcmp, 1) := by decide +kernel
theorem d16_15 : decode prog_22_method_7_code 15 = .ok (.ifCond .le 9, 3) := by decide +kernel
theorem d16_24 : decode prog_22_method_7_code 24 = .ok (.lload_n 0, 1) := by decide +kernel
theorem d16_25 : decode prog_22_method_7_code 25 = .ok (.lload_n 2, 1) := by decide +kernel
theorem d16_26 : decode prog_22_method_7_code 26 = .ok (.ladd, 1) := by decide +kernel
def ownEnd (q1 : Int64) (q2 : Int64) : Int64 := (if q2 = (-1 : Int64) then (9223372036854775807 : Int64) else (if ((9223372036854775807 : Int64) - q2) < q1 then (9223372036854775807 : Int64) else (q1 + q2)))
theorem ef_16_14 (m : MethodId) (q1 : Int64) (q2 : Int64) : entryFrame m #[(.long q1), (.long q2)] 4 = mkF m 0 #[.val (.long q1), .second, .val (.long q2), .second] [] := by first | (simp [entryFrame, mkF, argsToLocals, Value.category]; done) | rfl
def Q16_14 (Z : State) (w : Nat → Addr) (q1 : Int64) (q2 : Int64) (h0 : Heap) (n0 : Nat) (v : Option Value) (h : Heap) (L : List Loc) : Prop := v = some (.long (ownEnd q1 q2)) ∧ Fr n0 L ∧ h = h0
set_option maxRecDepth 65536 in
set_option maxHeartbeats 40000000 in
theorem rm16_14 (l : Launch) (Z : State) (a0 : Array Value) (hw : HW Z a0) (w : Nat → Addr) (hW : Wd Z w) (ws : List Jvm.Cond) (q1 : Int64) (q2 : Int64) (h0 : Heap) (n0 : Nat) (O0 : Old Z n0 h0) :
    MetFree l ym11 (head1 (Jvm.Cond.code ym11 prog_22_method_7_code 4 (some .long) :: ws) ({ frames := 0, cells := 0, slots := 0, locals := 0 } : Room)) (fun a U => a = #[(.long q1), (.long q2)] ∧ Z.Warmed39 U.vm ∧ U.heap = h0) (fun _ _ _ _ _ => True) (fun _ U o U' => ∃ v L, o = .returned v ∧ Q16_14 Z w q1 q2 h0 n0 v U'.heap L ∧ FrameEnd U o U' L ({ frames := 0, cells := 0, slots := 0, locals := 0 } : Room).cells ({ frames := 0, cells := 0, slots := 0, locals := 0 } : Room).slots) := by
  refine MetFree.of_bodySF (plainFor_of_name pnc_1) hisR ?_
  intro p e s m args below meth c s₁ Bd hml0 hP hK
  obtain ⟨rfl, hZ, hh⟩ := hP
  have hx := Bd.exec
  have hby := Bd.bytes
  have hml : c.maxLocals = 4 := hml0
  have hown : s.vm.findClass cs5 = some m.cls := findClass_of_methodNamed Bd.named
  have hnm := (name_of_methodNamed Bd.named Bd.method).1
  have X0 : Stand p l e ({ frames := 0, cells := 0, slots := 0, locals := 0 } : Room) s m #[(.long q1), (.long q2)] below meth c s₁ [] 0 0 := Stand.of_body Bd
  have e0 : s₁.heap = h0 := by rw [← hh, Bd.state]; rfl
  have N0 := Fr.nil n0
  let La : Array Slot := #[.val (.long q1), .second, .val (.long q2), .second]
  have pre0 : ∀ t, Steps p.tables e below (s₁.setTop (mkF m 0 #[.val (.long q1), .second, .val (.long q2), .second] [])) t → Steps p.tables e below (s₁.setTop (entryFrame m #[(.long q1), (.long q2)] 4)) t := fun t k => castTop (ef_16_14 m q1 q2) k
  have pre1 : ∀ t, Steps p.tables e below (s₁.setTop (mkF m 5 La [(.int (lcmpW q2 (-1 : Int64)))])) t → Steps p.tables e below (s₁.setTop (entryFrame m #[(.long q1), (.long q2)] 4)) t := fun t k => pre0 t (by
   show Steps p.tables e below (s₁.setTop (mkF m 0 La [])) _
   refine sL X0 hx hby d16_0 rfl ?_
   refine X0.ldc2Long hx hown (mvT hZ (wk28 hw)) (g := (mkF m 1 La [(.long q2)])) rfl (hb hby d16_1) _ ?_
   refine XS.lcmp X0.here hx rfl (hb hby d16_4) rfl ?_
   exact k)
  by_cases hc2 : q2 = (-1 : Int64)
  ·
   obtain ⟨fs, hr, hrun, hended, hWm, hsame⟩ := X0.leave (v := some (.long (9223372036854775807 : Int64))) (fun h => by rw [Bd.returns] at h; cases h)
   refine ⟨_, _, pre1 _ ?_, hrun, hended, _, _, rfl, ?_, ⟨_, rfl⟩, hWm, hsame.mono (by decide) (by decide)⟩
   · show Steps p.tables e below (s₁.setTop (mkF m 5 La [(.int (lcmpW q2 (-1 : Int64)))])) _
     refine XS.ifYes X0.here hx rfl (pc0 := 5) (pc' := 18) rfl (hb hby d16_5) rfl ((if0 _ _).trans (teq (((lw_eq _ _).mpr hc2) : (lcmpW q2 (-1 : Int64)) = (0 : Int32))).1) (by decide) (by decide) ?_
     refine X0.ldc2Long hx hown (mvT hZ (wk131 hw)) (g := (mkF m 18 La [])) rfl (hb hby d16_18) _ ?_
     refine sg (pc := 21) (pc' := 27) X0 hx hby d16_21 (by decide) (by decide) ?_
     jvm_step X0.here [X0.here.top, hx, (hb hby d16_27), X0.method', Bd.returns, narrow]
     first | (intro acts; rw [hr _ acts rfl rfl rfl]) | rw [hr _ _ rfl rfl rfl]
     exact Steps.refl _
   · show Q16_14 Z w q1 q2 h0 n0 _ s₁.heap _
     rw [e0]
     exact ⟨by simp only [ownEnd, if_pos hc2], N0, rfl⟩
  ·
   have pre3 : ∀ t, Steps p.tables e below (s₁.setTop (mkF m 15 La [(.int (lcmpW q1 ((9223372036854775807 : Int64) - q2)))])) t → Steps p.tables e below (s₁.setTop (entryFrame m #[(.long q1), (.long q2)] 4)) t := fun t k => pre1 t (by
    show Steps p.tables e below (s₁.setTop (mkF m 5 La [(.int (lcmpW q2 (-1 : Int64)))])) _
    refine sN X0 hx hby d16_5 ((if0 _ _).trans (feq ((fun q => hc2 ((lw_eq _ _).mp q)) : ¬ ((lcmpW q2 (-1 : Int64)) = (0 : Int32)))).1) ?_
    refine sL X0 hx hby d16_8 rfl ?_
    refine X0.ldc2Long hx hown (mvT hZ (wk131 hw)) (g := (mkF m 9 La [(.long q1)])) rfl (hb hby d16_9) _ ?_
    refine sL X0 hx hby d16_12 rfl ?_
    refine XS.lsub X0.here hx rfl (hb hby d16_13) rfl ?_
    show Steps p.tables e below (s₁.setTop (mkF m 14 La [(.long ((9223372036854775807 : Int64) - q2)), (.long q1)])) _
    refine XS.lcmp X0.here hx rfl (hb hby d16_14) rfl ?_
    exact k)
   by_cases hc4 : ((9223372036854775807 : Int64) - q2) < q1
   ·
    obtain ⟨fs, hr, hrun, hended, hWm, hsame⟩ := X0.leave (v := some (.long (9223372036854775807 : Int64))) (fun h => by rw [Bd.returns] at h; cases h)
    refine ⟨_, _, pre3 _ ?_, hrun, hended, _, _, rfl, ?_, ⟨_, rfl⟩, hWm, hsame.mono (by decide) (by decide)⟩
    · show Steps p.tables e below (s₁.setTop (mkF m 15 La [(.int (lcmpW q1 ((9223372036854775807 : Int64) - q2)))])) _
      refine sN X0 hx hby d16_15 ((if0 _ _).trans (tlt (((lw_gt _ _).mpr hc4) : (0 : Int32) < (lcmpW q1 ((9223372036854775807 : Int64) - q2)))).2.2.2) ?_
      refine X0.ldc2Long hx hown (mvT hZ (wk131 hw)) (g := (mkF m 18 La [])) rfl (hb hby d16_18) _ ?_
      refine sg (pc := 21) (pc' := 27) X0 hx hby d16_21 (by decide) (by decide) ?_
      jvm_step X0.here [X0.here.top, hx, (hb hby d16_27), X0.method', Bd.returns, narrow]
      first | (intro acts; rw [hr _ acts rfl rfl rfl]) | rw [hr _ _ rfl rfl rfl]
      exact Steps.refl _
    · show Q16_14 Z w q1 q2 h0 n0 _ s₁.heap _
      rw [e0]
      exact ⟨by simp only [ownEnd, if_neg hc2, if_pos hc4], N0, rfl⟩
   ·
    obtain ⟨fs, hr, hrun, hended, hWm, hsame⟩ := X0.leave (v := some (.long (q1 + q2))) (fun h => by rw [Bd.returns] at h; cases h)
    refine ⟨_, _, pre3 _ ?_, hrun, hended, _, _, rfl, ?_, ⟨_, rfl⟩, hWm, hsame.mono (by decide) (by decide)⟩
    · show Steps p.tables e below (s₁.setTop (mkF m 15 La [(.int (lcmpW q1 ((9223372036854775807 : Int64) - q2)))])) _
      refine XS.ifYes X0.here hx rfl (pc0 := 15) (pc' := 24) rfl (hb hby d16_15) rfl ((if0 _ _).trans (flt ((fun q => hc4 ((lw_gt _ _).mp q)) : ¬ ((0 : Int32) < (lcmpW q1 ((9223372036854775807 : Int64) - q2))))).2.2.2) (by decide) (by decide) ?_
      refine sL X0 hx hby d16_24 rfl ?_
      refine sL X0 hx hby d16_25 rfl ?_
      refine XS.ladd X0.here hx rfl (hb hby d16_26) rfl ?_
      jvm_step X0.here [X0.here.top, hx, (hb hby d16_27), X0.method', Bd.returns, narrow]
      first | (intro acts; rw [hr _ acts rfl rfl rfl]) | rw [hr _ _ rfl rfl rfl]
      exact Steps.refl _
    · show Q16_14 Z w q1 q2 h0 n0 _ s₁.heap _
      rw [e0]
      exact ⟨by simp only [ownEnd, if_neg hc2, if_neg hc4], N0, rfl⟩
theorem pds_10 : parseMethodDescriptor "(JJ)J" = some ⟨[.long, .long], some .long⟩ := by decide +kernel
theorem d15_8 : decode prog_22_method_6_code 8 = .ok (.lload_n 3, 1) := by decide +kernel
theorem d15_9 : decode prog_22_method_6_code 9 = .ok (.aload_n 0, 1) := by decide +kernel
theorem d15_10 : decode prog_22_method_6_code 10 = .ok (.getfield 20, 3) := by decide +kernel
theorem d15_13 : decode prog_22_method_6_code 13 = .ok (.invokestatic 31, 3) := by decide +kernel
theorem ef_16_15 (m : MethodId) (q1 : Int64) : entryFrame m #[(.long q1), (.long (-1 : Int64))] 4 = mkF m 0 #[.val (.long q1), .second, .val (.long (-1 : Int64)), .second] [] := by first | (simp [entryFrame, mkF, argsToLocals, Value.category]; done) | rfl
def Q16_15 (Z : State) (w : Nat → Addr) (q1 : Int64) (h0 : Heap) (n0 : Nat) (v : Option Value) (h : Heap) (L : List Loc) : Prop := v = some (.long (9223372036854775807 : Int64)) ∧ Fr n0 L ∧ h = h0
set_option maxRecDepth 65536 in
set_option maxHeartbeats 40000000 in
theorem rm16_15 (l : Launch) (Z : State) (a0 : Array Value) (hw : HW Z a0) (w : Nat → Addr) (hW : Wd Z w) (ws : List Jvm.Cond) (q1 : Int64) (h0 : Heap) (n0 : Nat) (O0 : Old Z n0 h0) :
    MetFree l ym11 (head1 (Jvm.Cond.code ym11 prog_22_method_7_code 4 (some .long) :: ws) ({ frames := 0, cells := 0, slots := 0, locals := 0 } : Room)) (fun a U => a = #[(.long q1), (.long (-1 : Int64))] ∧ Z.Warmed39 U.vm ∧ U.heap = h0) (fun _ _ _ _ _ => True) (fun _ U o U' => ∃ v L, o = .returned v ∧ Q16_15 Z w q1 h0 n0 v U'.heap L ∧ FrameEnd U o U' L ({ frames := 0, cells := 0, slots := 0, locals := 0 } : Room).cells ({ frames := 0, cells := 0, slots := 0, locals := 0 } : Room).slots) := by
  refine MetFree.of_bodySF (plainFor_of_name pnc_1) hisR ?_
  intro p e s m args below meth c s₁ Bd hml0 hP hK
  obtain ⟨rfl, hZ, hh⟩ := hP
  have hx := Bd.exec
  have hby := Bd.bytes
  have hml : c.maxLocals = 4 := hml0
  have hown : s.vm.findClass cs5 = some m.cls := findClass_of_methodNamed Bd.named
  have hnm := (name_of_methodNamed Bd.named Bd.method).1
  have X0 : Stand p l e ({ frames := 0, cells := 0, slots := 0, locals := 0 } : Room) s m #[(.long q1), (.long (-1 : Int64))] below meth c s₁ [] 0 0 := Stand.of_body Bd
  have e0 : s₁.heap = h0 := by rw [← hh, Bd.state]; rfl
  have N0 := Fr.nil n0
  let La : Array Slot := #[.val (.long q1), .second, .val (.long (-1 : Int64)), .second]
  have pre0 : ∀ t, Steps p.tables e below (s₁.setTop (mkF m 0 #[.val (.long q1), .second, .val (.long (-1 : Int64)), .second] [])) t → Steps p.tables e below (s₁.setTop (entryFrame m #[(.long q1), (.long (-1 : Int64))] 4)) t := fun t k => castTop (ef_16_15 m q1) k
  obtain ⟨fs, hr, hrun, hended, hWm, hsame⟩ := X0.leave (v := some (.long (9223372036854775807 : Int64))) (fun h => by rw [Bd.returns] at h; cases h)
  refine ⟨_, _, pre0 _ ?_, hrun, hended, _, _, rfl, ?_, ⟨_, rfl⟩, hWm, hsame.mono (by decide) (by decide)⟩
  · show Steps p.tables e below (s₁.setTop (mkF m 0 La [])) _
    refine sL X0 hx hby d16_0 rfl ?_
    refine X0.ldc2Long hx hown (mvT hZ (wk28 hw)) (g := (mkF m 1 La [(.long (-1 : Int64))])) rfl (hb hby d16_1) _ ?_
    refine XS.lcmp X0.here hx rfl (hb hby d16_4) rfl ?_
    refine XS.ifYes X0.here hx rfl (pc0 := 5) (pc' := 18) rfl (hb hby d16_5) rfl (by decide) (by decide) (by decide) ?_
    refine X0.ldc2Long hx hown (mvT hZ (wk131 hw)) (g := (mkF m 18 La [])) rfl (hb hby d16_18) _ ?_
    show Steps p.tables e below (s₁.setTop (mkF m 21 La [(.long (9223372036854775807 : Int64))])) _
    refine sg (pc := 21) (pc' := 27) X0 hx hby d16_21 (by decide) (by decide) ?_
    jvm_step X0.here [X0.here.top, hx, (hb hby d16_27), X0.method', Bd.returns, narrow]
    first | (intro acts; rw [hr _ acts rfl rfl rfl]) | rw [hr _ _ rfl rfl rfl]
    exact Steps.refl _
  · show Q16_15 Z w q1 h0 n0 _ s₁.heap _
    rw [e0]
    exact ⟨rfl, N0, rfl⟩
theorem d15_16 : decode prog_22_method_6_code 16 = .ok (.invokestatic 35, 3) := by decide +kernel
theorem d17_0 : decode jdk_29_method_70_code 0 = .ok (.lload_n 0, 1) := by decide +kernel
theorem d17_1 : decode jdk_29_method_70_code 1 = .ok (.lload_n 2, 1) := by decide +kernel
theorem d17_2 : decode jdk_29_method_70_code 2 = .ok (.lcmp, 1) := by decide +kernel
theorem d17_3 : decode jdk_29_method_70_code 3 = .ok (.ifCond .gt 7, 3) := by decide +kernel
theorem d17_6 : decode jdk_29_method_70_code 6 = .ok (.lload_n 0, 1) := by decide +kernel
theorem d17_7 : decode jdk_29_method_70_code 7 = .ok (.goto 4, 3) := by decide +kernel
theorem d17_11 : decode jdk_29_method_70_code 11 = .ok (.lreturn, 1) := by decide +kernel
theorem ef_17_16 (m : MethodId) (q1 : Int64) : entryFrame m #[(.long q1), (.long (9223372036854775807 : Int64))] 4 = mkF m 0 #[.val (.long q1), .second, .val (.long (9223372036854775807 : Int64)), .second] [] := by first | (simp [entryFrame, mkF, argsToLocals, Value.category]; done) | rfl
def Q17_16 (Z : State) (w : Nat → Addr) (q1 : Int64) (h0 : Heap) (n0 : Nat) (v : Option Value) (h : Heap) (L : List Loc) : Prop := v = some (.long q1) ∧ Fr n0 L ∧ h = h0
set_option maxRecDepth 65536 in
set_option maxHeartbeats 40000000 in
theorem rm17_16 (l : Launch) (Z : State) (a0 : Array Value) (hw : HW Z a0) (w : Nat → Addr) (hW : Wd Z w) (ws : List Jvm.Cond) (q1 : Int64) (h0 : Heap) (n0 : Nat) (O0 : Old Z n0 h0) (c1 : ¬ ((9223372036854775807 : Int64) < q1)) :
    MetFree l ym12 (head1 (Jvm.Cond.code ym12 jdk_29_method_70_code 4 (some .long) :: ws) ({ frames := 0, cells := 0, slots := 0, locals := 0 } : Room)) (fun a U => a = #[(.long q1), (.long (9223372036854775807 : Int64))] ∧ Z.Warmed39 U.vm ∧ U.heap = h0) (fun _ _ _ _ _ => True) (fun _ U o U' => ∃ v L, o = .returned v ∧ Q17_16 Z w q1 h0 n0 v U'.heap L ∧ FrameEnd U o U' L ({ frames := 0, cells := 0, slots := 0, locals := 0 } : Room).cells ({ frames := 0, cells := 0, slots := 0, locals := 0 } : Room).slots) := by
  refine MetFree.of_bodySF (Jvm.Free.JP.mathPlain rfl (by decide +kernel)) hisR ?_
  intro p e s m args below meth c s₁ Bd hml0 hP hK
  obtain ⟨rfl, hZ, hh⟩ := hP
  have hx := Bd.exec
  have hby := Bd.bytes
  have hml : c.maxLocals = 4 := hml0
  have hown : s.vm.findClass "java/lang/Math" = some m.cls := findClass_of_methodNamed Bd.named
  have hnm := (name_of_methodNamed Bd.named Bd.method).1
  have X0 : Stand p l e ({ frames := 0, cells := 0, slots := 0, locals := 0 } : Room) s m #[(.long q1), (.long (9223372036854775807 : Int64))] below meth c s₁ [] 0 0 := Stand.of_body Bd
  have e0 : s₁.heap = h0 := by rw [← hh, Bd.state]; rfl
  have N0 := Fr.nil n0
  let La : Array Slot := #[.val (.long q1), .second, .val (.long (9223372036854775807 : Int64)), .second]
  have pre0 : ∀ t, Steps p.tables e below (s₁.setTop (mkF m 0 #[.val (.long q1), .second, .val (.long (9223372036854775807 : Int64)), .second] [])) t → Steps p.tables e below (s₁.setTop (entryFrame m #[(.long q1), (.long (9223372036854775807 : Int64))] 4)) t := fun t k => castTop (ef_17_16 m q1) k
  obtain ⟨fs, hr, hrun, hended, hWm, hsame⟩ := X0.leave (v := some (.long q1)) (fun h => by rw [Bd.returns] at h; cases h)
  refine ⟨_, _, pre0 _ ?_, hrun, hended, _, _, rfl, ?_, ⟨_, rfl⟩, hWm, hsame.mono (by decide) (by decide)⟩
  · show Steps p.tables e below (s₁.setTop (mkF m 0 La [])) _
    refine sL X0 hx hby d17_0 rfl ?_
    refine sL X0 hx hby d17_1 rfl ?_
    refine XS.lcmp X0.here hx rfl (hb hby d17_2) rfl ?_
    refine sN X0 hx hby d17_3 ((if0 _ _).trans (flt ((fun q => c1 ((lw_gt _ _).mp q)) : ¬ ((0 : Int32) < (lcmpW q1 (9223372036854775807 : Int64))))).2.2.1) ?_
    refine sL X0 hx hby d17_6 rfl ?_
    show Steps p.tables e below (s₁.setTop (mkF m 7 La [(.long q1)])) _
    refine sg (pc := 7) (pc' := 11) X0 hx hby d17_7 (by decide) (by decide) ?_
    jvm_step X0.here [X0.here.top, hx, (hb hby d17_11), X0.method', Bd.returns, narrow]
    first | (intro acts; rw [hr _ acts rfl rfl rfl]) | rw [hr _ _ rfl rfl rfl]
    exact Steps.refl _
  · show Q17_16 Z w q1 h0 n0 _ s₁.heap _
    rw [e0]
    exact ⟨rfl, N0, rfl⟩
theorem d15_19 : decode prog_22_method_6_code 19 = .ok (.lreturn, 1) := by decide +kernel
theorem ef_15_17 (m : MethodId) (o1 : Addr) (q2 : Int64) : entryFrame m #[(.ref o1), (.long q2), (.long q2)] 5 = mkF m 0 #[.val (.ref o1), .val (.long q2), .second, .val (.long q2), .second] [] := by first | (simp [entryFrame, mkF, argsToLocals, Value.category]; done) | rfl
def Q15_17 (Z : State) (w : Nat → Addr) (o1 : Addr) (q2 : Int64) (q3 : Int64) (h0 : Heap) (n0 : Nat) (v : Option Value) (h : Heap) (L : List Loc) : Prop := v = some (.long (ownEnd q2 q3)) ∧ Fr n0 L ∧ h = h0
set_option maxRecDepth 65536 in
set_option maxHeartbeats 40000000 in
theorem rm15_17 (l : Launch) (Z : State) (a0 : Array Value) (hw : HW Z a0) (w : Nat → Addr) (hW : Wd Z w) (ws : List Jvm.Cond) (o1 : Addr) (q2 : Int64) (q3 : Int64) (h0 : Heap) (n0 : Nat) (O0 : Old Z n0 h0) (f1 : Fld Z h0 o1 cs5 "lifespan" "J" (.long q3)) (f2 : Fld Z h0 o1 cs5 "maxIdle" "J" (.long (-1 : Int64))) (c3 : ¬ ((9223372036854775807 : Int64) < (ownEnd q2 q3))) :
    MetFree l ym13 (head1 (Jvm.Cond.code ym13 prog_22_method_6_code 5 (some .long) :: ws) ({ frames := 1, cells := 0, slots := 0, locals := 17 } : Room)) (fun a U => a = #[(.ref o1), (.long q2), (.long q2)] ∧ Z.Warmed39 U.vm ∧ U.heap = h0) (fun _ _ _ _ _ => True) (fun _ U o U' => ∃ v L, o = .returned v ∧ Q15_17 Z w o1 q2 q3 h0 n0 v U'.heap L ∧ FrameEnd U o U' L ({ frames := 1, cells := 0, slots := 0, locals := 17 } : Room).cells ({ frames := 1, cells := 0, slots := 0, locals := 17 } : Room).slots) := by
  refine MetFree.of_bodySF (plainFor_of_name pnc_1) hisR ?_
  intro p e s m args below meth c s₁ Bd hml0 hP hK
  obtain ⟨rfl, hZ, hh⟩ := hP
  have hx := Bd.exec
  have hby := Bd.bytes
  have hml : c.maxLocals = 5 := hml0
  have hown : s.vm.findClass cs5 = some m.cls := findClass_of_methodNamed Bd.named
  have hnm := (name_of_methodNamed Bd.named Bd.method).1
  have X0 : Stand p l e ({ frames := 1, cells := 0, slots := 0, locals := 17 } : Room) s m #[(.ref o1), (.long q2), (.long q2)] below meth c s₁ [] 0 0 := Stand.of_body Bd
  have e0 : s₁.heap = h0 := by rw [← hh, Bd.state]; rfl
  have N0 := Fr.nil n0
  let La : Array Slot := #[.val (.ref o1), .val (.long q2), .second, .val (.long q2), .second]
  have pre0 : ∀ t, Steps p.tables e below (s₁.setTop (mkF m 0 #[.val (.ref o1), .val (.long q2), .second, .val (.long q2), .second] [])) t → Steps p.tables e below (s₁.setTop (entryFrame m #[(.ref o1), (.long q2), (.long q2)] 5)) t := fun t k => castTop (ef_15_17 m o1 q2) k
  obtain ⟨T1, X1, e1, st1⟩ := getF X0 hx hZ hown (host := "") (Or.inl (wk30 hw)) Via.refl e0 f1 (g := (mkF m 2 La [(.ref o1), (.long q2)])) rfl rfl (hb hby d15_2)
  obtain ⟨_, _, ⟨T2, L2, kk2, nn2⟩, -, X2, ⟨Lc2, hQ2, l2, y2, z2⟩, st2⟩ := Jvm.LawKit.callS X1 hx (y := ym11) hown (mvT hZ (wk128 hw)) (mvT hZ (wk129 hw)) (mvT hZ (wk4 hw)) (mvT hZ (wk130 hw)) (by decide) (backOf (W := 0) (rm16_14 l Z a0 hw w hW [] q2 q3 h0 n0 O0 ) hZ (wk130 hw) (wk4 hw) (by decide) (by decide)) (g := (mkF m 5 La [(.long q3), (.long q2)])) rfl (by rw [hml]; rfl) (argsL := [(.long q2), (.long q3)]) (rest := []) (lenOf pds_10 rfl) rfl (by show 2 * 0 + _ ≤ _; exact Nat.le_of_eq rfl) (hb hby d15_5) (fun _ _ => ⟨rfl, e1, (by decide : 0 + 0 ≤ _), (by decide : 0 + 0 ≤ _)⟩)
  dsimp only [Pt.U, Pt.locs, Pt.cells, Pt.slots] at X2 l2 y2 z2 st2 hQ2
  rw [l2, y2, z2] at X2
  obtain ⟨rfl, N2q, e2⟩ := hQ2
  have N2 := Fr.app N0 N2q
  obtain ⟨T3, X3, e3, st3⟩ := getF X2 hx hZ hown (host := "") (Or.inl (wk32 hw)) Via.refl e2 f2 (g := (mkF m 10 La [(.ref o1), (.long q2), (.long (ownEnd q2 q3))])) rfl rfl (hb hby d15_10)
  obtain ⟨_, _, ⟨T4, L4, kk4, nn4⟩, -, X4, ⟨Lc4, hQ4, l4, y4, z4⟩, st4⟩ := Jvm.LawKit.callS X3 hx (y := ym11) hown (mvT hZ (wk128 hw)) (mvT hZ (wk129 hw)) (mvT hZ (wk4 hw)) (mvT hZ (wk130 hw)) (by decide) (backOf (W := 2) (rm16_15 l Z a0 hw w hW [] q2 h0 n0 O0 ) hZ (wk130 hw) (wk4 hw) (by decide) (by decide)) (g := (mkF m 13 La [(.long (-1 : Int64)), (.long q2), (.long (ownEnd q2 q3))])) rfl (by rw [hml]; rfl) (argsL := [(.long q2), (.long (-1 : Int64))]) (rest := [(.long (ownEnd q2 q3))]) (lenOf pds_10 rfl) rfl (by show 2 * 0 + _ ≤ _; exact Nat.le_of_eq rfl) (hb hby d15_13) (fun _ _ => ⟨rfl, e3, (by decide : 0 + 0 ≤ _), (by decide : 0 + 0 ≤ _)⟩)
  dsimp only [Pt.U, Pt.locs, Pt.cells, Pt.slots] at X4 l4 y4 z4 st4 hQ4
  rw [l4, y4, z4] at X4
  obtain ⟨rfl, N4q, e4⟩ := hQ4
  have N4 := Fr.app N2 N4q
  obtain ⟨_, _, ⟨T5, L5, kk5, nn5⟩, -, X5, ⟨Lc5, hQ5, l5, y5, z5⟩, st5⟩ := Jvm.LawKit.callS X4 hx (y := ym12) hown (mvT hZ (wk132 hw)) (mvT hZ (wk133 hw)) (mvT hZ (wk134 hw)) (mvT hZ (wk135 hw)) (by decide) (backOf (W := 0) (rm17_16 l Z a0 hw w hW [] (ownEnd q2 q3) h0 n0 O0 c3) hZ (wk135 hw) (wk134 hw) (by decide) (by decide)) (g := (mkF m 16 La [(.long (9223372036854775807 : Int64)), (.long (ownEnd q2 q3))])) rfl (by rw [hml]; rfl) (argsL := [(.long (ownEnd q2 q3)), (.long (9223372036854775807 : Int64))]) (rest := []) (lenOf pds_10 rfl) rfl (by show 2 * 0 + _ ≤ _; exact Nat.le_of_eq rfl) (hb hby d15_16) (fun _ _ => ⟨rfl, e4, (by decide : 0 + 0 ≤ _), (by decide : 0 + 0 ≤ _)⟩)
  dsimp only [Pt.U, Pt.locs, Pt.cells, Pt.slots] at X5 l5 y5 z5 st5 hQ5
  rw [l5, y5, z5] at X5
  obtain ⟨rfl, N5q, e5⟩ := hQ5
  have N5 := Fr.app N4 N5q
  obtain ⟨fs, hr, hrun, hended, hWm, hsame⟩ := X5.leave (v := some (.long (ownEnd q2 q3))) (fun h => by rw [Bd.returns] at h; cases h)
  refine ⟨_, _, pre0 _ ?_, hrun, hended, _, _, rfl, ?_, ⟨_, rfl⟩, hWm, hsame.mono (by decide) (by decide)⟩
  · show Steps p.tables e below (s₁.setTop (mkF m 0 La [])) _
    refine sL X0 hx hby d15_0 rfl ?_
    refine sA X0 hx hby d15_1 rfl rfl ?_
    refine st1 _ ?_
    refine st2 _ ?_
    refine sL X2 hx hby d15_8 rfl ?_
    refine sA X2 hx hby d15_9 rfl rfl ?_
    refine st3 _ ?_
    refine st4 _ ?_
    refine st5 _ ?_
    jvm_step X5.here [X5.here.top, hx, (hb hby d15_19), X5.method', Bd.returns, narrow]
    first | (intro acts; rw [hr _ acts rfl rfl rfl]) | rw [hr _ _ rfl rfl rfl]
    exact Steps.refl _
  · show Q15_17 Z w o1 q2 q3 h0 n0 _ T5.heap _
    rw [e5]
    exact ⟨rfl, N5, rfl⟩
theorem d14_15 : decode prog_41_method_9_code 15 = .ok (.lreturn, 1) := by decide +kernel
theorem ef_14_18 (m : MethodId) (o1 : Addr) : entryFrame m #[(.ref o1)] 1 = mkF m 0 #[.val (.ref o1)] [] := by first | (simp [entryFrame, mkF, argsToLocals, Value.category]; done) | rfl
def Q14_18 (Z : State) (w : Nat → Addr) (o1 : Addr) (o2 : Addr) (q3 : Int64) (q4 : Int64) (h0 : Heap) (n0 : Nat) (v : Option Value) (h : Heap) (L : List Loc) : Prop := v = some (.long (ownEnd q3 q4)) ∧ Fr n0 L ∧ h = h0
set_option maxRecDepth 65536 in
set_option maxHeartbeats 40000000 in
theorem rm14_18 (l : Launch) (Z : State) (a0 : Array Value) (hw : HW Z a0) (w : Nat → Addr) (hW : Wd Z w) (ws : List Jvm.Cond) (o1 : Addr) (o2 : Addr) (q3 : Int64) (q4 : Int64) (h0 : Heap) (n0 : Nat) (O0 : Old Z n0 h0) (f1 : Fld Z h0 o1 cs0 "expiry" cs7 (.ref o2)) (f2 : Fld Z h0 o1 cs0 "created" "J" (.long q3)) (f3 : Fld Z h0 o1 cs0 "lastUsed" "J" (.long q3)) (f4 : Exa Z h0 o2 cs5) (f5 : Fld Z h0 o2 cs5 "lifespan" "J" (.long q4)) (f6 : Fld Z h0 o2 cs5 "maxIdle" "J" (.long (-1 : Int64))) (c7 : ¬ ((9223372036854775807 : Int64) < (ownEnd q3 q4))) :
    MetFree l ym14 (head1 (Jvm.Cond.code ym14 prog_41_method_9_code 1 (some .long) :: ws) ({ frames := 2, cells := 0, slots := 0, locals := 33 } : Room)) (fun a U => a = #[(.ref o1)] ∧ Z.Warmed39 U.vm ∧ U.heap = h0) (fun _ _ _ _ _ => True) (fun _ U o U' => ∃ v L, o = .returned v ∧ Q14_18 Z w o1 o2 q3 q4 h0 n0 v U'.heap L ∧ FrameEnd U o U' L ({ frames := 2, cells := 0, slots := 0, locals := 33 } : Room).cells ({ frames := 2, cells := 0, slots := 0, locals := 33 } : Room).slots) := by
  refine MetFree.of_bodySF (plainFor_of_name pnc_4) hisR ?_
  intro p e s m args below meth c s₁ Bd hml0 hP hK
  obtain ⟨rfl, hZ, hh⟩ := hP
  have hx := Bd.exec
  have hby := Bd.bytes
  have hml : c.maxLocals = 1 := hml0
  have hown : s.vm.findClass cs0 = some m.cls := findClass_of_methodNamed Bd.named
  have hnm := (name_of_methodNamed Bd.named Bd.method).1
  have X0 : Stand p l e ({ frames := 2, cells := 0, slots := 0, locals := 33 } : Room) s m #[(.ref o1)] below meth c s₁ [] 0 0 := Stand.of_body Bd
  have e0 : s₁.heap = h0 := by rw [← hh, Bd.state]; rfl
  have N0 := Fr.nil n0
  skip
  have pre0 : ∀ t, Steps p.tables e below (s₁.setTop (mkF m 0 #[.val (.ref o1)] [])) t → Steps p.tables e below (s₁.setTop (entryFrame m #[(.ref o1)] 1)) t := fun t k => castTop (ef_14_18 m o1) k
  obtain ⟨T1, X1, e1, st1⟩ := getF X0 hx hZ hown (host := "") (Or.inl (wk75 hw)) Via.refl e0 f1 (g := (mkF m 1 #[.val (.ref o1)] [(.ref o1)])) rfl rfl (hb hby d14_1)
  obtain ⟨T2, X2, e2, st2⟩ := getF X1 hx hZ hown (host := "") (Or.inl (wk82 hw)) Via.refl e1 f2 (g := (mkF m 5 #[.val (.ref o1)] [(.ref o1), (.ref o2)])) rfl rfl (hb hby d14_5)
  obtain ⟨T3, X3, e3, st3⟩ := getF X2 hx hZ hown (host := "") (Or.inl (wk84 hw)) Via.refl e2 f3 (g := (mkF m 9 #[.val (.ref o1)] [(.ref o1), (.long q3), (.ref o2)])) rfl rfl (hb hby d14_9)
  obtain ⟨cq4, kq4, q4a, q4b, q4c⟩ := isOf hZ e3 f4
  obtain ⟨_, _, ⟨T4, L4, kk4, nn4⟩, -, X4, ⟨Lc4, hQ4, l4, y4, z4⟩, st4⟩ := X3.virtualBack hx (y := ym13) (z := ym13) hown (mvT hZ (wk123 hw)) (mvT hZ (wk124 hw)) (notFace_of_selects (args := #[]) (mvT hZ (wk126 hw))) (mvT hZ (wk126 hw)) (mvT hZ (wk125 hw)) (by decide) (backOf (W := 0) (rm15_17 l Z a0 hw w hW [] o2 q3 q4 h0 n0 O0 f5 f6 c7) hZ (wk127 hw) (wk4 hw) (by decide) (by decide)) q4a q4c (g := (mkF m 12 #[.val (.ref o1)] [(.long q3), (.long q3), (.ref o2)])) rfl (by rw [hml]; rfl) (Steps.refl _) (argsL := [(.long q3), (.long q3)]) (rest := []) (lenOf pds_10 rfl) rfl (by show 2 * 0 + _ ≤ _; exact Nat.le_of_eq rfl) (hb hby d14_12) (fun _ _ => ⟨rfl, e3, (by decide : 0 + 0 ≤ _), (by decide : 0 + 0 ≤ _)⟩)
  dsimp only [Pt.U, Pt.locs, Pt.cells, Pt.slots] at X4 l4 y4 z4 st4 hQ4
  rw [l4, y4, z4] at X4
  obtain ⟨rfl, N4q, e4⟩ := hQ4
  have N4 := Fr.app N0 N4q
  obtain ⟨fs, hr, hrun, hended, hWm, hsame⟩ := X4.leave (v := some (.long (ownEnd q3 q4))) (fun h => by rw [Bd.returns] at h; cases h)
  refine ⟨_, _, pre0 _ ?_, hrun, hended, _, _, rfl, ?_, ⟨_, rfl⟩, hWm, hsame.mono (by decide) (by decide)⟩
  · show Steps p.tables e below (s₁.setTop (mkF m 0 #[.val (.ref o1)] [])) _
    refine sA X0 hx hby d14_0 rfl rfl ?_
    refine st1 _ ?_
    refine sA X1 hx hby d14_4 rfl rfl ?_
    refine st2 _ ?_
    refine sA X2 hx hby d14_8 rfl rfl ?_
    refine st3 _ ?_
    refine st4.trans ?_
    jvm_step X4.here [X4.here.top, hx, (hb hby d14_15), X4.method', Bd.returns, narrow]
    first | (intro acts; rw [hr _ acts rfl rfl rfl]) | rw [hr _ _ rfl rfl rfl]
    exact Steps.refl _
  · show Q14_18 Z w o1 o2 q3 q4 h0 n0 _ T4.heap _
    rw [e4]
    exact ⟨rfl, N4, rfl⟩
theorem d13_38 : decode prog_14_method_3_code 38 = .ok (.invokevirtual 40, 3) := by decide +kernel
theorem d18_0 : decode prog_14_method_7_code 0 = .ok (.lload_n 1, 1) := by decide +kernel
theorem d18_1 : decode prog_14_method_7_code 1 = .ok (.aload_n 0, 1) := by decide +kernel
theorem d18_2 : decode prog_14_method_7_code 2 = .ok (.getfield 13, 3) := by decide +kernel
theorem d18_5 : decode prog_14_method_7_code 5 = .ok (.lcmp, 1) := by decide +kernel
theorem d18_6 : decode prog_14_method_7_code 6 = .ok (.ifCond .gt 10, 3) := by decide +kernel
theorem d18_16 : decode prog_14_method_7_code 16 = .ok (.bipush 63, 2) := by decide +kernel
theorem d18_18 : decode prog_14_method_7_code 18 = .ok (.lload_n 1, 1) := by decide +kernel
theorem d18_19 : decode prog_14_method_7_code 19 = .ok (.aload_n 0, 1) := by decide +kernel
theorem d18_20 : decode prog_14_method_7_code 20 = .ok (.getfield 13, 3) := by decide +kernel
theorem d18_23 : decode prog_14_method_7_code 23 = .ok (.lxor, 1) := by decide +kernel
theorem d18_24 : decode prog_14_method_7_code 24 = .ok (.invokestatic 71, 3) := by decide +kernel
theorem d19_0 : decode jdk_35_method_48_code 0 = .ok (.lload_n 0, 1) := by decide +kernel
theorem d19_1 : decode jdk_35_method_48_code 1 = .ok (.bipush 32, 2) := by decide +kernel
theorem d19_3 : decode jdk_35_method_48_code 3 = .ok (.lushr, 1) := by decide +kernel
theorem d19_4 : decode jdk_35_method_48_code 4 = .ok (.l2i, 1) := by decide +kernel
theorem d19_5 : decode jdk_35_method_48_code 5 = .ok (.istore_n 2, 1) := by decide +kernel
theorem d19_6 : decode jdk_35_method_48_code 6 = .ok (.iload_n 2, 1) := by decide +kernel
theorem d19_7 : decode jdk_35_method_48_code 7 = .ok (.ifCond .ne 14, 3) := by decide +kernel
theorem d19_10 : decode jdk_35_method_48_code 10 = .ok (.bipush 32, 2) := by decide +kernel
theorem d19_12 : decode jdk_35_method_48_code 12 = .ok (.lload_n 0, 1) := by decide +kernel
theorem d19_13 : decode jdk_35_method_48_code 13 = .ok (.l2i, 1) := by decide +kernel
theorem d19_14 : decode jdk_35_method_48_code 14 = .ok (.invokestatic 308, 3) := by decide +kernel
theorem d20_0 : decode jdk_33_method_47_code 0 = .ok (.iload_n 0, 1) := by decide +kernel
theorem d20_1 : decode jdk_33_method_47_code 1 = .ok (.ifCond .gt 14, 3) := by decide +kernel
theorem d20_15 : decode jdk_33_method_47_code 15 = .ok (.bipush 31, 2) := by decide +kernel
theorem d20_17 : decode jdk_33_method_47_code 17 = .ok (.istore_n 1, 1) := by decide +kernel
theorem d20_18 : decode jdk_33_method_47_code 18 = .ok (.iload_n 0, 1) := by decide +kernel
theorem d20_19 : decode jdk_33_method_47_code 19 = .ok (.ldc_w 264, 3) := by decide +kernel
theorem d20_22 : decode jdk_33_method_47_code 22 = .ok (.if_icmp .lt 11, 3) := by decide +kernel
theorem d20_33 : decode jdk_33_method_47_code 33 = .ok (.iload_n 0, 1) := by decide +kernel
theorem d20_34 : decode jdk_33_method_47_code 34 = .ok (.sipush 256, 3) := by decide +kernel
theorem d20_37 : decode jdk_33_method_47_code 37 = .ok (.if_icmp .lt 11, 3) := by decide +kernel
theorem d20_48 : decode jdk_33_method_47_code 48 = .ok (.iload_n 0, 1) := by decide +kernel
theorem d20_49 : decode jdk_33_method_47_code 49 = .ok (.bipush 16, 2) := by decide +kernel
theorem d20_51 : decode jdk_33_method_47_code 51 = .ok (.if_icmp .lt 10, 3) := by decide +kernel
theorem d20_61 : decode jdk_33_method_47_code 61 = .ok (.iload_n 0, 1) := by decide +kernel
theorem d20_62 : decode jdk_33_method_47_code 62 = .ok (.iconst 4, 1) := by decide +kernel
theorem d20_63 : decode jdk_33_method_47_code 63 = .ok (.if_icmp .lt 10, 3) := by decide +kernel
theorem d20_73 : decode jdk_33_method_47_code 73 = .ok (.iload_n 1, 1) := by decide +kernel
theorem d20_74 : decode jdk_33_method_47_code 74 = .ok (.iload_n 0, 1) := by decide +kernel
theorem d20_75 : decode jdk_33_method_47_code 75 = .ok (.iconst 1, 1) := by decide +kernel
theorem d20_76 : decode jdk_33_method_47_code 76 = .ok (.iushr, 1) := by decide +kernel
theorem d20_77 : decode jdk_33_method_47_code 77 = .ok (.isub, 1) := by decide +kernel
theorem d20_78 : decode jdk_33_method_47_code 78 = .ok (.ireturn, 1) := by decide +kernel
theorem d20_66 : decode jdk_33_method_47_code 66 = .ok (.iinc 1 (-2), 3) := by decide +kernel
theorem d20_69 : decode jdk_33_method_47_code 69 = .ok (.iload_n 0, 1) := by decide +kernel
theorem d20_70 : decode jdk_33_method_47_code 70 = .ok (.iconst 2, 1) := by decide +kernel
theorem d20_71 : decode jdk_33_method_47_code 71 = .ok (.iushr, 1) := by decide +kernel
theorem d20_72 : decode jdk_33_method_47_code 72 = .ok (.istore_n 0, 1) := by decide +kernel
theorem d20_54 : decode jdk_33_method_47_code 54 = .ok (.iinc 1 (-4), 3) := by decide +kernel
theorem d20_57 : decode jdk_33_method_47_code 57 = .ok (.iload_n 0, 1) := by decide +kernel
theorem d20_58 : decode jdk_33_method_47_code 58 = .ok (.iconst 4, 1) := by decide +kernel
theorem d20_59 : decode jdk_33_method_47_code 59 = .ok (.iushr, 1) := by decide +kernel
theorem d20_60 : decode jdk_33_method_47_code 60 = .ok (.istore_n 0, 1) := by decide +kernel
theorem d20_40 : decode jdk_33_method_47_code 40 = .ok (.iinc 1 (-8), 3) := by decide +kernel
theorem d20_43 : decode jdk_33_method_47_code 43 = .ok (.iload_n 0, 1) := by decide +kernel
theorem d20_44 : decode jdk_33_method_47_code 44 = .ok (.bipush 8, 2) := by decide +kernel
theorem d20_46 : decode jdk_33_method_47_code 46 = .ok (.iushr, 1) := by decide +kernel
theorem d20_47 : decode jdk_33_method_47_code 47 = .ok (.istore_n 0, 1) := by decide +kernel
theorem d20_25 : decode jdk_33_method_47_code 25 = .ok (.iinc 1 (-16), 3) := by decide +kernel
theorem d20_28 : decode jdk_33_method_47_code 28 = .ok (.iload_n 0, 1) := by decide +kernel
theorem d20_29 : decode jdk_33_method_47_code 29 = .ok (.bipush 16, 2) := by decide +kernel
theorem d20_31 : decode jdk_33_method_47_code 31 = .ok (.iushr, 1) := by decide +kernel
theorem d20_32 : decode jdk_33_method_47_code 32 = .ok (.istore_n 0, 1) := by decide +kernel
theorem d20_4 : decode jdk_33_method_47_code 4 = .ok (.iload_n 0, 1) := by decide +kernel
theorem d20_5 : decode jdk_33_method_47_code 5 = .ok (.ifCond .ne 8, 3) := by decide +kernel
theorem d20_8 : decode jdk_33_method_47_code 8 = .ok (.bipush 32, 2) := by decide +kernel
theorem d20_10 : decode jdk_33_method_47_code 10 = .ok (.goto 4, 3) := by decide +kernel
theorem d20_14 : decode jdk_33_method_47_code 14 = .ok (.ireturn, 1) := by decide +kernel
theorem d20_13 : decode jdk_33_method_47_code 13 = .ok (.iconst 0, 1) := by decide +kernel
def ownNlzI (q1 : Int32) : Int32 := (if (0 : Int32) < q1 then (if q1 < (65536 : Int32) then (if q1 < (256 : Int32) then (if q1 < (16 : Int32) then (if q1 < (4 : Int32) then ((31 : Int32) - ((q1.toUInt32 >>> ((1 : Int32) &&& 31).toUInt32).toInt32)) else ((29 : Int32) - ((((q1.toUInt32 >>> ((2 : Int32) &&& 31).toUInt32).toInt32).toUInt32 >>> ((1 : Int32) &&& 31).toUInt32).toInt32))) else (if ((q1.toUInt32 >>> ((4 : Int32) &&& 31).toUInt32).toInt32) < (4 : Int32) then ((27 : Int32) - ((((q1.toUInt32 >>> ((4 : Int32) &&& 31).toUInt32).toInt32).toUInt32 >>> ((1 : Int32) &&& 31).toUInt32).toInt32)) else ((25 : Int32) - ((((((q1.toUInt32 >>> ((4 : Int32) &&& 31).toUInt32).toInt32).toUInt32 >>> ((2 : Int32) &&& 31).toUInt32).toInt32).toUInt32 >>> ((1 : Int32) &&& 31).toUInt32).toInt32)))) else (if ((q1.toUInt32 >>> ((8 : Int32) &&& 31).toUInt32).toInt32) < (16 : Int32) then (if ((q1.toUInt32 >>> ((8 : Int32) &&& 31).toUInt32).toInt32) < (4 : Int32) then ((23 : Int32) - ((((q1.toUInt32 >>> ((8 : Int32) &&& 31).toUInt32).toInt32).toUInt32 >>> ((1 : Int32) &&& 31).toUInt32).toInt32)) else ((21 : Int32) - ((((((q1.toUInt32 >>> ((8 : Int32) &&& 31).toUInt32).toInt32).toUInt32 >>> ((2 : Int32) &&& 31).toUInt32).toInt32).toUInt32 >>> ((1 : Int32) &&& 31).toUInt32).toInt32))) else (if ((((q1.toUInt32 >>> ((8 : Int32) &&& 31).toUInt32).toInt32).toUInt32 >>> ((4 : Int32) &&& 31).toUInt32).toInt32) < (4 : Int32) then ((19 : Int32) - ((((((q1.toUInt32 >>> ((8 : Int32) &&& 31).toUInt32).toInt32).toUInt32 >>> ((4 : Int32) &&& 31).toUInt32).toInt32).toUInt32 >>> ((1 : Int32) &&& 31).toUInt32).toInt32)) else ((17 : Int32) - ((((((((q1.toUInt32 >>> ((8 : Int32) &&& 31).toUInt32).toInt32).toUInt32 >>> ((4 : Int32) &&& 31).toUInt32).toInt32).toUInt32 >>> ((2 : Int32) &&& 31).toUInt32).toInt32).toUInt32 >>> ((1 : Int32) &&& 31).toUInt32).toInt32))))) else (if ((q1.toUInt32 >>> ((16 : Int32) &&& 31).toUInt32).toInt32) < (256 : Int32) then (if ((q1.toUInt32 >>> ((16 : Int32) &&& 31).toUInt32).toInt32) < (16 : Int32) then (if ((q1.toUInt32 >>> ((16 : Int32) &&& 31).toUInt32).toInt32) < (4 : Int32) then ((15 : Int32) - ((((q1.toUInt32 >>> ((16 : Int32) &&& 31).toUInt32).toInt32).toUInt32 >>> ((1 : Int32) &&& 31).toUInt32).toInt32)) else ((13 : Int32) - ((((((q1.toUInt32 >>> ((16 : Int32) &&& 31).toUInt32).toInt32).toUInt32 >>> ((2 : Int32) &&& 31).toUInt32).toInt32).toUInt32 >>> ((1 : Int32) &&& 31).toUInt32).toInt32))) else (if ((((q1.toUInt32 >>> ((16 : Int32) &&& 31).toUInt32).toInt32).toUInt32 >>> ((4 : Int32) &&& 31).toUInt32).toInt32) < (4 : Int32) then ((11 : Int32) - ((((((q1.toUInt32 >>> ((16 : Int32) &&& 31).toUInt32).toInt32).toUInt32 >>> ((4 : Int32) &&& 31).toUInt32).toInt32).toUInt32 >>> ((1 : Int32) &&& 31).toUInt32).toInt32)) else ((9 : Int32) - ((((((((q1.toUInt32 >>> ((16 : Int32) &&& 31).toUInt32).toInt32).toUInt32 >>> ((4 : Int32) &&& 31).toUInt32).toInt32).toUInt32 >>> ((2 : Int32) &&& 31).toUInt32).toInt32).toUInt32 >>> ((1 : Int32) &&& 31).toUInt32).toInt32)))) else (if ((((q1.toUInt32 >>> ((16 : Int32) &&& 31).toUInt32).toInt32).toUInt32 >>> ((8 : Int32) &&& 31).toUInt32).toInt32) < (16 : Int32) then (if ((((q1.toUInt32 >>> ((16 : Int32) &&& 31).toUInt32).toInt32).toUInt32 >>> ((8 : Int32) &&& 31).toUInt32).toInt32) < (4 : Int32) then ((7 : Int32) - ((((((q1.toUInt32 >>> ((16 : Int32) &&& 31).toUInt32).toInt32).toUInt32 >>> ((8 : Int32) &&& 31).toUInt32).toInt32).toUInt32 >>> ((1 : Int32) &&& 31).toUInt32).toInt32)) else ((5 : Int32) - ((((((((q1.toUInt32 >>> ((16 : Int32) &&& 31).toUInt32).toInt32).toUInt32 >>> ((8 : Int32) &&& 31).toUInt32).toInt32).toUInt32 >>> ((2 : Int32) &&& 31).toUInt32).toInt32).toUInt32 >>> ((1 : Int32) &&& 31).toUInt32).toInt32))) else (if ((((((q1.toUInt32 >>> ((16 : Int32) &&& 31).toUInt32).toInt32).toUInt32 >>> ((8 : Int32) &&& 31).toUInt32).toInt32).toUInt32 >>> ((4 : Int32) &&& 31).toUInt32).toInt32) < (4 : Int32) then ((3 : Int32) - ((((((((q1.toUInt32 >>> ((16 : Int32) &&& 31).toUInt32).toInt32).toUInt32 >>> ((8 : Int32) &&& 31).toUInt32).toInt32).toUInt32 >>> ((4 : Int32) &&& 31).toUInt32).toInt32).toUInt32 >>> ((1 : Int32) &&& 31).toUInt32).toInt32)) else ((1 : Int32) - ((((((((((q1.toUInt32 >>> ((16 : Int32) &&& 31).toUInt32).toInt32).toUInt32 >>> ((8 : Int32) &&& 31).toUInt32).toInt32).toUInt32 >>> ((4 : Int32) &&& 31).toUInt32).toInt32).toUInt32 >>> ((2 : Int32) &&& 31).toUInt32).toInt32).toUInt32 >>> ((1 : Int32) &&& 31).toUInt32).toInt32)))))) else (if q1 = (0 : Int32) then (32 : Int32) else (0 : Int32)))
theorem ownNlzI_bd (q1 : Int32) : 0 ≤ (ownNlzI q1).toInt ∧ (ownNlzI q1).toInt ≤ 32 := by
  by_cases hb0 : (0 : Int32) < q1
  ·
    by_cases hb1 : q1 < (65536 : Int32)
    ·
      by_cases hb2 : q1 < (256 : Int32)
      ·
        by_cases hb3 : q1 < (16 : Int32)
        ·
          by_cases hb4 : q1 < (4 : Int32)
          ·
            have e : ownNlzI q1 = ((31 : Int32) - ((q1.toUInt32 >>> ((1 : Int32) &&& 31).toUInt32).toInt32)) := by simp only [ownNlzI, if_pos hb0, if_pos hb1, if_pos hb2, if_pos hb3, if_pos hb4]
            rw [e]
            have z3 := Int32.lt_iff_toInt_lt.mp hb0
            have z5 := Int32.lt_iff_toInt_lt.mp hb1
            have z7 := Int32.lt_iff_toInt_lt.mp hb2
            have z9 := Int32.lt_iff_toInt_lt.mp hb3
            have z11 := Int32.lt_iff_toInt_lt.mp hb4
            have z1 : ((0 : Int32)).toInt = 0 := by decide
            have z2 := rng32 q1
            have z4 : ((65536 : Int32)).toInt = 65536 := by decide
            have z6 : ((256 : Int32)).toInt = 256 := by decide
            have z8 : ((16 : Int32)).toInt = 16 := by decide
            have z10 : ((4 : Int32)).toInt = 4 := by decide
            have z12 := rng32 ((31 : Int32) - ((q1.toUInt32 >>> ((1 : Int32) &&& 31).toUInt32).toInt32))
            have z13 : ((31 : Int32)).toInt = 31 := by decide
            have z14 := rng32 ((q1.toUInt32 >>> ((1 : Int32) &&& 31).toUInt32).toInt32)
            have z15 : ((1 : Int32)).toInt = 1 := by decide
            have z16 : (((q1.toUInt32 >>> ((1 : Int32) &&& 31).toUInt32).toInt32)).toInt = (q1).toInt % 4294967296 / 2 := c_iushr q1 (1 : Int32) 1 (by decide) (by decide)
            have z17 := c_isub (31 : Int32) ((q1.toUInt32 >>> ((1 : Int32) &&& 31).toUInt32).toInt32)
            omega
          ·
            have e : ownNlzI q1 = ((29 : Int32) - ((((q1.toUInt32 >>> ((2 : Int32) &&& 31).toUInt32).toInt32).toUInt32 >>> ((1 : Int32) &&& 31).toUInt32).toInt32)) := by simp only [ownNlzI, if_pos hb0, if_pos hb1, if_pos hb2, if_pos hb3, if_neg hb4]
            rw [e]
            have z3 := Int32.lt_iff_toInt_lt.mp hb0
            have z5 := Int32.lt_iff_toInt_lt.mp hb1
            have z7 := Int32.lt_iff_toInt_lt.mp hb2
            have z9 := Int32.lt_iff_toInt_lt.mp hb3
            have z11 := Int32.le_iff_toInt_le.mp (Int32.not_lt.mp hb4)
            have z1 : ((0 : Int32)).toInt = 0 := by decide
            have z2 := rng32 q1
            have z4 : ((65536 : Int32)).toInt = 65536 := by decide
            have z6 : ((256 : Int32)).toInt = 256 := by decide
            have z8 : ((16 : Int32)).toInt = 16 := by decide
            have z10 : ((4 : Int32)).toInt = 4 := by decide
            have z12 := rng32 ((29 : Int32) - ((((q1.toUInt32 >>> ((2 : Int32) &&& 31).toUInt32).toInt32).toUInt32 >>> ((1 : Int32) &&& 31).toUInt32).toInt32))
            have z13 : ((29 : Int32)).toInt = 29 := by decide
            have z14 := rng32 ((((q1.toUInt32 >>> ((2 : Int32) &&& 31).toUInt32).toInt32).toUInt32 >>> ((1 : Int32) &&& 31).toUInt32).toInt32)
            have z15 := rng32 ((q1.toUInt32 >>> ((2 : Int32) &&& 31).toUInt32).toInt32)
            have z16 : ((2 : Int32)).toInt = 2 := by decide
            have z17 : (((q1.toUInt32 >>> ((2 : Int32) &&& 31).toUInt32).toInt32)).toInt = (q1).toInt % 4294967296 / 4 := c_iushr q1 (2 : Int32) 2 (by decide) (by decide)
            have z18 : ((1 : Int32)).toInt = 1 := by decide
            have z19 : (((((q1.toUInt32 >>> ((2 : Int32) &&& 31).toUInt32).toInt32).toUInt32 >>> ((1 : Int32) &&& 31).toUInt32).toInt32)).toInt = (((q1.toUInt32 >>> ((2 : Int32) &&& 31).toUInt32).toInt32)).toInt % 4294967296 / 2 := c_iushr ((q1.toUInt32 >>> ((2 : Int32) &&& 31).toUInt32).toInt32) (1 : Int32) 1 (by decide) (by decide)
            have z20 := c_isub (29 : Int32) ((((q1.toUInt32 >>> ((2 : Int32) &&& 31).toUInt32).toInt32).toUInt32 >>> ((1 : Int32) &&& 31).toUInt32).toInt32)
            omega
        ·
          by_cases hb4 : ((q1.toUInt32 >>> ((4 : Int32) &&& 31).toUInt32).toInt32) < (4 : Int32)
          ·
            have e : ownNlzI q1 = ((27 : Int32) - ((((q1.toUInt32 >>> ((4 : Int32) &&& 31).toUInt32).toInt32).toUInt32 >>> ((1 : Int32) &&& 31).toUInt32).toInt32)) := by simp only [ownNlzI, if_pos hb0, if_pos hb1, if_pos hb2, if_neg hb3, if_pos hb4]
            rw [e]
            have z3 := Int32.lt_iff_toInt_lt.mp hb0
            have z5 := Int32.lt_iff_toInt_lt.mp hb1
            have z7 := Int32.lt_iff_toInt_lt.mp hb2
            have z9 := Int32.le_iff_toInt_le.mp (Int32.not_lt.mp hb3)
            have z13 := Int32.lt_iff_toInt_lt.mp hb4
            have z1 : ((0 : Int32)).toInt = 0 := by decide
            have z2 := rng32 q1
            have z4 : ((65536 : Int32)).toInt = 65536 := by decide
            have z6 : ((256 : Int32)).toInt = 256 := by decide
            have z8 : ((16 : Int32)).toInt = 16 := by decide
            have z10 := rng32 ((q1.toUInt32 >>> ((4 : Int32) &&& 31).toUInt32).toInt32)
            have z11 : ((4 : Int32)).toInt = 4 := by decide
            have z12 : (((q1.toUInt32 >>> ((4 : Int32) &&& 31).toUInt32).toInt32)).toInt = (q1).toInt % 4294967296 / 16 := c_iushr q1 (4 : Int32) 4 (by decide) (by decide)
            have z14 := rng32 ((27 : Int32) - ((((q1.toUInt32 >>> ((4 : Int32) &&& 31).toUInt32).toInt32).toUInt32 >>> ((1 : Int32) &&& 31).toUInt32).toInt32))
            have z15 : ((27 : Int32)).toInt = 27 := by decide
            have z16 := rng32 ((((q1.toUInt32 >>> ((4 : Int32) &&& 31).toUInt32).toInt32).toUInt32 >>> ((1 : Int32) &&& 31).toUInt32).toInt32)
            have z17 : ((1 : Int32)).toInt = 1 := by decide
            have z18 : (((((q1.toUInt32 >>> ((4 : Int32) &&& 31).toUInt32).toInt32).toUInt32 >>> ((1 : Int32) &&& 31).toUInt32).toInt32)).toInt = (((q1.toUInt32 >>> ((4 : Int32) &&& 31).toUInt32).toInt32)).toInt % 4294967296 / 2 := c_iushr ((q1.toUInt32 >>> ((4 : Int32) &&& 31).toUInt32).toInt32) (1 : Int32) 1 (by decide) (by decide)
            have z19 := c_isub (27 : Int32) ((((q1.toUInt32 >>> ((4 : Int32) &&& 31).toUInt32).toInt32).toUInt32 >>> ((1 : Int32) &&& 31).toUInt32).toInt32)
            omega
          ·
            have e : ownNlzI q1 = ((25 : Int32) - ((((((q1.toUInt32 >>> ((4 : Int32) &&& 31).toUInt32).toInt32).toUInt32 >>> ((2 : Int32) &&& 31).toUInt32).toInt32).toUInt32 >>> ((1 : Int32) &&& 31).toUInt32).toInt32)) := by simp only [ownNlzI, if_pos hb0, if_pos hb1, if_pos hb2, if_neg hb3, if_neg hb4]
            rw [e]
            have z3 := Int32.lt_iff_toInt_lt.mp hb0
            have z5 := Int32.lt_iff_toInt_lt.mp hb1
            have z7 := Int32.lt_iff_toInt_lt.mp hb2
            have z9 := Int32.le_iff_toInt_le.mp (Int32.not_lt.mp hb3)
            have z13 := Int32.le_iff_toInt_le.mp (Int32.not_lt.mp hb4)
            have z1 : ((0 : Int32)).toInt = 0 := by decide
            have z2 := rng32 q1
            have z4 : ((65536 : Int32)).toInt = 65536 := by decide
            have z6 : ((256 : Int32)).toInt = 256 := by decide
            have z8 : ((16 : Int32)).toInt = 16 := by decide
            have z10 := rng32 ((q1.toUInt32 >>> ((4 : Int32) &&& 31).toUInt32).toInt32)
            have z11 : ((4 : Int32)).toInt = 4 := by decide
            have z12 : (((q1.toUInt32 >>> ((4 : Int32) &&& 31).toUInt32).toInt32)).toInt = (q1).toInt % 4294967296 / 16 := c_iushr q1 (4 : Int32) 4 (by decide) (by decide)
            have z14 := rng32 ((25 : Int32) - ((((((q1.toUInt32 >>> ((4 : Int32) &&& 31).toUInt32).toInt32).toUInt32 >>> ((2 : Int32) &&& 31).toUInt32).toInt32).toUInt32 >>> ((1 : Int32) &&& 31).toUInt32).toInt32))
            have z15 : ((25 : Int32)).toInt = 25 := by decide
            have z16 := rng32 ((((((q1.toUInt32 >>> ((4 : Int32) &&& 31).toUInt32).toInt32).toUInt32 >>> ((2 : Int32) &&& 31).toUInt32).toInt32).toUInt32 >>> ((1 : Int32) &&& 31).toUInt32).toInt32)
            have z17 := rng32 ((((q1.toUInt32 >>> ((4 : Int32) &&& 31).toUInt32).toInt32).toUInt32 >>> ((2 : Int32) &&& 31).toUInt32).toInt32)
            have z18 : ((2 : Int32)).toInt = 2 := by decide
            have z19 : (((((q1.toUInt32 >>> ((4 : Int32) &&& 31).toUInt32).toInt32).toUInt32 >>> ((2 : Int32) &&& 31).toUInt32).toInt32)).toInt = (((q1.toUInt32 >>> ((4 : Int32) &&& 31).toUInt32).toInt32)).toInt % 4294967296 / 4 := c_iushr ((q1.toUInt32 >>> ((4 : Int32) &&& 31).toUInt32).toInt32) (2 : Int32) 2 (by decide) (by decide)
            have z20 : ((1 : Int32)).toInt = 1 := by decide
            have z21 : (((((((q1.toUInt32 >>> ((4 : Int32) &&& 31).toUInt32).toInt32).toUInt32 >>> ((2 : Int32) &&& 31).toUInt32).toInt32).toUInt32 >>> ((1 : Int32) &&& 31).toUInt32).toInt32)).toInt = (((((q1.toUInt32 >>> ((4 : Int32) &&& 31).toUInt32).toInt32).toUInt32 >>> ((2 : Int32) &&& 31).toUInt32).toInt32)).toInt % 4294967296 / 2 := c_iushr ((((q1.toUInt32 >>> ((4 : Int32) &&& 31).toUInt32).toInt32).toUInt32 >>> ((2 : Int32) &&& 31).toUInt32).toInt32) (1 : Int32) 1 (by decide) (by decide)
            have z22 := c_isub (25 : Int32) ((((((q1.toUInt32 >>> ((4 : Int32) &&& 31).toUInt32).toInt32).toUInt32 >>> ((2 : Int32) &&& 31).toUInt32).toInt32).toUInt32 >>> ((1 : Int32) &&& 31).toUInt32).toInt32)
            omega
      ·
        by_cases hb3 : ((q1.toUInt32 >>> ((8 : Int32) &&& 31).toUInt32).toInt32) < (16 : Int32)
        ·
          by_cases hb4 : ((q1.toUInt32 >>> ((8 : Int32) &&& 31).toUInt32).toInt32) < (4 : Int32)
          ·
            have e : ownNlzI q1 = ((23 : Int32) - ((((q1.toUInt32 >>> ((8 : Int32) &&& 31).toUInt32).toInt32).toUInt32 >>> ((1 : Int32) &&& 31).toUInt32).toInt32)) := by simp only [ownNlzI, if_pos hb0, if_pos hb1, if_neg hb2, if_pos hb3, if_pos hb4]
            rw [e]
            have z3 := Int32.lt_iff_toInt_lt.mp hb0
            have z5 := Int32.lt_iff_toInt_lt.mp hb1
            have z7 := Int32.le_iff_toInt_le.mp (Int32.not_lt.mp hb2)
            have z12 := Int32.lt_iff_toInt_lt.mp hb3
            have z14 := Int32.lt_iff_toInt_lt.mp hb4
            have z1 : ((0 : Int32)).toInt = 0 := by decide
            have z2 := rng32 q1
            have z4 : ((65536 : Int32)).toInt = 65536 := by decide
            have z6 : ((256 : Int32)).toInt = 256 := by decide
            have z8 := rng32 ((q1.toUInt32 >>> ((8 : Int32) &&& 31).toUInt32).toInt32)
            have z9 : ((8 : Int32)).toInt = 8 := by decide
            have z10 : (((q1.toUInt32 >>> ((8 : Int32) &&& 31).toUInt32).toInt32)).toInt = (q1).toInt % 4294967296 / 256 := c_iushr q1 (8 : Int32) 8 (by decide) (by decide)
            have z11 : ((16 : Int32)).toInt = 16 := by decide
            have z13 : ((4 : Int32)).toInt = 4 := by decide
            have z15 := rng32 ((23 : Int32) - ((((q1.toUInt32 >>> ((8 : Int32) &&& 31).toUInt32).toInt32).toUInt32 >>> ((1 : Int32) &&& 31).toUInt32).toInt32))
            have z16 : ((23 : Int32)).toInt = 23 := by decide
            have z17 := rng32 ((((q1.toUInt32 >>> ((8 : Int32) &&& 31).toUInt32).toInt32).toUInt32 >>> ((1 : Int32) &&& 31).toUInt32).toInt32)
            have z18 : ((1 : Int32)).toInt = 1 := by decide
            have z19 : (((((q1.toUInt32 >>> ((8 : Int32) &&& 31).toUInt32).toInt32).toUInt32 >>> ((1 : Int32) &&& 31).toUInt32).toInt32)).toInt = (((q1.toUInt32 >>> ((8 : Int32) &&& 31).toUInt32).toInt32)).toInt % 4294967296 / 2 := c_iushr ((q1.toUInt32 >>> ((8 : Int32) &&& 31).toUInt32).toInt32) (1 : Int32) 1 (by decide) (by decide)
            have z20 := c_isub (23 : Int32) ((((q1.toUInt32 >>> ((8 : Int32) &&& 31).toUInt32).toInt32).toUInt32 >>> ((1 : Int32) &&& 31).toUInt32).toInt32)
            omega
          ·
            have e : ownNlzI q1 = ((21 : Int32) - ((((((q1.toUInt32 >>> ((8 : Int32) &&& 31).toUInt32).toInt32).toUInt32 >>> ((2 : Int32) &&& 31).toUInt32).toInt32).toUInt32 >>> ((1 : Int32) &&& 31).toUInt32).toInt32)) := by simp only [ownNlzI, if_pos hb0, if_pos hb1, if_neg hb2, if_pos hb3, if_neg hb4]
            rw [e]
            have z3 := Int32.lt_iff_toInt_lt.mp hb0
            have z5 := Int32.lt_iff_toInt_lt.mp hb1
            have z7 := Int32.le_iff_toInt_le.mp (Int32.not_lt.mp hb2)
            have z12 := Int32.lt_iff_toInt_lt.mp hb3
            have z14 := Int32.le_iff_toInt_le.mp (Int32.not_lt.mp hb4)
            have z1 : ((0 : Int32)).toInt = 0 := by decide
            have z2 := rng32 q1
            have z4 : ((65536 : Int32)).toInt = 65536 := by decide
            have z6 : ((256 : Int32)).toInt = 256 := by decide
            have z8 := rng32 ((q1.toUInt32 >>> ((8 : Int32) &&& 31).toUInt32).toInt32)
            have z9 : ((8 : Int32)).toInt = 8 := by decide
            have z10 : (((q1.toUInt32 >>> ((8 : Int32) &&& 31).toUInt32).toInt32)).toInt = (q1).toInt % 4294967296 / 256 := c_iushr q1 (8 : Int32) 8 (by decide) (by decide)
            have z11 : ((16 : Int32)).toInt = 16 := by decide
            have z13 : ((4 : Int32)).toInt = 4 := by decide
            have z15 := rng32 ((21 : Int32) - ((((((q1.toUInt32 >>> ((8 : Int32) &&& 31).toUInt32).toInt32).toUInt32 >>> ((2 : Int32) &&& 31).toUInt32).toInt32).toUInt32 >>> ((1 : Int32) &&& 31).toUInt32).toInt32))
            have z16 : ((21 : Int32)).toInt = 21 := by decide
            have z17 := rng32 ((((((q1.toUInt32 >>> ((8 : Int32) &&& 31).toUInt32).toInt32).toUInt32 >>> ((2 : Int32) &&& 31).toUInt32).toInt32).toUInt32 >>> ((1 : Int32) &&& 31).toUInt32).toInt32)
            have z18 := rng32 ((((q1.toUInt32 >>> ((8 : Int32) &&& 31).toUInt32).toInt32).toUInt32 >>> ((2 : Int32) &&& 31).toUInt32).toInt32)
            have z19 : ((2 : Int32)).toInt = 2 := by decide
            have z20 : (((((q1.toUInt32 >>> ((8 : Int32) &&& 31).toUInt32).toInt32).toUInt32 >>> ((2 : Int32) &&& 31).toUInt32).toInt32)).toInt = (((q1.toUInt32 >>> ((8 : Int32) &&& 31).toUInt32).toInt32)).toInt % 4294967296 / 4 := c_iushr ((q1.toUInt32 >>> ((8 : Int32) &&& 31).toUInt32).toInt32) (2 : Int32) 2 (by decide) (by decide)
            have z21 : ((1 : Int32)).toInt = 1 := by decide
            have z22 : (((((((q1.toUInt32 >>> ((8 : Int32) &&& 31).toUInt32).toInt32).toUInt32 >>> ((2 : Int32) &&& 31).toUInt32).toInt32).toUInt32 >>> ((1 : Int32) &&& 31).toUInt32).toInt32)).toInt = (((((q1.toUInt32 >>> ((8 : Int32) &&& 31).toUInt32).toInt32).toUInt32 >>> ((2 : Int32) &&& 31).toUInt32).toInt32)).toInt % 4294967296 / 2 := c_iushr ((((q1.toUInt32 >>> ((8 : Int32) &&& 31).toUInt32).toInt32).toUInt32 >>> ((2 : Int32) &&& 31).toUInt32).toInt32) (1 : Int32) 1 (by decide) (by decide)
            have z23 := c_isub (21 : Int32) ((((((q1.toUInt32 >>> ((8 : Int32) &&& 31).toUInt32).toInt32).toUInt32 >>> ((2 : Int32) &&& 31).toUInt32).toInt32).toUInt32 >>> ((1 : Int32) &&& 31).toUInt32).toInt32)
            omega
        ·
          by_cases hb4 : ((((q1.toUInt32 >>> ((8 : Int32) &&& 31).toUInt32).toInt32).toUInt32 >>> ((4 : Int32) &&& 31).toUInt32).toInt32) < (4 : Int32)
          ·
            have e : ownNlzI q1 = ((19 : Int32) - ((((((q1.toUInt32 >>> ((8 : Int32) &&& 31).toUInt32).toInt32).toUInt32 >>> ((4 : Int32) &&& 31).toUInt32).toInt32).toUInt32 >>> ((1 : Int32) &&& 31).toUInt32).toInt32)) := by simp only [ownNlzI, if_pos hb0, if_pos hb1, if_neg hb2, if_neg hb3, if_pos hb4]
            rw [e]
            have z3 := Int32.lt_iff_toInt_lt.mp hb0
            have z5 := Int32.lt_iff_toInt_lt.mp hb1
            have z7 := Int32.le_iff_toInt_le.mp (Int32.not_lt.mp hb2)
            have z12 := Int32.le_iff_toInt_le.mp (Int32.not_lt.mp hb3)
            have z16 := Int32.lt_iff_toInt_lt.mp hb4
            have z1 : ((0 : Int32)).toInt = 0 := by decide
            have z2 := rng32 q1
            have z4 : ((65536 : Int32)).toInt = 65536 := by decide
            have z6 : ((256 : Int32)).toInt = 256 := by decide
            have z8 := rng32 ((q1.toUInt32 >>> ((8 : Int32) &&& 31).toUInt32).toInt32)
            have z9 : ((8 : Int32)).toInt = 8 := by decide
            have z10 : (((q1.toUInt32 >>> ((8 : Int32) &&& 31).toUInt32).toInt32)).toInt = (q1).toInt % 4294967296 / 256 := c_iushr q1 (8 : Int32) 8 (by decide) (by decide)
            have z11 : ((16 : Int32)).toInt = 16 := by decide
            have z13 := rng32 ((((q1.toUInt32 >>> ((8 : Int32) &&& 31).toUInt32).toInt32).toUInt32 >>> ((4 : Int32) &&& 31).toUInt32).toInt32)
            have z14 : ((4 : Int32)).toInt = 4 := by decide
            have z15 : (((((q1.toUInt32 >>> ((8 : Int32) &&& 31).toUInt32).toInt32).toUInt32 >>> ((4 : Int32) &&& 31).toUInt32).toInt32)).toInt = (((q1.toUInt32 >>> ((8 : Int32) &&& 31).toUInt32).toInt32)).toInt % 4294967296 / 16 := c_iushr ((q1.toUInt32 >>> ((8 : Int32) &&& 31).toUInt32).toInt32) (4 : Int32) 4 (by decide) (by decide)
            have z17 := rng32 ((19 : Int32) - ((((((q1.toUInt32 >>> ((8 : Int32) &&& 31).toUInt32).toInt32).toUInt32 >>> ((4 : Int32) &&& 31).toUInt32).toInt32).toUInt32 >>> ((1 : Int32) &&& 31).toUInt32).toInt32))
            have z18 : ((19 : Int32)).toInt = 19 := by decide
            have z19 := rng32 ((((((q1.toUInt32 >>> ((8 : Int32) &&& 31).toUInt32).toInt32).toUInt32 >>> ((4 : Int32) &&& 31).toUInt32).toInt32).toUInt32 >>> ((1 : Int32) &&& 31).toUInt32).toInt32)
            have z20 : ((1 : Int32)).toInt = 1 := by decide
            have z21 : (((((((q1.toUInt32 >>> ((8 : Int32) &&& 31).toUInt32).toInt32).toUInt32 >>> ((4 : Int32) &&& 31).toUInt32).toInt32).toUInt32 >>> ((1 : Int32) &&& 31).toUInt32).toInt32)).toInt = (((((q1.toUInt32 >>> ((8 : Int32) &&& 31).toUInt32).toInt32).toUInt32 >>> ((4 : Int32) &&& 31).toUInt32).toInt32)).toInt % 4294967296 / 2 := c_iushr ((((q1.toUInt32 >>> ((8 : Int32) &&& 31).toUInt32).toInt32).toUInt32 >>> ((4 : Int32) &&& 31).toUInt32).toInt32) (1 : Int32) 1 (by decide) (by decide)
            have z22 := c_isub (19 : Int32) ((((((q1.toUInt32 >>> ((8 : Int32) &&& 31).toUInt32).toInt32).toUInt32 >>> ((4 : Int32) &&& 31).toUInt32).toInt32).toUInt32 >>> ((1 : Int32) &&& 31).toUInt32).toInt32)
            omega
          ·
            have e : ownNlzI q1 = ((17 : Int32) - ((((((((q1.toUInt32 >>> ((8 : Int32) &&& 31).toUInt32).toInt32).toUInt32 >>> ((4 : Int32) &&& 31).toUInt32).toInt32).toUInt32 >>> ((2 : Int32) &&& 31).toUInt32).toInt32).toUInt32 >>> ((1 : Int32) &&& 31).toUInt32).toInt32)) := by simp only [ownNlzI, if_pos hb0, if_pos hb1, if_neg hb2, if_neg hb3, if_neg hb4]
            rw [e]
            have z3 := Int32.lt_iff_toInt_lt.mp hb0
            have z5 := Int32.lt_iff_toInt_lt.mp hb1
            have z7 := Int32.le_iff_toInt_le.mp (Int32.not_lt.mp hb2)
            have z12 := Int32.le_iff_toInt_le.mp (Int32.not_lt.mp hb3)
            have z16 := Int32.le_iff_toInt_le.mp (Int32.not_lt.mp hb4)
            have z1 : ((0 : Int32)).toInt = 0 := by decide
            have z2 := rng32 q1
            have z4 : ((65536 : Int32)).toInt = 65536 := by decide
            have z6 : ((256 : Int32)).toInt = 256 := by decide
            have z8 := rng32 ((q1.toUInt32 >>> ((8 : Int32) &&& 31).toUInt32).toInt32)
            have z9 : ((8 : Int32)).toInt = 8 := by decide
            have z10 : (((q1.toUInt32 >>> ((8 : Int32) &&& 31).toUInt32).toInt32)).toInt = (q1).toInt % 4294967296 / 256 := c_iushr q1 (8 : Int32) 8 (by decide) (by decide)
            have z11 : ((16 : Int32)).toInt = 16 := by decide
            have z13 := rng32 ((((q1.toUInt32 >>> ((8 : Int32) &&& 31).toUInt32).toInt32).toUInt32 >>> ((4 : Int32) &&& 31).toUInt32).toInt32)
            have z14 : ((4 : Int32)).toInt = 4 := by decide
            have z15 : (((((q1.toUInt32 >>> ((8 : Int32) &&& 31).toUInt32).toInt32).toUInt32 >>> ((4 : Int32) &&& 31).toUInt32).toInt32)).toInt = (((q1.toUInt32 >>> ((8 : Int32) &&& 31).toUInt32).toInt32)).toInt % 4294967296 / 16 := c_iushr ((q1.toUInt32 >>> ((8 : Int32) &&& 31).toUInt32).toInt32) (4 : Int32) 4 (by decide) (by decide)
            have z17 := rng32 ((17 : Int32) - ((((((((q1.toUInt32 >>> ((8 : Int32) &&& 31).toUInt32).toInt32).toUInt32 >>> ((4 : Int32) &&& 31).toUInt32).toInt32).toUInt32 >>> ((2 : Int32) &&& 31).toUInt32).toInt32).toUInt32 >>> ((1 : Int32) &&& 31).toUInt32).toInt32))
            have z18 : ((17 : Int32)).toInt = 17 := by decide
            have z19 := rng32 ((((((((q1.toUInt32 >>> ((8 : Int32) &&& 31).toUInt32).toInt32).toUInt32 >>> ((4 : Int32) &&& 31).toUInt32).toInt32).toUInt32 >>> ((2 : Int32) &&& 31).toUInt32).toInt32).toUInt32 >>> ((1 : Int32) &&& 31).toUInt32).toInt32)
            have z20 := rng32 ((((((q1.toUInt32 >>> ((8 : Int32) &&& 31).toUInt32).toInt32).toUInt32 >>> ((4 : Int32) &&& 31).toUInt32).toInt32).toUInt32 >>> ((2 : Int32) &&& 31).toUInt32).toInt32)
            have z21 : ((2 : Int32)).toInt = 2 := by decide
            have z22 : (((((((q1.toUInt32 >>> ((8 : Int32) &&& 31).toUInt32).toInt32).toUInt32 >>> ((4 : Int32) &&& 31).toUInt32).toInt32).toUInt32 >>> ((2 : Int32) &&& 31).toUInt32).toInt32)).toInt = (((((q1.toUInt32 >>> ((8 : Int32) &&& 31).toUInt32).toInt32).toUInt32 >>> ((4 : Int32) &&& 31).toUInt32).toInt32)).toInt % 4294967296 / 4 := c_iushr ((((q1.toUInt32 >>> ((8 : Int32) &&& 31).toUInt32).toInt32).toUInt32 >>> ((4 : Int32) &&& 31).toUInt32).toInt32) (2 : Int32) 2 (by decide) (by decide)
            have z23 : ((1 : Int32)).toInt = 1 := by decide
            have z24 : (((((((((q1.toUInt32 >>> ((8 : Int32) &&& 31).toUInt32).toInt32).toUInt32 >>> ((4 : Int32) &&& 31).toUInt32).toInt32).toUInt32 >>> ((2 : Int32) &&& 31).toUInt32).toInt32).toUInt32 >>> ((1 : Int32) &&& 31).toUInt32).toInt32)).toInt = (((((((q1.toUInt32 >>> ((8 : Int32) &&& 31).toUInt32).toInt32).toUInt32 >>> ((4 : Int32) &&& 31).toUInt32).toInt32).toUInt32 >>> ((2 : Int32) &&& 31).toUInt32).toInt32)).toInt % 4294967296 / 2 := c_iushr ((((((q1.toUInt32 >>> ((8 : Int32) &&& 31).toUInt32).toInt32).toUInt32 >>> ((4 : Int32) &&& 31).toUInt32).toInt32).toUInt32 >>> ((2 : Int32) &&& 31).toUInt32).toInt32) (1 : Int32) 1 (by decide) (by decide)
            have z25 := c_isub (17 : Int32) ((((((((q1.toUInt32 >>> ((8 : Int32) &&& 31).toUInt32).toInt32).toUInt32 >>> ((4 : Int32) &&& 31).toUInt32).toInt32).toUInt32 >>> ((2 : Int32) &&& 31).toUInt32).toInt32).toUInt32 >>> ((1 : Int32) &&& 31).toUInt32).toInt32)
            omega
    ·
      by_cases hb2 : ((q1.toUInt32 >>> ((16 : Int32) &&& 31).toUInt32).toInt32) < (256 : Int32)
      ·
        by_cases hb3 : ((q1.toUInt32 >>> ((16 : Int32) &&& 31).toUInt32).toInt32) < (16 : Int32)
        ·
          by_cases hb4 : ((q1.toUInt32 >>> ((16 : Int32) &&& 31).toUInt32).toInt32) < (4 : Int32)
          ·
            have e : ownNlzI q1 = ((15 : Int32) - ((((q1.toUInt32 >>> ((16 : Int32) &&& 31).toUInt32).toInt32).toUInt32 >>> ((1 : Int32) &&& 31).toUInt32).toInt32)) := by simp only [ownNlzI, if_pos hb0, if_neg hb1, if_pos hb2, if_pos hb3, if_pos hb4]
            rw [e]
            have z3 := Int32.lt_iff_toInt_lt.mp hb0
            have z5 := Int32.le_iff_toInt_le.mp (Int32.not_lt.mp hb1)
            have z10 := Int32.lt_iff_toInt_lt.mp hb2
            have z11 := Int32.lt_iff_toInt_lt.mp hb3
            have z13 := Int32.lt_iff_toInt_lt.mp hb4
            have z1 : ((0 : Int32)).toInt = 0 := by decide
            have z2 := rng32 q1
            have z4 : ((65536 : Int32)).toInt = 65536 := by decide
            have z6 := rng32 ((q1.toUInt32 >>> ((16 : Int32) &&& 31).toUInt32).toInt32)
            have z7 : ((16 : Int32)).toInt = 16 := by decide
            have z8 : (((q1.toUInt32 >>> ((16 : Int32) &&& 31).toUInt32).toInt32)).toInt = (q1).toInt % 4294967296 / 65536 := c_iushr q1 (16 : Int32) 16 (by decide) (by decide)
            have z9 : ((256 : Int32)).toInt = 256 := by decide
            have z12 : ((4 : Int32)).toInt = 4 := by decide
            have z14 := rng32 ((15 : Int32) - ((((q1.toUInt32 >>> ((16 : Int32) &&& 31).toUInt32).toInt32).toUInt32 >>> ((1 : Int32) &&& 31).toUInt32).toInt32))
            have z15 : ((15 : Int32)).toInt = 15 := by decide
            have z16 := rng32 ((((q1.toUInt32 >>> ((16 : Int32) &&& 31).toUInt32).toInt32).toUInt32 >>> ((1 : Int32) &&& 31).toUInt32).toInt32)
            have z17 : ((1 : Int32)).toInt = 1 := by decide
            have z18 : (((((q1.toUInt32 >>> ((16 : Int32) &&& 31).toUInt32).toInt32).toUInt32 >>> ((1 : Int32) &&& 31).toUInt32).toInt32)).toInt = (((q1.toUInt32 >>> ((16 : Int32) &&& 31).toUInt32).toInt32)).toInt % 4294967296 / 2 := c_iushr ((q1.toUInt32 >>> ((16 : Int32) &&& 31).toUInt32).toInt32) (1 : Int32) 1 (by decide) (by decide)
            have z19 := c_isub (15 : Int32) ((((q1.toUInt32 >>> ((16 : Int32) &&& 31).toUInt32).toInt32).toUInt32 >>> ((1 : Int32) &&& 31).toUInt32).toInt32)
            omega
          ·
            have e : ownNlzI q1 = ((13 : Int32) - ((((((q1.toUInt32 >>> ((16 : Int32) &&& 31).toUInt32).toInt32).toUInt32 >>> ((2 : Int32) &&& 31).toUInt32).toInt32).toUInt32 >>> ((1 : Int32) &&& 31).toUInt32).toInt32)) := by simp only [ownNlzI, if_pos hb0, if_neg hb1, if_pos hb2, if_pos hb3, if_neg hb4]
            rw [e]
            have z3 := Int32.lt_iff_toInt_lt.mp hb0
            have z5 := Int32.le_iff_toInt_le.mp (Int32.not_lt.mp hb1)
            have z10 := Int32.lt_iff_toInt_lt.mp hb2
            have z11 := Int32.lt_iff_toInt_lt.mp hb3
            have z13 := Int32.le_iff_toInt_le.mp (Int32.not_lt.mp hb4)
            have z1 : ((0 : Int32)).toInt = 0 := by decide
            have z2 := rng32 q1
            have z4 : ((65536 : Int32)).toInt = 65536 := by decide
            have z6 := rng32 ((q1.toUInt32 >>> ((16 : Int32) &&& 31).toUInt32).toInt32)
            have z7 : ((16 : Int32)).toInt = 16 := by decide
            have z8 : (((q1.toUInt32 >>> ((16 : Int32) &&& 31).toUInt32).toInt32)).toInt = (q1).toInt % 4294967296 / 65536 := c_iushr q1 (16 : Int32) 16 (by decide) (by decide)
            have z9 : ((256 : Int32)).toInt = 256 := by decide
            have z12 : ((4 : Int32)).toInt = 4 := by decide
            have z14 := rng32 ((13 : Int32) - ((((((q1.toUInt32 >>> ((16 : Int32) &&& 31).toUInt32).toInt32).toUInt32 >>> ((2 : Int32) &&& 31).toUInt32).toInt32).toUInt32 >>> ((1 : Int32) &&& 31).toUInt32).toInt32))
            have z15 : ((13 : Int32)).toInt = 13 := by decide
            have z16 := rng32 ((((((q1.toUInt32 >>> ((16 : Int32) &&& 31).toUInt32).toInt32).toUInt32 >>> ((2 : Int32) &&& 31).toUInt32).toInt32).toUInt32 >>> ((1 : Int32) &&& 31).toUInt32).toInt32)
            have z17 := rng32 ((((q1.toUInt32 >>> ((16 : Int32) &&& 31).toUInt32).toInt32).toUInt32 >>> ((2 : Int32) &&& 31).toUInt32).toInt32)
            have z18 : ((2 : Int32)).toInt = 2 := by decide
            have z19 : (((((q1.toUInt32 >>> ((16 : Int32) &&& 31).toUInt32).toInt32).toUInt32 >>> ((2 : Int32) &&& 31).toUInt32).toInt32)).toInt = (((q1.toUInt32 >>> ((16 : Int32) &&& 31).toUInt32).toInt32)).toInt % 4294967296 / 4 := c_iushr ((q1.toUInt32 >>> ((16 : Int32) &&& 31).toUInt32).toInt32) (2 : Int32) 2 (by decide) (by decide)
            have z20 : ((1 : Int32)).toInt = 1 := by decide
            have z21 : (((((((q1.toUInt32 >>> ((16 : Int32) &&& 31).toUInt32).toInt32).toUInt32 >>> ((2 : Int32) &&& 31).toUInt32).toInt32).toUInt32 >>> ((1 : Int32) &&& 31).toUInt32).toInt32)).toInt = (((((q1.toUInt32 >>> ((16 : Int32) &&& 31).toUInt32).toInt32).toUInt32 >>> ((2 : Int32) &&& 31).toUInt32).toInt32)).toInt % 4294967296 / 2 := c_iushr ((((q1.toUInt32 >>> ((16 : Int32) &&& 31).toUInt32).toInt32).toUInt32 >>> ((2 : Int32) &&& 31).toUInt32).toInt32) (1 : Int32) 1 (by decide) (by decide)
            have z22 := c_isub (13 : Int32) ((((((q1.toUInt32 >>> ((16 : Int32) &&& 31).toUInt32).toInt32).toUInt32 >>> ((2 : Int32) &&& 31).toUInt32).toInt32).toUInt32 >>> ((1 : Int32) &&& 31).toUInt32).toInt32)
            omega
        ·
          by_cases hb4 : ((((q1.toUInt32 >>> ((16 : Int32) &&& 31).toUInt32).toInt32).toUInt32 >>> ((4 : Int32) &&& 31).toUInt32).toInt32) < (4 : Int32)
          ·
            have e : ownNlzI q1 = ((11 : Int32) - ((((((q1.toUInt32 >>> ((16 : Int32) &&& 31).toUInt32).toInt32).toUInt32 >>> ((4 : Int32) &&& 31).toUInt32).toInt32).toUInt32 >>> ((1 : Int32) &&& 31).toUInt32).toInt32)) := by simp only [ownNlzI, if_pos hb0, if_neg hb1, if_pos hb2, if_neg hb3, if_pos hb4]
            rw [e]
            have z3 := Int32.lt_iff_toInt_lt.mp hb0
            have z5 := Int32.le_iff_toInt_le.mp (Int32.not_lt.mp hb1)
            have z10 := Int32.lt_iff_toInt_lt.mp hb2
            have z11 := Int32.le_iff_toInt_le.mp (Int32.not_lt.mp hb3)
            have z15 := Int32.lt_iff_toInt_lt.mp hb4
            have z1 : ((0 : Int32)).toInt = 0 := by decide
            have z2 := rng32 q1
            have z4 : ((65536 : Int32)).toInt = 65536 := by decide
            have z6 := rng32 ((q1.toUInt32 >>> ((16 : Int32) &&& 31).toUInt32).toInt32)
            have z7 : ((16 : Int32)).toInt = 16 := by decide
            have z8 : (((q1.toUInt32 >>> ((16 : Int32) &&& 31).toUInt32).toInt32)).toInt = (q1).toInt % 4294967296 / 65536 := c_iushr q1 (16 : Int32) 16 (by decide) (by decide)
            have z9 : ((256 : Int32)).toInt = 256 := by decide
            have z12 := rng32 ((((q1.toUInt32 >>> ((16 : Int32) &&& 31).toUInt32).toInt32).toUInt32 >>> ((4 : Int32) &&& 31).toUInt32).toInt32)
            have z13 : ((4 : Int32)).toInt = 4 := by decide
            have z14 : (((((q1.toUInt32 >>> ((16 : Int32) &&& 31).toUInt32).toInt32).toUInt32 >>> ((4 : Int32) &&& 31).toUInt32).toInt32)).toInt = (((q1.toUInt32 >>> ((16 : Int32) &&& 31).toUInt32).toInt32)).toInt % 4294967296 / 16 := c_iushr ((q1.toUInt32 >>> ((16 : Int32) &&& 31).toUInt32).toInt32) (4 : Int32) 4 (by decide) (by decide)
            have z16 := rng32 ((11 : Int32) - ((((((q1.toUInt32 >>> ((16 : Int32) &&& 31).toUInt32).toInt32).toUInt32 >>> ((4 : Int32) &&& 31).toUInt32).toInt32).toUInt32 >>> ((1 : Int32) &&& 31).toUInt32).toInt32))
            have z17 : ((11 : Int32)).toInt = 11 := by decide
            have z18 := rng32 ((((((q1.toUInt32 >>> ((16 : Int32) &&& 31).toUInt32).toInt32).toUInt32 >>> ((4 : Int32) &&& 31).toUInt32).toInt32).toUInt32 >>> ((1 : Int32) &&& 31).toUInt32).toInt32)
            have z19 : ((1 : Int32)).toInt = 1 := by decide
            have z20 : (((((((q1.toUInt32 >>> ((16 : Int32) &&& 31).toUInt32).toInt32).toUInt32 >>> ((4 : Int32) &&& 31).toUInt32).toInt32).toUInt32 >>> ((1 : Int32) &&& 31).toUInt32).toInt32)).toInt = (((((q1.toUInt32 >>> ((16 : Int32) &&& 31).toUInt32).toInt32).toUInt32 >>> ((4 : Int32) &&& 31).toUInt32).toInt32)).toInt % 4294967296 / 2 := c_iushr ((((q1.toUInt32 >>> ((16 : Int32) &&& 31).toUInt32).toInt32).toUInt32 >>> ((4 : Int32) &&& 31).toUInt32).toInt32) (1 : Int32) 1 (by decide) (by decide)
            have z21 := c_isub (11 : Int32) ((((((q1.toUInt32 >>> ((16 : Int32) &&& 31).toUInt32).toInt32).toUInt32 >>> ((4 : Int32) &&& 31).toUInt32).toInt32).toUInt32 >>> ((1 : Int32) &&& 31).toUInt32).toInt32)
            omega
          ·
            have e : ownNlzI q1 = ((9 : Int32) - ((((((((q1.toUInt32 >>> ((16 : Int32) &&& 31).toUInt32).toInt32).toUInt32 >>> ((4 : Int32) &&& 31).toUInt32).toInt32).toUInt32 >>> ((2 : Int32) &&& 31).toUInt32).toInt32).toUInt32 >>> ((1 : Int32) &&& 31).toUInt32).toInt32)) := by simp only [ownNlzI, if_pos hb0, if_neg hb1, if_pos hb2, if_neg hb3, if_neg hb4]
            rw [e]
            have z3 := Int32.lt_iff_toInt_lt.mp hb0
            have z5 := Int32.le_iff_toInt_le.mp (Int32.not_lt.mp hb1)
            have z10 := Int32.lt_iff_toInt_lt.mp hb2
            have z11 := Int32.le_iff_toInt_le.mp (Int32.not_lt.mp hb3)
            have z15 := Int32.le_iff_toInt_le.mp (Int32.not_lt.mp hb4)
            have z1 : ((0 : Int32)).toInt = 0 := by decide
            have z2 := rng32 q1
            have z4 : ((65536 : Int32)).toInt = 65536 := by decide
            have z6 := rng32 ((q1.toUInt32 >>> ((16 : Int32) &&& 31).toUInt32).toInt32)
            have z7 : ((16 : Int32)).toInt = 16 := by decide
            have z8 : (((q1.toUInt32 >>> ((16 : Int32) &&& 31).toUInt32).toInt32)).toInt = (q1).toInt % 4294967296 / 65536 := c_iushr q1 (16 : Int32) 16 (by decide) (by decide)
            have z9 : ((256 : Int32)).toInt = 256 := by decide
            have z12 := rng32 ((((q1.toUInt32 >>> ((16 : Int32) &&& 31).toUInt32).toInt32).toUInt32 >>> ((4 : Int32) &&& 31).toUInt32).toInt32)
            have z13 : ((4 : Int32)).toInt = 4 := by decide
            have z14 : (((((q1.toUInt32 >>> ((16 : Int32) &&& 31).toUInt32).toInt32).toUInt32 >>> ((4 : Int32) &&& 31).toUInt32).toInt32)).toInt = (((q1.toUInt32 >>> ((16 : Int32) &&& 31).toUInt32).toInt32)).toInt % 4294967296 / 16 := c_iushr ((q1.toUInt32 >>> ((16 : Int32) &&& 31).toUInt32).toInt32) (4 : Int32) 4 (by decide) (by decide)
            have z16 := rng32 ((9 : Int32) - ((((((((q1.toUInt32 >>> ((16 : Int32) &&& 31).toUInt32).toInt32).toUInt32 >>> ((4 : Int32) &&& 31).toUInt32).toInt32).toUInt32 >>> ((2 : Int32) &&& 31).toUInt32).toInt32).toUInt32 >>> ((1 : Int32) &&& 31).toUInt32).toInt32))
            have z17 : ((9 : Int32)).toInt = 9 := by decide
            have z18 := rng32 ((((((((q1.toUInt32 >>> ((16 : Int32) &&& 31).toUInt32).toInt32).toUInt32 >>> ((4 : Int32) &&& 31).toUInt32).toInt32).toUInt32 >>> ((2 : Int32) &&& 31).toUInt32).toInt32).toUInt32 >>> ((1 : Int32) &&& 31).toUInt32).toInt32)
            have z19 := rng32 ((((((q1.toUInt32 >>> ((16 : Int32) &&& 31).toUInt32).toInt32).toUInt32 >>> ((4 : Int32) &&& 31).toUInt32).toInt32).toUInt32 >>> ((2 : Int32) &&& 31).toUInt32).toInt32)
            have z20 : ((2 : Int32)).toInt = 2 := by decide
            have z21 : (((((((q1.toUInt32 >>> ((16 : Int32) &&& 31).toUInt32).toInt32).toUInt32 >>> ((4 : Int32) &&& 31).toUInt32).toInt32).toUInt32 >>> ((2 : Int32) &&& 31).toUInt32).toInt32)).toInt = (((((q1.toUInt32 >>> ((16 : Int32) &&& 31).toUInt32).toInt32).toUInt32 >>> ((4 : Int32) &&& 31).toUInt32).toInt32)).toInt % 4294967296 / 4 := c_iushr ((((q1.toUInt32 >>> ((16 : Int32) &&& 31).toUInt32).toInt32).toUInt32 >>> ((4 : Int32) &&& 31).toUInt32).toInt32) (2 : Int32) 2 (by decide) (by decide)
            have z22 : ((1 : Int32)).toInt = 1 := by decide
            have z23 : (((((((((q1.toUInt32 >>> ((16 : Int32) &&& 31).toUInt32).toInt32).toUInt32 >>> ((4 : Int32) &&& 31).toUInt32).toInt32).toUInt32 >>> ((2 : Int32) &&& 31).toUInt32).toInt32).toUInt32 >>> ((1 : Int32) &&& 31).toUInt32).toInt32)).toInt = (((((((q1.toUInt32 >>> ((16 : Int32) &&& 31).toUInt32).toInt32).toUInt32 >>> ((4 : Int32) &&& 31).toUInt32).toInt32).toUInt32 >>> ((2 : Int32) &&& 31).toUInt32).toInt32)).toInt % 4294967296 / 2 := c_iushr ((((((q1.toUInt32 >>> ((16 : Int32) &&& 31).toUInt32).toInt32).toUInt32 >>> ((4 : Int32) &&& 31).toUInt32).toInt32).toUInt32 >>> ((2 : Int32) &&& 31).toUInt32).toInt32) (1 : Int32) 1 (by decide) (by decide)
            have z24 := c_isub (9 : Int32) ((((((((q1.toUInt32 >>> ((16 : Int32) &&& 31).toUInt32).toInt32).toUInt32 >>> ((4 : Int32) &&& 31).toUInt32).toInt32).toUInt32 >>> ((2 : Int32) &&& 31).toUInt32).toInt32).toUInt32 >>> ((1 : Int32) &&& 31).toUInt32).toInt32)
            omega
      ·
        by_cases hb3 : ((((q1.toUInt32 >>> ((16 : Int32) &&& 31).toUInt32).toInt32).toUInt32 >>> ((8 : Int32) &&& 31).toUInt32).toInt32) < (16 : Int32)
        ·
          by_cases hb4 : ((((q1.toUInt32 >>> ((16 : Int32) &&& 31).toUInt32).toInt32).toUInt32 >>> ((8 : Int32) &&& 31).toUInt32).toInt32) < (4 : Int32)
          ·
            have e : ownNlzI q1 = ((7 : Int32) - ((((((q1.toUInt32 >>> ((16 : Int32) &&& 31).toUInt32).toInt32).toUInt32 >>> ((8 : Int32) &&& 31).toUInt32).toInt32).toUInt32 >>> ((1 : Int32) &&& 31).toUInt32).toInt32)) := by simp only [ownNlzI, if_pos hb0, if_neg hb1, if_neg hb2, if_pos hb3, if_pos hb4]
            rw [e]
            have z3 := Int32.lt_iff_toInt_lt.mp hb0
            have z5 := Int32.le_iff_toInt_le.mp (Int32.not_lt.mp hb1)
            have z10 := Int32.le_iff_toInt_le.mp (Int32.not_lt.mp hb2)
            have z14 := Int32.lt_iff_toInt_lt.mp hb3
            have z16 := Int32.lt_iff_toInt_lt.mp hb4
            have z1 : ((0 : Int32)).toInt = 0 := by decide
            have z2 := rng32 q1
            have z4 : ((65536 : Int32)).toInt = 65536 := by decide
            have z6 := rng32 ((q1.toUInt32 >>> ((16 : Int32) &&& 31).toUInt32).toInt32)
            have z7 : ((16 : Int32)).toInt = 16 := by decide
            have z8 : (((q1.toUInt32 >>> ((16 : Int32) &&& 31).toUInt32).toInt32)).toInt = (q1).toInt % 4294967296 / 65536 := c_iushr q1 (16 : Int32) 16 (by decide) (by decide)
            have z9 : ((256 : Int32)).toInt = 256 := by decide
            have z11 := rng32 ((((q1.toUInt32 >>> ((16 : Int32) &&& 31).toUInt32).toInt32).toUInt32 >>> ((8 : Int32) &&& 31).toUInt32).toInt32)
            have z12 : ((8 : Int32)).toInt = 8 := by decide
            have z13 : (((((q1.toUInt32 >>> ((16 : Int32) &&& 31).toUInt32).toInt32).toUInt32 >>> ((8 : Int32) &&& 31).toUInt32).toInt32)).toInt = (((q1.toUInt32 >>> ((16 : Int32) &&& 31).toUInt32).toInt32)).toInt % 4294967296 / 256 := c_iushr ((q1.toUInt32 >>> ((16 : Int32) &&& 31).toUInt32).toInt32) (8 : Int32) 8 (by decide) (by decide)
            have z15 : ((4 : Int32)).toInt = 4 := by decide
            have z17 := rng32 ((7 : Int32) - ((((((q1.toUInt32 >>> ((16 : Int32) &&& 31).toUInt32).toInt32).toUInt32 >>> ((8 : Int32) &&& 31).toUInt32).toInt32).toUInt32 >>> ((1 : Int32) &&& 31).toUInt32).toInt32))
            have z18 : ((7 : Int32)).toInt = 7 := by decide
            have z19 := rng32 ((((((q1.toUInt32 >>> ((16 : Int32) &&& 31).toUInt32).toInt32).toUInt32 >>> ((8 : Int32) &&& 31).toUInt32).toInt32).toUInt32 >>> ((1 : Int32) &&& 31).toUInt32).toInt32)
            have z20 : ((1 : Int32)).toInt = 1 := by decide
            have z21 : (((((((q1.toUInt32 >>> ((16 : Int32) &&& 31).toUInt32).toInt32).toUInt32 >>> ((8 : Int32) &&& 31).toUInt32).toInt32).toUInt32 >>> ((1 : Int32) &&& 31).toUInt32).toInt32)).toInt = (((((q1.toUInt32 >>> ((16 : Int32) &&& 31).toUInt32).toInt32).toUInt32 >>> ((8 : Int32) &&& 31).toUInt32).toInt32)).toInt % 4294967296 / 2 := c_iushr ((((q1.toUInt32 >>> ((16 : Int32) &&& 31).toUInt32).toInt32).toUInt32 >>> ((8 : Int32) &&& 31).toUInt32).toInt32) (1 : Int32) 1 (by decide) (by decide)
            have z22 := c_isub (7 : Int32) ((((((q1.toUInt32 >>> ((16 : Int32) &&& 31).toUInt32).toInt32).toUInt32 >>> ((8 : Int32) &&& 31).toUInt32).toInt32).toUInt32 >>> ((1 : Int32) &&& 31).toUInt32).toInt32)
            omega
          ·
            have e : ownNlzI q1 = ((5 : Int32) - ((((((((q1.toUInt32 >>> ((16 : Int32) &&& 31).toUInt32).toInt32).toUInt32 >>> ((8 : Int32) &&& 31).toUInt32).toInt32).toUInt32 >>> ((2 : Int32) &&& 31).toUInt32).toInt32).toUInt32 >>> ((1 : Int32) &&& 31).toUInt32).toInt32)) := by simp only [ownNlzI, if_pos hb0, if_neg hb1, if_neg hb2, if_pos hb3, if_neg hb4]
            rw [e]
            have z3 := Int32.lt_iff_toInt_lt.mp hb0
            have z5 := Int32.le_iff_toInt_le.mp (Int32.not_lt.mp hb1)
            have z10 := Int32.le_iff_toInt_le.mp (Int32.not_lt.mp hb2)
            have z14 := Int32.lt_iff_toInt_lt.mp hb3
            have z16 := Int32.le_iff_toInt_le.mp (Int32.not_lt.mp hb4)
            have z1 : ((0 : Int32)).toInt = 0 := by decide
            have z2 := rng32 q1
            have z4 : ((65536 : Int32)).toInt = 65536 := by decide
            have z6 := rng32 ((q1.toUInt32 >>> ((16 : Int32) &&& 31).toUInt32).toInt32)
            have z7 : ((16 : Int32)).toInt = 16 := by decide
            have z8 : (((q1.toUInt32 >>> ((16 : Int32) &&& 31).toUInt32).toInt32)).toInt = (q1).toInt % 4294967296 / 65536 := c_iushr q1 (16 : Int32) 16 (by decide) (by decide)
            have z9 : ((256 : Int32)).toInt = 256 := by decide
            have z11 := rng32 ((((q1.toUInt32 >>> ((16 : Int32) &&& 31).toUInt32).toInt32).toUInt32 >>> ((8 : Int32) &&& 31).toUInt32).toInt32)
            have z12 : ((8 : Int32)).toInt = 8 := by decide
            have z13 : (((((q1.toUInt32 >>> ((16 : Int32) &&& 31).toUInt32).toInt32).toUInt32 >>> ((8 : Int32) &&& 31).toUInt32).toInt32)).toInt = (((q1.toUInt32 >>> ((16 : Int32) &&& 31).toUInt32).toInt32)).toInt % 4294967296 / 256 := c_iushr ((q1.toUInt32 >>> ((16 : Int32) &&& 31).toUInt32).toInt32) (8 : Int32) 8 (by decide) (by decide)
            have z15 : ((4 : Int32)).toInt = 4 := by decide
            have z17 := rng32 ((5 : Int32) - ((((((((q1.toUInt32 >>> ((16 : Int32) &&& 31).toUInt32).toInt32).toUInt32 >>> ((8 : Int32) &&& 31).toUInt32).toInt32).toUInt32 >>> ((2 : Int32) &&& 31).toUInt32).toInt32).toUInt32 >>> ((1 : Int32) &&& 31).toUInt32).toInt32))
            have z18 : ((5 : Int32)).toInt = 5 := by decide
            have z19 := rng32 ((((((((q1.toUInt32 >>> ((16 : Int32) &&& 31).toUInt32).toInt32).toUInt32 >>> ((8 : Int32) &&& 31).toUInt32).toInt32).toUInt32 >>> ((2 : Int32) &&& 31).toUInt32).toInt32).toUInt32 >>> ((1 : Int32) &&& 31).toUInt32).toInt32)
            have z20 := rng32 ((((((q1.toUInt32 >>> ((16 : Int32) &&& 31).toUInt32).toInt32).toUInt32 >>> ((8 : Int32) &&& 31).toUInt32).toInt32).toUInt32 >>> ((2 : Int32) &&& 31).toUInt32).toInt32)
            have z21 : ((2 : Int32)).toInt = 2 := by decide
            have z22 : (((((((q1.toUInt32 >>> ((16 : Int32) &&& 31).toUInt32).toInt32).toUInt32 >>> ((8 : Int32) &&& 31).toUInt32).toInt32).toUInt32 >>> ((2 : Int32) &&& 31).toUInt32).toInt32)).toInt = (((((q1.toUInt32 >>> ((16 : Int32) &&& 31).toUInt32).toInt32).toUInt32 >>> ((8 : Int32) &&& 31).toUInt32).toInt32)).toInt % 4294967296 / 4 := c_iushr ((((q1.toUInt32 >>> ((16 : Int32) &&& 31).toUInt32).toInt32).toUInt32 >>> ((8 : Int32) &&& 31).toUInt32).toInt32) (2 : Int32) 2 (by decide) (by decide)
            have z23 : ((1 : Int32)).toInt = 1 := by decide
            have z24 : (((((((((q1.toUInt32 >>> ((16 : Int32) &&& 31).toUInt32).toInt32).toUInt32 >>> ((8 : Int32) &&& 31).toUInt32).toInt32).toUInt32 >>> ((2 : Int32) &&& 31).toUInt32).toInt32).toUInt32 >>> ((1 : Int32) &&& 31).toUInt32).toInt32)).toInt = (((((((q1.toUInt32 >>> ((16 : Int32) &&& 31).toUInt32).toInt32).toUInt32 >>> ((8 : Int32) &&& 31).toUInt32).toInt32).toUInt32 >>> ((2 : Int32) &&& 31).toUInt32).toInt32)).toInt % 4294967296 / 2 := c_iushr ((((((q1.toUInt32 >>> ((16 : Int32) &&& 31).toUInt32).toInt32).toUInt32 >>> ((8 : Int32) &&& 31).toUInt32).toInt32).toUInt32 >>> ((2 : Int32) &&& 31).toUInt32).toInt32) (1 : Int32) 1 (by decide) (by decide)
            have z25 := c_isub (5 : Int32) ((((((((q1.toUInt32 >>> ((16 : Int32) &&& 31).toUInt32).toInt32).toUInt32 >>> ((8 : Int32) &&& 31).toUInt32).toInt32).toUInt32 >>> ((2 : Int32) &&& 31).toUInt32).toInt32).toUInt32 >>> ((1 : Int32) &&& 31).toUInt32).toInt32)
            omega
        ·
          by_cases hb4 : ((((((q1.toUInt32 >>> ((16 : Int32) &&& 31).toUInt32).toInt32).toUInt32 >>> ((8 : Int32) &&& 31).toUInt32).toInt32).toUInt32 >>> ((4 : Int32) &&& 31).toUInt32).toInt32) < (4 : Int32)
          ·
            have e : ownNlzI q1 = ((3 : Int32) - ((((((((q1.toUInt32 >>> ((16 : Int32) &&& 31).toUInt32).toInt32).toUInt32 >>> ((8 : Int32) &&& 31).toUInt32).toInt32).toUInt32 >>> ((4 : Int32) &&& 31).toUInt32).toInt32).toUInt32 >>> ((1 : Int32) &&& 31).toUInt32).toInt32)) := by simp only [ownNlzI, if_pos hb0, if_neg hb1, if_neg hb2, if_neg hb3, if_pos hb4]
            rw [e]
            have z3 := Int32.lt_iff_toInt_lt.mp hb0
            have z5 := Int32.le_iff_toInt_le.mp (Int32.not_lt.mp hb1)
            have z10 := Int32.le_iff_toInt_le.mp (Int32.not_lt.mp hb2)
            have z14 := Int32.le_iff_toInt_le.mp (Int32.not_lt.mp hb3)
            have z18 := Int32.lt_iff_toInt_lt.mp hb4
            have z1 : ((0 : Int32)).toInt = 0 := by decide
            have z2 := rng32 q1
            have z4 : ((65536 : Int32)).toInt = 65536 := by decide
            have z6 := rng32 ((q1.toUInt32 >>> ((16 : Int32) &&& 31).toUInt32).toInt32)
            have z7 : ((16 : Int32)).toInt = 16 := by decide
            have z8 : (((q1.toUInt32 >>> ((16 : Int32) &&& 31).toUInt32).toInt32)).toInt = (q1).toInt % 4294967296 / 65536 := c_iushr q1 (16 : Int32) 16 (by decide) (by decide)
            have z9 : ((256 : Int32)).toInt = 256 := by decide
            have z11 := rng32 ((((q1.toUInt32 >>> ((16 : Int32) &&& 31).toUInt32).toInt32).toUInt32 >>> ((8 : Int32) &&& 31).toUInt32).toInt32)
            have z12 : ((8 : Int32)).toInt = 8 := by decide
            have z13 : (((((q1.toUInt32 >>> ((16 : Int32) &&& 31).toUInt32).toInt32).toUInt32 >>> ((8 : Int32) &&& 31).toUInt32).toInt32)).toInt = (((q1.toUInt32 >>> ((16 : Int32) &&& 31).toUInt32).toInt32)).toInt % 4294967296 / 256 := c_iushr ((q1.toUInt32 >>> ((16 : Int32) &&& 31).toUInt32).toInt32) (8 : Int32) 8 (by decide) (by decide)
            have z15 := rng32 ((((((q1.toUInt32 >>> ((16 : Int32) &&& 31).toUInt32).toInt32).toUInt32 >>> ((8 : Int32) &&& 31).toUInt32).toInt32).toUInt32 >>> ((4 : Int32) &&& 31).toUInt32).toInt32)
            have z16 : ((4 : Int32)).toInt = 4 := by decide
            have z17 : (((((((q1.toUInt32 >>> ((16 : Int32) &&& 31).toUInt32).toInt32).toUInt32 >>> ((8 : Int32) &&& 31).toUInt32).toInt32).toUInt32 >>> ((4 : Int32) &&& 31).toUInt32).toInt32)).toInt = (((((q1.toUInt32 >>> ((16 : Int32) &&& 31).toUInt32).toInt32).toUInt32 >>> ((8 : Int32) &&& 31).toUInt32).toInt32)).toInt % 4294967296 / 16 := c_iushr ((((q1.toUInt32 >>> ((16 : Int32) &&& 31).toUInt32).toInt32).toUInt32 >>> ((8 : Int32) &&& 31).toUInt32).toInt32) (4 : Int32) 4 (by decide) (by decide)
            have z19 := rng32 ((3 : Int32) - ((((((((q1.toUInt32 >>> ((16 : Int32) &&& 31).toUInt32).toInt32).toUInt32 >>> ((8 : Int32) &&& 31).toUInt32).toInt32).toUInt32 >>> ((4 : Int32) &&& 31).toUInt32).toInt32).toUInt32 >>> ((1 : Int32) &&& 31).toUInt32).toInt32))
            have z20 : ((3 : Int32)).toInt = 3 := by decide
            have z21 := rng32 ((((((((q1.toUInt32 >>> ((16 : Int32) &&& 31).toUInt32).toInt32).toUInt32 >>> ((8 : Int32) &&& 31).toUInt32).toInt32).toUInt32 >>> ((4 : Int32) &&& 31).toUInt32).toInt32).toUInt32 >>> ((1 : Int32) &&& 31).toUInt32).toInt32)
            have z22 : ((1 : Int32)).toInt = 1 := by decide
            have z23 : (((((((((q1.toUInt32 >>> ((16 : Int32) &&& 31).toUInt32).toInt32).toUInt32 >>> ((8 : Int32) &&& 31).toUInt32).toInt32).toUInt32 >>> ((4 : Int32) &&& 31).toUInt32).toInt32).toUInt32 >>> ((1 : Int32) &&& 31).toUInt32).toInt32)).toInt = (((((((q1.toUInt32 >>> ((16 : Int32) &&& 31).toUInt32).toInt32).toUInt32 >>> ((8 : Int32) &&& 31).toUInt32).toInt32).toUInt32 >>> ((4 : Int32) &&& 31).toUInt32).toInt32)).toInt % 4294967296 / 2 := c_iushr ((((((q1.toUInt32 >>> ((16 : Int32) &&& 31).toUInt32).toInt32).toUInt32 >>> ((8 : Int32) &&& 31).toUInt32).toInt32).toUInt32 >>> ((4 : Int32) &&& 31).toUInt32).toInt32) (1 : Int32) 1 (by decide) (by decide)
            have z24 := c_isub (3 : Int32) ((((((((q1.toUInt32 >>> ((16 : Int32) &&& 31).toUInt32).toInt32).toUInt32 >>> ((8 : Int32) &&& 31).toUInt32).toInt32).toUInt32 >>> ((4 : Int32) &&& 31).toUInt32).toInt32).toUInt32 >>> ((1 : Int32) &&& 31).toUInt32).toInt32)
            omega
          ·
            have e : ownNlzI q1 = ((1 : Int32) - ((((((((((q1.toUInt32 >>> ((16 : Int32) &&& 31).toUInt32).toInt32).toUInt32 >>> ((8 : Int32) &&& 31).toUInt32).toInt32).toUInt32 >>> ((4 : Int32) &&& 31).toUInt32).toInt32).toUInt32 >>> ((2 : Int32) &&& 31).toUInt32).toInt32).toUInt32 >>> ((1 : Int32) &&& 31).toUInt32).toInt32)) := by simp only [ownNlzI, if_pos hb0, if_neg hb1, if_neg hb2, if_neg hb3, if_neg hb4]
            rw [e]
            have z3 := Int32.lt_iff_toInt_lt.mp hb0
            have z5 := Int32.le_iff_toInt_le.mp (Int32.not_lt.mp hb1)
            have z10 := Int32.le_iff_toInt_le.mp (Int32.not_lt.mp hb2)
            have z14 := Int32.le_iff_toInt_le.mp (Int32.not_lt.mp hb3)
            have z18 := Int32.le_iff_toInt_le.mp (Int32.not_lt.mp hb4)
            have z1 : ((0 : Int32)).toInt = 0 := by decide
            have z2 := rng32 q1
            have z4 : ((65536 : Int32)).toInt = 65536 := by decide
            have z6 := rng32 ((q1.toUInt32 >>> ((16 : Int32) &&& 31).toUInt32).toInt32)
            have z7 : ((16 : Int32)).toInt = 16 := by decide
            have z8 : (((q1.toUInt32 >>> ((16 : Int32) &&& 31).toUInt32).toInt32)).toInt = (q1).toInt % 4294967296 / 65536 := c_iushr q1 (16 : Int32) 16 (by decide) (by decide)
            have z9 : ((256 : Int32)).toInt = 256 := by decide
            have z11 := rng32 ((((q1.toUInt32 >>> ((16 : Int32) &&& 31).toUInt32).toInt32).toUInt32 >>> ((8 : Int32) &&& 31).toUInt32).toInt32)
            have z12 : ((8 : Int32)).toInt = 8 := by decide
            have z13 : (((((q1.toUInt32 >>> ((16 : Int32) &&& 31).toUInt32).toInt32).toUInt32 >>> ((8 : Int32) &&& 31).toUInt32).toInt32)).toInt = (((q1.toUInt32 >>> ((16 : Int32) &&& 31).toUInt32).toInt32)).toInt % 4294967296 / 256 := c_iushr ((q1.toUInt32 >>> ((16 : Int32) &&& 31).toUInt32).toInt32) (8 : Int32) 8 (by decide) (by decide)
            have z15 := rng32 ((((((q1.toUInt32 >>> ((16 : Int32) &&& 31).toUInt32).toInt32).toUInt32 >>> ((8 : Int32) &&& 31).toUInt32).toInt32).toUInt32 >>> ((4 : Int32) &&& 31).toUInt32).toInt32)
            have z16 : ((4 : Int32)).toInt = 4 := by decide
            have z17 : (((((((q1.toUInt32 >>> ((16 : Int32) &&& 31).toUInt32).toInt32).toUInt32 >>> ((8 : Int32) &&& 31).toUInt32).toInt32).toUInt32 >>> ((4 : Int32) &&& 31).toUInt32).toInt32)).toInt = (((((q1.toUInt32 >>> ((16 : Int32) &&& 31).toUInt32).toInt32).toUInt32 >>> ((8 : Int32) &&& 31).toUInt32).toInt32)).toInt % 4294967296 / 16 := c_iushr ((((q1.toUInt32 >>> ((16 : Int32) &&& 31).toUInt32).toInt32).toUInt32 >>> ((8 : Int32) &&& 31).toUInt32).toInt32) (4 : Int32) 4 (by decide) (by decide)
            have z19 := rng32 ((1 : Int32) - ((((((((((q1.toUInt32 >>> ((16 : Int32) &&& 31).toUInt32).toInt32).toUInt32 >>> ((8 : Int32) &&& 31).toUInt32).toInt32).toUInt32 >>> ((4 : Int32) &&& 31).toUInt32).toInt32).toUInt32 >>> ((2 : Int32) &&& 31).toUInt32).toInt32).toUInt32 >>> ((1 : Int32) &&& 31).toUInt32).toInt32))
            have z20 : ((1 : Int32)).toInt = 1 := by decide
            have z21 := rng32 ((((((((((q1.toUInt32 >>> ((16 : Int32) &&& 31).toUInt32).toInt32).toUInt32 >>> ((8 : Int32) &&& 31).toUInt32).toInt32).toUInt32 >>> ((4 : Int32) &&& 31).toUInt32).toInt32).toUInt32 >>> ((2 : Int32) &&& 31).toUInt32).toInt32).toUInt32 >>> ((1 : Int32) &&& 31).toUInt32).toInt32)
            have z22 := rng32 ((((((((q1.toUInt32 >>> ((16 : Int32) &&& 31).toUInt32).toInt32).toUInt32 >>> ((8 : Int32) &&& 31).toUInt32).toInt32).toUInt32 >>> ((4 : Int32) &&& 31).toUInt32).toInt32).toUInt32 >>> ((2 : Int32) &&& 31).toUInt32).toInt32)
            have z23 : ((2 : Int32)).toInt = 2 := by decide
            have z24 : (((((((((q1.toUInt32 >>> ((16 : Int32) &&& 31).toUInt32).toInt32).toUInt32 >>> ((8 : Int32) &&& 31).toUInt32).toInt32).toUInt32 >>> ((4 : Int32) &&& 31).toUInt32).toInt32).toUInt32 >>> ((2 : Int32) &&& 31).toUInt32).toInt32)).toInt = (((((((q1.toUInt32 >>> ((16 : Int32) &&& 31).toUInt32).toInt32).toUInt32 >>> ((8 : Int32) &&& 31).toUInt32).toInt32).toUInt32 >>> ((4 : Int32) &&& 31).toUInt32).toInt32)).toInt % 4294967296 / 4 := c_iushr ((((((q1.toUInt32 >>> ((16 : Int32) &&& 31).toUInt32).toInt32).toUInt32 >>> ((8 : Int32) &&& 31).toUInt32).toInt32).toUInt32 >>> ((4 : Int32) &&& 31).toUInt32).toInt32) (2 : Int32) 2 (by decide) (by decide)
            have z25 : (((((((((((q1.toUInt32 >>> ((16 : Int32) &&& 31).toUInt32).toInt32).toUInt32 >>> ((8 : Int32) &&& 31).toUInt32).toInt32).toUInt32 >>> ((4 : Int32) &&& 31).toUInt32).toInt32).toUInt32 >>> ((2 : Int32) &&& 31).toUInt32).toInt32).toUInt32 >>> ((1 : Int32) &&& 31).toUInt32).toInt32)).toInt = (((((((((q1.toUInt32 >>> ((16 : Int32) &&& 31).toUInt32).toInt32).toUInt32 >>> ((8 : Int32) &&& 31).toUInt32).toInt32).toUInt32 >>> ((4 : Int32) &&& 31).toUInt32).toInt32).toUInt32 >>> ((2 : Int32) &&& 31).toUInt32).toInt32)).toInt % 4294967296 / 2 := c_iushr ((((((((q1.toUInt32 >>> ((16 : Int32) &&& 31).toUInt32).toInt32).toUInt32 >>> ((8 : Int32) &&& 31).toUInt32).toInt32).toUInt32 >>> ((4 : Int32) &&& 31).toUInt32).toInt32).toUInt32 >>> ((2 : Int32) &&& 31).toUInt32).toInt32) (1 : Int32) 1 (by decide) (by decide)
            have z26 := c_isub (1 : Int32) ((((((((((q1.toUInt32 >>> ((16 : Int32) &&& 31).toUInt32).toInt32).toUInt32 >>> ((8 : Int32) &&& 31).toUInt32).toInt32).toUInt32 >>> ((4 : Int32) &&& 31).toUInt32).toInt32).toUInt32 >>> ((2 : Int32) &&& 31).toUInt32).toInt32).toUInt32 >>> ((1 : Int32) &&& 31).toUInt32).toInt32)
            omega
  ·
    by_cases hb1 : q1 = (0 : Int32)
    ·
      have e : ownNlzI q1 = (32 : Int32) := by simp only [ownNlzI, if_neg hb0, if_pos hb1]
      rw [e]
      have z3 := Int32.le_iff_toInt_le.mp (Int32.not_lt.mp hb0)
      have z4 := congrArg Int32.toInt hb1
      have z1 : ((0 : Int32)).toInt = 0 := by decide
      have z2 := rng32 q1
      have z5 : ((32 : Int32)).toInt = 32 := by decide
      omega
    ·
      have e : ownNlzI q1 = (0 : Int32) := by simp only [ownNlzI, if_neg hb0, if_neg hb1]
      rw [e]
      have z3 := Int32.le_iff_toInt_le.mp (Int32.not_lt.mp hb0)
      have z4 : (q1).toInt ≠ ((0 : Int32)).toInt := fun q => hb1 (Int32.toInt_inj.mp q)
      have z1 : ((0 : Int32)).toInt = 0 := by decide
      have z2 := rng32 q1
      omega
theorem ef_20_19 (m : MethodId) (q1 : Int32) : entryFrame m #[(.int q1)] 2 = mkF m 0 #[.val (.int q1), .unset] [] := by first | (simp [entryFrame, mkF, argsToLocals, Value.category]; done) | rfl
def Q20_19 (Z : State) (w : Nat → Addr) (q1 : Int32) (h0 : Heap) (n0 : Nat) (v : Option Value) (h : Heap) (L : List Loc) : Prop := v = some (.int (ownNlzI q1)) ∧ Fr n0 L ∧ h = h0
set_option maxRecDepth 65536 in
set_option maxHeartbeats 40000000 in
theorem rm20_19 (l : Launch) (Z : State) (a0 : Array Value) (hw : HW Z a0) (w : Nat → Addr) (hW : Wd Z w) (ws : List Jvm.Cond) (q1 : Int32) (h0 : Heap) (n0 : Nat) (O0 : Old Z n0 h0) :
    MetFree l ym15 (head1 (Jvm.Cond.code ym15 jdk_33_method_47_code 2 (some .int) :: ws) ({ frames := 0, cells := 0, slots := 0, locals := 0 } : Room)) (fun a U => a = #[(.int q1)] ∧ Z.Warmed39 U.vm ∧ U.heap = h0) (fun _ _ _ _ _ => True) (fun _ U o U' => ∃ v L, o = .returned v ∧ Q20_19 Z w q1 h0 n0 v U'.heap L ∧ FrameEnd U o U' L ({ frames := 0, cells := 0, slots := 0, locals := 0 } : Room).cells ({ frames := 0, cells := 0, slots := 0, locals := 0 } : Room).slots) := by
  refine MetFree.of_bodySF (plainFor_of_name pnc_3) hisR ?_
  intro p e s m args below meth c s₁ Bd hml0 hP hK
  obtain ⟨rfl, hZ, hh⟩ := hP
  have hx := Bd.exec
  have hby := Bd.bytes
  have hml : c.maxLocals = 2 := hml0
  have hown : s.vm.findClass cs9 = some m.cls := findClass_of_methodNamed Bd.named
  have hnm := (name_of_methodNamed Bd.named Bd.method).1
  have X0 : Stand p l e ({ frames := 0, cells := 0, slots := 0, locals := 0 } : Room) s m #[(.int q1)] below meth c s₁ [] 0 0 := Stand.of_body Bd
  have e0 : s₁.heap = h0 := by rw [← hh, Bd.state]; rfl
  have N0 := Fr.nil n0
  skip
  have pre0 : ∀ t, Steps p.tables e below (s₁.setTop (mkF m 0 #[.val (.int q1), .unset] [])) t → Steps p.tables e below (s₁.setTop (entryFrame m #[(.int q1)] 2)) t := fun t k => castTop (ef_20_19 m q1) k
  have pre1 : ∀ t, Steps p.tables e below (s₁.setTop (mkF m 1 #[.val (.int q1), .unset] [(.int q1)])) t → Steps p.tables e below (s₁.setTop (entryFrame m #[(.int q1)] 2)) t := fun t k => pre0 t (by
   show Steps p.tables e below (s₁.setTop (mkF m 0 #[.val (.int q1), .unset] [])) _
   refine sI X0 hx hby d20_0 rfl ?_
   exact k)
  by_cases hc2 : (0 : Int32) < q1
  ·
   have pre3 : ∀ t, Steps p.tables e below (s₁.setTop (mkF m 22 #[.val (.int q1), .val (.int (31 : Int32))] [(.int (65536 : Int32)), (.int q1)])) t → Steps p.tables e below (s₁.setTop (entryFrame m #[(.int q1)] 2)) t := fun t k => pre1 t (by
    show Steps p.tables e below (s₁.setTop (mkF m 1 #[.val (.int q1), .unset] [(.int q1)])) _
    refine XS.ifYes X0.here hx rfl (pc0 := 1) (pc' := 15) rfl (hb hby d20_1) rfl ((if0 _ _).trans (tlt (hc2 : (0 : Int32) < q1)).2.2.1) (by decide) (by decide) ?_
    refine XS.bipush X0.here hx rfl (hb hby d20_15) ?_
    refine XS.istoreN X0.here hx rfl (hb hby d20_17) rfl (l' := #[.val (.int q1), .val (.int (31 : Int32))]) rfl ?_
    refine sI X0 hx hby d20_18 rfl ?_
    refine X0.ldcwInt hx hown (mvT hZ (wk147 hw)) (g := (mkF m 19 #[.val (.int q1), .val (.int (31 : Int32))] [(.int q1)])) rfl (hb hby d20_19) _ ?_
    exact k)
   by_cases hc4 : q1 < (65536 : Int32)
   ·
    have pre5 : ∀ t, Steps p.tables e below (s₁.setTop (mkF m 37 #[.val (.int q1), .val (.int (31 : Int32))] [(.int (256 : Int32)), (.int q1)])) t → Steps p.tables e below (s₁.setTop (entryFrame m #[(.int q1)] 2)) t := fun t k => pre3 t (by
     show Steps p.tables e below (s₁.setTop (mkF m 22 #[.val (.int q1), .val (.int (31 : Int32))] [(.int (65536 : Int32)), (.int q1)])) _
     refine XS.icmpYes X0.here hx rfl (pc0 := 22) (pc' := 33) rfl (hb hby d20_22) rfl (tlt (hc4 : q1 < (65536 : Int32))).1 (by decide) (by decide) ?_
     refine sI X0 hx hby d20_33 rfl ?_
     refine XS.sipush X0.here hx rfl (hb hby d20_34) ?_
     exact k)
    by_cases hc6 : q1 < (256 : Int32)
    ·
     have pre7 : ∀ t, Steps p.tables e below (s₁.setTop (mkF m 51 #[.val (.int q1), .val (.int (31 : Int32))] [(.int (16 : Int32)), (.int q1)])) t → Steps p.tables e below (s₁.setTop (entryFrame m #[(.int q1)] 2)) t := fun t k => pre5 t (by
      show Steps p.tables e below (s₁.setTop (mkF m 37 #[.val (.int q1), .val (.int (31 : Int32))] [(.int (256 : Int32)), (.int q1)])) _
      refine XS.icmpYes X0.here hx rfl (pc0 := 37) (pc' := 48) rfl (hb hby d20_37) rfl (tlt (hc6 : q1 < (256 : Int32))).1 (by decide) (by decide) ?_
      refine sI X0 hx hby d20_48 rfl ?_
      refine XS.bipush X0.here hx rfl (hb hby d20_49) ?_
      exact k)
     by_cases hc8 : q1 < (16 : Int32)
     ·
      have pre9 : ∀ t, Steps p.tables e below (s₁.setTop (mkF m 63 #[.val (.int q1), .val (.int (31 : Int32))] [(.int (4 : Int32)), (.int q1)])) t → Steps p.tables e below (s₁.setTop (entryFrame m #[(.int q1)] 2)) t := fun t k => pre7 t (by
       show Steps p.tables e below (s₁.setTop (mkF m 51 #[.val (.int q1), .val (.int (31 : Int32))] [(.int (16 : Int32)), (.int q1)])) _
       refine XS.icmpYes X0.here hx rfl (pc0 := 51) (pc' := 61) rfl (hb hby d20_51) rfl (tlt (hc8 : q1 < (16 : Int32))).1 (by decide) (by decide) ?_
       refine sI X0 hx hby d20_61 rfl ?_
       refine sc X0 hx hby d20_62 ?_
       exact k)
      by_cases hc10 : q1 < (4 : Int32)
      ·
       obtain ⟨fs, hr, hrun, hended, hWm, hsame⟩ := X0.leave (v := some (.int ((31 : Int32) - ((q1.toUInt32 >>> ((1 : Int32) &&& 31).toUInt32).toInt32)))) (fun h => by rw [Bd.returns] at h; cases h)
       refine ⟨_, _, pre9 _ ?_, hrun, hended, _, _, rfl, ?_, ⟨_, rfl⟩, hWm, hsame.mono (by decide) (by decide)⟩
       · show Steps p.tables e below (s₁.setTop (mkF m 63 #[.val (.int q1), .val (.int (31 : Int32))] [(.int (4 : Int32)), (.int q1)])) _
         refine XS.icmpYes X0.here hx rfl (pc0 := 63) (pc' := 73) rfl (hb hby d20_63) rfl (tlt (hc10 : q1 < (4 : Int32))).1 (by decide) (by decide) ?_
         refine sI X0 hx hby d20_73 rfl ?_
         refine sI X0 hx hby d20_74 rfl ?_
         refine sc X0 hx hby d20_75 ?_
         refine XS.iushr X0.here hx rfl (hb hby d20_76) rfl ?_
         show Steps p.tables e below (s₁.setTop (mkF m 77 #[.val (.int q1), .val (.int (31 : Int32))] [(.int ((q1.toUInt32 >>> ((1 : Int32) &&& 31).toUInt32).toInt32)), (.int (31 : Int32))])) _
         refine XS.isub X0.here hx rfl (hb hby d20_77) rfl ?_
         exact retI X0 hx Bd.returns (hb hby d20_78) hr
       · show Q20_19 Z w q1 h0 n0 _ s₁.heap _
         rw [e0]
         exact ⟨by simp only [ownNlzI, if_pos hc2, if_pos hc4, if_pos hc6, if_pos hc8, if_pos hc10], N0, rfl⟩
      ·
       let Lb11 : Array Slot := #[.val (.int ((q1.toUInt32 >>> ((2 : Int32) &&& 31).toUInt32).toInt32)), .val (.int (29 : Int32))]
       obtain ⟨fs, hr, hrun, hended, hWm, hsame⟩ := X0.leave (v := some (.int ((29 : Int32) - ((((q1.toUInt32 >>> ((2 : Int32) &&& 31).toUInt32).toInt32).toUInt32 >>> ((1 : Int32) &&& 31).toUInt32).toInt32)))) (fun h => by rw [Bd.returns] at h; cases h)
       refine ⟨_, _, pre9 _ ?_, hrun, hended, _, _, rfl, ?_, ⟨_, rfl⟩, hWm, hsame.mono (by decide) (by decide)⟩
       · show Steps p.tables e below (s₁.setTop (mkF m 63 #[.val (.int q1), .val (.int (31 : Int32))] [(.int (4 : Int32)), (.int q1)])) _
         refine sn X0 hx hby d20_63 (flt (hc10 : ¬ (q1 < (4 : Int32)))).1 ?_
         refine XS.iinc X0.here hx rfl (hb hby d20_66) rfl (l' := #[.val (.int q1), .val (.int (29 : Int32))]) rfl ?_
         refine sI X0 hx hby d20_69 rfl ?_
         refine sc X0 hx hby d20_70 ?_
         refine XS.iushr X0.here hx rfl (hb hby d20_71) rfl ?_
         show Steps p.tables e below (s₁.setTop (mkF m 72 #[.val (.int q1), .val (.int (29 : Int32))] [(.int ((q1.toUInt32 >>> ((2 : Int32) &&& 31).toUInt32).toInt32))])) _
         refine XS.istoreN X0.here hx rfl (hb hby d20_72) rfl (l' := Lb11) rfl ?_
         refine sI X0 hx hby d20_73 rfl ?_
         refine sI X0 hx hby d20_74 rfl ?_
         refine sc X0 hx hby d20_75 ?_
         refine XS.iushr X0.here hx rfl (hb hby d20_76) rfl ?_
         show Steps p.tables e below (s₁.setTop (mkF m 77 Lb11 [(.int ((((q1.toUInt32 >>> ((2 : Int32) &&& 31).toUInt32).toInt32).toUInt32 >>> ((1 : Int32) &&& 31).toUInt32).toInt32)), (.int (29 : Int32))])) _
         refine XS.isub X0.here hx rfl (hb hby d20_77) rfl ?_
         exact retI X0 hx Bd.returns (hb hby d20_78) hr
       · show Q20_19 Z w q1 h0 n0 _ s₁.heap _
         rw [e0]
         exact ⟨by simp only [ownNlzI, if_pos hc2, if_pos hc4, if_pos hc6, if_pos hc8, if_neg hc10], N0, rfl⟩
     ·
      let Lb12 : Array Slot := #[.val (.int ((q1.toUInt32 >>> ((4 : Int32) &&& 31).toUInt32).toInt32)), .val (.int (27 : Int32))]
      have pre13 : ∀ t, Steps p.tables e below (s₁.setTop (mkF m 63 Lb12 [(.int (4 : Int32)), (.int ((q1.toUInt32 >>> ((4 : Int32) &&& 31).toUInt32).toInt32))])) t → Steps p.tables e below (s₁.setTop (entryFrame m #[(.int q1)] 2)) t := fun t k => pre7 t (by
       show Steps p.tables e below (s₁.setTop (mkF m 51 #[.val (.int q1), .val (.int (31 : Int32))] [(.int (16 : Int32)), (.int q1)])) _
       refine sn X0 hx hby d20_51 (flt (hc8 : ¬ (q1 < (16 : Int32)))).1 ?_
       refine XS.iinc X0.here hx rfl (hb hby d20_54) rfl (l' := #[.val (.int q1), .val (.int (27 : Int32))]) rfl ?_
       refine sI X0 hx hby d20_57 rfl ?_
       refine sc X0 hx hby d20_58 ?_
       refine XS.iushr X0.here hx rfl (hb hby d20_59) rfl ?_
       show Steps p.tables e below (s₁.setTop (mkF m 60 #[.val (.int q1), .val (.int (27 : Int32))] [(.int ((q1.toUInt32 >>> ((4 : Int32) &&& 31).toUInt32).toInt32))])) _
       refine XS.istoreN X0.here hx rfl (hb hby d20_60) rfl (l' := Lb12) rfl ?_
       refine sI X0 hx hby d20_61 rfl ?_
       refine sc X0 hx hby d20_62 ?_
       exact k)
      by_cases hc14 : ((q1.toUInt32 >>> ((4 : Int32) &&& 31).toUInt32).toInt32) < (4 : Int32)
      ·
       obtain ⟨fs, hr, hrun, hended, hWm, hsame⟩ := X0.leave (v := some (.int ((27 : Int32) - ((((q1.toUInt32 >>> ((4 : Int32) &&& 31).toUInt32).toInt32).toUInt32 >>> ((1 : Int32) &&& 31).toUInt32).toInt32)))) (fun h => by rw [Bd.returns] at h; cases h)
       refine ⟨_, _, pre13 _ ?_, hrun, hended, _, _, rfl, ?_, ⟨_, rfl⟩, hWm, hsame.mono (by decide) (by decide)⟩
       · show Steps p.tables e below (s₁.setTop (mkF m 63 Lb12 [(.int (4 : Int32)), (.int ((q1.toUInt32 >>> ((4 : Int32) &&& 31).toUInt32).toInt32))])) _
         refine XS.icmpYes X0.here hx rfl (pc0 := 63) (pc' := 73) rfl (hb hby d20_63) rfl (tlt (hc14 : ((q1.toUInt32 >>> ((4 : Int32) &&& 31).toUInt32).toInt32) < (4 : Int32))).1 (by decide) (by decide) ?_
         refine sI X0 hx hby d20_73 rfl ?_
         refine sI X0 hx hby d20_74 rfl ?_
         refine sc X0 hx hby d20_75 ?_
         refine XS.iushr X0.here hx rfl (hb hby d20_76) rfl ?_
         show Steps p.tables e below (s₁.setTop (mkF m 77 Lb12 [(.int ((((q1.toUInt32 >>> ((4 : Int32) &&& 31).toUInt32).toInt32).toUInt32 >>> ((1 : Int32) &&& 31).toUInt32).toInt32)), (.int (27 : Int32))])) _
         refine XS.isub X0.here hx rfl (hb hby d20_77) rfl ?_
         exact retI X0 hx Bd.returns (hb hby d20_78) hr
       · show Q20_19 Z w q1 h0 n0 _ s₁.heap _
         rw [e0]
         exact ⟨by simp only [ownNlzI, if_pos hc2, if_pos hc4, if_pos hc6, if_neg hc8, if_pos hc14], N0, rfl⟩
      ·
       let Lb15 : Array Slot := #[.val (.int ((q1.toUInt32 >>> ((4 : Int32) &&& 31).toUInt32).toInt32)), .val (.int (25 : Int32))]
       let Lb16 : Array Slot := #[.val (.int ((((q1.toUInt32 >>> ((4 : Int32) &&& 31).toUInt32).toInt32).toUInt32 >>> ((2 : Int32) &&& 31).toUInt32).toInt32)), .val (.int (25 : Int32))]
       obtain ⟨fs, hr, hrun, hended, hWm, hsame⟩ := X0.leave (v := some (.int ((25 : Int32) - ((((((q1.toUInt32 >>> ((4 : Int32) &&& 31).toUInt32).toInt32).toUInt32 >>> ((2 : Int32) &&& 31).toUInt32).toInt32).toUInt32 >>> ((1 : Int32) &&& 31).toUInt32).toInt32)))) (fun h => by rw [Bd.returns] at h; cases h)
       refine ⟨_, _, pre13 _ ?_, hrun, hended, _, _, rfl, ?_, ⟨_, rfl⟩, hWm, hsame.mono (by decide) (by decide)⟩
       · show Steps p.tables e below (s₁.setTop (mkF m 63 Lb12 [(.int (4 : Int32)), (.int ((q1.toUInt32 >>> ((4 : Int32) &&& 31).toUInt32).toInt32))])) _
         refine sn X0 hx hby d20_63 (flt (hc14 : ¬ (((q1.toUInt32 >>> ((4 : Int32) &&& 31).toUInt32).toInt32) < (4 : Int32)))).1 ?_
         refine XS.iinc X0.here hx rfl (hb hby d20_66) rfl (l' := Lb15) rfl ?_
         refine sI X0 hx hby d20_69 rfl ?_
         refine sc X0 hx hby d20_70 ?_
         refine XS.iushr X0.here hx rfl (hb hby d20_71) rfl ?_
         show Steps p.tables e below (s₁.setTop (mkF m 72 Lb15 [(.int ((((q1.toUInt32 >>> ((4 : Int32) &&& 31).toUInt32).toInt32).toUInt32 >>> ((2 : Int32) &&& 31).toUInt32).toInt32))])) _
         refine XS.istoreN X0.here hx rfl (hb hby d20_72) rfl (l' := Lb16) rfl ?_
         refine sI X0 hx hby d20_73 rfl ?_
         refine sI X0 hx hby d20_74 rfl ?_
         refine sc X0 hx hby d20_75 ?_
         refine XS.iushr X0.here hx rfl (hb hby d20_76) rfl ?_
         show Steps p.tables e below (s₁.setTop (mkF m 77 Lb16 [(.int ((((((q1.toUInt32 >>> ((4 : Int32) &&& 31).toUInt32).toInt32).toUInt32 >>> ((2 : Int32) &&& 31).toUInt32).toInt32).toUInt32 >>> ((1 : Int32) &&& 31).toUInt32).toInt32)), (.int (25 : Int32))])) _
         refine XS.isub X0.here hx rfl (hb hby d20_77) rfl ?_
         exact retI X0 hx Bd.returns (hb hby d20_78) hr
       · show Q20_19 Z w q1 h0 n0 _ s₁.heap _
         rw [e0]
         exact ⟨by simp only [ownNlzI, if_pos hc2, if_pos hc4, if_pos hc6, if_neg hc8, if_neg hc14], N0, rfl⟩
    ·
     let Lb17 : Array Slot := #[.val (.int ((q1.toUInt32 >>> ((8 : Int32) &&& 31).toUInt32).toInt32)), .val (.int (23 : Int32))]
     have pre18 : ∀ t, Steps p.tables e below (s₁.setTop (mkF m 51 Lb17 [(.int (16 : Int32)), (.int ((q1.toUInt32 >>> ((8 : Int32) &&& 31).toUInt32).toInt32))])) t → Steps p.tables e below (s₁.setTop (entryFrame m #[(.int q1)] 2)) t := fun t k => pre5 t (by
      show Steps p.tables e below (s₁.setTop (mkF m 37 #[.val (.int q1), .val (.int (31 : Int32))] [(.int (256 : Int32)), (.int q1)])) _
      refine sn X0 hx hby d20_37 (flt (hc6 : ¬ (q1 < (256 : Int32)))).1 ?_
      refine XS.iinc X0.here hx rfl (hb hby d20_40) rfl (l' := #[.val (.int q1), .val (.int (23 : Int32))]) rfl ?_
      refine sI X0 hx hby d20_43 rfl ?_
      refine XS.bipush X0.here hx rfl (hb hby d20_44) ?_
      refine XS.iushr X0.here hx rfl (hb hby d20_46) rfl ?_
      show Steps p.tables e below (s₁.setTop (mkF m 47 #[.val (.int q1), .val (.int (23 : Int32))] [(.int ((q1.toUInt32 >>> ((8 : Int32) &&& 31).toUInt32).toInt32))])) _
      refine XS.istoreN X0.here hx rfl (hb hby d20_47) rfl (l' := Lb17) rfl ?_
      refine sI X0 hx hby d20_48 rfl ?_
      refine XS.bipush X0.here hx rfl (hb hby d20_49) ?_
      exact k)
     by_cases hc19 : ((q1.toUInt32 >>> ((8 : Int32) &&& 31).toUInt32).toInt32) < (16 : Int32)
     ·
      have pre20 : ∀ t, Steps p.tables e below (s₁.setTop (mkF m 63 Lb17 [(.int (4 : Int32)), (.int ((q1.toUInt32 >>> ((8 : Int32) &&& 31).toUInt32).toInt32))])) t → Steps p.tables e below (s₁.setTop (entryFrame m #[(.int q1)] 2)) t := fun t k => pre18 t (by
       show Steps p.tables e below (s₁.setTop (mkF m 51 Lb17 [(.int (16 : Int32)), (.int ((q1.toUInt32 >>> ((8 : Int32) &&& 31).toUInt32).toInt32))])) _
       refine XS.icmpYes X0.here hx rfl (pc0 := 51) (pc' := 61) rfl (hb hby d20_51) rfl (tlt (hc19 : ((q1.toUInt32 >>> ((8 : Int32) &&& 31).toUInt32).toInt32) < (16 : Int32))).1 (by decide) (by decide) ?_
       refine sI X0 hx hby d20_61 rfl ?_
       refine sc X0 hx hby d20_62 ?_
       exact k)
      by_cases hc21 : ((q1.toUInt32 >>> ((8 : Int32) &&& 31).toUInt32).toInt32) < (4 : Int32)
      ·
       obtain ⟨fs, hr, hrun, hended, hWm, hsame⟩ := X0.leave (v := some (.int ((23 : Int32) - ((((q1.toUInt32 >>> ((8 : Int32) &&& 31).toUInt32).toInt32).toUInt32 >>> ((1 : Int32) &&& 31).toUInt32).toInt32)))) (fun h => by rw [Bd.returns] at h; cases h)
       refine ⟨_, _, pre20 _ ?_, hrun, hended, _, _, rfl, ?_, ⟨_, rfl⟩, hWm, hsame.mono (by decide) (by decide)⟩
       · show Steps p.tables e below (s₁.setTop (mkF m 63 Lb17 [(.int (4 : Int32)), (.int ((q1.toUInt32 >>> ((8 : Int32) &&& 31).toUInt32).toInt32))])) _
         refine XS.icmpYes X0.here hx rfl (pc0 := 63) (pc' := 73) rfl (hb hby d20_63) rfl (tlt (hc21 : ((q1.toUInt32 >>> ((8 : Int32) &&& 31).toUInt32).toInt32) < (4 : Int32))).1 (by decide) (by decide) ?_
         refine sI X0 hx hby d20_73 rfl ?_
         refine sI X0 hx hby d20_74 rfl ?_
         refine sc X0 hx hby d20_75 ?_
         refine XS.iushr X0.here hx rfl (hb hby d20_76) rfl ?_
         show Steps p.tables e below (s₁.setTop (mkF m 77 Lb17 [(.int ((((q1.toUInt32 >>> ((8 : Int32) &&& 31).toUInt32).toInt32).toUInt32 >>> ((1 : Int32) &&& 31).toUInt32).toInt32)), (.int (23 : Int32))])) _
         refine XS.isub X0.here hx rfl (hb hby d20_77) rfl ?_
         exact retI X0 hx Bd.returns (hb hby d20_78) hr
       · show Q20_19 Z w q1 h0 n0 _ s₁.heap _
         rw [e0]
         exact ⟨by simp only [ownNlzI, if_pos hc2, if_pos hc4, if_neg hc6, if_pos hc19, if_pos hc21], N0, rfl⟩
      ·
       let Lb22 : Array Slot := #[.val (.int ((q1.toUInt32 >>> ((8 : Int32) &&& 31).toUInt32).toInt32)), .val (.int (21 : Int32))]
       let Lb23 : Array Slot := #[.val (.int ((((q1.toUInt32 >>> ((8 : Int32) &&& 31).toUInt32).toInt32).toUInt32 >>> ((2 : Int32) &&& 31).toUInt32).toInt32)), .val (.int (21 : Int32))]
       obtain ⟨fs, hr, hrun, hended, hWm, hsame⟩ := X0.leave (v := some (.int ((21 : Int32) - ((((((q1.toUInt32 >>> ((8 : Int32) &&& 31).toUInt32).toInt32).toUInt32 >>> ((2 : Int32) &&& 31).toUInt32).toInt32).toUInt32 >>> ((1 : Int32) &&& 31).toUInt32).toInt32)))) (fun h => by rw [Bd.returns] at h; cases h)
       refine ⟨_, _, pre20 _ ?_, hrun, hended, _, _, rfl, ?_, ⟨_, rfl⟩, hWm, hsame.mono (by decide) (by decide)⟩
       · show Steps p.tables e below (s₁.setTop (mkF m 63 Lb17 [(.int (4 : Int32)), (.int ((q1.toUInt32 >>> ((8 : Int32) &&& 31).toUInt32).toInt32))])) _
         refine sn X0 hx hby d20_63 (flt (hc21 : ¬ (((q1.toUInt32 >>> ((8 : Int32) &&& 31).toUInt32).toInt32) < (4 : Int32)))).1 ?_
         refine XS.iinc X0.here hx rfl (hb hby d20_66) rfl (l' := Lb22) rfl ?_
         refine sI X0 hx hby d20_69 rfl ?_
         refine sc X0 hx hby d20_70 ?_
         refine XS.iushr X0.here hx rfl (hb hby d20_71) rfl ?_
         show Steps p.tables e below (s₁.setTop (mkF m 72 Lb22 [(.int ((((q1.toUInt32 >>> ((8 : Int32) &&& 31).toUInt32).toInt32).toUInt32 >>> ((2 : Int32) &&& 31).toUInt32).toInt32))])) _
         refine XS.istoreN X0.here hx rfl (hb hby d20_72) rfl (l' := Lb23) rfl ?_
         refine sI X0 hx hby d20_73 rfl ?_
         refine sI X0 hx hby d20_74 rfl ?_
         refine sc X0 hx hby d20_75 ?_
         refine XS.iushr X0.here hx rfl (hb hby d20_76) rfl ?_
         show Steps p.tables e below (s₁.setTop (mkF m 77 Lb23 [(.int ((((((q1.toUInt32 >>> ((8 : Int32) &&& 31).toUInt32).toInt32).toUInt32 >>> ((2 : Int32) &&& 31).toUInt32).toInt32).toUInt32 >>> ((1 : Int32) &&& 31).toUInt32).toInt32)), (.int (21 : Int32))])) _
         refine XS.isub X0.here hx rfl (hb hby d20_77) rfl ?_
         exact retI X0 hx Bd.returns (hb hby d20_78) hr
       · show Q20_19 Z w q1 h0 n0 _ s₁.heap _
         rw [e0]
         exact ⟨by simp only [ownNlzI, if_pos hc2, if_pos hc4, if_neg hc6, if_pos hc19, if_neg hc21], N0, rfl⟩
     ·
      let Lb24 : Array Slot := #[.val (.int ((q1.toUInt32 >>> ((8 : Int32) &&& 31).toUInt32).toInt32)), .val (.int (19 : Int32))]
      let Lb25 : Array Slot := #[.val (.int ((((q1.toUInt32 >>> ((8 : Int32) &&& 31).toUInt32).toInt32).toUInt32 >>> ((4 : Int32) &&& 31).toUInt32).toInt32)), .val (.int (19 : Int32))]
      have pre26 : ∀ t, Steps p.tables e below (s₁.setTop (mkF m 63 Lb25 [(.int (4 : Int32)), (.int ((((q1.toUInt32 >>> ((8 : Int32) &&& 31).toUInt32).toInt32).toUInt32 >>> ((4 : Int32) &&& 31).toUInt32).toInt32))])) t → Steps p.tables e below (s₁.setTop (entryFrame m #[(.int q1)] 2)) t := fun t k => pre18 t (by
       show Steps p.tables e below (s₁.setTop (mkF m 51 Lb17 [(.int (16 : Int32)), (.int ((q1.toUInt32 >>> ((8 : Int32) &&& 31).toUInt32).toInt32))])) _
       refine sn X0 hx hby d20_51 (flt (hc19 : ¬ (((q1.toUInt32 >>> ((8 : Int32) &&& 31).toUInt32).toInt32) < (16 : Int32)))).1 ?_
       refine XS.iinc X0.here hx rfl (hb hby d20_54) rfl (l' := Lb24) rfl ?_
       refine sI X0 hx hby d20_57 rfl ?_
       refine sc X0 hx hby d20_58 ?_
       refine XS.iushr X0.here hx rfl (hb hby d20_59) rfl ?_
       show Steps p.tables e below (s₁.setTop (mkF m 60 Lb24 [(.int ((((q1.toUInt32 >>> ((8 : Int32) &&& 31).toUInt32).toInt32).toUInt32 >>> ((4 : Int32) &&& 31).toUInt32).toInt32))])) _
       refine XS.istoreN X0.here hx rfl (hb hby d20_60) rfl (l' := Lb25) rfl ?_
       refine sI X0 hx hby d20_61 rfl ?_
       refine sc X0 hx hby d20_62 ?_
       exact k)
      by_cases hc27 : ((((q1.toUInt32 >>> ((8 : Int32) &&& 31).toUInt32).toInt32).toUInt32 >>> ((4 : Int32) &&& 31).toUInt32).toInt32) < (4 : Int32)
      ·
       obtain ⟨fs, hr, hrun, hended, hWm, hsame⟩ := X0.leave (v := some (.int ((19 : Int32) - ((((((q1.toUInt32 >>> ((8 : Int32) &&& 31).toUInt32).toInt32).toUInt32 >>> ((4 : Int32) &&& 31).toUInt32).toInt32).toUInt32 >>> ((1 : Int32) &&& 31).toUInt32).toInt32)))) (fun h => by rw [Bd.returns] at h; cases h)
       refine ⟨_, _, pre26 _ ?_, hrun, hended, _, _, rfl, ?_, ⟨_, rfl⟩, hWm, hsame.mono (by decide) (by decide)⟩
       · show Steps p.tables e below (s₁.setTop (mkF m 63 Lb25 [(.int (4 : Int32)), (.int ((((q1.toUInt32 >>> ((8 : Int32) &&& 31).toUInt32).toInt32).toUInt32 >>> ((4 : Int32) &&& 31).toUInt32).toInt32))])) _
         refine XS.icmpYes X0.here hx rfl (pc0 := 63) (pc' := 73) rfl (hb hby d20_63) rfl (tlt (hc27 : ((((q1.toUInt32 >>> ((8 : Int32) &&& 31).toUInt32).toInt32).toUInt32 >>> ((4 : Int32) &&& 31).toUInt32).toInt32) < (4 : Int32))).1 (by decide) (by decide) ?_
         refine sI X0 hx hby d20_73 rfl ?_
         refine sI X0 hx hby d20_74 rfl ?_
         refine sc X0 hx hby d20_75 ?_
         refine XS.iushr X0.here hx rfl (hb hby d20_76) rfl ?_
         show Steps p.tables e below (s₁.setTop (mkF m 77 Lb25 [(.int ((((((q1.toUInt32 >>> ((8 : Int32) &&& 31).toUInt32).toInt32).toUInt32 >>> ((4 : Int32) &&& 31).toUInt32).toInt32).toUInt32 >>> ((1 : Int32) &&& 31).toUInt32).toInt32)), (.int (19 : Int32))])) _
         refine XS.isub X0.here hx rfl (hb hby d20_77) rfl ?_
         exact retI X0 hx Bd.returns (hb hby d20_78) hr
       · show Q20_19 Z w q1 h0 n0 _ s₁.heap _
         rw [e0]
         exact ⟨by simp only [ownNlzI, if_pos hc2, if_pos hc4, if_neg hc6, if_neg hc19, if_pos hc27], N0, rfl⟩
      ·
       let Lb28 : Array Slot := #[.val (.int ((((q1.toUInt32 >>> ((8 : Int32) &&& 31).toUInt32).toInt32).toUInt32 >>> ((4 : Int32) &&& 31).toUInt32).toInt32)), .val (.int (17 : Int32))]
       let Lb29 : Array Slot := #[.val (.int ((((((q1.toUInt32 >>> ((8 : Int32) &&& 31).toUInt32).toInt32).toUInt32 >>> ((4 : Int32) &&& 31).toUInt32).toInt32).toUInt32 >>> ((2 : Int32) &&& 31).toUInt32).toInt32)), .val (.int (17 : Int32))]
       obtain ⟨fs, hr, hrun, hended, hWm, hsame⟩ := X0.leave (v := some (.int ((17 : Int32) - ((((((((q1.toUInt32 >>> ((8 : Int32) &&& 31).toUInt32).toInt32).toUInt32 >>> ((4 : Int32) &&& 31).toUInt32).toInt32).toUInt32 >>> ((2 : Int32) &&& 31).toUInt32).toInt32).toUInt32 >>> ((1 : Int32) &&& 31).toUInt32).toInt32)))) (fun h => by rw [Bd.returns] at h; cases h)
       refine ⟨_, _, pre26 _ ?_, hrun, hended, _, _, rfl, ?_, ⟨_, rfl⟩, hWm, hsame.mono (by decide) (by decide)⟩
       · show Steps p.tables e below (s₁.setTop (mkF m 63 Lb25 [(.int (4 : Int32)), (.int ((((q1.toUInt32 >>> ((8 : Int32) &&& 31).toUInt32).toInt32).toUInt32 >>> ((4 : Int32) &&& 31).toUInt32).toInt32))])) _
         refine sn X0 hx hby d20_63 (flt (hc27 : ¬ (((((q1.toUInt32 >>> ((8 : Int32) &&& 31).toUInt32).toInt32).toUInt32 >>> ((4 : Int32) &&& 31).toUInt32).toInt32) < (4 : Int32)))).1 ?_
         refine XS.iinc X0.here hx rfl (hb hby d20_66) rfl (l' := Lb28) rfl ?_
         refine sI X0 hx hby d20_69 rfl ?_
         refine sc X0 hx hby d20_70 ?_
         refine XS.iushr X0.here hx rfl (hb hby d20_71) rfl ?_
         show Steps p.tables e below (s₁.setTop (mkF m 72 Lb28 [(.int ((((((q1.toUInt32 >>> ((8 : Int32) &&& 31).toUInt32).toInt32).toUInt32 >>> ((4 : Int32) &&& 31).toUInt32).toInt32).toUInt32 >>> ((2 : Int32) &&& 31).toUInt32).toInt32))])) _
         refine XS.istoreN X0.here hx rfl (hb hby d20_72) rfl (l' := Lb29) rfl ?_
         refine sI X0 hx hby d20_73 rfl ?_
         refine sI X0 hx hby d20_74 rfl ?_
         refine sc X0 hx hby d20_75 ?_
         refine XS.iushr X0.here hx rfl (hb hby d20_76) rfl ?_
         show Steps p.tables e below (s₁.setTop (mkF m 77 Lb29 [(.int ((((((((q1.toUInt32 >>> ((8 : Int32) &&& 31).toUInt32).toInt32).toUInt32 >>> ((4 : Int32) &&& 31).toUInt32).toInt32).toUInt32 >>> ((2 : Int32) &&& 31).toUInt32).toInt32).toUInt32 >>> ((1 : Int32) &&& 31).toUInt32).toInt32)), (.int (17 : Int32))])) _
         refine XS.isub X0.here hx rfl (hb hby d20_77) rfl ?_
         exact retI X0 hx Bd.returns (hb hby d20_78) hr
       · show Q20_19 Z w q1 h0 n0 _ s₁.heap _
         rw [e0]
         exact ⟨by simp only [ownNlzI, if_pos hc2, if_pos hc4, if_neg hc6, if_neg hc19, if_neg hc27], N0, rfl⟩
   ·
    let Lb30 : Array Slot := #[.val (.int ((q1.toUInt32 >>> ((16 : Int32) &&& 31).toUInt32).toInt32)), .val (.int (15 : Int32))]
    have pre31 : ∀ t, Steps p.tables e below (s₁.setTop (mkF m 37 Lb30 [(.int (256 : Int32)), (.int ((q1.toUInt32 >>> ((16 : Int32) &&& 31).toUInt32).toInt32))])) t → Steps p.tables e below (s₁.setTop (entryFrame m #[(.int q1)] 2)) t := fun t k => pre3 t (by
     show Steps p.tables e below (s₁.setTop (mkF m 22 #[.val (.int q1), .val (.int (31 : Int32))] [(.int (65536 : Int32)), (.int q1)])) _
     refine sn X0 hx hby d20_22 (flt (hc4 : ¬ (q1 < (65536 : Int32)))).1 ?_
     refine XS.iinc X0.here hx rfl (hb hby d20_25) rfl (l' := #[.val (.int q1), .val (.int (15 : Int32))]) rfl ?_
     refine sI X0 hx hby d20_28 rfl ?_
     refine XS.bipush X0.here hx rfl (hb hby d20_29) ?_
     refine XS.iushr X0.here hx rfl (hb hby d20_31) rfl ?_
     show Steps p.tables e below (s₁.setTop (mkF m 32 #[.val (.int q1), .val (.int (15 : Int32))] [(.int ((q1.toUInt32 >>> ((16 : Int32) &&& 31).toUInt32).toInt32))])) _
     refine XS.istoreN X0.here hx rfl (hb hby d20_32) rfl (l' := Lb30) rfl ?_
     refine sI X0 hx hby d20_33 rfl ?_
     refine XS.sipush X0.here hx rfl (hb hby d20_34) ?_
     exact k)
    by_cases hc32 : ((q1.toUInt32 >>> ((16 : Int32) &&& 31).toUInt32).toInt32) < (256 : Int32)
    ·
     have pre33 : ∀ t, Steps p.tables e below (s₁.setTop (mkF m 51 Lb30 [(.int (16 : Int32)), (.int ((q1.toUInt32 >>> ((16 : Int32) &&& 31).toUInt32).toInt32))])) t → Steps p.tables e below (s₁.setTop (entryFrame m #[(.int q1)] 2)) t := fun t k => pre31 t (by
      show Steps p.tables e below (s₁.setTop (mkF m 37 Lb30 [(.int (256 : Int32)), (.int ((q1.toUInt32 >>> ((16 : Int32) &&& 31).toUInt32).toInt32))])) _
      refine XS.icmpYes X0.here hx rfl (pc0 := 37) (pc' := 48) rfl (hb hby d20_37) rfl (tlt (hc32 : ((q1.toUInt32 >>> ((16 : Int32) &&& 31).toUInt32).toInt32) < (256 : Int32))).1 (by decide) (by decide) ?_
      refine sI X0 hx hby d20_48 rfl ?_
      refine XS.bipush X0.here hx rfl (hb hby d20_49) ?_
      exact k)
     by_cases hc34 : ((q1.toUInt32 >>> ((16 : Int32) &&& 31).toUInt32).toInt32) < (16 : Int32)
     ·
      have pre35 : ∀ t, Steps p.tables e below (s₁.setTop (mkF m 63 Lb30 [(.int (4 : Int32)), (.int ((q1.toUInt32 >>> ((16 : Int32) &&& 31).toUInt32).toInt32))])) t → Steps p.tables e below (s₁.setTop (entryFrame m #[(.int q1)] 2)) t := fun t k => pre33 t (by
       show Steps p.tables e below (s₁.setTop (mkF m 51 Lb30 [(.int (16 : Int32)), (.int ((q1.toUInt32 >>> ((16 : Int32) &&& 31).toUInt32).toInt32))])) _
       refine XS.icmpYes X0.here hx rfl (pc0 := 51) (pc' := 61) rfl (hb hby d20_51) rfl (tlt (hc34 : ((q1.toUInt32 >>> ((16 : Int32) &&& 31).toUInt32).toInt32) < (16 : Int32))).1 (by decide) (by decide) ?_
       refine sI X0 hx hby d20_61 rfl ?_
       refine sc X0 hx hby d20_62 ?_
       exact k)
      by_cases hc36 : ((q1.toUInt32 >>> ((16 : Int32) &&& 31).toUInt32).toInt32) < (4 : Int32)
      ·
       obtain ⟨fs, hr, hrun, hended, hWm, hsame⟩ := X0.leave (v := some (.int ((15 : Int32) - ((((q1.toUInt32 >>> ((16 : Int32) &&& 31).toUInt32).toInt32).toUInt32 >>> ((1 : Int32) &&& 31).toUInt32).toInt32)))) (fun h => by rw [Bd.returns] at h; cases h)
       refine ⟨_, _, pre35 _ ?_, hrun, hended, _, _, rfl, ?_, ⟨_, rfl⟩, hWm, hsame.mono (by decide) (by decide)⟩
       · show Steps p.tables e below (s₁.setTop (mkF m 63 Lb30 [(.int (4 : Int32)), (.int ((q1.toUInt32 >>> ((16 : Int32) &&& 31).toUInt32).toInt32))])) _
         refine XS.icmpYes X0.here hx rfl (pc0 := 63) (pc' := 73) rfl (hb hby d20_63) rfl (tlt (hc36 : ((q1.toUInt32 >>> ((16 : Int32) &&& 31).toUInt32).toInt32) < (4 : Int32))).1 (by decide) (by decide) ?_
         refine sI X0 hx hby d20_73 rfl ?_
         refine sI X0 hx hby d20_74 rfl ?_
         refine sc X0 hx hby d20_75 ?_
         refine XS.iushr X0.here hx rfl (hb hby d20_76) rfl ?_
         show Steps p.tables e below (s₁.setTop (mkF m 77 Lb30 [(.int ((((q1.toUInt32 >>> ((16 : Int32) &&& 31).toUInt32).toInt32).toUInt32 >>> ((1 : Int32) &&& 31).toUInt32).toInt32)), (.int (15 : Int32))])) _
         refine XS.isub X0.here hx rfl (hb hby d20_77) rfl ?_
         exact retI X0 hx Bd.returns (hb hby d20_78) hr
       · show Q20_19 Z w q1 h0 n0 _ s₁.heap _
         rw [e0]
         exact ⟨by simp only [ownNlzI, if_pos hc2, if_neg hc4, if_pos hc32, if_pos hc34, if_pos hc36], N0, rfl⟩
      ·
       let Lb37 : Array Slot := #[.val (.int ((q1.toUInt32 >>> ((16 : Int32) &&& 31).toUInt32).toInt32)), .val (.int (13 : Int32))]
       let Lb38 : Array Slot := #[.val (.int ((((q1.toUInt32 >>> ((16 : Int32) &&& 31).toUInt32).toInt32).toUInt32 >>> ((2 : Int32) &&& 31).toUInt32).toInt32)), .val (.int (13 : Int32))]
       obtain ⟨fs, hr, hrun, hended, hWm, hsame⟩ := X0.leave (v := some (.int ((13 : Int32) - ((((((q1.toUInt32 >>> ((16 : Int32) &&& 31).toUInt32).toInt32).toUInt32 >>> ((2 : Int32) &&& 31).toUInt32).toInt32).toUInt32 >>> ((1 : Int32) &&& 31).toUInt32).toInt32)))) (fun h => by rw [Bd.returns] at h; cases h)
       refine ⟨_, _, pre35 _ ?_, hrun, hended, _, _, rfl, ?_, ⟨_, rfl⟩, hWm, hsame.mono (by decide) (by decide)⟩
       · show Steps p.tables e below (s₁.setTop (mkF m 63 Lb30 [(.int (4 : Int32)), (.int ((q1.toUInt32 >>> ((16 : Int32) &&& 31).toUInt32).toInt32))])) _
         refine sn X0 hx hby d20_63 (flt (hc36 : ¬ (((q1.toUInt32 >>> ((16 : Int32) &&& 31).toUInt32).toInt32) < (4 : Int32)))).1 ?_
         refine XS.iinc X0.here hx rfl (hb hby d20_66) rfl (l' := Lb37) rfl ?_
         refine sI X0 hx hby d20_69 rfl ?_
         refine sc X0 hx hby d20_70 ?_
         refine XS.iushr X0.here hx rfl (hb hby d20_71) rfl ?_
         show Steps p.tables e below (s₁.setTop (mkF m 72 Lb37 [(.int ((((q1.toUInt32 >>> ((16 : Int32) &&& 31).toUInt32).toInt32).toUInt32 >>> ((2 : Int32) &&& 31).toUInt32).toInt32))])) _
         refine XS.istoreN X0.here hx rfl (hb hby d20_72) rfl (l' := Lb38) rfl ?_
         refine sI X0 hx hby d20_73 rfl ?_
         refine sI X0 hx hby d20_74 rfl ?_
         refine sc X0 hx hby d20_75 ?_
         refine XS.iushr X0.here hx rfl (hb hby d20_76) rfl ?_
         show Steps p.tables e below (s₁.setTop (mkF m 77 Lb38 [(.int ((((((q1.toUInt32 >>> ((16 : Int32) &&& 31).toUInt32).toInt32).toUInt32 >>> ((2 : Int32) &&& 31).toUInt32).toInt32).toUInt32 >>> ((1 : Int32) &&& 31).toUInt32).toInt32)), (.int (13 : Int32))])) _
         refine XS.isub X0.here hx rfl (hb hby d20_77) rfl ?_
         exact retI X0 hx Bd.returns (hb hby d20_78) hr
       · show Q20_19 Z w q1 h0 n0 _ s₁.heap _
         rw [e0]
         exact ⟨by simp only [ownNlzI, if_pos hc2, if_neg hc4, if_pos hc32, if_pos hc34, if_neg hc36], N0, rfl⟩
     ·
      let Lb39 : Array Slot := #[.val (.int ((q1.toUInt32 >>> ((16 : Int32) &&& 31).toUInt32).toInt32)), .val (.int (11 : Int32))]
      let Lb40 : Array Slot := #[.val (.int ((((q1.toUInt32 >>> ((16 : Int32) &&& 31).toUInt32).toInt32).toUInt32 >>> ((4 : Int32) &&& 31).toUInt32).toInt32)), .val (.int (11 : Int32))]
      have pre41 : ∀ t, Steps p.tables e below (s₁.setTop (mkF m 63 Lb40 [(.int (4 : Int32)), (.int ((((q1.toUInt32 >>> ((16 : Int32) &&& 31).toUInt32).toInt32).toUInt32 >>> ((4 : Int32) &&& 31).toUInt32).toInt32))])) t → Steps p.tables e below (s₁.setTop (entryFrame m #[(.int q1)] 2)) t := fun t k => pre33 t (by
       show Steps p.tables e below (s₁.setTop (mkF m 51 Lb30 [(.int (16 : Int32)), (.int ((q1.toUInt32 >>> ((16 : Int32) &&& 31).toUInt32).toInt32))])) _
       refine sn X0 hx hby d20_51 (flt (hc34 : ¬ (((q1.toUInt32 >>> ((16 : Int32) &&& 31).toUInt32).toInt32) < (16 : Int32)))).1 ?_
       refine XS.iinc X0.here hx rfl (hb hby d20_54) rfl (l' := Lb39) rfl ?_
       refine sI X0 hx hby d20_57 rfl ?_
       refine sc X0 hx hby d20_58 ?_
       refine XS.iushr X0.here hx rfl (hb hby d20_59) rfl ?_
       show Steps p.tables e below (s₁.setTop (mkF m 60 Lb39 [(.int ((((q1.toUInt32 >>> ((16 : Int32) &&& 31).toUInt32).toInt32).toUInt32 >>> ((4 : Int32) &&& 31).toUInt32).toInt32))])) _
       refine XS.istoreN X0.here hx rfl (hb hby d20_60) rfl (l' := Lb40) rfl ?_
       refine sI X0 hx hby d20_61 rfl ?_
       refine sc X0 hx hby d20_62 ?_
       exact k)
      by_cases hc42 : ((((q1.toUInt32 >>> ((16 : Int32) &&& 31).toUInt32).toInt32).toUInt32 >>> ((4 : Int32) &&& 31).toUInt32).toInt32) < (4 : Int32)
      ·
       obtain ⟨fs, hr, hrun, hended, hWm, hsame⟩ := X0.leave (v := some (.int ((11 : Int32) - ((((((q1.toUInt32 >>> ((16 : Int32) &&& 31).toUInt32).toInt32).toUInt32 >>> ((4 : Int32) &&& 31).toUInt32).toInt32).toUInt32 >>> ((1 : Int32) &&& 31).toUInt32).toInt32)))) (fun h => by rw [Bd.returns] at h; cases h)
       refine ⟨_, _, pre41 _ ?_, hrun, hended, _, _, rfl, ?_, ⟨_, rfl⟩, hWm, hsame.mono (by decide) (by decide)⟩
       · show Steps p.tables e below (s₁.setTop (mkF m 63 Lb40 [(.int (4 : Int32)), (.int ((((q1.toUInt32 >>> ((16 : Int32) &&& 31).toUInt32).toInt32).toUInt32 >>> ((4 : Int32) &&& 31).toUInt32).toInt32))])) _
         refine XS.icmpYes X0.here hx rfl (pc0 := 63) (pc' := 73) rfl (hb hby d20_63) rfl (tlt (hc42 : ((((q1.toUInt32 >>> ((16 : Int32) &&& 31).toUInt32).toInt32).toUInt32 >>> ((4 : Int32) &&& 31).toUInt32).toInt32) < (4 : Int32))).1 (by decide) (by decide) ?_
         refine sI X0 hx hby d20_73 rfl ?_
         refine sI X0 hx hby d20_74 rfl ?_
         refine sc X0 hx hby d20_75 ?_
         refine XS.iushr X0.here hx rfl (hb hby d20_76) rfl ?_
         show Steps p.tables e below (s₁.setTop (mkF m 77 Lb40 [(.int ((((((q1.toUInt32 >>> ((16 : Int32) &&& 31).toUInt32).toInt32).toUInt32 >>> ((4 : Int32) &&& 31).toUInt32).toInt32).toUInt32 >>> ((1 : Int32) &&& 31).toUInt32).toInt32)), (.int (11 : Int32))])) _
         refine XS.isub X0.here hx rfl (hb hby d20_77) rfl ?_
         exact retI X0 hx Bd.returns (hb hby d20_78) hr
       · show Q20_19 Z w q1 h0 n0 _ s₁.heap _
         rw [e0]
         exact ⟨by simp only [ownNlzI, if_pos hc2, if_neg hc4, if_pos hc32, if_neg hc34, if_pos hc42], N0, rfl⟩
      ·
       let Lb43 : Array Slot := #[.val (.int ((((q1.toUInt32 >>> ((16 : Int32) &&& 31).toUInt32).toInt32).toUInt32 >>> ((4 : Int32) &&& 31).toUInt32).toInt32)), .val (.int (9 : Int32))]
       let Lb44 : Array Slot := #[.val (.int ((((((q1.toUInt32 >>> ((16 : Int32) &&& 31).toUInt32).toInt32).toUInt32 >>> ((4 : Int32) &&& 31).toUInt32).toInt32).toUInt32 >>> ((2 : Int32) &&& 31).toUInt32).toInt32)), .val (.int (9 : Int32))]
       obtain ⟨fs, hr, hrun, hended, hWm, hsame⟩ := X0.leave (v := some (.int ((9 : Int32) - ((((((((q1.toUInt32 >>> ((16 : Int32) &&& 31).toUInt32).toInt32).toUInt32 >>> ((4 : Int32) &&& 31).toUInt32).toInt32).toUInt32 >>> ((2 : Int32) &&& 31).toUInt32).toInt32).toUInt32 >>> ((1 : Int32) &&& 31).toUInt32).toInt32)))) (fun h => by rw [Bd.returns] at h; cases h)
       refine ⟨_, _, pre41 _ ?_, hrun, hended, _, _, rfl, ?_, ⟨_, rfl⟩, hWm, hsame.mono (by decide) (by decide)⟩
       · show Steps p.tables e below (s₁.setTop (mkF m 63 Lb40 [(.int (4 : Int32)), (.int ((((q1.toUInt32 >>> ((16 : Int32) &&& 31).toUInt32).toInt32).toUInt32 >>> ((4 : Int32) &&& 31).toUInt32).toInt32))])) _
         refine sn X0 hx hby d20_63 (flt (hc42 : ¬ (((((q1.toUInt32 >>> ((16 : Int32) &&& 31).toUInt32).toInt32).toUInt32 >>> ((4 : Int32) &&& 31).toUInt32).toInt32) < (4 : Int32)))).1 ?_
         refine XS.iinc X0.here hx rfl (hb hby d20_66) rfl (l' := Lb43) rfl ?_
         refine sI X0 hx hby d20_69 rfl ?_
         refine sc X0 hx hby d20_70 ?_
         refine XS.iushr X0.here hx rfl (hb hby d20_71) rfl ?_
         show Steps p.tables e below (s₁.setTop (mkF m 72 Lb43 [(.int ((((((q1.toUInt32 >>> ((16 : Int32) &&& 31).toUInt32).toInt32).toUInt32 >>> ((4 : Int32) &&& 31).toUInt32).toInt32).toUInt32 >>> ((2 : Int32) &&& 31).toUInt32).toInt32))])) _
         refine XS.istoreN X0.here hx rfl (hb hby d20_72) rfl (l' := Lb44) rfl ?_
         refine sI X0 hx hby d20_73 rfl ?_
         refine sI X0 hx hby d20_74 rfl ?_
         refine sc X0 hx hby d20_75 ?_
         refine XS.iushr X0.here hx rfl (hb hby d20_76) rfl ?_
         show Steps p.tables e below (s₁.setTop (mkF m 77 Lb44 [(.int ((((((((q1.toUInt32 >>> ((16 : Int32) &&& 31).toUInt32).toInt32).toUInt32 >>> ((4 : Int32) &&& 31).toUInt32).toInt32).toUInt32 >>> ((2 : Int32) &&& 31).toUInt32).toInt32).toUInt32 >>> ((1 : Int32) &&& 31).toUInt32).toInt32)), (.int (9 : Int32))])) _
         refine XS.isub X0.here hx rfl (hb hby d20_77) rfl ?_
         exact retI X0 hx Bd.returns (hb hby d20_78) hr
       · show Q20_19 Z w q1 h0 n0 _ s₁.heap _
         rw [e0]
         exact ⟨by simp only [ownNlzI, if_pos hc2, if_neg hc4, if_pos hc32, if_neg hc34, if_neg hc42], N0, rfl⟩
    ·
     let Lb45 : Array Slot := #[.val (.int ((q1.toUInt32 >>> ((16 : Int32) &&& 31).toUInt32).toInt32)), .val (.int (7 : Int32))]
     let Lb46 : Array Slot := #[.val (.int ((((q1.toUInt32 >>> ((16 : Int32) &&& 31).toUInt32).toInt32).toUInt32 >>> ((8 : Int32) &&& 31).toUInt32).toInt32)), .val (.int (7 : Int32))]
     have pre47 : ∀ t, Steps p.tables e below (s₁.setTop (mkF m 51 Lb46 [(.int (16 : Int32)), (.int ((((q1.toUInt32 >>> ((16 : Int32) &&& 31).toUInt32).toInt32).toUInt32 >>> ((8 : Int32) &&& 31).toUInt32).toInt32))])) t → Steps p.tables e below (s₁.setTop (entryFrame m #[(.int q1)] 2)) t := fun t k => pre31 t (by
      show Steps p.tables e below (s₁.setTop (mkF m 37 Lb30 [(.int (256 : Int32)), (.int ((q1.toUInt32 >>> ((16 : Int32) &&& 31).toUInt32).toInt32))])) _
      refine sn X0 hx hby d20_37 (flt (hc32 : ¬ (((q1.toUInt32 >>> ((16 : Int32) &&& 31).toUInt32).toInt32) < (256 : Int32)))).1 ?_
      refine XS.iinc X0.here hx rfl (hb hby d20_40) rfl (l' := Lb45) rfl ?_
      refine sI X0 hx hby d20_43 rfl ?_
      refine XS.bipush X0.here hx rfl (hb hby d20_44) ?_
      refine XS.iushr X0.here hx rfl (hb hby d20_46) rfl ?_
      show Steps p.tables e below (s₁.setTop (mkF m 47 Lb45 [(.int ((((q1.toUInt32 >>> ((16 : Int32) &&& 31).toUInt32).toInt32).toUInt32 >>> ((8 : Int32) &&& 31).toUInt32).toInt32))])) _
      refine XS.istoreN X0.here hx rfl (hb hby d20_47) rfl (l' := Lb46) rfl ?_
      refine sI X0 hx hby d20_48 rfl ?_
      refine XS.bipush X0.here hx rfl (hb hby d20_49) ?_
      exact k)
     by_cases hc48 : ((((q1.toUInt32 >>> ((16 : Int32) &&& 31).toUInt32).toInt32).toUInt32 >>> ((8 : Int32) &&& 31).toUInt32).toInt32) < (16 : Int32)
     ·
      have pre49 : ∀ t, Steps p.tables e below (s₁.setTop (mkF m 63 Lb46 [(.int (4 : Int32)), (.int ((((q1.toUInt32 >>> ((16 : Int32) &&& 31).toUInt32).toInt32).toUInt32 >>> ((8 : Int32) &&& 31).toUInt32).toInt32))])) t → Steps p.tables e below (s₁.setTop (entryFrame m #[(.int q1)] 2)) t := fun t k => pre47 t (by
       show Steps p.tables e below (s₁.setTop (mkF m 51 Lb46 [(.int (16 : Int32)), (.int ((((q1.toUInt32 >>> ((16 : Int32) &&& 31).toUInt32).toInt32).toUInt32 >>> ((8 : Int32) &&& 31).toUInt32).toInt32))])) _
       refine XS.icmpYes X0.here hx rfl (pc0 := 51) (pc' := 61) rfl (hb hby d20_51) rfl (tlt (hc48 : ((((q1.toUInt32 >>> ((16 : Int32) &&& 31).toUInt32).toInt32).toUInt32 >>> ((8 : Int32) &&& 31).toUInt32).toInt32) < (16 : Int32))).1 (by decide) (by decide) ?_
       refine sI X0 hx hby d20_61 rfl ?_
       refine sc X0 hx hby d20_62 ?_
       exact k)
      by_cases hc50 : ((((q1.toUInt32 >>> ((16 : Int32) &&& 31).toUInt32).toInt32).toUInt32 >>> ((8 : Int32) &&& 31).toUInt32).toInt32) < (4 : Int32)
      ·
       obtain ⟨fs, hr, hrun, hended, hWm, hsame⟩ := X0.leave (v := some (.int ((7 : Int32) - ((((((q1.toUInt32 >>> ((16 : Int32) &&& 31).toUInt32).toInt32).toUInt32 >>> ((8 : Int32) &&& 31).toUInt32).toInt32).toUInt32 >>> ((1 : Int32) &&& 31).toUInt32).toInt32)))) (fun h => by rw [Bd.returns] at h; cases h)
       refine ⟨_, _, pre49 _ ?_, hrun, hended, _, _, rfl, ?_, ⟨_, rfl⟩, hWm, hsame.mono (by decide) (by decide)⟩
       · show Steps p.tables e below (s₁.setTop (mkF m 63 Lb46 [(.int (4 : Int32)), (.int ((((q1.toUInt32 >>> ((16 : Int32) &&& 31).toUInt32).toInt32).toUInt32 >>> ((8 : Int32) &&& 31).toUInt32).toInt32))])) _
         refine XS.icmpYes X0.here hx rfl (pc0 := 63) (pc' := 73) rfl (hb hby d20_63) rfl (tlt (hc50 : ((((q1.toUInt32 >>> ((16 : Int32) &&& 31).toUInt32).toInt32).toUInt32 >>> ((8 : Int32) &&& 31).toUInt32).toInt32) < (4 : Int32))).1 (by decide) (by decide) ?_
         refine sI X0 hx hby d20_73 rfl ?_
         refine sI X0 hx hby d20_74 rfl ?_
         refine sc X0 hx hby d20_75 ?_
         refine XS.iushr X0.here hx rfl (hb hby d20_76) rfl ?_
         show Steps p.tables e below (s₁.setTop (mkF m 77 Lb46 [(.int ((((((q1.toUInt32 >>> ((16 : Int32) &&& 31).toUInt32).toInt32).toUInt32 >>> ((8 : Int32) &&& 31).toUInt32).toInt32).toUInt32 >>> ((1 : Int32) &&& 31).toUInt32).toInt32)), (.int (7 : Int32))])) _
         refine XS.isub X0.here hx rfl (hb hby d20_77) rfl ?_
         exact retI X0 hx Bd.returns (hb hby d20_78) hr
       · show Q20_19 Z w q1 h0 n0 _ s₁.heap _
         rw [e0]
         exact ⟨by simp only [ownNlzI, if_pos hc2, if_neg hc4, if_neg hc32, if_pos hc48, if_pos hc50], N0, rfl⟩
      ·
       let Lb51 : Array Slot := #[.val (.int ((((q1.toUInt32 >>> ((16 : Int32) &&& 31).toUInt32).toInt32).toUInt32 >>> ((8 : Int32) &&& 31).toUInt32).toInt32)), .val (.int (5 : Int32))]
       let Lb52 : Array Slot := #[.val (.int ((((((q1.toUInt32 >>> ((16 : Int32) &&& 31).toUInt32).toInt32).toUInt32 >>> ((8 : Int32) &&& 31).toUInt32).toInt32).toUInt32 >>> ((2 : Int32) &&& 31).toUInt32).toInt32)), .val (.int (5 : Int32))]
       obtain ⟨fs, hr, hrun, hended, hWm, hsame⟩ := X0.leave (v := some (.int ((5 : Int32) - ((((((((q1.toUInt32 >>> ((16 : Int32) &&& 31).toUInt32).toInt32).toUInt32 >>> ((8 : Int32) &&& 31).toUInt32).toInt32).toUInt32 >>> ((2 : Int32) &&& 31).toUInt32).toInt32).toUInt32 >>> ((1 : Int32) &&& 31).toUInt32).toInt32)))) (fun h => by rw [Bd.returns] at h; cases h)
       refine ⟨_, _, pre49 _ ?_, hrun, hended, _, _, rfl, ?_, ⟨_, rfl⟩, hWm, hsame.mono (by decide) (by decide)⟩
       · show Steps p.tables e below (s₁.setTop (mkF m 63 Lb46 [(.int (4 : Int32)), (.int ((((q1.toUInt32 >>> ((16 : Int32) &&& 31).toUInt32).toInt32).toUInt32 >>> ((8 : Int32) &&& 31).toUInt32).toInt32))])) _
         refine sn X0 hx hby d20_63 (flt (hc50 : ¬ (((((q1.toUInt32 >>> ((16 : Int32) &&& 31).toUInt32).toInt32).toUInt32 >>> ((8 : Int32) &&& 31).toUInt32).toInt32) < (4 : Int32)))).1 ?_
         refine XS.iinc X0.here hx rfl (hb hby d20_66) rfl (l' := Lb51) rfl ?_
         refine sI X0 hx hby d20_69 rfl ?_
         refine sc X0 hx hby d20_70 ?_
         refine XS.iushr X0.here hx rfl (hb hby d20_71) rfl ?_
         show Steps p.tables e below (s₁.setTop (mkF m 72 Lb51 [(.int ((((((q1.toUInt32 >>> ((16 : Int32) &&& 31).toUInt32).toInt32).toUInt32 >>> ((8 : Int32) &&& 31).toUInt32).toInt32).toUInt32 >>> ((2 : Int32) &&& 31).toUInt32).toInt32))])) _
         refine XS.istoreN X0.here hx rfl (hb hby d20_72) rfl (l' := Lb52) rfl ?_
         refine sI X0 hx hby d20_73 rfl ?_
         refine sI X0 hx hby d20_74 rfl ?_
         refine sc X0 hx hby d20_75 ?_
         refine XS.iushr X0.here hx rfl (hb hby d20_76) rfl ?_
         show Steps p.tables e below (s₁.setTop (mkF m 77 Lb52 [(.int ((((((((q1.toUInt32 >>> ((16 : Int32) &&& 31).toUInt32).toInt32).toUInt32 >>> ((8 : Int32) &&& 31).toUInt32).toInt32).toUInt32 >>> ((2 : Int32) &&& 31).toUInt32).toInt32).toUInt32 >>> ((1 : Int32) &&& 31).toUInt32).toInt32)), (.int (5 : Int32))])) _
         refine XS.isub X0.here hx rfl (hb hby d20_77) rfl ?_
         exact retI X0 hx Bd.returns (hb hby d20_78) hr
       · show Q20_19 Z w q1 h0 n0 _ s₁.heap _
         rw [e0]
         exact ⟨by simp only [ownNlzI, if_pos hc2, if_neg hc4, if_neg hc32, if_pos hc48, if_neg hc50], N0, rfl⟩
     ·
      let Lb53 : Array Slot := #[.val (.int ((((q1.toUInt32 >>> ((16 : Int32) &&& 31).toUInt32).toInt32).toUInt32 >>> ((8 : Int32) &&& 31).toUInt32).toInt32)), .val (.int (3 : Int32))]
      let Lb54 : Array Slot := #[.val (.int ((((((q1.toUInt32 >>> ((16 : Int32) &&& 31).toUInt32).toInt32).toUInt32 >>> ((8 : Int32) &&& 31).toUInt32).toInt32).toUInt32 >>> ((4 : Int32) &&& 31).toUInt32).toInt32)), .val (.int (3 : Int32))]
      have pre55 : ∀ t, Steps p.tables e below (s₁.setTop (mkF m 63 Lb54 [(.int (4 : Int32)), (.int ((((((q1.toUInt32 >>> ((16 : Int32) &&& 31).toUInt32).toInt32).toUInt32 >>> ((8 : Int32) &&& 31).toUInt32).toInt32).toUInt32 >>> ((4 : Int32) &&& 31).toUInt32).toInt32))])) t → Steps p.tables e below (s₁.setTop (entryFrame m #[(.int q1)] 2)) t := fun t k => pre47 t (by
       show Steps p.tables e below (s₁.setTop (mkF m 51 Lb46 [(.int (16 : Int32)), (.int ((((q1.toUInt32 >>> ((16 : Int32) &&& 31).toUInt32).toInt32).toUInt32 >>> ((8 : Int32) &&& 31).toUInt32).toInt32))])) _
       refine sn X0 hx hby d20_51 (flt (hc48 : ¬ (((((q1.toUInt32 >>> ((16 : Int32) &&& 31).toUInt32).toInt32).toUInt32 >>> ((8 : Int32) &&& 31).toUInt32).toInt32) < (16 : Int32)))).1 ?_
       refine XS.iinc X0.here hx rfl (hb hby d20_54) rfl (l' := Lb53) rfl ?_
       refine sI X0 hx hby d20_57 rfl ?_
       refine sc X0 hx hby d20_58 ?_
       refine XS.iushr X0.here hx rfl (hb hby d20_59) rfl ?_
       show Steps p.tables e below (s₁.setTop (mkF m 60 Lb53 [(.int ((((((q1.toUInt32 >>> ((16 : Int32) &&& 31).toUInt32).toInt32).toUInt32 >>> ((8 : Int32) &&& 31).toUInt32).toInt32).toUInt32 >>> ((4 : Int32) &&& 31).toUInt32).toInt32))])) _
       refine XS.istoreN X0.here hx rfl (hb hby d20_60) rfl (l' := Lb54) rfl ?_
       refine sI X0 hx hby d20_61 rfl ?_
       refine sc X0 hx hby d20_62 ?_
       exact k)
      by_cases hc56 : ((((((q1.toUInt32 >>> ((16 : Int32) &&& 31).toUInt32).toInt32).toUInt32 >>> ((8 : Int32) &&& 31).toUInt32).toInt32).toUInt32 >>> ((4 : Int32) &&& 31).toUInt32).toInt32) < (4 : Int32)
      ·
       obtain ⟨fs, hr, hrun, hended, hWm, hsame⟩ := X0.leave (v := some (.int ((3 : Int32) - ((((((((q1.toUInt32 >>> ((16 : Int32) &&& 31).toUInt32).toInt32).toUInt32 >>> ((8 : Int32) &&& 31).toUInt32).toInt32).toUInt32 >>> ((4 : Int32) &&& 31).toUInt32).toInt32).toUInt32 >>> ((1 : Int32) &&& 31).toUInt32).toInt32)))) (fun h => by rw [Bd.returns] at h; cases h)
       refine ⟨_, _, pre55 _ ?_, hrun, hended, _, _, rfl, ?_, ⟨_, rfl⟩, hWm, hsame.mono (by decide) (by decide)⟩
       · show Steps p.tables e below (s₁.setTop (mkF m 63 Lb54 [(.int (4 : Int32)), (.int ((((((q1.toUInt32 >>> ((16 : Int32) &&& 31).toUInt32).toInt32).toUInt32 >>> ((8 : Int32) &&& 31).toUInt32).toInt32).toUInt32 >>> ((4 : Int32) &&& 31).toUInt32).toInt32))])) _
         refine XS.icmpYes X0.here hx rfl (pc0 := 63) (pc' := 73) rfl (hb hby d20_63) rfl (tlt (hc56 : ((((((q1.toUInt32 >>> ((16 : Int32) &&& 31).toUInt32).toInt32).toUInt32 >>> ((8 : Int32) &&& 31).toUInt32).toInt32).toUInt32 >>> ((4 : Int32) &&& 31).toUInt32).toInt32) < (4 : Int32))).1 (by decide) (by decide) ?_
         refine sI X0 hx hby d20_73 rfl ?_
         refine sI X0 hx hby d20_74 rfl ?_
         refine sc X0 hx hby d20_75 ?_
         refine XS.iushr X0.here hx rfl (hb hby d20_76) rfl ?_
         show Steps p.tables e below (s₁.setTop (mkF m 77 Lb54 [(.int ((((((((q1.toUInt32 >>> ((16 : Int32) &&& 31).toUInt32).toInt32).toUInt32 >>> ((8 : Int32) &&& 31).toUInt32).toInt32).toUInt32 >>> ((4 : Int32) &&& 31).toUInt32).toInt32).toUInt32 >>> ((1 : Int32) &&& 31).toUInt32).toInt32)), (.int (3 : Int32))])) _
         refine XS.isub X0.here hx rfl (hb hby d20_77) rfl ?_
         exact retI X0 hx Bd.returns (hb hby d20_78) hr
       · show Q20_19 Z w q1 h0 n0 _ s₁.heap _
         rw [e0]
         exact ⟨by simp only [ownNlzI, if_pos hc2, if_neg hc4, if_neg hc32, if_neg hc48, if_pos hc56], N0, rfl⟩
      ·
       let Lb57 : Array Slot := #[.val (.int ((((((q1.toUInt32 >>> ((16 : Int32) &&& 31).toUInt32).toInt32).toUInt32 >>> ((8 : Int32) &&& 31).toUInt32).toInt32).toUInt32 >>> ((4 : Int32) &&& 31).toUInt32).toInt32)), .val (.int (1 : Int32))]
       let Lb58 : Array Slot := #[.val (.int ((((((((q1.toUInt32 >>> ((16 : Int32) &&& 31).toUInt32).toInt32).toUInt32 >>> ((8 : Int32) &&& 31).toUInt32).toInt32).toUInt32 >>> ((4 : Int32) &&& 31).toUInt32).toInt32).toUInt32 >>> ((2 : Int32) &&& 31).toUInt32).toInt32)), .val (.int (1 : Int32))]
       obtain ⟨fs, hr, hrun, hended, hWm, hsame⟩ := X0.leave (v := some (.int ((1 : Int32) - ((((((((((q1.toUInt32 >>> ((16 : Int32) &&& 31).toUInt32).toInt32).toUInt32 >>> ((8 : Int32) &&& 31).toUInt32).toInt32).toUInt32 >>> ((4 : Int32) &&& 31).toUInt32).toInt32).toUInt32 >>> ((2 : Int32) &&& 31).toUInt32).toInt32).toUInt32 >>> ((1 : Int32) &&& 31).toUInt32).toInt32)))) (fun h => by rw [Bd.returns] at h; cases h)
       refine ⟨_, _, pre55 _ ?_, hrun, hended, _, _, rfl, ?_, ⟨_, rfl⟩, hWm, hsame.mono (by decide) (by decide)⟩
       · show Steps p.tables e below (s₁.setTop (mkF m 63 Lb54 [(.int (4 : Int32)), (.int ((((((q1.toUInt32 >>> ((16 : Int32) &&& 31).toUInt32).toInt32).toUInt32 >>> ((8 : Int32) &&& 31).toUInt32).toInt32).toUInt32 >>> ((4 : Int32) &&& 31).toUInt32).toInt32))])) _
         refine sn X0 hx hby d20_63 (flt (hc56 : ¬ (((((((q1.toUInt32 >>> ((16 : Int32) &&& 31).toUInt32).toInt32).toUInt32 >>> ((8 : Int32) &&& 31).toUInt32).toInt32).toUInt32 >>> ((4 : Int32) &&& 31).toUInt32).toInt32) < (4 : Int32)))).1 ?_
         refine XS.iinc X0.here hx rfl (hb hby d20_66) rfl (l' := Lb57) rfl ?_
         refine sI X0 hx hby d20_69 rfl ?_
         refine sc X0 hx hby d20_70 ?_
         refine XS.iushr X0.here hx rfl (hb hby d20_71) rfl ?_
         show Steps p.tables e below (s₁.setTop (mkF m 72 Lb57 [(.int ((((((((q1.toUInt32 >>> ((16 : Int32) &&& 31).toUInt32).toInt32).toUInt32 >>> ((8 : Int32) &&& 31).toUInt32).toInt32).toUInt32 >>> ((4 : Int32) &&& 31).toUInt32).toInt32).toUInt32 >>> ((2 : Int32) &&& 31).toUInt32).toInt32))])) _
         refine XS.istoreN X0.here hx rfl (hb hby d20_72) rfl (l' := Lb58) rfl ?_
         refine sI X0 hx hby d20_73 rfl ?_
         refine sI X0 hx hby d20_74 rfl ?_
         refine sc X0 hx hby d20_75 ?_
         refine XS.iushr X0.here hx rfl (hb hby d20_76) rfl ?_
         show Steps p.tables e below (s₁.setTop (mkF m 77 Lb58 [(.int ((((((((((q1.toUInt32 >>> ((16 : Int32) &&& 31).toUInt32).toInt32).toUInt32 >>> ((8 : Int32) &&& 31).toUInt32).toInt32).toUInt32 >>> ((4 : Int32) &&& 31).toUInt32).toInt32).toUInt32 >>> ((2 : Int32) &&& 31).toUInt32).toInt32).toUInt32 >>> ((1 : Int32) &&& 31).toUInt32).toInt32)), (.int (1 : Int32))])) _
         refine XS.isub X0.here hx rfl (hb hby d20_77) rfl ?_
         exact retI X0 hx Bd.returns (hb hby d20_78) hr
       · show Q20_19 Z w q1 h0 n0 _ s₁.heap _
         rw [e0]
         exact ⟨by simp only [ownNlzI, if_pos hc2, if_neg hc4, if_neg hc32, if_neg hc48, if_neg hc56], N0, rfl⟩
  ·
   have pre59 : ∀ t, Steps p.tables e below (s₁.setTop (mkF m 5 #[.val (.int q1), .unset] [(.int q1)])) t → Steps p.tables e below (s₁.setTop (entryFrame m #[(.int q1)] 2)) t := fun t k => pre1 t (by
    show Steps p.tables e below (s₁.setTop (mkF m 1 #[.val (.int q1), .unset] [(.int q1)])) _
    refine sN X0 hx hby d20_1 ((if0 _ _).trans (flt (hc2 : ¬ ((0 : Int32) < q1))).2.2.1) ?_
    refine sI X0 hx hby d20_4 rfl ?_
    exact k)
   by_cases hc60 : q1 = (0 : Int32)
   ·
    obtain ⟨fs, hr, hrun, hended, hWm, hsame⟩ := X0.leave (v := some (.int (32 : Int32))) (fun h => by rw [Bd.returns] at h; cases h)
    refine ⟨_, _, pre59 _ ?_, hrun, hended, _, _, rfl, ?_, ⟨_, rfl⟩, hWm, hsame.mono (by decide) (by decide)⟩
    · show Steps p.tables e below (s₁.setTop (mkF m 5 #[.val (.int q1), .unset] [(.int q1)])) _
      refine sN X0 hx hby d20_5 ((if0 _ _).trans (teq (hc60 : q1 = (0 : Int32))).2) ?_
      refine XS.bipush X0.here hx rfl (hb hby d20_8) ?_
      refine sg (pc := 10) (pc' := 14) X0 hx hby d20_10 (by decide) (by decide) ?_
      exact retI X0 hx Bd.returns (hb hby d20_14) hr
    · show Q20_19 Z w q1 h0 n0 _ s₁.heap _
      rw [e0]
      exact ⟨by simp only [ownNlzI, if_neg hc2, if_pos hc60], N0, rfl⟩
   ·
    obtain ⟨fs, hr, hrun, hended, hWm, hsame⟩ := X0.leave (v := some (.int (0 : Int32))) (fun h => by rw [Bd.returns] at h; cases h)
    refine ⟨_, _, pre59 _ ?_, hrun, hended, _, _, rfl, ?_, ⟨_, rfl⟩, hWm, hsame.mono (by decide) (by decide)⟩
    · show Steps p.tables e below (s₁.setTop (mkF m 5 #[.val (.int q1), .unset] [(.int q1)])) _
      refine XS.ifYes X0.here hx rfl (pc0 := 5) (pc' := 13) rfl (hb hby d20_5) rfl ((if0 _ _).trans (feq (hc60 : ¬ (q1 = (0 : Int32)))).2) (by decide) (by decide) ?_
      refine sc X0 hx hby d20_13 ?_
      exact retI X0 hx Bd.returns (hb hby d20_14) hr
    · show Q20_19 Z w q1 h0 n0 _ s₁.heap _
      rw [e0]
      exact ⟨by simp only [ownNlzI, if_neg hc2, if_neg hc60], N0, rfl⟩
theorem pds_11 : parseMethodDescriptor "(I)I" = some ⟨[.int], some .int⟩ := by decide +kernel
theorem d19_17 : decode jdk_35_method_48_code 17 = .ok (.iadd, 1) := by decide +kernel
theorem d19_18 : decode jdk_35_method_48_code 18 = .ok (.goto 7, 3) := by decide +kernel
theorem d19_25 : decode jdk_35_method_48_code 25 = .ok (.ireturn, 1) := by decide +kernel
theorem d19_21 : decode jdk_35_method_48_code 21 = .ok (.iload_n 2, 1) := by decide +kernel
theorem d19_22 : decode jdk_35_method_48_code 22 = .ok (.invokestatic 308, 3) := by decide +kernel
def ownNlz (q1 : Int64) : Int32 := (if (((q1.toUInt64 >>> ((32 : Int32) &&& 0x3f).toInt64.toUInt64).toInt64).toInt32) = (0 : Int32) then ((32 : Int32) + (ownNlzI (q1.toInt32))) else (ownNlzI (((q1.toUInt64 >>> ((32 : Int32) &&& 0x3f).toInt64.toUInt64).toInt64).toInt32)))
theorem ownNlz_bd (q1 : Int64) : 0 ≤ (ownNlz q1).toInt ∧ (ownNlz q1).toInt ≤ 64 := by
  by_cases hb0 : (((q1.toUInt64 >>> ((32 : Int32) &&& 0x3f).toInt64.toUInt64).toInt64).toInt32) = (0 : Int32)
  ·
    have e : ownNlz q1 = ((32 : Int32) + (ownNlzI (q1.toInt32))) := by simp only [ownNlz, if_pos hb0]
    rw [e]
    have z7 := congrArg Int32.toInt hb0
    have z1 := rng32 (((q1.toUInt64 >>> ((32 : Int32) &&& 0x3f).toInt64.toUInt64).toInt64).toInt32)
    have z2 := rng64 ((q1.toUInt64 >>> ((32 : Int32) &&& 0x3f).toInt64.toUInt64).toInt64)
    have z3 := rng64 q1
    have z4 : ((32 : Int32)).toInt = 32 := by decide
    have z5 := c_l2i ((q1.toUInt64 >>> ((32 : Int32) &&& 0x3f).toInt64.toUInt64).toInt64)
    have z6 : ((0 : Int32)).toInt = 0 := by decide
    have z8 := rng32 ((32 : Int32) + (ownNlzI (q1.toInt32)))
    have z9 := rng32 (ownNlzI (q1.toInt32))
    have z10 := rng32 (q1.toInt32)
    have z11 := c_l2i q1
    have z12 := ownNlzI_bd (q1.toInt32)
    have z13 := c_iadd (32 : Int32) (ownNlzI (q1.toInt32))
    omega
  ·
    have e : ownNlz q1 = (ownNlzI (((q1.toUInt64 >>> ((32 : Int32) &&& 0x3f).toInt64.toUInt64).toInt64).toInt32)) := by simp only [ownNlz, if_neg hb0]
    rw [e]
    have z7 : ((((q1.toUInt64 >>> ((32 : Int32) &&& 0x3f).toInt64.toUInt64).toInt64).toInt32)).toInt ≠ ((0 : Int32)).toInt := fun q => hb0 (Int32.toInt_inj.mp q)
    have z1 := rng32 (((q1.toUInt64 >>> ((32 : Int32) &&& 0x3f).toInt64.toUInt64).toInt64).toInt32)
    have z2 := rng64 ((q1.toUInt64 >>> ((32 : Int32) &&& 0x3f).toInt64.toUInt64).toInt64)
    have z3 := rng64 q1
    have z4 : ((32 : Int32)).toInt = 32 := by decide
    have z5 := c_l2i ((q1.toUInt64 >>> ((32 : Int32) &&& 0x3f).toInt64.toUInt64).toInt64)
    have z6 : ((0 : Int32)).toInt = 0 := by decide
    have z8 := rng32 (ownNlzI (((q1.toUInt64 >>> ((32 : Int32) &&& 0x3f).toInt64.toUInt64).toInt64).toInt32))
    have z9 := ownNlzI_bd (((q1.toUInt64 >>> ((32 : Int32) &&& 0x3f).toInt64.toUInt64).toInt64).toInt32)
    omega
theorem ef_19_20 (m : MethodId) (q1 : Int64) : entryFrame m #[(.long q1)] 3 = mkF m 0 #[.val (.long q1), .second, .unset] [] := by first | (simp [entryFrame, mkF, argsToLocals, Value.category]; done) | rfl
theorem pnc_5 : plainName "java/lang/Long" = true := by first | (simp [plainName, overriddenIn]; done) | decide +kernel
def Q19_20 (Z : State) (w : Nat → Addr) (q1 : Int64) (h0 : Heap) (n0 : Nat) (v : Option Value) (h : Heap) (L : List Loc) : Prop := v = some (.int (ownNlz q1)) ∧ Fr n0 L ∧ h = h0
set_option maxRecDepth 65536 in
set_option maxHeartbeats 40000000 in
theorem rm19_20 (l : Launch) (Z : State) (a0 : Array Value) (hw : HW Z a0) (w : Nat → Addr) (hW : Wd Z w) (ws : List Jvm.Cond) (q1 : Int64) (h0 : Heap) (n0 : Nat) (O0 : Old Z n0 h0) :
    MetFree l ym16 (head1 (Jvm.Cond.code ym16 jdk_35_method_48_code 3 (some .int) :: ws) ({ frames := 1, cells := 0, slots := 0, locals := 14 } : Room)) (fun a U => a = #[(.long q1)] ∧ Z.Warmed39 U.vm ∧ U.heap = h0) (fun _ _ _ _ _ => True) (fun _ U o U' => ∃ v L, o = .returned v ∧ Q19_20 Z w q1 h0 n0 v U'.heap L ∧ FrameEnd U o U' L ({ frames := 1, cells := 0, slots := 0, locals := 14 } : Room).cells ({ frames := 1, cells := 0, slots := 0, locals := 14 } : Room).slots) := by
  refine MetFree.of_bodySF (plainFor_of_name pnc_5) hisR ?_
  intro p e s m args below meth c s₁ Bd hml0 hP hK
  obtain ⟨rfl, hZ, hh⟩ := hP
  have hx := Bd.exec
  have hby := Bd.bytes
  have hml : c.maxLocals = 3 := hml0
  have hown : s.vm.findClass "java/lang/Long" = some m.cls := findClass_of_methodNamed Bd.named
  have hnm := (name_of_methodNamed Bd.named Bd.method).1
  have X0 : Stand p l e ({ frames := 1, cells := 0, slots := 0, locals := 14 } : Room) s m #[(.long q1)] below meth c s₁ [] 0 0 := Stand.of_body Bd
  have e0 : s₁.heap = h0 := by rw [← hh, Bd.state]; rfl
  have N0 := Fr.nil n0
  skip
  have pre0 : ∀ t, Steps p.tables e below (s₁.setTop (mkF m 0 #[.val (.long q1), .second, .unset] [])) t → Steps p.tables e below (s₁.setTop (entryFrame m #[(.long q1)] 3)) t := fun t k => castTop (ef_19_20 m q1) k
  let Lb1 : Array Slot := #[.val (.long q1), .second, .val (.int (((q1.toUInt64 >>> ((32 : Int32) &&& 0x3f).toInt64.toUInt64).toInt64).toInt32))]
  have pre2 : ∀ t, Steps p.tables e below (s₁.setTop (mkF m 7 Lb1 [(.int (((q1.toUInt64 >>> ((32 : Int32) &&& 0x3f).toInt64.toUInt64).toInt64).toInt32))])) t → Steps p.tables e below (s₁.setTop (entryFrame m #[(.long q1)] 3)) t := fun t k => pre0 t (by
   show Steps p.tables e below (s₁.setTop (mkF m 0 #[.val (.long q1), .second, .unset] [])) _
   refine sL X0 hx hby d19_0 rfl ?_
   refine XS.bipush X0.here hx rfl (hb hby d19_1) ?_
   refine XS.lushr X0.here hx rfl (hb hby d19_3) rfl ?_
   refine XS.l2i X0.here hx rfl (hb hby d19_4) rfl ?_
   refine XS.istoreN X0.here hx rfl (hb hby d19_5) rfl (l' := Lb1) rfl ?_
   show Steps p.tables e below (s₁.setTop (mkF m 6 Lb1 [])) _
   refine sI X0 hx hby d19_6 rfl ?_
   exact k)
  by_cases hc3 : (((q1.toUInt64 >>> ((32 : Int32) &&& 0x3f).toInt64.toUInt64).toInt64).toInt32) = (0 : Int32)
  ·
   obtain ⟨_, _, ⟨T4, L4, kk4, nn4⟩, -, X4, ⟨Lc4, hQ4, l4, y4, z4⟩, st4⟩ := Jvm.LawKit.callS X0 hx (y := ym15) hown (mvT hZ (wk144 hw)) (mvT hZ (wk145 hw)) (mvT hZ (wk53 hw)) (mvT hZ (wk146 hw)) (by decide) (backOf (W := 1) (rm20_19 l Z a0 hw w hW [] (q1.toInt32) h0 n0 O0 ) hZ (wk146 hw) (wk53 hw) (by decide) (by decide)) (g := (mkF m 14 Lb1 [(.int (q1.toInt32)), (.int (32 : Int32))])) rfl (by rw [hml]; rfl) (argsL := [(.int (q1.toInt32))]) (rest := [(.int (32 : Int32))]) (lenOf pds_11 rfl) rfl (by show 2 * 0 + _ ≤ _; exact Nat.le_of_eq rfl) (hb hby d19_14) (fun _ _ => ⟨rfl, e0, (by decide : 0 + 0 ≤ _), (by decide : 0 + 0 ≤ _)⟩)
   dsimp only [Pt.U, Pt.locs, Pt.cells, Pt.slots] at X4 l4 y4 z4 st4 hQ4
   rw [l4, y4, z4] at X4
   obtain ⟨rfl, N4q, e4⟩ := hQ4
   have N4 := Fr.app N0 N4q
   obtain ⟨fs, hr, hrun, hended, hWm, hsame⟩ := X4.leave (v := some (.int ((32 : Int32) + (ownNlzI (q1.toInt32))))) (fun h => by rw [Bd.returns] at h; cases h)
   refine ⟨_, _, pre2 _ ?_, hrun, hended, _, _, rfl, ?_, ⟨_, rfl⟩, hWm, hsame.mono (by decide) (by decide)⟩
   · show Steps p.tables e below (s₁.setTop (mkF m 7 Lb1 [(.int (((q1.toUInt64 >>> ((32 : Int32) &&& 0x3f).toInt64.toUInt64).toInt64).toInt32))])) _
     refine sN X0 hx hby d19_7 ((if0 _ _).trans (teq (hc3 : (((q1.toUInt64 >>> ((32 : Int32) &&& 0x3f).toInt64.toUInt64).toInt64).toInt32) = (0 : Int32))).2) ?_
     refine XS.bipush X0.here hx rfl (hb hby d19_10) ?_
     refine sL X0 hx hby d19_12 rfl ?_
     refine XS.l2i X0.here hx rfl (hb hby d19_13) rfl ?_
     refine st4 _ ?_
     refine XS.iadd X4.here hx rfl (hb hby d19_17) rfl ?_
     refine sg (pc := 18) (pc' := 25) X4 hx hby d19_18 (by decide) (by decide) ?_
     exact retI X4 hx Bd.returns (hb hby d19_25) hr
   · show Q19_20 Z w q1 h0 n0 _ T4.heap _
     rw [e4]
     exact ⟨by simp only [ownNlz, if_pos hc3], N4, rfl⟩
  ·
   obtain ⟨_, _, ⟨T5, L5, kk5, nn5⟩, -, X5, ⟨Lc5, hQ5, l5, y5, z5⟩, st5⟩ := Jvm.LawKit.callS X0 hx (y := ym15) hown (mvT hZ (wk144 hw)) (mvT hZ (wk145 hw)) (mvT hZ (wk53 hw)) (mvT hZ (wk146 hw)) (by decide) (backOf (W := 0) (rm20_19 l Z a0 hw w hW [] (((q1.toUInt64 >>> ((32 : Int32) &&& 0x3f).toInt64.toUInt64).toInt64).toInt32) h0 n0 O0 ) hZ (wk146 hw) (wk53 hw) (by decide) (by decide)) (g := (mkF m 22 Lb1 [(.int (((q1.toUInt64 >>> ((32 : Int32) &&& 0x3f).toInt64.toUInt64).toInt64).toInt32))])) rfl (by rw [hml]; rfl) (argsL := [(.int (((q1.toUInt64 >>> ((32 : Int32) &&& 0x3f).toInt64.toUInt64).toInt64).toInt32))]) (rest := []) (lenOf pds_11 rfl) rfl (by show 2 * 0 + _ ≤ _; exact Nat.le_of_eq rfl) (hb hby d19_22) (fun _ _ => ⟨rfl, e0, (by decide : 0 + 0 ≤ _), (by decide : 0 + 0 ≤ _)⟩)
   dsimp only [Pt.U, Pt.locs, Pt.cells, Pt.slots] at X5 l5 y5 z5 st5 hQ5
   rw [l5, y5, z5] at X5
   obtain ⟨rfl, N5q, e5⟩ := hQ5
   have N5 := Fr.app N0 N5q
   obtain ⟨fs, hr, hrun, hended, hWm, hsame⟩ := X5.leave (v := some (.int (ownNlzI (((q1.toUInt64 >>> ((32 : Int32) &&& 0x3f).toInt64.toUInt64).toInt64).toInt32)))) (fun h => by rw [Bd.returns] at h; cases h)
   refine ⟨_, _, pre2 _ ?_, hrun, hended, _, _, rfl, ?_, ⟨_, rfl⟩, hWm, hsame.mono (by decide) (by decide)⟩
   · show Steps p.tables e below (s₁.setTop (mkF m 7 Lb1 [(.int (((q1.toUInt64 >>> ((32 : Int32) &&& 0x3f).toInt64.toUInt64).toInt64).toInt32))])) _
     refine XS.ifYes X0.here hx rfl (pc0 := 7) (pc' := 21) rfl (hb hby d19_7) rfl ((if0 _ _).trans (feq (hc3 : ¬ ((((q1.toUInt64 >>> ((32 : Int32) &&& 0x3f).toInt64.toUInt64).toInt64).toInt32) = (0 : Int32)))).2) (by decide) (by decide) ?_
     refine sI X0 hx hby d19_21 rfl ?_
     refine st5 _ ?_
     exact retI X5 hx Bd.returns (hb hby d19_25) hr
   · show Q19_20 Z w q1 h0 n0 _ T5.heap _
     rw [e5]
     exact ⟨by simp only [ownNlz, if_neg hc3], N5, rfl⟩
theorem pds_12 : parseMethodDescriptor "(J)I" = some ⟨[.long], some .int⟩ := by decide +kernel
theorem d18_27 : decode prog_14_method_7_code 27 = .ok (.isub, 1) := by decide +kernel
theorem d18_28 : decode prog_14_method_7_code 28 = .ok (.bipush 6, 2) := by decide +kernel
theorem d18_30 : decode prog_14_method_7_code 30 = .ok (.idiv, 1) := by decide +kernel
theorem d18_31 : decode prog_14_method_7_code 31 = .ok (.istore 4, 2) := by decide +kernel
theorem d18_33 : decode prog_14_method_7_code 33 = .ok (.iload 4, 2) := by decide +kernel
theorem d18_35 : decode prog_14_method_7_code 35 = .ok (.bipush 6, 2) := by decide +kernel
theorem d18_37 : decode prog_14_method_7_code 37 = .ok (.if_icmp .ge 24, 3) := by decide +kernel
theorem d18_40 : decode prog_14_method_7_code 40 = .ok (.iload 4, 2) := by decide +kernel
theorem d18_42 : decode prog_14_method_7_code 42 = .ok (.bipush 64, 2) := by decide +kernel
theorem d18_44 : decode prog_14_method_7_code 44 = .ok (.imul, 1) := by decide +kernel
theorem d18_45 : decode prog_14_method_7_code 45 = .ok (.lload_n 1, 1) := by decide +kernel
theorem d18_46 : decode prog_14_method_7_code 46 = .ok (.iload 4, 2) := by decide +kernel
theorem d18_48 : decode prog_14_method_7_code 48 = .ok (.bipush 6, 2) := by decide +kernel
theorem d18_50 : decode prog_14_method_7_code 50 = .ok (.imul, 1) := by decide +kernel
theorem d18_51 : decode prog_14_method_7_code 51 = .ok (.lshr, 1) := by decide +kernel
theorem d18_52 : decode prog_14_method_7_code 52 = .ok (.ldc2_w 65, 3) := by decide +kernel
theorem d18_55 : decode prog_14_method_7_code 55 = .ok (.land, 1) := by decide +kernel
theorem d18_56 : decode prog_14_method_7_code 56 = .ok (.l2i, 1) := by decide +kernel
theorem d18_57 : decode prog_14_method_7_code 57 = .ok (.iadd, 1) := by decide +kernel
theorem d18_58 : decode prog_14_method_7_code 58 = .ok (.goto 6, 3) := by decide +kernel
theorem d18_64 : decode prog_14_method_7_code 64 = .ok (.istore_n 3, 1) := by decide +kernel
theorem d18_65 : decode prog_14_method_7_code 65 = .ok (.iload_n 3, 1) := by decide +kernel
theorem d18_66 : decode prog_14_method_7_code 66 = .ok (.ireturn, 1) := by decide +kernel
theorem d18_61 : decode prog_14_method_7_code 61 = .ok (.sipush 385, 3) := by decide +kernel
theorem d18_9 : decode prog_14_method_7_code 9 = .ok (.sipush 384, 3) := by decide +kernel
theorem d18_12 : decode prog_14_method_7_code 12 = .ok (.istore_n 3, 1) := by decide +kernel
theorem d18_13 : decode prog_14_method_7_code 13 = .ok (.goto 52, 3) := by decide +kernel
def ownS (q2 : Int64) (q3 : Int64) : Int32 := (if q3 < q2 then (if (((63 : Int32) - (ownNlz (q2 ^^^ q3))) / (6 : Int32)) < (6 : Int32) then (((((63 : Int32) - (ownNlz (q2 ^^^ q3))) / (6 : Int32)) * (64 : Int32)) + (((q2 >>> (((((63 : Int32) - (ownNlz (q2 ^^^ q3))) / (6 : Int32)) * (6 : Int32)) &&& 0x3f).toInt64) &&& (63 : Int64)).toInt32)) else (385 : Int32)) else (384 : Int32))
theorem ownS_bd (q2 : Int64) (q3 : Int64) : 0 ≤ (ownS q2 q3).toInt ∧ (ownS q2 q3).toInt ≤ 385 := by
  by_cases hb0 : q3 < q2
  ·
    by_cases hb1 : (((63 : Int32) - (ownNlz (q2 ^^^ q3))) / (6 : Int32)) < (6 : Int32)
    ·
      have e : ownS q2 q3 = (((((63 : Int32) - (ownNlz (q2 ^^^ q3))) / (6 : Int32)) * (64 : Int32)) + (((q2 >>> (((((63 : Int32) - (ownNlz (q2 ^^^ q3))) / (6 : Int32)) * (6 : Int32)) &&& 0x3f).toInt64) &&& (63 : Int64)).toInt32)) := by simp only [ownS, if_pos hb0, if_pos hb1]
      rw [e]
      have z3 := Int64.lt_iff_toInt_lt.mp hb0
      have z13 := Int32.lt_iff_toInt_lt.mp hb1
      have z1 := rng64 q3
      have z2 := rng64 q2
      have z4 := rng32 (((63 : Int32) - (ownNlz (q2 ^^^ q3))) / (6 : Int32))
      have z5 := rng32 ((63 : Int32) - (ownNlz (q2 ^^^ q3)))
      have z6 : ((63 : Int32)).toInt = 63 := by decide
      have z7 := rng32 (ownNlz (q2 ^^^ q3))
      have z8 := rng64 (q2 ^^^ q3)
      have z9 := ownNlz_bd (q2 ^^^ q3)
      have z10 := c_isub (63 : Int32) (ownNlz (q2 ^^^ q3))
      have z11 : ((6 : Int32)).toInt = 6 := by decide
      have z12 := c_idiv ((63 : Int32) - (ownNlz (q2 ^^^ q3))) (6 : Int32) 6 (by decide) (by decide)
      have z14 := rng32 (((((63 : Int32) - (ownNlz (q2 ^^^ q3))) / (6 : Int32)) * (64 : Int32)) + (((q2 >>> (((((63 : Int32) - (ownNlz (q2 ^^^ q3))) / (6 : Int32)) * (6 : Int32)) &&& 0x3f).toInt64) &&& (63 : Int64)).toInt32))
      have z15 := rng32 ((((63 : Int32) - (ownNlz (q2 ^^^ q3))) / (6 : Int32)) * (64 : Int32))
      have z16 : ((64 : Int32)).toInt = 64 := by decide
      have z17 := c_imul (((63 : Int32) - (ownNlz (q2 ^^^ q3))) / (6 : Int32)) (64 : Int32)
      rw [(by decide : ((64 : Int32)).toInt = 64)] at z17
      have z18 := rng32 (((q2 >>> (((((63 : Int32) - (ownNlz (q2 ^^^ q3))) / (6 : Int32)) * (6 : Int32)) &&& 0x3f).toInt64) &&& (63 : Int64)).toInt32)
      have z19 := rng64 ((q2 >>> (((((63 : Int32) - (ownNlz (q2 ^^^ q3))) / (6 : Int32)) * (6 : Int32)) &&& 0x3f).toInt64) &&& (63 : Int64))
      have z20 := rng64 (q2 >>> (((((63 : Int32) - (ownNlz (q2 ^^^ q3))) / (6 : Int32)) * (6 : Int32)) &&& 0x3f).toInt64)
      have z21 := rng32 ((((63 : Int32) - (ownNlz (q2 ^^^ q3))) / (6 : Int32)) * (6 : Int32))
      have z22 := c_imul (((63 : Int32) - (ownNlz (q2 ^^^ q3))) / (6 : Int32)) (6 : Int32)
      rw [(by decide : ((6 : Int32)).toInt = 6)] at z22
      have z23 : ((63 : Int64)).toInt = 63 := by decide
      have z24 : (((q2 >>> (((((63 : Int32) - (ownNlz (q2 ^^^ q3))) / (6 : Int32)) * (6 : Int32)) &&& 0x3f).toInt64) &&& (63 : Int64))).toInt = (q2 >>> (((((63 : Int32) - (ownNlz (q2 ^^^ q3))) / (6 : Int32)) * (6 : Int32)) &&& 0x3f).toInt64).toInt % 64 := c_maskL (q2 >>> (((((63 : Int32) - (ownNlz (q2 ^^^ q3))) / (6 : Int32)) * (6 : Int32)) &&& 0x3f).toInt64) (63 : Int64) 6 (by decide) (by decide)
      have z25 := c_l2i ((q2 >>> (((((63 : Int32) - (ownNlz (q2 ^^^ q3))) / (6 : Int32)) * (6 : Int32)) &&& 0x3f).toInt64) &&& (63 : Int64))
      have z26 := c_iadd ((((63 : Int32) - (ownNlz (q2 ^^^ q3))) / (6 : Int32)) * (64 : Int32)) (((q2 >>> (((((63 : Int32) - (ownNlz (q2 ^^^ q3))) / (6 : Int32)) * (6 : Int32)) &&& 0x3f).toInt64) &&& (63 : Int64)).toInt32)
      omega
    ·
      have e : ownS q2 q3 = (385 : Int32) := by simp only [ownS, if_pos hb0, if_neg hb1]
      rw [e]
      have z3 := Int64.lt_iff_toInt_lt.mp hb0
      have z13 := Int32.le_iff_toInt_le.mp (Int32.not_lt.mp hb1)
      have z1 := rng64 q3
      have z2 := rng64 q2
      have z4 := rng32 (((63 : Int32) - (ownNlz (q2 ^^^ q3))) / (6 : Int32))
      have z5 := rng32 ((63 : Int32) - (ownNlz (q2 ^^^ q3)))
      have z6 : ((63 : Int32)).toInt = 63 := by decide
      have z7 := rng32 (ownNlz (q2 ^^^ q3))
      have z8 := rng64 (q2 ^^^ q3)
      have z9 := ownNlz_bd (q2 ^^^ q3)
      have z10 := c_isub (63 : Int32) (ownNlz (q2 ^^^ q3))
      have z11 : ((6 : Int32)).toInt = 6 := by decide
      have z12 := c_idiv ((63 : Int32) - (ownNlz (q2 ^^^ q3))) (6 : Int32) 6 (by decide) (by decide)
      have z14 : ((385 : Int32)).toInt = 385 := by decide
      omega
  ·
    have e : ownS q2 q3 = (384 : Int32) := by simp only [ownS, if_neg hb0]
    rw [e]
    have z3 := Int64.le_iff_toInt_le.mp (Int64.not_lt.mp hb0)
    have z1 := rng64 q3
    have z2 := rng64 q2
    have z4 : ((384 : Int32)).toInt = 384 := by decide
    omega
theorem own_S1 (d t : Int64) : ¬ (ownS d t = -1) := fun q => by
  have h := ownS_bd d t
  rw [q] at h
  exact absurd h.1 (by decide)
theorem own_S2 (d t : Int64) : ¬ (ownS d t < 0) := fun q => by
  have h := ownS_bd d t
  have a := Int32.lt_iff_toInt_lt.mp q
  have e : (0 : Int32).toInt = 0 := by decide
  omega
theorem own_S3 (d t : Int64) : ownS d t < 386 := by
  have h := ownS_bd d t
  have e : (386 : Int32).toInt = 386 := by decide
  exact Int32.lt_iff_toInt_lt.mpr (by omega)
theorem ef_18_21 (m : MethodId) (o1 : Addr) (q2 : Int64) : entryFrame m #[(.ref o1), (.long q2)] 5 = mkF m 0 #[.val (.ref o1), .val (.long q2), .second, .unset, .unset] [] := by first | (simp [entryFrame, mkF, argsToLocals, Value.category]; done) | rfl
def Q18_21 (Z : State) (w : Nat → Addr) (o1 : Addr) (q2 : Int64) (q3 : Int64) (h0 : Heap) (n0 : Nat) (v : Option Value) (h : Heap) (L : List Loc) : Prop := v = some (.int (ownS q2 q3)) ∧ Fr n0 L ∧ h = h0
set_option maxRecDepth 65536 in
set_option maxHeartbeats 40000000 in
theorem rm18_21 (l : Launch) (Z : State) (a0 : Array Value) (hw : HW Z a0) (w : Nat → Addr) (hW : Wd Z w) (ws : List Jvm.Cond) (o1 : Addr) (q2 : Int64) (q3 : Int64) (h0 : Heap) (n0 : Nat) (O0 : Old Z n0 h0) (f1 : Fld Z h0 o1 cs2 "time" "J" (.long q3)) :
    MetFree l ym17 (head1 (Jvm.Cond.code ym17 prog_14_method_7_code 5 (some .int) :: ws) ({ frames := 2, cells := 0, slots := 0, locals := 29 } : Room)) (fun a U => a = #[(.ref o1), (.long q2)] ∧ Z.Warmed39 U.vm ∧ U.heap = h0) (fun _ _ _ _ _ => True) (fun _ U o U' => ∃ v L, o = .returned v ∧ Q18_21 Z w o1 q2 q3 h0 n0 v U'.heap L ∧ FrameEnd U o U' L ({ frames := 2, cells := 0, slots := 0, locals := 29 } : Room).cells ({ frames := 2, cells := 0, slots := 0, locals := 29 } : Room).slots) := by
  refine MetFree.of_bodySF (plainFor_of_name pnc_2) hisR ?_
  intro p e s m args below meth c s₁ Bd hml0 hP hK
  obtain ⟨rfl, hZ, hh⟩ := hP
  have hx := Bd.exec
  have hby := Bd.bytes
  have hml : c.maxLocals = 5 := hml0
  have hown : s.vm.findClass cs2 = some m.cls := findClass_of_methodNamed Bd.named
  have hnm := (name_of_methodNamed Bd.named Bd.method).1
  have X0 : Stand p l e ({ frames := 2, cells := 0, slots := 0, locals := 29 } : Room) s m #[(.ref o1), (.long q2)] below meth c s₁ [] 0 0 := Stand.of_body Bd
  have e0 : s₁.heap = h0 := by rw [← hh, Bd.state]; rfl
  have N0 := Fr.nil n0
  let La : Array Slot := #[.val (.ref o1), .val (.long q2), .second, .unset, .unset]
  have pre0 : ∀ t, Steps p.tables e below (s₁.setTop (mkF m 0 #[.val (.ref o1), .val (.long q2), .second, .unset, .unset] [])) t → Steps p.tables e below (s₁.setTop (entryFrame m #[(.ref o1), (.long q2)] 5)) t := fun t k => castTop (ef_18_21 m o1 q2) k
  obtain ⟨T1, X1, e1, st1⟩ := getF X0 hx hZ hown (host := "") (Or.inl (wk42 hw)) Via.refl e0 f1 (g := (mkF m 2 La [(.ref o1), (.long q2)])) rfl rfl (hb hby d18_2)
  have pre2 : ∀ t, Steps p.tables e below (T1.setTop (mkF m 6 La [(.int (lcmpW q2 q3))])) t → Steps p.tables e below (s₁.setTop (entryFrame m #[(.ref o1), (.long q2)] 5)) t := fun t k => pre0 t (by
   show Steps p.tables e below (s₁.setTop (mkF m 0 La [])) _
   refine sL X0 hx hby d18_0 rfl ?_
   refine sA X0 hx hby d18_1 rfl rfl ?_
   refine st1 _ ?_
   refine XS.lcmp X1.here hx rfl (hb hby d18_5) rfl ?_
   exact k)
  by_cases hc3 : q3 < q2
  ·
   obtain ⟨T4, X4, e4, st4⟩ := getF X1 hx hZ hown (host := "") (Or.inl (wk42 hw)) Via.refl e1 f1 (g := (mkF m 20 La [(.ref o1), (.long q2), (.int (63 : Int32))])) rfl rfl (hb hby d18_20)
   obtain ⟨_, _, ⟨T5, L5, kk5, nn5⟩, -, X5, ⟨Lc5, hQ5, l5, y5, z5⟩, st5⟩ := Jvm.LawKit.callS X4 hx (y := ym16) hown (mvT hZ (wk140 hw)) (mvT hZ (wk141 hw)) (mvT hZ (wk142 hw)) (mvT hZ (wk143 hw)) (by decide) (backOf (W := 1) (rm19_20 l Z a0 hw w hW [] (q2 ^^^ q3) h0 n0 O0 ) hZ (wk143 hw) (wk142 hw) (by decide) (by decide)) (g := (mkF m 24 La [(.long (q2 ^^^ q3)), (.int (63 : Int32))])) rfl (by rw [hml]; rfl) (argsL := [(.long (q2 ^^^ q3))]) (rest := [(.int (63 : Int32))]) (lenOf pds_12 rfl) rfl (by show 2 * 0 + _ ≤ _; exact Nat.le_of_eq rfl) (hb hby d18_24) (fun _ _ => ⟨rfl, e4, (by decide : 0 + 0 ≤ _), (by decide : 0 + 0 ≤ _)⟩)
   dsimp only [Pt.U, Pt.locs, Pt.cells, Pt.slots] at X5 l5 y5 z5 st5 hQ5
   rw [l5, y5, z5] at X5
   obtain ⟨rfl, N5q, e5⟩ := hQ5
   have N5 := Fr.app N0 N5q
   let Lb6 : Array Slot := #[.val (.ref o1), .val (.long q2), .second, .unset, .val (.int (((63 : Int32) - (ownNlz (q2 ^^^ q3))) / (6 : Int32)))]
   have pre7 : ∀ t, Steps p.tables e below (T5.setTop (mkF m 37 Lb6 [(.int (6 : Int32)), (.int (((63 : Int32) - (ownNlz (q2 ^^^ q3))) / (6 : Int32)))])) t → Steps p.tables e below (s₁.setTop (entryFrame m #[(.ref o1), (.long q2)] 5)) t := fun t k => pre2 t (by
    show Steps p.tables e below (T1.setTop (mkF m 6 La [(.int (lcmpW q2 q3))])) _
    refine XS.ifYes X1.here hx rfl (pc0 := 6) (pc' := 16) rfl (hb hby d18_6) rfl ((if0 _ _).trans (tlt (((lw_gt _ _).mpr hc3) : (0 : Int32) < (lcmpW q2 q3))).2.2.1) (by decide) (by decide) ?_
    refine XS.bipush X1.here hx rfl (hb hby d18_16) ?_
    refine sL X1 hx hby d18_18 rfl ?_
    refine sA X1 hx hby d18_19 rfl rfl ?_
    refine st4 _ ?_
    refine XS.lxor X4.here hx rfl (hb hby d18_23) rfl ?_
    refine st5 _ ?_
    refine XS.isub X5.here hx rfl (hb hby d18_27) rfl ?_
    refine XS.bipush X5.here hx rfl (hb hby d18_28) ?_
    refine XS.idiv X5.here hx rfl (hb hby d18_30) rfl (by decide) ?_
    refine XS.istore X5.here hx rfl (hb hby d18_31) rfl (l' := Lb6) rfl ?_
    refine si X5 hx hby d18_33 rfl ?_
    show Steps p.tables e below (T5.setTop (mkF m 35 Lb6 [(.int (((63 : Int32) - (ownNlz (q2 ^^^ q3))) / (6 : Int32)))])) _
    refine XS.bipush X5.here hx rfl (hb hby d18_35) ?_
    exact k)
   by_cases hc8 : (((63 : Int32) - (ownNlz (q2 ^^^ q3))) / (6 : Int32)) < (6 : Int32)
   ·
    let Lb9 : Array Slot := #[.val (.ref o1), .val (.long q2), .second, .val (.int (((((63 : Int32) - (ownNlz (q2 ^^^ q3))) / (6 : Int32)) * (64 : Int32)) + (((q2 >>> (((((63 : Int32) - (ownNlz (q2 ^^^ q3))) / (6 : Int32)) * (6 : Int32)) &&& 0x3f).toInt64) &&& (63 : Int64)).toInt32))), .val (.int (((63 : Int32) - (ownNlz (q2 ^^^ q3))) / (6 : Int32)))]
    obtain ⟨fs, hr, hrun, hended, hWm, hsame⟩ := X5.leave (v := some (.int (((((63 : Int32) - (ownNlz (q2 ^^^ q3))) / (6 : Int32)) * (64 : Int32)) + (((q2 >>> (((((63 : Int32) - (ownNlz (q2 ^^^ q3))) / (6 : Int32)) * (6 : Int32)) &&& 0x3f).toInt64) &&& (63 : Int64)).toInt32)))) (fun h => by rw [Bd.returns] at h; cases h)
    refine ⟨_, _, pre7 _ ?_, hrun, hended, _, _, rfl, ?_, ⟨_, rfl⟩, hWm, hsame.mono (by decide) (by decide)⟩
    · show Steps p.tables e below (T5.setTop (mkF m 37 Lb6 [(.int (6 : Int32)), (.int (((63 : Int32) - (ownNlz (q2 ^^^ q3))) / (6 : Int32)))])) _
      refine sn X5 hx hby d18_37 (tlt (hc8 : (((63 : Int32) - (ownNlz (q2 ^^^ q3))) / (6 : Int32)) < (6 : Int32))).2.1 ?_
      refine si X5 hx hby d18_40 rfl ?_
      refine XS.bipush X5.here hx rfl (hb hby d18_42) ?_
      refine XS.imul X5.here hx rfl (hb hby d18_44) rfl ?_
      refine sL X5 hx hby d18_45 rfl ?_
      show Steps p.tables e below (T5.setTop (mkF m 46 Lb6 [(.long q2), (.int ((((63 : Int32) - (ownNlz (q2 ^^^ q3))) / (6 : Int32)) * (64 : Int32)))])) _
      refine si X5 hx hby d18_46 rfl ?_
      refine XS.bipush X5.here hx rfl (hb hby d18_48) ?_
      refine XS.imul X5.here hx rfl (hb hby d18_50) rfl ?_
      refine XS.lshr X5.here hx rfl (hb hby d18_51) rfl ?_
      refine X5.ldc2Long hx hown (mvT hZ (wk148 hw)) (g := (mkF m 52 Lb6 [(.long (q2 >>> (((((63 : Int32) - (ownNlz (q2 ^^^ q3))) / (6 : Int32)) * (6 : Int32)) &&& 0x3f).toInt64)), (.int ((((63 : Int32) - (ownNlz (q2 ^^^ q3))) / (6 : Int32)) * (64 : Int32)))])) rfl (hb hby d18_52) _ ?_
      show Steps p.tables e below (T5.setTop (mkF m 55 Lb6 [(.long (63 : Int64)), (.long (q2 >>> (((((63 : Int32) - (ownNlz (q2 ^^^ q3))) / (6 : Int32)) * (6 : Int32)) &&& 0x3f).toInt64)), (.int ((((63 : Int32) - (ownNlz (q2 ^^^ q3))) / (6 : Int32)) * (64 : Int32)))])) _
      refine XS.land X5.here hx rfl (hb hby d18_55) rfl ?_
      refine XS.l2i X5.here hx rfl (hb hby d18_56) rfl ?_
      refine XS.iadd X5.here hx rfl (hb hby d18_57) rfl ?_
      refine sg (pc := 58) (pc' := 64) X5 hx hby d18_58 (by decide) (by decide) ?_
      refine XS.istoreN X5.here hx rfl (hb hby d18_64) rfl (l' := Lb9) rfl ?_
      show Steps p.tables e below (T5.setTop (mkF m 65 Lb9 [])) _
      refine sI X5 hx hby d18_65 rfl ?_
      exact retI X5 hx Bd.returns (hb hby d18_66) hr
    · show Q18_21 Z w o1 q2 q3 h0 n0 _ T5.heap _
      rw [e5]
      exact ⟨by simp only [ownS, if_pos hc3, if_pos hc8], N5, rfl⟩
   ·
    let Lb10 : Array Slot := #[.val (.ref o1), .val (.long q2), .second, .val (.int (385 : Int32)), .val (.int (((63 : Int32) - (ownNlz (q2 ^^^ q3))) / (6 : Int32)))]
    obtain ⟨fs, hr, hrun, hended, hWm, hsame⟩ := X5.leave (v := some (.int (385 : Int32))) (fun h => by rw [Bd.returns] at h; cases h)
    refine ⟨_, _, pre7 _ ?_, hrun, hended, _, _, rfl, ?_, ⟨_, rfl⟩, hWm, hsame.mono (by decide) (by decide)⟩
    · show Steps p.tables e below (T5.setTop (mkF m 37 Lb6 [(.int (6 : Int32)), (.int (((63 : Int32) - (ownNlz (q2 ^^^ q3))) / (6 : Int32)))])) _
      refine XS.icmpYes X5.here hx rfl (pc0 := 37) (pc' := 61) rfl (hb hby d18_37) rfl (flt (hc8 : ¬ ((((63 : Int32) - (ownNlz (q2 ^^^ q3))) / (6 : Int32)) < (6 : Int32)))).2.1 (by decide) (by decide) ?_
      refine XS.sipush X5.here hx rfl (hb hby d18_61) ?_
      refine XS.istoreN X5.here hx rfl (hb hby d18_64) rfl (l' := Lb10) rfl ?_
      refine sI X5 hx hby d18_65 rfl ?_
      exact retI X5 hx Bd.returns (hb hby d18_66) hr
    · show Q18_21 Z w o1 q2 q3 h0 n0 _ T5.heap _
      rw [e5]
      exact ⟨by simp only [ownS, if_pos hc3, if_neg hc8], N5, rfl⟩
  ·
   let Lb11 : Array Slot := #[.val (.ref o1), .val (.long q2), .second, .val (.int (384 : Int32)), .unset]
   obtain ⟨fs, hr, hrun, hended, hWm, hsame⟩ := X1.leave (v := some (.int (384 : Int32))) (fun h => by rw [Bd.returns] at h; cases h)
   refine ⟨_, _, pre2 _ ?_, hrun, hended, _, _, rfl, ?_, ⟨_, rfl⟩, hWm, hsame.mono (by decide) (by decide)⟩
   · show Steps p.tables e below (T1.setTop (mkF m 6 La [(.int (lcmpW q2 q3))])) _
     refine sN X1 hx hby d18_6 ((if0 _ _).trans (flt ((fun q => hc3 ((lw_gt _ _).mp q)) : ¬ ((0 : Int32) < (lcmpW q2 q3)))).2.2.1) ?_
     refine XS.sipush X1.here hx rfl (hb hby d18_9) ?_
     refine XS.istoreN X1.here hx rfl (hb hby d18_12) rfl (l' := Lb11) rfl ?_
     refine sg (pc := 13) (pc' := 65) X1 hx hby d18_13 (by decide) (by decide) ?_
     refine sI X1 hx hby d18_65 rfl ?_
     show Steps p.tables e below (T1.setTop (mkF m 66 Lb11 [(.int (384 : Int32))])) _
     exact retI X1 hx Bd.returns (hb hby d18_66) hr
   · show Q18_21 Z w o1 q2 q3 h0 n0 _ T1.heap _
     rw [e1]
     exact ⟨by simp only [ownS, if_neg hc3], N0, rfl⟩
theorem d13_41 : decode prog_14_method_3_code 41 = .ok (.goto 4, 3) := by decide +kernel
theorem d13_45 : decode prog_14_method_3_code 45 = .ok (.istore 4, 2) := by decide +kernel
theorem d13_47 : decode prog_14_method_3_code 47 = .ok (.iload 4, 2) := by decide +kernel
theorem d13_49 : decode prog_14_method_3_code 49 = .ok (.aload_n 1, 1) := by decide +kernel
theorem d13_50 : decode prog_14_method_3_code 50 = .ok (.getfield 44, 3) := by decide +kernel
theorem d13_53 : decode prog_14_method_3_code 53 = .ok (.if_icmp .eq 31, 3) := by decide +kernel
theorem d13_56 : decode prog_14_method_3_code 56 = .ok (.aload_n 0, 1) := by decide +kernel
theorem d13_57 : decode prog_14_method_3_code 57 = .ok (.aload_n 1, 1) := by decide +kernel
theorem d13_58 : decode prog_14_method_3_code 58 = .ok (.invokevirtual 48, 3) := by decide +kernel
theorem d13_61 : decode prog_14_method_3_code 61 = .ok (.iload 4, 2) := by decide +kernel
theorem d13_63 : decode prog_14_method_3_code 63 = .ok (.iconst (-1), 1) := by decide +kernel
theorem d13_64 : decode prog_14_method_3_code 64 = .ok (.if_icmp .eq 20, 3) := by decide +kernel
theorem d13_67 : decode prog_14_method_3_code 67 = .ok (.aload_n 0, 1) := by decide +kernel
theorem d13_68 : decode prog_14_method_3_code 68 = .ok (.aload_n 1, 1) := by decide +kernel
theorem d13_69 : decode prog_14_method_3_code 69 = .ok (.iload 4, 2) := by decide +kernel
theorem d13_71 : decode prog_14_method_3_code 71 = .ok (.invokevirtual 52, 3) := by decide +kernel
theorem d21_0 : decode prog_14_method_9_code 0 = .ok (.aload_n 0, 1) := by decide +kernel
theorem d21_1 : decode prog_14_method_9_code 1 = .ok (.getfield 19, 3) := by decide +kernel
theorem d21_4 : decode prog_14_method_9_code 4 = .ok (.iload_n 2, 1) := by decide +kernel
theorem d21_5 : decode prog_14_method_9_code 5 = .ok (.aaload, 1) := by decide +kernel
theorem d21_6 : decode prog_14_method_9_code 6 = .ok (.astore_n 3, 1) := by decide +kernel
theorem d21_7 : decode prog_14_method_9_code 7 = .ok (.aload_n 1, 1) := by decide +kernel
theorem d21_8 : decode prog_14_method_9_code 8 = .ok (.aconst_null, 1) := by decide +kernel
theorem d21_9 : decode prog_14_method_9_code 9 = .ok (.putfield 56, 3) := by decide +kernel
theorem d21_12 : decode prog_14_method_9_code 12 = .ok (.aload_n 1, 1) := by decide +kernel
theorem d21_13 : decode prog_14_method_9_code 13 = .ok (.aload_n 3, 1) := by decide +kernel
theorem d21_14 : decode prog_14_method_9_code 14 = .ok (.putfield 60, 3) := by decide +kernel
theorem d21_17 : decode prog_14_method_9_code 17 = .ok (.aload_n 3, 1) := by decide +kernel
theorem d21_18 : decode prog_14_method_9_code 18 = .ok (.ifnull 8, 3) := by decide +kernel
theorem d21_26 : decode prog_14_method_9_code 26 = .ok (.aload_n 0, 1) := by decide +kernel
theorem d21_27 : decode prog_14_method_9_code 27 = .ok (.getfield 19, 3) := by decide +kernel
theorem d21_30 : decode prog_14_method_9_code 30 = .ok (.iload_n 2, 1) := by decide +kernel
theorem d21_31 : decode prog_14_method_9_code 31 = .ok (.aload_n 1, 1) := by decide +kernel
theorem d21_32 : decode prog_14_method_9_code 32 = .ok (.aastore, 1) := by decide +kernel
theorem d21_33 : decode prog_14_method_9_code 33 = .ok (.aload_n 1, 1) := by decide +kernel
theorem d21_34 : decode prog_14_method_9_code 34 = .ok (.iload_n 2, 1) := by decide +kernel
theorem d21_35 : decode prog_14_method_9_code 35 = .ok (.putfield 44, 3) := by decide +kernel
theorem d21_38 : decode prog_14_method_9_code 38 = .ok (.return_, 1) := by decide +kernel
theorem ef_21_22 (m : MethodId) (o1 : Addr) (o2 : Addr) (q3 : Int32) : entryFrame m #[(.ref o1), (.ref o2), (.int q3)] 4 = mkF m 0 #[.val (.ref o1), .val (.ref o2), .val (.int q3), .unset] [] := by first | (simp [entryFrame, mkF, argsToLocals, Value.category]; done) | rfl
def Q21_22 (Z : State) (w : Nat → Addr) (o1 : Addr) (o2 : Addr) (q3 : Int32) (o4 : Addr) (k5 : ClassId) (h0 : Heap) (n0 : Nat) (v : Option Value) (h : Heap) (L : List Loc) : Prop := v = none ∧ Fr n0 L ∧ own_KL h0 h [⟨o2, Jvm.RoadKit.slotOf Z cs0 cs3 cs1⟩, ⟨o2, Jvm.RoadKit.slotOf Z cs0 cs4 cs1⟩, ⟨o4, (q3).toNatClampNeg⟩, ⟨o2, Jvm.RoadKit.slotOf Z cs0 "slot" "I"⟩] ∧ Fld Z h o2 cs0 cs3 cs1 .null ∧ Fld Z h o2 cs0 cs4 cs1 .null ∧ own_Gk Z h o4 k5 (.object cs0) (386 : Int32) q3 (.ref o2) ∧ Fld Z h o2 cs0 "slot" "I" (.int q3)
set_option maxRecDepth 65536 in
set_option maxHeartbeats 40000000 in
theorem rm21_22 (l : Launch) (Z : State) (a0 : Array Value) (hw : HW Z a0) (w : Nat → Addr) (hW : Wd Z w) (ws : List Jvm.Cond) (o1 : Addr) (o2 : Addr) (q3 : Int32) (o4 : Addr) (k5 : ClassId) (h0 : Heap) (n0 : Nat) (O0 : Old Z n0 h0) (f1 : Fld Z h0 o1 cs2 "firsts" cs8 (.ref o4)) (f2 : Arv Z h0 o4 k5 (.object cs0) (386 : Int32) [] .null) (c3 : ¬ (q3 < (0 : Int32))) (c4 : q3 < (386 : Int32)) (f5 : Exa Z h0 o2 cs0) (f6 : Fld Z h0 o2 cs0 cs3 cs1 .null) (g7 : n0 ≤ o2) (f8 : Fld Z h0 o2 cs0 cs4 cs1 .null) (u9 : o1 ≠ o2) (g10 : n0 ≤ o4) (u11 : o4 ≠ o2) (v12 : Ovr Z k5 cs0) (f13 : Fld Z h0 o2 cs0 "slot" "I" (.int (-1 : Int32))) :
    MetFree l ym18 (head1 (Jvm.Cond.code ym18 prog_14_method_9_code 4 none :: ws) ({ frames := 0, cells := 0, slots := 0, locals := 0 } : Room)) (fun a U => a = #[(.ref o1), (.ref o2), (.int q3)] ∧ Z.Warmed39 U.vm ∧ U.heap = h0) (fun _ _ _ _ _ => True) (fun _ U o U' => ∃ v L, o = .returned v ∧ Q21_22 Z w o1 o2 q3 o4 k5 h0 n0 v U'.heap L ∧ FrameEnd U o U' L ({ frames := 0, cells := 0, slots := 0, locals := 0 } : Room).cells ({ frames := 0, cells := 0, slots := 0, locals := 0 } : Room).slots) := by
  refine MetFree.of_bodySF (plainFor_of_name pnc_2) hisR ?_
  intro p e s m args below meth c s₁ Bd hml0 hP hK
  obtain ⟨rfl, hZ, hh⟩ := hP
  have hx := Bd.exec
  have hby := Bd.bytes
  have hml : c.maxLocals = 4 := hml0
  have hown : s.vm.findClass cs2 = some m.cls := findClass_of_methodNamed Bd.named
  have hnm := (name_of_methodNamed Bd.named Bd.method).1
  have X0 : Stand p l e ({ frames := 0, cells := 0, slots := 0, locals := 0 } : Room) s m #[(.ref o1), (.ref o2), (.int q3)] below meth c s₁ [] 0 0 := Stand.of_body Bd
  have e0 : s₁.heap = h0 := by rw [← hh, Bd.state]; rfl
  have N0 := Fr.nil n0
  let La : Array Slot := #[.val (.ref o1), .val (.ref o2), .val (.int q3), .unset]
  have pre0 : ∀ t, Steps p.tables e below (s₁.setTop (mkF m 0 #[.val (.ref o1), .val (.ref o2), .val (.int q3), .unset] [])) t → Steps p.tables e below (s₁.setTop (entryFrame m #[(.ref o1), (.ref o2), (.int q3)] 4)) t := fun t k => castTop (ef_21_22 m o1 o2 q3) k
  obtain ⟨T1, X1, e1, st1⟩ := getF X0 hx hZ hown (host := "") (Or.inl (wk46 hw)) Via.refl e0 f1 (g := (mkF m 1 La [(.ref o1)])) rfl rfl (hb hby d21_1)
  obtain ⟨cl2, Ar2, cw2, S2, Nn2, Hs2, G2⟩ := id (f2)
  have hin2 : ¬ (q3 < 0 ∨ cl2.slots.size ≤ (q3).toNatClampNeg) := inb_of S2 ⟨c3, c4⟩
  let Lb3 : Array Slot := #[.val (.ref o1), .val (.ref o2), .val (.int q3), .val .null]
  obtain ⟨T4, h4, X4, e4, W4, st4⟩ := putF X1 hx hZ hown (host := "") (Or.inl (wk154 hw)) Via.refl e1 f6 f5 (Or.inl (wk108 hw)) (wk49 hw) (ty := (.object cs0)) (by decide) rfl rfl (g := (mkF m 9 Lb3 [.null, (.ref o2)])) rfl rfl (hb hby d21_9)
  have F4 : Fld Z h4 o2 cs0 cs3 cs1 .null := f6.same W4
  have N4 := Fr.snoc X4 N0 g7
  have O5 := O0.wr W4 g7
  have t6 := (f8.other W4 (Or.inr (sn78 hw)))
  have t7 := (f5.wr W4)
  obtain ⟨T8, h8, X8, e8, W8, st8⟩ := putF X4 hx hZ hown (host := "") (Or.inl (wk155 hw)) Via.refl e4 t6 t7 (Or.inl (wk110 hw)) (wk49 hw) (ty := (.object cs0)) (by decide) rfl rfl (g := (mkF m 14 Lb3 [.null, (.ref o2)])) rfl rfl (hb hby d21_14)
  have F8 : Fld Z h8 o2 cs0 cs4 cs1 .null := t6.same W8
  have N8 := Fr.snoc X8 N4 g7
  have O9 := O5.wr W8 g7
  have t10 := ((f1.other W4 (Or.inl u9)).other W8 (Or.inl u9))
  obtain ⟨T11, X11, e11, st11⟩ := getF X8 hx hZ hown (host := "") (Or.inl (wk46 hw)) Via.refl e8 t10 (g := (mkF m 27 Lb3 [(.ref o1)])) rfl rfl (hb hby d21_27)
  have t14 := ((f2.other W4 u11).other W8 u11)
  obtain ⟨cl13, Ar13, cw13, S13, Nn13, Hs13, G13⟩ := id (t14)
  have hin13 : ¬ (q3 < 0 ∨ cl13.slots.size ≤ (q3).toNatClampNeg) := inb_of S13 ⟨c3, c4⟩
  have t15 := (t7.wr W8)
  obtain ⟨T13, h13, X13, e13, W13, st13⟩ := stR X11 hx hZ e11 Ar13 (j := q3) hin13 rfl (Sto.ofV Ar13 cw13 v12 (Ins.self t15)) (g := (mkF m 32 Lb3 [(.ref o2), (.int q3), (.ref o4)])) rfl rfl (hb hby d21_32)
  have V13 : own_Gk Z h13 o4 k5 (.object cs0) (386 : Int32) q3 (.ref o2) := own_gk_set Ar13 cw13 S13 Nn13 W13
  have N13 := Fr.snoc X13 N8 g10
  have O16 := O9.wr W13 g10
  have t17 := (((f13.other W4 (Or.inr (sn79 hw))).other W8 (Or.inr (sn80 hw))).other W13 (Or.inl (Ne.symm u11)))
  have t18 := (t15.wr W13)
  obtain ⟨T19, h19, X19, e19, W19, st19⟩ := putF X13 hx hZ hown (host := "") (Or.inl (wk99 hw)) Via.refl e13 t17 t18 (Or.inl (wk63 hw)) (wk49 hw) (ty := .int) (by decide) rfl rfl (g := (mkF m 35 Lb3 [(.int q3), (.ref o2)])) rfl rfl (hb hby d21_35)
  have F19 : Fld Z h19 o2 cs0 "slot" "I" (.int q3) := t17.same W19
  have N19 := Fr.snoc X19 N13 g7
  have O20 := O16.wr W19 g7
  obtain ⟨fs, hr, hrun, hended, hWm, hsame⟩ := X19.leave (v := none) (fun _ => rfl)
  have Kf21 : own_KL h0 h19 [⟨o2, Jvm.RoadKit.slotOf Z cs0 cs3 cs1⟩, ⟨o2, Jvm.RoadKit.slotOf Z cs0 cs4 cs1⟩, ⟨o4, (q3).toNatClampNeg⟩, ⟨o2, Jvm.RoadKit.slotOf Z cs0 "slot" "I"⟩] := (own_klW (own_klW (own_klW (own_klW (own_kl0 h0 [⟨o2, Jvm.RoadKit.slotOf Z cs0 cs3 cs1⟩, ⟨o2, Jvm.RoadKit.slotOf Z cs0 cs4 cs1⟩, ⟨o4, (q3).toNatClampNeg⟩, ⟨o2, Jvm.RoadKit.slotOf Z cs0 "slot" "I"⟩]) W4 (Or.inl (List.mem_of_getElem? (i := 0) rfl))) W8 (Or.inl (List.mem_of_getElem? (i := 1) rfl))) W13 (Or.inl (List.mem_of_getElem? (i := 2) rfl))) W19 (Or.inl (List.mem_of_getElem? (i := 3) rfl)))
  have t22 := (((F4.other W8 (Or.inr (sn81 hw))).other W13 (Or.inl (Ne.symm u11))).other W19 (Or.inr (sn69 hw)))
  have t23 := ((F8.other W13 (Or.inl (Ne.symm u11))).other W19 (Or.inr (sn77 hw)))
  have t24 := (own_gk_oth V13 W19 u11)
  refine ⟨_, _, pre0 _ ?_, hrun, hended, _, _, rfl, ?_, ⟨_, rfl⟩, hWm, hsame.mono (by decide) (by decide)⟩
  · show Steps p.tables e below (s₁.setTop (mkF m 0 La [])) _
    refine sA X0 hx hby d21_0 rfl rfl ?_
    refine st1 _ ?_
    refine sI X1 hx hby d21_4 rfl ?_
    refine X1.aaload hx (j := q3) (v := .null) (by rw [e1]; exact Ar2.1) (State.isArrayOf_alike hZ.alike Ar2.2.1) rfl Ar2.2.2 hin2 (Hs2.at hin2 rfl) (g := (mkF m 5 La [(.int q3), (.ref o4)])) rfl rfl (hb hby d21_5) _ ?_
    refine XS.astoreN X1.here hx rfl (hb hby d21_6) rfl rfl (l' := Lb3) rfl ?_
    refine sA X1 hx hby d21_7 rfl rfl ?_
    refine XS.aconstNull X1.here hx rfl (hb hby d21_8) ?_
    show Steps p.tables e below (T1.setTop (mkF m 9 Lb3 [.null, (.ref o2)])) _
    refine st4 _ ?_
    refine sA X4 hx hby d21_12 rfl rfl ?_
    refine sA X4 hx hby d21_13 rfl rfl ?_
    refine st8 _ ?_
    refine sA X8 hx hby d21_17 rfl rfl ?_
    refine XS.ifnullYes X8.here hx rfl (pc0 := 18) (pc' := 26) rfl (hb hby d21_18) rfl (by decide) (by decide) ?_
    refine sA X8 hx hby d21_26 rfl rfl ?_
    refine st11 _ ?_
    refine sI X11 hx hby d21_30 rfl ?_
    refine sA X11 hx hby d21_31 rfl rfl ?_
    refine st13 _ ?_
    refine sA X13 hx hby d21_33 rfl rfl ?_
    refine sI X13 hx hby d21_34 rfl ?_
    refine st19 _ ?_
    exact X19.returnOut hx Bd.returns (hb hby d21_38) hr
  · show Q21_22 Z w o1 o2 q3 o4 k5 h0 n0 _ T19.heap _
    rw [e19]
    exact ⟨rfl, N19, Kf21, t22, t23, t24, F19⟩
theorem pds_13 : parseMethodDescriptor "(Lcom/example/tidemark/tidemark/MemoryEntry;I)V" = some ⟨[(.object "com/example/tidemark/tidemark/MemoryEntry"), .int], none⟩ := by decide +kernel
theorem d13_74 : decode prog_14_method_3_code 74 = .ok (.aload_n 0, 1) := by decide +kernel
theorem d13_75 : decode prog_14_method_3_code 75 = .ok (.dup, 1) := by decide +kernel
theorem d13_76 : decode prog_14_method_3_code 76 = .ok (.getfield 23, 3) := by decide +kernel
theorem d13_79 : decode prog_14_method_3_code 79 = .ok (.lconst 1, 1) := by decide +kernel
theorem d13_80 : decode prog_14_method_3_code 80 = .ok (.ladd, 1) := by decide +kernel
theorem d13_81 : decode prog_14_method_3_code 81 = .ok (.putfield 23, 3) := by decide +kernel
theorem d13_84 : decode prog_14_method_3_code 84 = .ok (.return_, 1) := by decide +kernel
theorem ef_13_23 (m : MethodId) (o1 : Addr) (o2 : Addr) (q3 : Int64) : entryFrame m #[(.ref o1), (.ref o2), (.long q3)] 5 = mkF m 0 #[.val (.ref o1), .val (.ref o2), .val (.long q3), .second, .unset] [] := by first | (simp [entryFrame, mkF, argsToLocals, Value.category]; done) | rfl
def Q13_23 (Z : State) (w : Nat → Addr) (o1 : Addr) (o2 : Addr) (q3 : Int64) (o4 : Addr) (q5 : Int64) (o6 : Addr) (k7 : ClassId) (h0 : Heap) (n0 : Nat) (v : Option Value) (h : Heap) (L : List Loc) : Prop := v = none ∧ Fr n0 L ∧ own_KL h0 h [⟨o1, Jvm.RoadKit.slotOf Z cs2 "time" "J"⟩, ⟨o2, Jvm.RoadKit.slotOf Z cs0 cs3 cs1⟩, ⟨o2, Jvm.RoadKit.slotOf Z cs0 cs4 cs1⟩, ⟨o6, ((ownS (ownEnd q3 q5) q3)).toNatClampNeg⟩, ⟨o2, Jvm.RoadKit.slotOf Z cs0 "slot" "I"⟩, ⟨o1, Jvm.RoadKit.slotOf Z cs2 "size" "J"⟩] ∧ Fld Z h o1 cs2 "size" "J" (.long (1 : Int64)) ∧ Fld Z h o1 cs2 "time" "J" (.long q3) ∧ Fld Z h o2 cs0 cs4 cs1 .null ∧ Fld Z h o2 cs0 cs3 cs1 .null ∧ Fld Z h o2 cs0 "slot" "I" (.int (ownS (ownEnd q3 q5) q3)) ∧ own_Gk Z h o6 k7 (.object cs0) (386 : Int32) (ownS (ownEnd q3 q5) q3) (.ref o2)
set_option maxRecDepth 65536 in
set_option maxHeartbeats 40000000 in
theorem rm13_23 (l : Launch) (Z : State) (a0 : Array Value) (hw : HW Z a0) (w : Nat → Addr) (hW : Wd Z w) (ws : List Jvm.Cond) (o1 : Addr) (o2 : Addr) (q3 : Int64) (o4 : Addr) (q5 : Int64) (o6 : Addr) (k7 : ClassId) (h0 : Heap) (n0 : Nat) (O0 : Old Z n0 h0) (f1 : Fld Z h0 o1 cs2 "size" "J" (.long (0 : Int64))) (f2 : Fld Z h0 o1 cs2 "time" "J" (.long (-9223372036854775808 : Int64))) (f3 : Exa Z h0 o1 cs2) (g4 : n0 ≤ o1) (f5 : Fld Z h0 o2 cs0 "expiry" cs7 (.ref o4)) (u6 : o2 ≠ o1) (f7 : Exa Z h0 o4 cs5) (f8 : Fld Z h0 o4 cs5 "lifespan" "J" (.long q5)) (c9 : ¬ (q5 = (-1 : Int64))) (u10 : o4 ≠ o1) (f11 : Exa Z h0 o2 cs0) (f12 : Fld Z h0 o2 cs0 "created" "J" (.long q3)) (f13 : Fld Z h0 o2 cs0 "lastUsed" "J" (.long q3)) (f14 : Fld Z h0 o4 cs5 "maxIdle" "J" (.long (-1 : Int64))) (c15 : ¬ ((9223372036854775807 : Int64) < (ownEnd q3 q5))) (f16 : Fld Z h0 o2 cs0 "slot" "I" (.int (-1 : Int32))) (c17 : ¬ ((ownS (ownEnd q3 q5) q3) = (-1 : Int32))) (f18 : Fld Z h0 o1 cs2 "firsts" cs8 (.ref o6)) (f19 : Arv Z h0 o6 k7 (.object cs0) (386 : Int32) [] .null) (c20 : ¬ ((ownS (ownEnd q3 q5) q3) < (0 : Int32))) (c21 : (ownS (ownEnd q3 q5) q3) < (386 : Int32)) (f22 : Fld Z h0 o2 cs0 cs3 cs1 .null) (f23 : Fld Z h0 o2 cs0 cs4 cs1 .null) (u24 : o6 ≠ o1) (g25 : n0 ≤ o2) (g26 : n0 ≤ o6) (u27 : o6 ≠ o2) (v28 : Ovr Z k7 cs0) :
    MetFree l ym19 (head1 (Jvm.Cond.code ym19 prog_14_method_3_code 5 none :: ws) ({ frames := 3, cells := 0, slots := 0, locals := 46 } : Room)) (fun a U => a = #[(.ref o1), (.ref o2), (.long q3)] ∧ Z.Warmed39 U.vm ∧ U.heap = h0) (fun _ _ _ _ _ => True) (fun _ U o U' => ∃ v L, o = .returned v ∧ Q13_23 Z w o1 o2 q3 o4 q5 o6 k7 h0 n0 v U'.heap L ∧ FrameEnd U o U' L ({ frames := 3, cells := 0, slots := 0, locals := 46 } : Room).cells ({ frames := 3, cells := 0, slots := 0, locals := 46 } : Room).slots) := by
  refine MetFree.of_bodySF (plainFor_of_name pnc_2) hisR ?_
  intro p e s m args below meth c s₁ Bd hml0 hP hK
  obtain ⟨rfl, hZ, hh⟩ := hP
  have hx := Bd.exec
  have hby := Bd.bytes
  have hml : c.maxLocals = 5 := hml0
  have hown : s.vm.findClass cs2 = some m.cls := findClass_of_methodNamed Bd.named
  have hnm := (name_of_methodNamed Bd.named Bd.method).1
  have X0 : Stand p l e ({ frames := 3, cells := 0, slots := 0, locals := 46 } : Room) s m #[(.ref o1), (.ref o2), (.long q3)] below meth c s₁ [] 0 0 := Stand.of_body Bd
  have e0 : s₁.heap = h0 := by rw [← hh, Bd.state]; rfl
  have N0 := Fr.nil n0
  let La : Array Slot := #[.val (.ref o1), .val (.ref o2), .val (.long q3), .second, .unset]
  have pre0 : ∀ t, Steps p.tables e below (s₁.setTop (mkF m 0 #[.val (.ref o1), .val (.ref o2), .val (.long q3), .second, .unset] [])) t → Steps p.tables e below (s₁.setTop (entryFrame m #[(.ref o1), (.ref o2), (.long q3)] 5)) t := fun t k => castTop (ef_13_23 m o1 o2 q3) k
  obtain ⟨T1, X1, e1, st1⟩ := getF X0 hx hZ hown (host := "") (Or.inl (wk105 hw)) Via.refl e0 f1 (g := (mkF m 1 La [(.ref o1)])) rfl rfl (hb hby d13_1)
  obtain ⟨T2, X2, e2, st2⟩ := getF X1 hx hZ hown (host := "") (Or.inl (wk42 hw)) Via.refl e1 f2 (g := (mkF m 11 La [(.ref o1), (.long q3)])) rfl rfl (hb hby d13_11)
  have pre3 : ∀ t, Steps p.tables e below (T2.setTop (mkF m 15 La [(.int (lcmpW q3 (-9223372036854775808 : Int64)))])) t → Steps p.tables e below (s₁.setTop (entryFrame m #[(.ref o1), (.ref o2), (.long q3)] 5)) t := fun t k => pre0 t (by
   show Steps p.tables e below (s₁.setTop (mkF m 0 La [])) _
   refine sA X0 hx hby d13_0 rfl rfl ?_
   refine st1 _ ?_
   refine XS.lconst X1.here hx rfl (hb hby d13_4) ?_
   refine XS.lcmp X1.here hx rfl (hb hby d13_5) rfl ?_
   refine sN X1 hx hby d13_6 (by decide) ?_
   refine sL X1 hx hby d13_9 rfl ?_
   refine sA X1 hx hby d13_10 rfl rfl ?_
   show Steps p.tables e below (T1.setTop (mkF m 11 La [(.ref o1), (.long q3)])) _
   refine st2 _ ?_
   refine XS.lcmp X2.here hx rfl (hb hby d13_14) rfl ?_
   exact k)
  by_cases hc4 : (-9223372036854775808 : Int64) < q3
  ·
   obtain ⟨T5, h5, X5, e5, W5, st5⟩ := putF X2 hx hZ hown (host := "") (Or.inl (wk42 hw)) Via.refl e2 f2 f3 (Or.inl (wk43 hw)) (wk35 hw) (ty := .long) (by decide) rfl rfl (g := (mkF m 20 La [(.long q3), (.ref o1)])) rfl rfl (hb hby d13_20)
   have F5 : Fld Z h5 o1 cs2 "time" "J" (.long q3) := f2.same W5
   have N5 := Fr.snoc X5 N0 g4
   have O6 := O0.wr W5 g4
   have t7 := (f5.other W5 (Or.inl u6))
   obtain ⟨T8, X8, e8, st8⟩ := getF X5 hx hZ hown (host := "") (Or.inl (wk116 hw)) Via.refl e5 t7 (g := (mkF m 24 La [(.ref o2)])) rfl rfl (hb hby d13_24)
   have t9 := (f8.other W5 (Or.inl u10))
   have t11 := (f7.wr W5)
   obtain ⟨cq10, kq10, q10a, q10b, q10c⟩ := isOf hZ e8 t11
   obtain ⟨_, _, ⟨T10, L10, kk10, nn10⟩, -, X10, ⟨Lc10, hQ10, l10, y10, z10⟩, st10⟩ := X8.virtualBack hx (y := ym6) (z := ym6) hown (mvT hZ (wk117 hw)) (mvT hZ (wk87 hw)) (notFace_of_selects (args := #[]) (mvT hZ (wk89 hw))) (mvT hZ (wk89 hw)) (mvT hZ (wk88 hw)) (by decide) (backOf (W := 0) (rm10_7 l Z a0 hw w hW [] o4 q5 h5 n0 O6 t9 c9) hZ (wk90 hw) (wk4 hw) (by decide) (by decide)) q10a q10c (g := (mkF m 27 La [(.ref o4)])) rfl (by rw [hml]; rfl) (Steps.refl _) (argsL := []) (rest := []) (lenOf pds_5 rfl) rfl (by show 2 * 0 + _ ≤ _; exact Nat.le_of_eq rfl) (hb hby d13_27) (fun _ _ => ⟨rfl, e8, (by decide : 0 + 0 ≤ _), (by decide : 0 + 0 ≤ _)⟩)
   dsimp only [Pt.U, Pt.locs, Pt.cells, Pt.slots] at X10 l10 y10 z10 st10 hQ10
   rw [l10, y10, z10] at X10
   obtain ⟨rfl, N10q, e10⟩ := hQ10
   have N10 := Fr.app N5 N10q
   have t12 := (f12.other W5 (Or.inl u6))
   have t13 := (f13.other W5 (Or.inl u6))
   have t14 := (f14.other W5 (Or.inl u10))
   have t16 := (f11.wr W5)
   obtain ⟨cq15, kq15, q15a, q15b, q15c⟩ := isOf hZ e10 t16
   obtain ⟨_, _, ⟨T15, L15, kk15, nn15⟩, -, X15, ⟨Lc15, hQ15, l15, y15, z15⟩, st15⟩ := X10.virtualBack hx (y := ym14) (z := ym14) hown (mvT hZ (wk118 hw)) (mvT hZ (wk119 hw)) (notFace_of_selects (args := #[]) (mvT hZ (wk121 hw))) (mvT hZ (wk121 hw)) (mvT hZ (wk120 hw)) (by decide) (backOf (W := 1) (rm14_18 l Z a0 hw w hW [] o2 o4 q3 q5 h5 n0 O6 t7 t12 t13 t11 t9 t14 c15) hZ (wk122 hw) (wk50 hw) (by decide) (by decide)) q15a q15c (g := (mkF m 35 La [(.ref o2), (.ref o1)])) rfl (by rw [hml]; rfl) (Steps.refl _) (argsL := []) (rest := [(.ref o1)]) (lenOf pds_9 rfl) rfl (by show 2 * 0 + _ ≤ _; exact Nat.le_of_eq rfl) (hb hby d13_35) (fun _ _ => ⟨rfl, e10, (by decide : 0 + 0 ≤ _), (by decide : 0 + 0 ≤ _)⟩)
   dsimp only [Pt.U, Pt.locs, Pt.cells, Pt.slots] at X15 l15 y15 z15 st15 hQ15
   rw [l15, y15, z15] at X15
   obtain ⟨rfl, N15q, e15⟩ := hQ15
   have N15 := Fr.app N10 N15q
   have t18 := (f3.wr W5)
   obtain ⟨cq17, cw17, cw17'⟩ := t18.cell
   obtain ⟨_, _, ⟨T17, L17, kk17, nn17⟩, -, X17, ⟨Lc17, hQ17, l17, y17, z17⟩, st17⟩ := X15.privateBack hx (y := ym17) hown (mvT hZ (wk136 hw)) (mvT hZ (wk137 hw)) (mvT hZ (own_selp (y := ym17) (wk35 hw) (wk138 hw) (wk137 hw) (by decide))) (Cond.privateMethod_at (mvP hZ (wk138 hw) (args := #[]))) (mvT hZ (wk139 hw)) (by decide) (backOf (W := 0) (rm18_21 l Z a0 hw w hW [] o1 (ownEnd q3 q5) q3 h5 n0 O6 F5) hZ (wk139 hw) (wk36 hw) (by decide) (by decide)) (g := (mkF m 38 La [(.long (ownEnd q3 q5)), (.ref o1)])) rfl (by rw [hml]; rfl) (Steps.refl _) (a := o1) (by rw [e15]; exact cw17) cw17' (argsL := [(.long (ownEnd q3 q5))]) (rest := []) (lenOf pds_12 rfl) rfl (by show 2 * 0 + _ ≤ _; exact Nat.le_of_eq rfl) (hb hby d13_38) (fun _ _ => ⟨rfl, e15, (by decide : 0 + 0 ≤ _), (by decide : 0 + 0 ≤ _)⟩)
   dsimp only [Pt.U, Pt.locs, Pt.cells, Pt.slots] at X17 l17 y17 z17 st17 hQ17
   rw [l17, y17, z17] at X17
   obtain ⟨rfl, N17q, e17⟩ := hQ17
   have N17 := Fr.app N15 N17q
   let Lb19 : Array Slot := #[.val (.ref o1), .val (.ref o2), .val (.long q3), .second, .val (.int (ownS (ownEnd q3 q5) q3))]
   have t20 := (f16.other W5 (Or.inl u6))
   obtain ⟨T21, X21, e21, st21⟩ := getF X17 hx hZ hown (host := "") (Or.inl (wk99 hw)) Via.refl e17 t20 (g := (mkF m 50 Lb19 [(.ref o2), (.int (ownS (ownEnd q3 q5) q3))])) rfl rfl (hb hby d13_50)
   obtain ⟨cq22, kq22, q22a, q22b, q22c⟩ := isOf hZ e21 t18
   obtain ⟨_, _, ⟨T22, L22, kk22, nn22⟩, -, X22, ⟨Lc22, hQ22, l22, y22, z22⟩, st22⟩ := X21.virtualBack hx (y := ym9) (z := ym9) hown (mvT hZ (wk149 hw)) (mvT hZ (wk95 hw)) (notFace_of_selects (args := #[]) (mvT hZ (wk97 hw))) (mvT hZ (wk97 hw)) (mvT hZ (wk96 hw)) (by decide) (backOf (W := 0) (rm11_12 l Z a0 hw w hW [] o1 o2 h5 n0 O6 t20) hZ (wk98 hw) (wk36 hw) (by decide) (by decide)) q22a q22c (g := (mkF m 58 Lb19 [(.ref o2), (.ref o1)])) rfl (by rw [hml]; rfl) (Steps.refl _) (argsL := [(.ref o2)]) (rest := []) (lenOf pds_8 rfl) rfl (by show 2 * 0 + _ ≤ _; exact Nat.le_of_eq rfl) (hb hby d13_58) (fun _ _ => ⟨rfl, e21, (by decide : 0 + 0 ≤ _), (by decide : 0 + 0 ≤ _)⟩)
   dsimp only [Pt.U, Pt.locs, Pt.cells, Pt.slots] at X22 l22 y22 z22 st22 hQ22
   rw [l22, y22, z22] at X22
   obtain ⟨rfl, N22q, e22⟩ := hQ22
   have N22 := Fr.app N17 N22q
   have t23 := (f18.other W5 (Or.inr (sn2 hw)))
   have t24 := (f19.other W5 u24)
   have t25 := (f22.other W5 (Or.inl u6))
   have t26 := (f23.other W5 (Or.inl u6))
   obtain ⟨cq27, cw27, cw27'⟩ := t18.cell
   obtain ⟨_, _, ⟨T27, L27, kk27, nn27⟩, -, X27, ⟨Lc27, hQ27, l27, y27, z27⟩, st27⟩ := X22.privateBack hx (y := ym18) hown (mvT hZ (wk150 hw)) (mvT hZ (wk151 hw)) (mvT hZ (own_selp (y := ym18) (wk35 hw) (wk152 hw) (wk151 hw) (by decide))) (Cond.privateMethod_at (mvP hZ (wk152 hw) (args := #[]))) (mvT hZ (wk153 hw)) (by decide) (backOf (W := 0) (rm21_22 l Z a0 hw w hW [] o1 o2 (ownS (ownEnd q3 q5) q3) o6 k7 h5 n0 O6 t23 t24 c20 c21 t16 t25 g25 t26 (Ne.symm u6) g26 u27 v28 t20) hZ (wk153 hw) (wk36 hw) (by decide) (by decide)) (g := (mkF m 71 Lb19 [(.int (ownS (ownEnd q3 q5) q3)), (.ref o2), (.ref o1)])) rfl (by rw [hml]; rfl) (Steps.refl _) (a := o1) (by rw [e22]; exact cw27) cw27' (argsL := [(.ref o2), (.int (ownS (ownEnd q3 q5) q3))]) (rest := []) (lenOf pds_13 rfl) rfl (by show 2 * 0 + _ ≤ _; exact Nat.le_of_eq rfl) (hb hby d13_71) (fun _ _ => ⟨rfl, e22, (by decide : 0 + 0 ≤ _), (by decide : 0 + 0 ≤ _)⟩)
   dsimp only [Pt.U, Pt.locs, Pt.cells, Pt.slots] at X27 l27 y27 z27 st27 hQ27
   rw [l27, y27, z27] at X27
   obtain ⟨rfl, N27q, K27, r27_0, r27_1, r27_2, r27_3⟩ := hQ27
   have N27 := Fr.app N22 N27q
   have O28 := own_old O6 K27 (own_ngc g25 (own_ngc g25 (own_ngc g26 (own_ngc g25 own_ng0))))
   have t29 := (own_fld (f1.other W5 (Or.inr (sn61 hw))) K27 (own_nlb (Ne.symm u6) (own_nlb (Ne.symm u6) (own_nlb (Ne.symm u24) (own_nlb (Ne.symm u6) own_nl0)))))
   obtain ⟨T30, X30, e30, st30⟩ := getF X27 hx hZ hown (host := "") (Or.inl (wk105 hw)) Via.refl rfl t29 (g := (mkF m 76 Lb19 [(.ref o1), (.ref o1)])) rfl rfl (hb hby d13_76)
   have t31 := (own_exa t18 K27)
   obtain ⟨T32, h32, X32, e32, W32, st32⟩ := putF X30 hx hZ hown (host := "") (Or.inl (wk105 hw)) Via.refl e30 t29 t31 (Or.inl (wk106 hw)) (wk35 hw) (ty := .long) (by decide) rfl rfl (g := (mkF m 81 Lb19 [(.long (1 : Int64)), (.ref o1)])) rfl rfl (hb hby d13_81)
   have F32 : Fld Z h32 o1 cs2 "size" "J" (.long (1 : Int64)) := t29.same W32
   have N32 := Fr.snoc X32 N27 g4
   have O33 := O28.wr W32 g4
   obtain ⟨fs, hr, hrun, hended, hWm, hsame⟩ := X32.leave (v := none) (fun _ => rfl)
   have Kf34 : own_KL h0 h32 [⟨o1, Jvm.RoadKit.slotOf Z cs2 "time" "J"⟩, ⟨o2, Jvm.RoadKit.slotOf Z cs0 cs3 cs1⟩, ⟨o2, Jvm.RoadKit.slotOf Z cs0 cs4 cs1⟩, ⟨o6, ((ownS (ownEnd q3 q5) q3)).toNatClampNeg⟩, ⟨o2, Jvm.RoadKit.slotOf Z cs0 "slot" "I"⟩, ⟨o1, Jvm.RoadKit.slotOf Z cs2 "size" "J"⟩] := (own_klW (own_klT (own_klW (own_kl0 h0 [⟨o1, Jvm.RoadKit.slotOf Z cs2 "time" "J"⟩, ⟨o2, Jvm.RoadKit.slotOf Z cs0 cs3 cs1⟩, ⟨o2, Jvm.RoadKit.slotOf Z cs0 cs4 cs1⟩, ⟨o6, ((ownS (ownEnd q3 q5) q3)).toNatClampNeg⟩, ⟨o2, Jvm.RoadKit.slotOf Z cs0 "slot" "I"⟩, ⟨o1, Jvm.RoadKit.slotOf Z cs2 "size" "J"⟩]) W5 (Or.inl (List.mem_of_getElem? (i := 0) rfl))) K27 (own_kac (Or.inl (List.mem_of_getElem? (i := 1) rfl)) (own_kac (Or.inl (List.mem_of_getElem? (i := 2) rfl)) (own_kac (Or.inl (List.mem_of_getElem? (i := 3) rfl)) (own_kac (Or.inl (List.mem_of_getElem? (i := 4) rfl)) own_ka0))))) W32 (Or.inl (List.mem_of_getElem? (i := 5) rfl)))
   have t35 := ((own_fld F5 K27 (own_nlb (Ne.symm u6) (own_nlb (Ne.symm u6) (own_nlb (Ne.symm u24) (own_nlb (Ne.symm u6) own_nl0))))).other W32 (Or.inr (sn82 hw)))
   have t36 := (r27_1.other W32 (Or.inl u6))
   have t37 := (r27_0.other W32 (Or.inl u6))
   have t38 := (r27_3.other W32 (Or.inl u6))
   have t39 := (own_gk_oth r27_2 W32 u24)
   refine ⟨_, _, pre3 _ ?_, hrun, hended, _, _, rfl, ?_, ⟨_, rfl⟩, hWm, hsame.mono (by decide) (by decide)⟩
   · show Steps p.tables e below (T2.setTop (mkF m 15 La [(.int (lcmpW q3 (-9223372036854775808 : Int64)))])) _
     refine sN X2 hx hby d13_15 ((if0 _ _).trans (tlt (((lw_gt _ _).mpr hc4) : (0 : Int32) < (lcmpW q3 (-9223372036854775808 : Int64)))).2.2.2) ?_
     refine sA X2 hx hby d13_18 rfl rfl ?_
     refine sL X2 hx hby d13_19 rfl ?_
     refine st5 _ ?_
     refine sA X5 hx hby d13_23 rfl rfl ?_
     refine st8 _ ?_
     refine st10.trans ?_
     refine sN X10 hx hby d13_30 (by decide) ?_
     refine sA X10 hx hby d13_33 rfl rfl ?_
     refine sA X10 hx hby d13_34 rfl rfl ?_
     refine st15.trans ?_
     refine st17.trans ?_
     refine sg (pc := 41) (pc' := 45) X17 hx hby d13_41 (by decide) (by decide) ?_
     refine XS.istore X17.here hx rfl (hb hby d13_45) rfl (l' := Lb19) rfl ?_
     refine si X17 hx hby d13_47 rfl ?_
     refine sA X17 hx hby d13_49 rfl rfl ?_
     refine st21 _ ?_
     refine sn X21 hx hby d13_53 (feq (c17 : ¬ ((ownS (ownEnd q3 q5) q3) = (-1 : Int32)))).1 ?_
     refine sA X21 hx hby d13_56 rfl rfl ?_
     refine sA X21 hx hby d13_57 rfl rfl ?_
     refine st22.trans ?_
     refine si X22 hx hby d13_61 rfl ?_
     refine sc X22 hx hby d13_63 ?_
     refine sn X22 hx hby d13_64 (feq (c17 : ¬ ((ownS (ownEnd q3 q5) q3) = (-1 : Int32)))).1 ?_
     refine sA X22 hx hby d13_67 rfl rfl ?_
     refine sA X22 hx hby d13_68 rfl rfl ?_
     show Steps p.tables e below (T22.setTop (mkF m 69 Lb19 [(.ref o2), (.ref o1)])) _
     refine si X22 hx hby d13_69 rfl ?_
     refine st27.trans ?_
     refine sA X27 hx hby d13_74 rfl rfl ?_
     refine XS.dup X27.here hx rfl (hb hby d13_75) rfl rfl ?_
     refine st30 _ ?_
     refine XS.lconst X30.here hx rfl (hb hby d13_79) ?_
     refine XS.ladd X30.here hx rfl (hb hby d13_80) rfl ?_
     refine st32 _ ?_
     exact X32.returnOut hx Bd.returns (hb hby d13_84) hr
   · show Q13_23 Z w o1 o2 q3 o4 q5 o6 k7 h0 n0 _ T32.heap _
     rw [e32]
     exact ⟨rfl, N32, Kf34, F32, t35, t36, t37, t38, t39⟩
  ·
   have ft40 : Fld Z h0 o1 cs2 "time" "J" (.long q3) := own_min hc4 ▸ f2
   obtain ⟨T41, X41, e41, st41⟩ := getF X2 hx hZ hown (host := "") (Or.inl (wk116 hw)) Via.refl e2 f5 (g := (mkF m 24 La [(.ref o2)])) rfl rfl (hb hby d13_24)
   obtain ⟨cq42, kq42, q42a, q42b, q42c⟩ := isOf hZ e41 f7
   obtain ⟨_, _, ⟨T42, L42, kk42, nn42⟩, -, X42, ⟨Lc42, hQ42, l42, y42, z42⟩, st42⟩ := X41.virtualBack hx (y := ym6) (z := ym6) hown (mvT hZ (wk117 hw)) (mvT hZ (wk87 hw)) (notFace_of_selects (args := #[]) (mvT hZ (wk89 hw))) (mvT hZ (wk89 hw)) (mvT hZ (wk88 hw)) (by decide) (backOf (W := 0) (rm10_7 l Z a0 hw w hW [] o4 q5 h0 n0 O0 f8 c9) hZ (wk90 hw) (wk4 hw) (by decide) (by decide)) q42a q42c (g := (mkF m 27 La [(.ref o4)])) rfl (by rw [hml]; rfl) (Steps.refl _) (argsL := []) (rest := []) (lenOf pds_5 rfl) rfl (by show 2 * 0 + _ ≤ _; exact Nat.le_of_eq rfl) (hb hby d13_27) (fun _ _ => ⟨rfl, e41, (by decide : 0 + 0 ≤ _), (by decide : 0 + 0 ≤ _)⟩)
   dsimp only [Pt.U, Pt.locs, Pt.cells, Pt.slots] at X42 l42 y42 z42 st42 hQ42
   rw [l42, y42, z42] at X42
   obtain ⟨rfl, N42q, e42⟩ := hQ42
   have N42 := Fr.app N0 N42q
   obtain ⟨cq43, kq43, q43a, q43b, q43c⟩ := isOf hZ e42 f11
   obtain ⟨_, _, ⟨T43, L43, kk43, nn43⟩, -, X43, ⟨Lc43, hQ43, l43, y43, z43⟩, st43⟩ := X42.virtualBack hx (y := ym14) (z := ym14) hown (mvT hZ (wk118 hw)) (mvT hZ (wk119 hw)) (notFace_of_selects (args := #[]) (mvT hZ (wk121 hw))) (mvT hZ (wk121 hw)) (mvT hZ (wk120 hw)) (by decide) (backOf (W := 1) (rm14_18 l Z a0 hw w hW [] o2 o4 q3 q5 h0 n0 O0 f5 f12 f13 f7 f8 f14 c15) hZ (wk122 hw) (wk50 hw) (by decide) (by decide)) q43a q43c (g := (mkF m 35 La [(.ref o2), (.ref o1)])) rfl (by rw [hml]; rfl) (Steps.refl _) (argsL := []) (rest := [(.ref o1)]) (lenOf pds_9 rfl) rfl (by show 2 * 0 + _ ≤ _; exact Nat.le_of_eq rfl) (hb hby d13_35) (fun _ _ => ⟨rfl, e42, (by decide : 0 + 0 ≤ _), (by decide : 0 + 0 ≤ _)⟩)
   dsimp only [Pt.U, Pt.locs, Pt.cells, Pt.slots] at X43 l43 y43 z43 st43 hQ43
   rw [l43, y43, z43] at X43
   obtain ⟨rfl, N43q, e43⟩ := hQ43
   have N43 := Fr.app N42 N43q
   obtain ⟨cq44, cw44, cw44'⟩ := f3.cell
   obtain ⟨_, _, ⟨T44, L44, kk44, nn44⟩, -, X44, ⟨Lc44, hQ44, l44, y44, z44⟩, st44⟩ := X43.privateBack hx (y := ym17) hown (mvT hZ (wk136 hw)) (mvT hZ (wk137 hw)) (mvT hZ (own_selp (y := ym17) (wk35 hw) (wk138 hw) (wk137 hw) (by decide))) (Cond.privateMethod_at (mvP hZ (wk138 hw) (args := #[]))) (mvT hZ (wk139 hw)) (by decide) (backOf (W := 0) (rm18_21 l Z a0 hw w hW [] o1 (ownEnd q3 q5) q3 h0 n0 O0 ft40) hZ (wk139 hw) (wk36 hw) (by decide) (by decide)) (g := (mkF m 38 La [(.long (ownEnd q3 q5)), (.ref o1)])) rfl (by rw [hml]; rfl) (Steps.refl _) (a := o1) (by rw [e43]; exact cw44) cw44' (argsL := [(.long (ownEnd q3 q5))]) (rest := []) (lenOf pds_12 rfl) rfl (by show 2 * 0 + _ ≤ _; exact Nat.le_of_eq rfl) (hb hby d13_38) (fun _ _ => ⟨rfl, e43, (by decide : 0 + 0 ≤ _), (by decide : 0 + 0 ≤ _)⟩)
   dsimp only [Pt.U, Pt.locs, Pt.cells, Pt.slots] at X44 l44 y44 z44 st44 hQ44
   rw [l44, y44, z44] at X44
   obtain ⟨rfl, N44q, e44⟩ := hQ44
   have N44 := Fr.app N43 N44q
   let Lb45 : Array Slot := #[.val (.ref o1), .val (.ref o2), .val (.long q3), .second, .val (.int (ownS (ownEnd q3 q5) q3))]
   obtain ⟨T46, X46, e46, st46⟩ := getF X44 hx hZ hown (host := "") (Or.inl (wk99 hw)) Via.refl e44 f16 (g := (mkF m 50 Lb45 [(.ref o2), (.int (ownS (ownEnd q3 q5) q3))])) rfl rfl (hb hby d13_50)
   obtain ⟨cq47, kq47, q47a, q47b, q47c⟩ := isOf hZ e46 f3
   obtain ⟨_, _, ⟨T47, L47, kk47, nn47⟩, -, X47, ⟨Lc47, hQ47, l47, y47, z47⟩, st47⟩ := X46.virtualBack hx (y := ym9) (z := ym9) hown (mvT hZ (wk149 hw)) (mvT hZ (wk95 hw)) (notFace_of_selects (args := #[]) (mvT hZ (wk97 hw))) (mvT hZ (wk97 hw)) (mvT hZ (wk96 hw)) (by decide) (backOf (W := 0) (rm11_12 l Z a0 hw w hW [] o1 o2 h0 n0 O0 f16) hZ (wk98 hw) (wk36 hw) (by decide) (by decide)) q47a q47c (g := (mkF m 58 Lb45 [(.ref o2), (.ref o1)])) rfl (by rw [hml]; rfl) (Steps.refl _) (argsL := [(.ref o2)]) (rest := []) (lenOf pds_8 rfl) rfl (by show 2 * 0 + _ ≤ _; exact Nat.le_of_eq rfl) (hb hby d13_58) (fun _ _ => ⟨rfl, e46, (by decide : 0 + 0 ≤ _), (by decide : 0 + 0 ≤ _)⟩)
   dsimp only [Pt.U, Pt.locs, Pt.cells, Pt.slots] at X47 l47 y47 z47 st47 hQ47
   rw [l47, y47, z47] at X47
   obtain ⟨rfl, N47q, e47⟩ := hQ47
   have N47 := Fr.app N44 N47q
   obtain ⟨cq48, cw48, cw48'⟩ := f3.cell
   obtain ⟨_, _, ⟨T48, L48, kk48, nn48⟩, -, X48, ⟨Lc48, hQ48, l48, y48, z48⟩, st48⟩ := X47.privateBack hx (y := ym18) hown (mvT hZ (wk150 hw)) (mvT hZ (wk151 hw)) (mvT hZ (own_selp (y := ym18) (wk35 hw) (wk152 hw) (wk151 hw) (by decide))) (Cond.privateMethod_at (mvP hZ (wk152 hw) (args := #[]))) (mvT hZ (wk153 hw)) (by decide) (backOf (W := 0) (rm21_22 l Z a0 hw w hW [] o1 o2 (ownS (ownEnd q3 q5) q3) o6 k7 h0 n0 O0 f18 f19 c20 c21 f11 f22 g25 f23 (Ne.symm u6) g26 u27 v28 f16) hZ (wk153 hw) (wk36 hw) (by decide) (by decide)) (g := (mkF m 71 Lb45 [(.int (ownS (ownEnd q3 q5) q3)), (.ref o2), (.ref o1)])) rfl (by rw [hml]; rfl) (Steps.refl _) (a := o1) (by rw [e47]; exact cw48) cw48' (argsL := [(.ref o2), (.int (ownS (ownEnd q3 q5) q3))]) (rest := []) (lenOf pds_13 rfl) rfl (by show 2 * 0 + _ ≤ _; exact Nat.le_of_eq rfl) (hb hby d13_71) (fun _ _ => ⟨rfl, e47, (by decide : 0 + 0 ≤ _), (by decide : 0 + 0 ≤ _)⟩)
   dsimp only [Pt.U, Pt.locs, Pt.cells, Pt.slots] at X48 l48 y48 z48 st48 hQ48
   rw [l48, y48, z48] at X48
   obtain ⟨rfl, N48q, K48, r48_0, r48_1, r48_2, r48_3⟩ := hQ48
   have N48 := Fr.app N47 N48q
   have O49 := own_old O0 K48 (own_ngc g25 (own_ngc g25 (own_ngc g26 (own_ngc g25 own_ng0))))
   have t50 := (own_fld f1 K48 (own_nlb (Ne.symm u6) (own_nlb (Ne.symm u6) (own_nlb (Ne.symm u24) (own_nlb (Ne.symm u6) own_nl0)))))
   obtain ⟨T51, X51, e51, st51⟩ := getF X48 hx hZ hown (host := "") (Or.inl (wk105 hw)) Via.refl rfl t50 (g := (mkF m 76 Lb45 [(.ref o1), (.ref o1)])) rfl rfl (hb hby d13_76)
   have t52 := (own_exa f3 K48)
   obtain ⟨T53, h53, X53, e53, W53, st53⟩ := putF X51 hx hZ hown (host := "") (Or.inl (wk105 hw)) Via.refl e51 t50 t52 (Or.inl (wk106 hw)) (wk35 hw) (ty := .long) (by decide) rfl rfl (g := (mkF m 81 Lb45 [(.long (1 : Int64)), (.ref o1)])) rfl rfl (hb hby d13_81)
   have F53 : Fld Z h53 o1 cs2 "size" "J" (.long (1 : Int64)) := t50.same W53
   have N53 := Fr.snoc X53 N48 g4
   have O54 := O49.wr W53 g4
   obtain ⟨fs, hr, hrun, hended, hWm, hsame⟩ := X53.leave (v := none) (fun _ => rfl)
   have Kf55 : own_KL h0 h53 [⟨o1, Jvm.RoadKit.slotOf Z cs2 "time" "J"⟩, ⟨o2, Jvm.RoadKit.slotOf Z cs0 cs3 cs1⟩, ⟨o2, Jvm.RoadKit.slotOf Z cs0 cs4 cs1⟩, ⟨o6, ((ownS (ownEnd q3 q5) q3)).toNatClampNeg⟩, ⟨o2, Jvm.RoadKit.slotOf Z cs0 "slot" "I"⟩, ⟨o1, Jvm.RoadKit.slotOf Z cs2 "size" "J"⟩] := (own_klW (own_klT (own_kl0 h0 [⟨o1, Jvm.RoadKit.slotOf Z cs2 "time" "J"⟩, ⟨o2, Jvm.RoadKit.slotOf Z cs0 cs3 cs1⟩, ⟨o2, Jvm.RoadKit.slotOf Z cs0 cs4 cs1⟩, ⟨o6, ((ownS (ownEnd q3 q5) q3)).toNatClampNeg⟩, ⟨o2, Jvm.RoadKit.slotOf Z cs0 "slot" "I"⟩, ⟨o1, Jvm.RoadKit.slotOf Z cs2 "size" "J"⟩]) K48 (own_kac (Or.inl (List.mem_of_getElem? (i := 1) rfl)) (own_kac (Or.inl (List.mem_of_getElem? (i := 2) rfl)) (own_kac (Or.inl (List.mem_of_getElem? (i := 3) rfl)) (own_kac (Or.inl (List.mem_of_getElem? (i := 4) rfl)) own_ka0))))) W53 (Or.inl (List.mem_of_getElem? (i := 5) rfl)))
   have t56 := ((own_fld ft40 K48 (own_nlb (Ne.symm u6) (own_nlb (Ne.symm u6) (own_nlb (Ne.symm u24) (own_nlb (Ne.symm u6) own_nl0))))).other W53 (Or.inr (sn82 hw)))
   have t57 := (r48_1.other W53 (Or.inl u6))
   have t58 := (r48_0.other W53 (Or.inl u6))
   have t59 := (r48_3.other W53 (Or.inl u6))
   have t60 := (own_gk_oth r48_2 W53 u24)
   refine ⟨_, _, pre3 _ ?_, hrun, hended, _, _, rfl, ?_, ⟨_, rfl⟩, hWm, hsame.mono (by decide) (by decide)⟩
   · show Steps p.tables e below (T2.setTop (mkF m 15 La [(.int (lcmpW q3 (-9223372036854775808 : Int64)))])) _
     refine XS.ifYes X2.here hx rfl (pc0 := 15) (pc' := 23) rfl (hb hby d13_15) rfl ((if0 _ _).trans (flt ((fun q => hc4 ((lw_gt _ _).mp q)) : ¬ ((0 : Int32) < (lcmpW q3 (-9223372036854775808 : Int64))))).2.2.2) (by decide) (by decide) ?_
     refine sA X2 hx hby d13_23 rfl rfl ?_
     refine st41 _ ?_
     refine st42.trans ?_
     refine sN X42 hx hby d13_30 (by decide) ?_
     refine sA X42 hx hby d13_33 rfl rfl ?_
     refine sA X42 hx hby d13_34 rfl rfl ?_
     refine st43.trans ?_
     refine st44.trans ?_
     refine sg (pc := 41) (pc' := 45) X44 hx hby d13_41 (by decide) (by decide) ?_
     refine XS.istore X44.here hx rfl (hb hby d13_45) rfl (l' := Lb45) rfl ?_
     refine si X44 hx hby d13_47 rfl ?_
     refine sA X44 hx hby d13_49 rfl rfl ?_
     refine st46 _ ?_
     refine sn X46 hx hby d13_53 (feq (c17 : ¬ ((ownS (ownEnd q3 q5) q3) = (-1 : Int32)))).1 ?_
     refine sA X46 hx hby d13_56 rfl rfl ?_
     refine sA X46 hx hby d13_57 rfl rfl ?_
     refine st47.trans ?_
     refine si X47 hx hby d13_61 rfl ?_
     refine sc X47 hx hby d13_63 ?_
     refine sn X47 hx hby d13_64 (feq (c17 : ¬ ((ownS (ownEnd q3 q5) q3) = (-1 : Int32)))).1 ?_
     refine sA X47 hx hby d13_67 rfl rfl ?_
     refine sA X47 hx hby d13_68 rfl rfl ?_
     show Steps p.tables e below (T47.setTop (mkF m 69 Lb45 [(.ref o2), (.ref o1)])) _
     refine si X47 hx hby d13_69 rfl ?_
     refine st48.trans ?_
     refine sA X48 hx hby d13_74 rfl rfl ?_
     refine XS.dup X48.here hx rfl (hb hby d13_75) rfl rfl ?_
     refine st51 _ ?_
     refine XS.lconst X51.here hx rfl (hb hby d13_79) ?_
     refine XS.ladd X51.here hx rfl (hb hby d13_80) rfl ?_
     refine st53 _ ?_
     exact X53.returnOut hx Bd.returns (hb hby d13_84) hr
   · show Q13_23 Z w o1 o2 q3 o4 q5 o6 k7 h0 n0 _ T53.heap _
     rw [e53]
     exact ⟨rfl, N53, Kf55, F53, t56, t57, t58, t59, t60⟩
theorem pds_14 : parseMethodDescriptor "(Lcom/example/tidemark/tidemark/MemoryEntry;J)V" = some ⟨[(.object "com/example/tidemark/tidemark/MemoryEntry"), .long], none⟩ := by decide +kernel
theorem d11_9 : decode prog_14_method_4_code 9 = .ok (.aload_n 1, 1) := by decide +kernel
theorem d11_10 : decode prog_14_method_4_code 10 = .ok (.getfield 56, 3) := by decide +kernel
theorem d11_13 : decode prog_14_method_4_code 13 = .ok (.ifnonnull 19, 3) := by decide +kernel
theorem d11_16 : decode prog_14_method_4_code 16 = .ok (.aload_n 0, 1) := by decide +kernel
theorem d11_17 : decode prog_14_method_4_code 17 = .ok (.getfield 19, 3) := by decide +kernel
theorem d11_20 : decode prog_14_method_4_code 20 = .ok (.aload_n 1, 1) := by decide +kernel
theorem d11_21 : decode prog_14_method_4_code 21 = .ok (.getfield 44, 3) := by decide +kernel
theorem d11_24 : decode prog_14_method_4_code 24 = .ok (.aload_n 1, 1) := by decide +kernel
theorem d11_25 : decode prog_14_method_4_code 25 = .ok (.getfield 60, 3) := by decide +kernel
theorem d11_28 : decode prog_14_method_4_code 28 = .ok (.aastore, 1) := by decide +kernel
theorem d11_29 : decode prog_14_method_4_code 29 = .ok (.goto 14, 3) := by decide +kernel
theorem d11_43 : decode prog_14_method_4_code 43 = .ok (.aload_n 1, 1) := by decide +kernel
theorem d11_44 : decode prog_14_method_4_code 44 = .ok (.getfield 60, 3) := by decide +kernel
theorem d11_47 : decode prog_14_method_4_code 47 = .ok (.ifnull 14, 3) := by decide +kernel
theorem d11_61 : decode prog_14_method_4_code 61 = .ok (.aload_n 1, 1) := by decide +kernel
theorem d11_62 : decode prog_14_method_4_code 62 = .ok (.aconst_null, 1) := by decide +kernel
theorem d11_63 : decode prog_14_method_4_code 63 = .ok (.putfield 56, 3) := by decide +kernel
theorem d11_66 : decode prog_14_method_4_code 66 = .ok (.aload_n 1, 1) := by decide +kernel
theorem d11_67 : decode prog_14_method_4_code 67 = .ok (.aconst_null, 1) := by decide +kernel
theorem d11_68 : decode prog_14_method_4_code 68 = .ok (.putfield 60, 3) := by decide +kernel
theorem d11_71 : decode prog_14_method_4_code 71 = .ok (.aload_n 1, 1) := by decide +kernel
theorem d11_72 : decode prog_14_method_4_code 72 = .ok (.iconst (-1), 1) := by decide +kernel
theorem d11_73 : decode prog_14_method_4_code 73 = .ok (.putfield 44, 3) := by decide +kernel
theorem d11_76 : decode prog_14_method_4_code 76 = .ok (.aload_n 0, 1) := by decide +kernel
theorem d11_77 : decode prog_14_method_4_code 77 = .ok (.dup, 1) := by decide +kernel
theorem d11_78 : decode prog_14_method_4_code 78 = .ok (.getfield 23, 3) := by decide +kernel
theorem d11_81 : decode prog_14_method_4_code 81 = .ok (.lconst 1, 1) := by decide +kernel
theorem d11_82 : decode prog_14_method_4_code 82 = .ok (.lsub, 1) := by decide +kernel
theorem d11_83 : decode prog_14_method_4_code 83 = .ok (.putfield 23, 3) := by decide +kernel
theorem d11_86 : decode prog_14_method_4_code 86 = .ok (.return_, 1) := by decide +kernel
theorem ef_11_24 (m : MethodId) (o1 : Addr) (o2 : Addr) : entryFrame m #[(.ref o1), (.ref o2)] 2 = mkF m 0 #[.val (.ref o1), .val (.ref o2)] [] := by first | (simp [entryFrame, mkF, argsToLocals, Value.category]; done) | rfl
def Q11_24 (Z : State) (w : Nat → Addr) (o1 : Addr) (o2 : Addr) (q3 : Int32) (o4 : Addr) (k5 : ClassId) (h0 : Heap) (n0 : Nat) (v : Option Value) (h : Heap) (L : List Loc) : Prop := v = none ∧ Fr n0 L ∧ own_KL h0 h [⟨o4, (q3).toNatClampNeg⟩, ⟨o2, Jvm.RoadKit.slotOf Z cs0 cs3 cs1⟩, ⟨o2, Jvm.RoadKit.slotOf Z cs0 cs4 cs1⟩, ⟨o2, Jvm.RoadKit.slotOf Z cs0 "slot" "I"⟩, ⟨o1, Jvm.RoadKit.slotOf Z cs2 "size" "J"⟩] ∧ Fld Z h o2 cs0 "slot" "I" (.int (-1 : Int32)) ∧ Fld Z h o2 cs0 cs3 cs1 .null ∧ Fld Z h o2 cs0 cs4 cs1 .null ∧ own_Gk Z h o4 k5 (.object cs0) (386 : Int32) q3 .null ∧ Fld Z h o1 cs2 "size" "J" (.long (0 : Int64))
set_option maxRecDepth 65536 in
set_option maxHeartbeats 40000000 in
theorem rm11_24 (l : Launch) (Z : State) (a0 : Array Value) (hw : HW Z a0) (w : Nat → Addr) (hW : Wd Z w) (ws : List Jvm.Cond) (o1 : Addr) (o2 : Addr) (q3 : Int32) (o4 : Addr) (k5 : ClassId) (h0 : Heap) (n0 : Nat) (O0 : Old Z n0 h0) (f1 : Fld Z h0 o2 cs0 "slot" "I" (.int q3)) (c2 : ¬ (q3 = (-1 : Int32))) (f3 : Fld Z h0 o2 cs0 cs3 cs1 .null) (f4 : Fld Z h0 o1 cs2 "firsts" cs8 (.ref o4)) (f5 : Fld Z h0 o2 cs0 cs4 cs1 .null) (g6 : n0 ≤ o4) (f7 : own_Gk Z h0 o4 k5 (.object cs0) (386 : Int32) q3 (.ref o2)) (c8 : ¬ (q3 < (0 : Int32))) (c9 : q3 < (386 : Int32)) (v10 : Ovr Z k5 cs0) (u11 : o2 ≠ o4) (f12 : Exa Z h0 o2 cs0) (g13 : n0 ≤ o2) (f14 : Fld Z h0 o1 cs2 "size" "J" (.long (1 : Int64))) (u15 : o1 ≠ o4) (u16 : o1 ≠ o2) (f17 : Exa Z h0 o1 cs2) (g18 : n0 ≤ o1) :
    MetFree l ym9 (head1 (Jvm.Cond.code ym9 prog_14_method_4_code 2 none :: ws) ({ frames := 0, cells := 0, slots := 0, locals := 0 } : Room)) (fun a U => a = #[(.ref o1), (.ref o2)] ∧ Z.Warmed39 U.vm ∧ U.heap = h0) (fun _ _ _ _ _ => True) (fun _ U o U' => ∃ v L, o = .returned v ∧ Q11_24 Z w o1 o2 q3 o4 k5 h0 n0 v U'.heap L ∧ FrameEnd U o U' L ({ frames := 0, cells := 0, slots := 0, locals := 0 } : Room).cells ({ frames := 0, cells := 0, slots := 0, locals := 0 } : Room).slots) := by
  refine MetFree.of_bodySF (plainFor_of_name pnc_2) hisR ?_
  intro p e s m args below meth c s₁ Bd hml0 hP hK
  obtain ⟨rfl, hZ, hh⟩ := hP
  have hx := Bd.exec
  have hby := Bd.bytes
  have hml : c.maxLocals = 2 := hml0
  have hown : s.vm.findClass cs2 = some m.cls := findClass_of_methodNamed Bd.named
  have hnm := (name_of_methodNamed Bd.named Bd.method).1
  have X0 : Stand p l e ({ frames := 0, cells := 0, slots := 0, locals := 0 } : Room) s m #[(.ref o1), (.ref o2)] below meth c s₁ [] 0 0 := Stand.of_body Bd
  have e0 : s₁.heap = h0 := by rw [← hh, Bd.state]; rfl
  have N0 := Fr.nil n0
  skip
  have pre0 : ∀ t, Steps p.tables e below (s₁.setTop (mkF m 0 #[.val (.ref o1), .val (.ref o2)] [])) t → Steps p.tables e below (s₁.setTop (entryFrame m #[(.ref o1), (.ref o2)] 2)) t := fun t k => castTop (ef_11_24 m o1 o2) k
  obtain ⟨T1, X1, e1, st1⟩ := getF X0 hx hZ hown (host := "") (Or.inl (wk99 hw)) Via.refl e0 f1 (g := (mkF m 1 #[.val (.ref o1), .val (.ref o2)] [(.ref o2)])) rfl rfl (hb hby d11_1)
  obtain ⟨T2, X2, e2, st2⟩ := getF X1 hx hZ hown (host := "") (Or.inl (wk154 hw)) Via.refl e1 f3 (g := (mkF m 10 #[.val (.ref o1), .val (.ref o2)] [(.ref o2)])) rfl rfl (hb hby d11_10)
  obtain ⟨T3, X3, e3, st3⟩ := getF X2 hx hZ hown (host := "") (Or.inl (wk46 hw)) Via.refl e2 f4 (g := (mkF m 17 #[.val (.ref o1), .val (.ref o2)] [(.ref o1)])) rfl rfl (hb hby d11_17)
  obtain ⟨T4, X4, e4, st4⟩ := getF X3 hx hZ hown (host := "") (Or.inl (wk99 hw)) Via.refl e3 f1 (g := (mkF m 21 #[.val (.ref o1), .val (.ref o2)] [(.ref o2), (.ref o4)])) rfl rfl (hb hby d11_21)
  obtain ⟨T5, X5, e5, st5⟩ := getF X4 hx hZ hown (host := "") (Or.inl (wk155 hw)) Via.refl e4 f5 (g := (mkF m 25 #[.val (.ref o1), .val (.ref o2)] [(.ref o2), (.int q3), (.ref o4)])) rfl rfl (hb hby d11_25)
  obtain ⟨cl6, Ar6, cw6, S6, Nn6, Hb6⟩ := id (f7)
  have hin6 : ¬ (q3 < 0 ∨ cl6.slots.size ≤ (q3).toNatClampNeg) := inb_of S6 ⟨c8, c9⟩
  obtain ⟨T6, h6, X6, e6, W6, st6⟩ := stR X5 hx hZ e5 Ar6 (j := q3) hin6 rfl (Or.inl rfl) (g := (mkF m 28 #[.val (.ref o1), .val (.ref o2)] [.null, (.int q3), (.ref o4)])) rfl rfl (hb hby d11_28)
  have V6 : own_Gk Z h6 o4 k5 (.object cs0) (386 : Int32) q3 .null := own_gk_set Ar6 cw6 S6 Nn6 W6
  have N6 := Fr.snoc X6 N0 g6
  have O7 := O0.wr W6 g6
  have t8 := (f5.other W6 (Or.inl u11))
  obtain ⟨T9, X9, e9, st9⟩ := getF X6 hx hZ hown (host := "") (Or.inl (wk155 hw)) Via.refl e6 t8 (g := (mkF m 44 #[.val (.ref o1), .val (.ref o2)] [(.ref o2)])) rfl rfl (hb hby d11_44)
  have t10 := (f3.other W6 (Or.inl u11))
  have t11 := (f12.wr W6)
  obtain ⟨T12, h12, X12, e12, W12, st12⟩ := putF X9 hx hZ hown (host := "") (Or.inl (wk154 hw)) Via.refl e9 t10 t11 (Or.inl (wk108 hw)) (wk49 hw) (ty := (.object cs0)) (by decide) rfl rfl (g := (mkF m 63 #[.val (.ref o1), .val (.ref o2)] [.null, (.ref o2)])) rfl rfl (hb hby d11_63)
  have F12 : Fld Z h12 o2 cs0 cs3 cs1 .null := t10.same W12
  have N12 := Fr.snoc X12 N6 g13
  have O13 := O7.wr W12 g13
  have t14 := (t8.other W12 (Or.inr (sn78 hw)))
  have t15 := (t11.wr W12)
  obtain ⟨T16, h16, X16, e16, W16, st16⟩ := putF X12 hx hZ hown (host := "") (Or.inl (wk155 hw)) Via.refl e12 t14 t15 (Or.inl (wk110 hw)) (wk49 hw) (ty := (.object cs0)) (by decide) rfl rfl (g := (mkF m 68 #[.val (.ref o1), .val (.ref o2)] [.null, (.ref o2)])) rfl rfl (hb hby d11_68)
  have F16 : Fld Z h16 o2 cs0 cs4 cs1 .null := t14.same W16
  have N16 := Fr.snoc X16 N12 g13
  have O17 := O13.wr W16 g13
  have t18 := (((f1.other W6 (Or.inl u11)).other W12 (Or.inr (sn79 hw))).other W16 (Or.inr (sn80 hw)))
  have t19 := (t15.wr W16)
  obtain ⟨T20, h20, X20, e20, W20, st20⟩ := putF X16 hx hZ hown (host := "") (Or.inl (wk99 hw)) Via.refl e16 t18 t19 (Or.inl (wk63 hw)) (wk49 hw) (ty := .int) (by decide) rfl rfl (g := (mkF m 73 #[.val (.ref o1), .val (.ref o2)] [(.int (-1 : Int32)), (.ref o2)])) rfl rfl (hb hby d11_73)
  have F20 : Fld Z h20 o2 cs0 "slot" "I" (.int (-1 : Int32)) := t18.same W20
  have N20 := Fr.snoc X20 N16 g13
  have O21 := O17.wr W20 g13
  have t22 := ((((f14.other W6 (Or.inl u15)).other W12 (Or.inl u16)).other W16 (Or.inl u16)).other W20 (Or.inl u16))
  obtain ⟨T23, X23, e23, st23⟩ := getF X20 hx hZ hown (host := "") (Or.inl (wk105 hw)) Via.refl e20 t22 (g := (mkF m 78 #[.val (.ref o1), .val (.ref o2)] [(.ref o1), (.ref o1)])) rfl rfl (hb hby d11_78)
  have t24 := ((((f17.wr W6).wr W12).wr W16).wr W20)
  obtain ⟨T25, h25, X25, e25, W25, st25⟩ := putF X23 hx hZ hown (host := "") (Or.inl (wk105 hw)) Via.refl e23 t22 t24 (Or.inl (wk106 hw)) (wk35 hw) (ty := .long) (by decide) rfl rfl (g := (mkF m 83 #[.val (.ref o1), .val (.ref o2)] [(.long (0 : Int64)), (.ref o1)])) rfl rfl (hb hby d11_83)
  have F25 : Fld Z h25 o1 cs2 "size" "J" (.long (0 : Int64)) := t22.same W25
  have N25 := Fr.snoc X25 N20 g18
  have O26 := O21.wr W25 g18
  obtain ⟨fs, hr, hrun, hended, hWm, hsame⟩ := X25.leave (v := none) (fun _ => rfl)
  have Kf27 : own_KL h0 h25 [⟨o4, (q3).toNatClampNeg⟩, ⟨o2, Jvm.RoadKit.slotOf Z cs0 cs3 cs1⟩, ⟨o2, Jvm.RoadKit.slotOf Z cs0 cs4 cs1⟩, ⟨o2, Jvm.RoadKit.slotOf Z cs0 "slot" "I"⟩, ⟨o1, Jvm.RoadKit.slotOf Z cs2 "size" "J"⟩] := (own_klW (own_klW (own_klW (own_klW (own_klW (own_kl0 h0 [⟨o4, (q3).toNatClampNeg⟩, ⟨o2, Jvm.RoadKit.slotOf Z cs0 cs3 cs1⟩, ⟨o2, Jvm.RoadKit.slotOf Z cs0 cs4 cs1⟩, ⟨o2, Jvm.RoadKit.slotOf Z cs0 "slot" "I"⟩, ⟨o1, Jvm.RoadKit.slotOf Z cs2 "size" "J"⟩]) W6 (Or.inl (List.mem_of_getElem? (i := 0) rfl))) W12 (Or.inl (List.mem_of_getElem? (i := 1) rfl))) W16 (Or.inl (List.mem_of_getElem? (i := 2) rfl))) W20 (Or.inl (List.mem_of_getElem? (i := 3) rfl))) W25 (Or.inl (List.mem_of_getElem? (i := 4) rfl)))
  have t28 := (F20.other W25 (Or.inl (Ne.symm u16)))
  have t29 := (((F12.other W16 (Or.inr (sn81 hw))).other W20 (Or.inr (sn69 hw))).other W25 (Or.inl (Ne.symm u16)))
  have t30 := ((F16.other W20 (Or.inr (sn77 hw))).other W25 (Or.inl (Ne.symm u16)))
  have t31 := (own_gk_oth (own_gk_oth (own_gk_oth (own_gk_oth V6 W12 (Ne.symm u11)) W16 (Ne.symm u11)) W20 (Ne.symm u11)) W25 (Ne.symm u15))
  refine ⟨_, _, pre0 _ ?_, hrun, hended, _, _, rfl, ?_, ⟨_, rfl⟩, hWm, hsame.mono (by decide) (by decide)⟩
  · show Steps p.tables e below (s₁.setTop (mkF m 0 #[.val (.ref o1), .val (.ref o2)] [])) _
    refine sA X0 hx hby d11_0 rfl rfl ?_
    refine st1 _ ?_
    refine sc X1 hx hby d11_4 ?_
    refine XS.icmpYes X1.here hx rfl (pc0 := 5) (pc' := 9) rfl (hb hby d11_5) rfl (feq (c2 : ¬ (q3 = (-1 : Int32)))).2 (by decide) (by decide) ?_
    refine sA X1 hx hby d11_9 rfl rfl ?_
    refine st2 _ ?_
    refine XS.ifnonnullNo X2.here hx rfl (hb hby d11_13) rfl ?_
    refine sA X2 hx hby d11_16 rfl rfl ?_
    refine st3 _ ?_
    refine sA X3 hx hby d11_20 rfl rfl ?_
    refine st4 _ ?_
    refine sA X4 hx hby d11_24 rfl rfl ?_
    refine st5 _ ?_
    refine st6 _ ?_
    refine sg (pc := 29) (pc' := 43) X6 hx hby d11_29 (by decide) (by decide) ?_
    refine sA X6 hx hby d11_43 rfl rfl ?_
    refine st9 _ ?_
    refine XS.ifnullYes X9.here hx rfl (pc0 := 47) (pc' := 61) rfl (hb hby d11_47) rfl (by decide) (by decide) ?_
    refine sA X9 hx hby d11_61 rfl rfl ?_
    refine XS.aconstNull X9.here hx rfl (hb hby d11_62) ?_
    refine st12 _ ?_
    refine sA X12 hx hby d11_66 rfl rfl ?_
    refine XS.aconstNull X12.here hx rfl (hb hby d11_67) ?_
    refine st16 _ ?_
    refine sA X16 hx hby d11_71 rfl rfl ?_
    refine sc X16 hx hby d11_72 ?_
    refine st20 _ ?_
    refine sA X20 hx hby d11_76 rfl rfl ?_
    refine XS.dup X20.here hx rfl (hb hby d11_77) rfl rfl ?_
    refine st23 _ ?_
    refine XS.lconst X23.here hx rfl (hb hby d11_81) ?_
    refine XS.lsub X23.here hx rfl (hb hby d11_82) rfl ?_
    refine st25 _ ?_
    exact X25.returnOut hx Bd.returns (hb hby d11_86) hr
  · show Q11_24 Z w o1 o2 q3 o4 k5 h0 n0 _ T25.heap _
    rw [e25]
    exact ⟨rfl, N25, Kf27, t28, t29, t30, t31, F25⟩
theorem ef_21_25 (m : MethodId) (o1 : Addr) (o2 : Addr) (q3 : Int32) : entryFrame m #[(.ref o1), (.ref o2), (.int q3)] 4 = mkF m 0 #[.val (.ref o1), .val (.ref o2), .val (.int q3), .unset] [] := by first | (simp [entryFrame, mkF, argsToLocals, Value.category]; done) | rfl
def Q21_25 (Z : State) (w : Nat → Addr) (o1 : Addr) (o2 : Addr) (q3 : Int32) (o4 : Addr) (k5 : ClassId) (h0 : Heap) (n0 : Nat) (v : Option Value) (h : Heap) (L : List Loc) : Prop := v = none ∧ Fr n0 L ∧ own_KL h0 h [⟨o2, Jvm.RoadKit.slotOf Z cs0 cs3 cs1⟩, ⟨o2, Jvm.RoadKit.slotOf Z cs0 cs4 cs1⟩, ⟨o4, (q3).toNatClampNeg⟩, ⟨o2, Jvm.RoadKit.slotOf Z cs0 "slot" "I"⟩] ∧ own_Gk Z h o4 k5 (.object cs0) (386 : Int32) q3 (.ref o2) ∧ Fld Z h o2 cs0 cs3 cs1 .null ∧ Fld Z h o2 cs0 cs4 cs1 .null ∧ Fld Z h o2 cs0 "slot" "I" (.int q3)
set_option maxRecDepth 65536 in
set_option maxHeartbeats 40000000 in
theorem rm21_25 (l : Launch) (Z : State) (a0 : Array Value) (hw : HW Z a0) (w : Nat → Addr) (hW : Wd Z w) (ws : List Jvm.Cond) (o1 : Addr) (o2 : Addr) (q3 : Int32) (o4 : Addr) (k5 : ClassId) (h0 : Heap) (n0 : Nat) (O0 : Old Z n0 h0) (f1 : Fld Z h0 o1 cs2 "firsts" cs8 (.ref o4)) (f2 : own_Gk Z h0 o4 k5 (.object cs0) (386 : Int32) q3 .null) (c3 : ¬ (q3 < (0 : Int32))) (c4 : q3 < (386 : Int32)) (f5 : Exa Z h0 o2 cs0) (f6 : Fld Z h0 o2 cs0 cs3 cs1 .null) (g7 : n0 ≤ o2) (f8 : Fld Z h0 o2 cs0 cs4 cs1 .null) (u9 : o1 ≠ o2) (g10 : n0 ≤ o4) (u11 : o4 ≠ o2) (v12 : Ovr Z k5 cs0) (f13 : Fld Z h0 o2 cs0 "slot" "I" (.int (-1 : Int32))) :
    MetFree l ym18 (head1 (Jvm.Cond.code ym18 prog_14_method_9_code 4 none :: ws) ({ frames := 0, cells := 0, slots := 0, locals := 0 } : Room)) (fun a U => a = #[(.ref o1), (.ref o2), (.int q3)] ∧ Z.Warmed39 U.vm ∧ U.heap = h0) (fun _ _ _ _ _ => True) (fun _ U o U' => ∃ v L, o = .returned v ∧ Q21_25 Z w o1 o2 q3 o4 k5 h0 n0 v U'.heap L ∧ FrameEnd U o U' L ({ frames := 0, cells := 0, slots := 0, locals := 0 } : Room).cells ({ frames := 0, cells := 0, slots := 0, locals := 0 } : Room).slots) := by
  refine MetFree.of_bodySF (plainFor_of_name pnc_2) hisR ?_
  intro p e s m args below meth c s₁ Bd hml0 hP hK
  obtain ⟨rfl, hZ, hh⟩ := hP
  have hx := Bd.exec
  have hby := Bd.bytes
  have hml : c.maxLocals = 4 := hml0
  have hown : s.vm.findClass cs2 = some m.cls := findClass_of_methodNamed Bd.named
  have hnm := (name_of_methodNamed Bd.named Bd.method).1
  have X0 : Stand p l e ({ frames := 0, cells := 0, slots := 0, locals := 0 } : Room) s m #[(.ref o1), (.ref o2), (.int q3)] below meth c s₁ [] 0 0 := Stand.of_body Bd
  have e0 : s₁.heap = h0 := by rw [← hh, Bd.state]; rfl
  have N0 := Fr.nil n0
  let La : Array Slot := #[.val (.ref o1), .val (.ref o2), .val (.int q3), .unset]
  have pre0 : ∀ t, Steps p.tables e below (s₁.setTop (mkF m 0 #[.val (.ref o1), .val (.ref o2), .val (.int q3), .unset] [])) t → Steps p.tables e below (s₁.setTop (entryFrame m #[(.ref o1), (.ref o2), (.int q3)] 4)) t := fun t k => castTop (ef_21_25 m o1 o2 q3) k
  obtain ⟨T1, X1, e1, st1⟩ := getF X0 hx hZ hown (host := "") (Or.inl (wk46 hw)) Via.refl e0 f1 (g := (mkF m 1 La [(.ref o1)])) rfl rfl (hb hby d21_1)
  obtain ⟨cl2, Ar2, cw2, S2, Nn2, Hb2⟩ := id (f2)
  have hin2 : ¬ (q3 < 0 ∨ cl2.slots.size ≤ (q3).toNatClampNeg) := inb_of S2 ⟨c3, c4⟩
  let Lb3 : Array Slot := #[.val (.ref o1), .val (.ref o2), .val (.int q3), .val .null]
  obtain ⟨T4, h4, X4, e4, W4, st4⟩ := putF X1 hx hZ hown (host := "") (Or.inl (wk154 hw)) Via.refl e1 f6 f5 (Or.inl (wk108 hw)) (wk49 hw) (ty := (.object cs0)) (by decide) rfl rfl (g := (mkF m 9 Lb3 [.null, (.ref o2)])) rfl rfl (hb hby d21_9)
  have F4 : Fld Z h4 o2 cs0 cs3 cs1 .null := f6.same W4
  have N4 := Fr.snoc X4 N0 g7
  have O5 := O0.wr W4 g7
  have t6 := (f8.other W4 (Or.inr (sn78 hw)))
  have t7 := (f5.wr W4)
  obtain ⟨T8, h8, X8, e8, W8, st8⟩ := putF X4 hx hZ hown (host := "") (Or.inl (wk155 hw)) Via.refl e4 t6 t7 (Or.inl (wk110 hw)) (wk49 hw) (ty := (.object cs0)) (by decide) rfl rfl (g := (mkF m 14 Lb3 [.null, (.ref o2)])) rfl rfl (hb hby d21_14)
  have F8 : Fld Z h8 o2 cs0 cs4 cs1 .null := t6.same W8
  have N8 := Fr.snoc X8 N4 g7
  have O9 := O5.wr W8 g7
  have t10 := ((f1.other W4 (Or.inl u9)).other W8 (Or.inl u9))
  obtain ⟨T11, X11, e11, st11⟩ := getF X8 hx hZ hown (host := "") (Or.inl (wk46 hw)) Via.refl e8 t10 (g := (mkF m 27 Lb3 [(.ref o1)])) rfl rfl (hb hby d21_27)
  have t13 := (own_gk_oth (own_gk_oth f2 W4 u11) W8 u11)
  obtain ⟨cl12, Ar12, cw12, S12, Nn12, Hb12⟩ := id (t13)
  have hin12 : ¬ (q3 < 0 ∨ cl12.slots.size ≤ (q3).toNatClampNeg) := inb_of S12 ⟨c3, c4⟩
  have t14 := (t7.wr W8)
  obtain ⟨T12, h12, X12, e12, W12, st12⟩ := stR X11 hx hZ e11 Ar12 (j := q3) hin12 rfl (Sto.ofV Ar12 cw12 v12 (Ins.self t14)) (g := (mkF m 32 Lb3 [(.ref o2), (.int q3), (.ref o4)])) rfl rfl (hb hby d21_32)
  have V12 : own_Gk Z h12 o4 k5 (.object cs0) (386 : Int32) q3 (.ref o2) := own_gk_set Ar12 cw12 S12 Nn12 W12
  have N12 := Fr.snoc X12 N8 g10
  have O15 := O9.wr W12 g10
  have t16 := (((f13.other W4 (Or.inr (sn79 hw))).other W8 (Or.inr (sn80 hw))).other W12 (Or.inl (Ne.symm u11)))
  have t17 := (t14.wr W12)
  obtain ⟨T18, h18, X18, e18, W18, st18⟩ := putF X12 hx hZ hown (host := "") (Or.inl (wk99 hw)) Via.refl e12 t16 t17 (Or.inl (wk63 hw)) (wk49 hw) (ty := .int) (by decide) rfl rfl (g := (mkF m 35 Lb3 [(.int q3), (.ref o2)])) rfl rfl (hb hby d21_35)
  have F18 : Fld Z h18 o2 cs0 "slot" "I" (.int q3) := t16.same W18
  have N18 := Fr.snoc X18 N12 g7
  have O19 := O15.wr W18 g7
  obtain ⟨fs, hr, hrun, hended, hWm, hsame⟩ := X18.leave (v := none) (fun _ => rfl)
  have Kf20 : own_KL h0 h18 [⟨o2, Jvm.RoadKit.slotOf Z cs0 cs3 cs1⟩, ⟨o2, Jvm.RoadKit.slotOf Z cs0 cs4 cs1⟩, ⟨o4, (q3).toNatClampNeg⟩, ⟨o2, Jvm.RoadKit.slotOf Z cs0 "slot" "I"⟩] := (own_klW (own_klW (own_klW (own_klW (own_kl0 h0 [⟨o2, Jvm.RoadKit.slotOf Z cs0 cs3 cs1⟩, ⟨o2, Jvm.RoadKit.slotOf Z cs0 cs4 cs1⟩, ⟨o4, (q3).toNatClampNeg⟩, ⟨o2, Jvm.RoadKit.slotOf Z cs0 "slot" "I"⟩]) W4 (Or.inl (List.mem_of_getElem? (i := 0) rfl))) W8 (Or.inl (List.mem_of_getElem? (i := 1) rfl))) W12 (Or.inl (List.mem_of_getElem? (i := 2) rfl))) W18 (Or.inl (List.mem_of_getElem? (i := 3) rfl)))
  have t21 := (own_gk_oth V12 W18 u11)
  have t22 := (((F4.other W8 (Or.inr (sn81 hw))).other W12 (Or.inl (Ne.symm u11))).other W18 (Or.inr (sn69 hw)))
  have t23 := ((F8.other W12 (Or.inl (Ne.symm u11))).other W18 (Or.inr (sn77 hw)))
  refine ⟨_, _, pre0 _ ?_, hrun, hended, _, _, rfl, ?_, ⟨_, rfl⟩, hWm, hsame.mono (by decide) (by decide)⟩
  · show Steps p.tables e below (s₁.setTop (mkF m 0 La [])) _
    refine sA X0 hx hby d21_0 rfl rfl ?_
    refine st1 _ ?_
    refine sI X1 hx hby d21_4 rfl ?_
    refine X1.aaload hx (j := q3) (v := .null) (by rw [e1]; exact Ar2.1) (State.isArrayOf_alike hZ.alike Ar2.2.1) rfl Ar2.2.2 hin2 Hb2 (g := (mkF m 5 La [(.int q3), (.ref o4)])) rfl rfl (hb hby d21_5) _ ?_
    refine XS.astoreN X1.here hx rfl (hb hby d21_6) rfl rfl (l' := Lb3) rfl ?_
    refine sA X1 hx hby d21_7 rfl rfl ?_
    refine XS.aconstNull X1.here hx rfl (hb hby d21_8) ?_
    show Steps p.tables e below (T1.setTop (mkF m 9 Lb3 [.null, (.ref o2)])) _
    refine st4 _ ?_
    refine sA X4 hx hby d21_12 rfl rfl ?_
    refine sA X4 hx hby d21_13 rfl rfl ?_
    refine st8 _ ?_
    refine sA X8 hx hby d21_17 rfl rfl ?_
    refine XS.ifnullYes X8.here hx rfl (pc0 := 18) (pc' := 26) rfl (hb hby d21_18) rfl (by decide) (by decide) ?_
    refine sA X8 hx hby d21_26 rfl rfl ?_
    refine st11 _ ?_
    refine sI X11 hx hby d21_30 rfl ?_
    refine sA X11 hx hby d21_31 rfl rfl ?_
    refine st12 _ ?_
    refine sA X12 hx hby d21_33 rfl rfl ?_
    refine sI X12 hx hby d21_34 rfl ?_
    refine st18 _ ?_
    exact X18.returnOut hx Bd.returns (hb hby d21_38) hr
  · show Q21_25 Z w o1 o2 q3 o4 k5 h0 n0 _ T18.heap _
    rw [e18]
    exact ⟨rfl, N18, Kf20, t21, t22, t23, F18⟩
theorem ef_13_26 (m : MethodId) (o1 : Addr) (o2 : Addr) (q3 : Int64) : entryFrame m #[(.ref o1), (.ref o2), (.long q3)] 5 = mkF m 0 #[.val (.ref o1), .val (.ref o2), .val (.long q3), .second, .unset] [] := by first | (simp [entryFrame, mkF, argsToLocals, Value.category]; done) | rfl
def Q13_26 (Z : State) (w : Nat → Addr) (o1 : Addr) (o2 : Addr) (q3 : Int64) (o4 : Addr) (q5 : Int64) (o6 : Addr) (k7 : ClassId) (h0 : Heap) (n0 : Nat) (v : Option Value) (h : Heap) (L : List Loc) : Prop := v = none ∧ Fr n0 L ∧ own_KL h0 h [⟨o2, Jvm.RoadKit.slotOf Z cs0 cs3 cs1⟩, ⟨o2, Jvm.RoadKit.slotOf Z cs0 cs4 cs1⟩, ⟨o6, ((ownS (ownEnd q3 q5) q3)).toNatClampNeg⟩, ⟨o2, Jvm.RoadKit.slotOf Z cs0 "slot" "I"⟩, ⟨o1, Jvm.RoadKit.slotOf Z cs2 "size" "J"⟩] ∧ Fld Z h o1 cs2 "size" "J" (.long (1 : Int64)) ∧ Fld Z h o2 cs0 "slot" "I" (.int (ownS (ownEnd q3 q5) q3)) ∧ own_Gk Z h o6 k7 (.object cs0) (386 : Int32) (ownS (ownEnd q3 q5) q3) (.ref o2) ∧ Fld Z h o2 cs0 cs3 cs1 .null ∧ Fld Z h o2 cs0 cs4 cs1 .null
set_option maxRecDepth 65536 in
set_option maxHeartbeats 40000000 in
theorem rm13_26 (l : Launch) (Z : State) (a0 : Array Value) (hw : HW Z a0) (w : Nat → Addr) (hW : Wd Z w) (ws : List Jvm.Cond) (o1 : Addr) (o2 : Addr) (q3 : Int64) (o4 : Addr) (q5 : Int64) (o6 : Addr) (k7 : ClassId) (h0 : Heap) (n0 : Nat) (O0 : Old Z n0 h0) (f1 : Fld Z h0 o1 cs2 "size" "J" (.long (0 : Int64))) (f2 : Fld Z h0 o1 cs2 "time" "J" (.long q3)) (f3 : Fld Z h0 o2 cs0 "expiry" cs7 (.ref o4)) (f4 : Exa Z h0 o4 cs5) (f5 : Fld Z h0 o4 cs5 "lifespan" "J" (.long q5)) (c6 : ¬ (q5 = (-1 : Int64))) (f7 : Exa Z h0 o2 cs0) (f8 : Fld Z h0 o2 cs0 "created" "J" (.long q3)) (f9 : Fld Z h0 o2 cs0 "lastUsed" "J" (.long q3)) (f10 : Fld Z h0 o4 cs5 "maxIdle" "J" (.long (-1 : Int64))) (c11 : ¬ ((9223372036854775807 : Int64) < (ownEnd q3 q5))) (f12 : Exa Z h0 o1 cs2) (f13 : Fld Z h0 o2 cs0 "slot" "I" (.int (-1 : Int32))) (c14 : ¬ ((ownS (ownEnd q3 q5) q3) = (-1 : Int32))) (f15 : Fld Z h0 o1 cs2 "firsts" cs8 (.ref o6)) (f16 : own_Gk Z h0 o6 k7 (.object cs0) (386 : Int32) (ownS (ownEnd q3 q5) q3) .null) (c17 : ¬ ((ownS (ownEnd q3 q5) q3) < (0 : Int32))) (c18 : (ownS (ownEnd q3 q5) q3) < (386 : Int32)) (f19 : Fld Z h0 o2 cs0 cs3 cs1 .null) (f20 : Fld Z h0 o2 cs0 cs4 cs1 .null) (v21 : Ovr Z k7 cs0) (g22 : n0 ≤ o2) (u23 : o1 ≠ o2) (g24 : n0 ≤ o6) (u25 : o6 ≠ o2) (u26 : o1 ≠ o6) (g27 : n0 ≤ o1) :
    MetFree l ym19 (head1 (Jvm.Cond.code ym19 prog_14_method_3_code 5 none :: ws) ({ frames := 3, cells := 0, slots := 0, locals := 46 } : Room)) (fun a U => a = #[(.ref o1), (.ref o2), (.long q3)] ∧ Z.Warmed39 U.vm ∧ U.heap = h0) (fun _ _ _ _ _ => True) (fun _ U o U' => ∃ v L, o = .returned v ∧ Q13_26 Z w o1 o2 q3 o4 q5 o6 k7 h0 n0 v U'.heap L ∧ FrameEnd U o U' L ({ frames := 3, cells := 0, slots := 0, locals := 46 } : Room).cells ({ frames := 3, cells := 0, slots := 0, locals := 46 } : Room).slots) := by
  refine MetFree.of_bodySF (plainFor_of_name pnc_2) hisR ?_
  intro p e s m args below meth c s₁ Bd hml0 hP hK
  obtain ⟨rfl, hZ, hh⟩ := hP
  have hx := Bd.exec
  have hby := Bd.bytes
  have hml : c.maxLocals = 5 := hml0
  have hown : s.vm.findClass cs2 = some m.cls := findClass_of_methodNamed Bd.named
  have hnm := (name_of_methodNamed Bd.named Bd.method).1
  have X0 : Stand p l e ({ frames := 3, cells := 0, slots := 0, locals := 46 } : Room) s m #[(.ref o1), (.ref o2), (.long q3)] below meth c s₁ [] 0 0 := Stand.of_body Bd
  have e0 : s₁.heap = h0 := by rw [← hh, Bd.state]; rfl
  have N0 := Fr.nil n0
  let La : Array Slot := #[.val (.ref o1), .val (.ref o2), .val (.long q3), .second, .unset]
  have pre0 : ∀ t, Steps p.tables e below (s₁.setTop (mkF m 0 #[.val (.ref o1), .val (.ref o2), .val (.long q3), .second, .unset] [])) t → Steps p.tables e below (s₁.setTop (entryFrame m #[(.ref o1), (.ref o2), (.long q3)] 5)) t := fun t k => castTop (ef_13_26 m o1 o2 q3) k
  obtain ⟨T1, X1, e1, st1⟩ := getF X0 hx hZ hown (host := "") (Or.inl (wk105 hw)) Via.refl e0 f1 (g := (mkF m 1 La [(.ref o1)])) rfl rfl (hb hby d13_1)
  obtain ⟨T2, X2, e2, st2⟩ := getF X1 hx hZ hown (host := "") (Or.inl (wk42 hw)) Via.refl e1 f2 (g := (mkF m 11 La [(.ref o1), (.long q3)])) rfl rfl (hb hby d13_11)
  obtain ⟨T3, X3, e3, st3⟩ := getF X2 hx hZ hown (host := "") (Or.inl (wk116 hw)) Via.refl e2 f3 (g := (mkF m 24 La [(.ref o2)])) rfl rfl (hb hby d13_24)
  obtain ⟨cq4, kq4, q4a, q4b, q4c⟩ := isOf hZ e3 f4
  obtain ⟨_, _, ⟨T4, L4, kk4, nn4⟩, -, X4, ⟨Lc4, hQ4, l4, y4, z4⟩, st4⟩ := X3.virtualBack hx (y := ym6) (z := ym6) hown (mvT hZ (wk117 hw)) (mvT hZ (wk87 hw)) (notFace_of_selects (args := #[]) (mvT hZ (wk89 hw))) (mvT hZ (wk89 hw)) (mvT hZ (wk88 hw)) (by decide) (backOf (W := 0) (rm10_7 l Z a0 hw w hW [] o4 q5 h0 n0 O0 f5 c6) hZ (wk90 hw) (wk4 hw) (by decide) (by decide)) q4a q4c (g := (mkF m 27 La [(.ref o4)])) rfl (by rw [hml]; rfl) (Steps.refl _) (argsL := []) (rest := []) (lenOf pds_5 rfl) rfl (by show 2 * 0 + _ ≤ _; exact Nat.le_of_eq rfl) (hb hby d13_27) (fun _ _ => ⟨rfl, e3, (by decide : 0 + 0 ≤ _), (by decide : 0 + 0 ≤ _)⟩)
  dsimp only [Pt.U, Pt.locs, Pt.cells, Pt.slots] at X4 l4 y4 z4 st4 hQ4
  rw [l4, y4, z4] at X4
  obtain ⟨rfl, N4q, e4⟩ := hQ4
  have N4 := Fr.app N0 N4q
  obtain ⟨cq5, kq5, q5a, q5b, q5c⟩ := isOf hZ e4 f7
  obtain ⟨_, _, ⟨T5, L5, kk5, nn5⟩, -, X5, ⟨Lc5, hQ5, l5, y5, z5⟩, st5⟩ := X4.virtualBack hx (y := ym14) (z := ym14) hown (mvT hZ (wk118 hw)) (mvT hZ (wk119 hw)) (notFace_of_selects (args := #[]) (mvT hZ (wk121 hw))) (mvT hZ (wk121 hw)) (mvT hZ (wk120 hw)) (by decide) (backOf (W := 1) (rm14_18 l Z a0 hw w hW [] o2 o4 q3 q5 h0 n0 O0 f3 f8 f9 f4 f5 f10 c11) hZ (wk122 hw) (wk50 hw) (by decide) (by decide)) q5a q5c (g := (mkF m 35 La [(.ref o2), (.ref o1)])) rfl (by rw [hml]; rfl) (Steps.refl _) (argsL := []) (rest := [(.ref o1)]) (lenOf pds_9 rfl) rfl (by show 2 * 0 + _ ≤ _; exact Nat.le_of_eq rfl) (hb hby d13_35) (fun _ _ => ⟨rfl, e4, (by decide : 0 + 0 ≤ _), (by decide : 0 + 0 ≤ _)⟩)
  dsimp only [Pt.U, Pt.locs, Pt.cells, Pt.slots] at X5 l5 y5 z5 st5 hQ5
  rw [l5, y5, z5] at X5
  obtain ⟨rfl, N5q, e5⟩ := hQ5
  have N5 := Fr.app N4 N5q
  obtain ⟨cq6, cw6, cw6'⟩ := f12.cell
  obtain ⟨_, _, ⟨T6, L6, kk6, nn6⟩, -, X6, ⟨Lc6, hQ6, l6, y6, z6⟩, st6⟩ := X5.privateBack hx (y := ym17) hown (mvT hZ (wk136 hw)) (mvT hZ (wk137 hw)) (mvT hZ (own_selp (y := ym17) (wk35 hw) (wk138 hw) (wk137 hw) (by decide))) (Cond.privateMethod_at (mvP hZ (wk138 hw) (args := #[]))) (mvT hZ (wk139 hw)) (by decide) (backOf (W := 0) (rm18_21 l Z a0 hw w hW [] o1 (ownEnd q3 q5) q3 h0 n0 O0 f2) hZ (wk139 hw) (wk36 hw) (by decide) (by decide)) (g := (mkF m 38 La [(.long (ownEnd q3 q5)), (.ref o1)])) rfl (by rw [hml]; rfl) (Steps.refl _) (a := o1) (by rw [e5]; exact cw6) cw6' (argsL := [(.long (ownEnd q3 q5))]) (rest := []) (lenOf pds_12 rfl) rfl (by show 2 * 0 + _ ≤ _; exact Nat.le_of_eq rfl) (hb hby d13_38) (fun _ _ => ⟨rfl, e5, (by decide : 0 + 0 ≤ _), (by decide : 0 + 0 ≤ _)⟩)
  dsimp only [Pt.U, Pt.locs, Pt.cells, Pt.slots] at X6 l6 y6 z6 st6 hQ6
  rw [l6, y6, z6] at X6
  obtain ⟨rfl, N6q, e6⟩ := hQ6
  have N6 := Fr.app N5 N6q
  let Lb7 : Array Slot := #[.val (.ref o1), .val (.ref o2), .val (.long q3), .second, .val (.int (ownS (ownEnd q3 q5) q3))]
  obtain ⟨T8, X8, e8, st8⟩ := getF X6 hx hZ hown (host := "") (Or.inl (wk99 hw)) Via.refl e6 f13 (g := (mkF m 50 Lb7 [(.ref o2), (.int (ownS (ownEnd q3 q5) q3))])) rfl rfl (hb hby d13_50)
  obtain ⟨cq9, kq9, q9a, q9b, q9c⟩ := isOf hZ e8 f12
  obtain ⟨_, _, ⟨T9, L9, kk9, nn9⟩, -, X9, ⟨Lc9, hQ9, l9, y9, z9⟩, st9⟩ := X8.virtualBack hx (y := ym9) (z := ym9) hown (mvT hZ (wk149 hw)) (mvT hZ (wk95 hw)) (notFace_of_selects (args := #[]) (mvT hZ (wk97 hw))) (mvT hZ (wk97 hw)) (mvT hZ (wk96 hw)) (by decide) (backOf (W := 0) (rm11_12 l Z a0 hw w hW [] o1 o2 h0 n0 O0 f13) hZ (wk98 hw) (wk36 hw) (by decide) (by decide)) q9a q9c (g := (mkF m 58 Lb7 [(.ref o2), (.ref o1)])) rfl (by rw [hml]; rfl) (Steps.refl _) (argsL := [(.ref o2)]) (rest := []) (lenOf pds_8 rfl) rfl (by show 2 * 0 + _ ≤ _; exact Nat.le_of_eq rfl) (hb hby d13_58) (fun _ _ => ⟨rfl, e8, (by decide : 0 + 0 ≤ _), (by decide : 0 + 0 ≤ _)⟩)
  dsimp only [Pt.U, Pt.locs, Pt.cells, Pt.slots] at X9 l9 y9 z9 st9 hQ9
  rw [l9, y9, z9] at X9
  obtain ⟨rfl, N9q, e9⟩ := hQ9
  have N9 := Fr.app N6 N9q
  obtain ⟨cq10, cw10, cw10'⟩ := f12.cell
  obtain ⟨_, _, ⟨T10, L10, kk10, nn10⟩, -, X10, ⟨Lc10, hQ10, l10, y10, z10⟩, st10⟩ := X9.privateBack hx (y := ym18) hown (mvT hZ (wk150 hw)) (mvT hZ (wk151 hw)) (mvT hZ (own_selp (y := ym18) (wk35 hw) (wk152 hw) (wk151 hw) (by decide))) (Cond.privateMethod_at (mvP hZ (wk152 hw) (args := #[]))) (mvT hZ (wk153 hw)) (by decide) (backOf (W := 0) (rm21_25 l Z a0 hw w hW [] o1 o2 (ownS (ownEnd q3 q5) q3) o6 k7 h0 n0 O0 f15 f16 c17 c18 f7 f19 g22 f20 u23 g24 u25 v21 f13) hZ (wk153 hw) (wk36 hw) (by decide) (by decide)) (g := (mkF m 71 Lb7 [(.int (ownS (ownEnd q3 q5) q3)), (.ref o2), (.ref o1)])) rfl (by rw [hml]; rfl) (Steps.refl _) (a := o1) (by rw [e9]; exact cw10) cw10' (argsL := [(.ref o2), (.int (ownS (ownEnd q3 q5) q3))]) (rest := []) (lenOf pds_13 rfl) rfl (by show 2 * 0 + _ ≤ _; exact Nat.le_of_eq rfl) (hb hby d13_71) (fun _ _ => ⟨rfl, e9, (by decide : 0 + 0 ≤ _), (by decide : 0 + 0 ≤ _)⟩)
  dsimp only [Pt.U, Pt.locs, Pt.cells, Pt.slots] at X10 l10 y10 z10 st10 hQ10
  rw [l10, y10, z10] at X10
  obtain ⟨rfl, N10q, K10, r10_0, r10_1, r10_2, r10_3⟩ := hQ10
  have N10 := Fr.app N9 N10q
  have O11 := own_old O0 K10 (own_ngc g22 (own_ngc g22 (own_ngc g24 (own_ngc g22 own_ng0))))
  have t12 := (own_fld f1 K10 (own_nlb u23 (own_nlb u23 (own_nlb u26 (own_nlb u23 own_nl0)))))
  obtain ⟨T13, X13, e13, st13⟩ := getF X10 hx hZ hown (host := "") (Or.inl (wk105 hw)) Via.refl rfl t12 (g := (mkF m 76 Lb7 [(.ref o1), (.ref o1)])) rfl rfl (hb hby d13_76)
  have t14 := (own_exa f12 K10)
  obtain ⟨T15, h15, X15, e15, W15, st15⟩ := putF X13 hx hZ hown (host := "") (Or.inl (wk105 hw)) Via.refl e13 t12 t14 (Or.inl (wk106 hw)) (wk35 hw) (ty := .long) (by decide) rfl rfl (g := (mkF m 81 Lb7 [(.long (1 : Int64)), (.ref o1)])) rfl rfl (hb hby d13_81)
  have F15 : Fld Z h15 o1 cs2 "size" "J" (.long (1 : Int64)) := t12.same W15
  have N15 := Fr.snoc X15 N10 g27
  have O16 := O11.wr W15 g27
  obtain ⟨fs, hr, hrun, hended, hWm, hsame⟩ := X15.leave (v := none) (fun _ => rfl)
  have Kf17 : own_KL h0 h15 [⟨o2, Jvm.RoadKit.slotOf Z cs0 cs3 cs1⟩, ⟨o2, Jvm.RoadKit.slotOf Z cs0 cs4 cs1⟩, ⟨o6, ((ownS (ownEnd q3 q5) q3)).toNatClampNeg⟩, ⟨o2, Jvm.RoadKit.slotOf Z cs0 "slot" "I"⟩, ⟨o1, Jvm.RoadKit.slotOf Z cs2 "size" "J"⟩] := (own_klW (own_klT (own_kl0 h0 [⟨o2, Jvm.RoadKit.slotOf Z cs0 cs3 cs1⟩, ⟨o2, Jvm.RoadKit.slotOf Z cs0 cs4 cs1⟩, ⟨o6, ((ownS (ownEnd q3 q5) q3)).toNatClampNeg⟩, ⟨o2, Jvm.RoadKit.slotOf Z cs0 "slot" "I"⟩, ⟨o1, Jvm.RoadKit.slotOf Z cs2 "size" "J"⟩]) K10 (own_kac (Or.inl (List.mem_of_getElem? (i := 0) rfl)) (own_kac (Or.inl (List.mem_of_getElem? (i := 1) rfl)) (own_kac (Or.inl (List.mem_of_getElem? (i := 2) rfl)) (own_kac (Or.inl (List.mem_of_getElem? (i := 3) rfl)) own_ka0))))) W15 (Or.inl (List.mem_of_getElem? (i := 4) rfl)))
  have t18 := (r10_3.other W15 (Or.inl (Ne.symm u23)))
  have t19 := (own_gk_oth r10_0 W15 (Ne.symm u26))
  have t20 := (r10_1.other W15 (Or.inl (Ne.symm u23)))
  have t21 := (r10_2.other W15 (Or.inl (Ne.symm u23)))
  refine ⟨_, _, pre0 _ ?_, hrun, hended, _, _, rfl, ?_, ⟨_, rfl⟩, hWm, hsame.mono (by decide) (by decide)⟩
  · show Steps p.tables e below (s₁.setTop (mkF m 0 La [])) _
    refine sA X0 hx hby d13_0 rfl rfl ?_
    refine st1 _ ?_
    refine XS.lconst X1.here hx rfl (hb hby d13_4) ?_
    refine XS.lcmp X1.here hx rfl (hb hby d13_5) rfl ?_
    refine sN X1 hx hby d13_6 (by decide) ?_
    refine sL X1 hx hby d13_9 rfl ?_
    refine sA X1 hx hby d13_10 rfl rfl ?_
    show Steps p.tables e below (T1.setTop (mkF m 11 La [(.ref o1), (.long q3)])) _
    refine st2 _ ?_
    refine XS.lcmp X2.here hx rfl (hb hby d13_14) rfl ?_
    refine XS.ifYes X2.here hx rfl (pc0 := 15) (pc' := 23) rfl (hb hby d13_15) rfl ((if0 _ _).trans (flt ((fun q => (own_irr64 _) ((lw_gt _ _).mp q)) : ¬ ((0 : Int32) < (lcmpW q3 q3)))).2.2.2) (by decide) (by decide) ?_
    refine sA X2 hx hby d13_23 rfl rfl ?_
    refine st3 _ ?_
    refine st4.trans ?_
    refine sN X4 hx hby d13_30 (by decide) ?_
    refine sA X4 hx hby d13_33 rfl rfl ?_
    refine sA X4 hx hby d13_34 rfl rfl ?_
    refine st5.trans ?_
    refine st6.trans ?_
    refine sg (pc := 41) (pc' := 45) X6 hx hby d13_41 (by decide) (by decide) ?_
    refine XS.istore X6.here hx rfl (hb hby d13_45) rfl (l' := Lb7) rfl ?_
    refine si X6 hx hby d13_47 rfl ?_
    refine sA X6 hx hby d13_49 rfl rfl ?_
    refine st8 _ ?_
    refine sn X8 hx hby d13_53 (feq (c14 : ¬ ((ownS (ownEnd q3 q5) q3) = (-1 : Int32)))).1 ?_
    refine sA X8 hx hby d13_56 rfl rfl ?_
    refine sA X8 hx hby d13_57 rfl rfl ?_
    refine st9.trans ?_
    refine si X9 hx hby d13_61 rfl ?_
    refine sc X9 hx hby d13_63 ?_
    refine sn X9 hx hby d13_64 (feq (c14 : ¬ ((ownS (ownEnd q3 q5) q3) = (-1 : Int32)))).1 ?_
    refine sA X9 hx hby d13_67 rfl rfl ?_
    refine sA X9 hx hby d13_68 rfl rfl ?_
    show Steps p.tables e below (T9.setTop (mkF m 69 Lb7 [(.ref o2), (.ref o1)])) _
    refine si X9 hx hby d13_69 rfl ?_
    refine st10.trans ?_
    refine sA X10 hx hby d13_74 rfl rfl ?_
    refine XS.dup X10.here hx rfl (hb hby d13_75) rfl rfl ?_
    refine st13 _ ?_
    refine XS.lconst X13.here hx rfl (hb hby d13_79) ?_
    refine XS.ladd X13.here hx rfl (hb hby d13_80) rfl ?_
    refine st15 _ ?_
    exact X15.returnOut hx Bd.returns (hb hby d13_84) hr
  · show Q13_26 Z w o1 o2 q3 o4 q5 o6 k7 h0 n0 _ T15.heap _
    rw [e15]
    exact ⟨rfl, N15, Kf17, F15, t18, t19, t20, t21⟩
theorem ef_12_27 (m : MethodId) (o1 : Addr) : entryFrame m #[(.ref o1)] 1 = mkF m 0 #[.val (.ref o1)] [] := by first | (simp [entryFrame, mkF, argsToLocals, Value.category]; done) | rfl
def Q12_27 (Z : State) (w : Nat → Addr) (o1 : Addr) (h0 : Heap) (n0 : Nat) (v : Option Value) (h : Heap) (L : List Loc) : Prop := v = some (.long (1 : Int64)) ∧ Fr n0 L ∧ h = h0
set_option maxRecDepth 65536 in
set_option maxHeartbeats 40000000 in
theorem rm12_27 (l : Launch) (Z : State) (a0 : Array Value) (hw : HW Z a0) (w : Nat → Addr) (hW : Wd Z w) (ws : List Jvm.Cond) (o1 : Addr) (h0 : Heap) (n0 : Nat) (O0 : Old Z n0 h0) (f1 : Fld Z h0 o1 cs2 "size" "J" (.long (1 : Int64))) :
    MetFree l ym10 (head1 (Jvm.Cond.code ym10 prog_14_method_2_code 1 (some .long) :: ws) ({ frames := 0, cells := 0, slots := 0, locals := 0 } : Room)) (fun a U => a = #[(.ref o1)] ∧ Z.Warmed39 U.vm ∧ U.heap = h0) (fun _ _ _ _ _ => True) (fun _ U o U' => ∃ v L, o = .returned v ∧ Q12_27 Z w o1 h0 n0 v U'.heap L ∧ FrameEnd U o U' L ({ frames := 0, cells := 0, slots := 0, locals := 0 } : Room).cells ({ frames := 0, cells := 0, slots := 0, locals := 0 } : Room).slots) := by
  refine MetFree.of_bodySF (plainFor_of_name pnc_2) hisR ?_
  intro p e s m args below meth c s₁ Bd hml0 hP hK
  obtain ⟨rfl, hZ, hh⟩ := hP
  have hx := Bd.exec
  have hby := Bd.bytes
  have hml : c.maxLocals = 1 := hml0
  have hown : s.vm.findClass cs2 = some m.cls := findClass_of_methodNamed Bd.named
  have hnm := (name_of_methodNamed Bd.named Bd.method).1
  have X0 : Stand p l e ({ frames := 0, cells := 0, slots := 0, locals := 0 } : Room) s m #[(.ref o1)] below meth c s₁ [] 0 0 := Stand.of_body Bd
  have e0 : s₁.heap = h0 := by rw [← hh, Bd.state]; rfl
  have N0 := Fr.nil n0
  skip
  have pre0 : ∀ t, Steps p.tables e below (s₁.setTop (mkF m 0 #[.val (.ref o1)] [])) t → Steps p.tables e below (s₁.setTop (entryFrame m #[(.ref o1)] 1)) t := fun t k => castTop (ef_12_27 m o1) k
  obtain ⟨T1, X1, e1, st1⟩ := getF X0 hx hZ hown (host := "") (Or.inl (wk105 hw)) Via.refl e0 f1 (g := (mkF m 1 #[.val (.ref o1)] [(.ref o1)])) rfl rfl (hb hby d12_1)
  obtain ⟨fs, hr, hrun, hended, hWm, hsame⟩ := X1.leave (v := some (.long (1 : Int64))) (fun h => by rw [Bd.returns] at h; cases h)
  refine ⟨_, _, pre0 _ ?_, hrun, hended, _, _, rfl, ?_, ⟨_, rfl⟩, hWm, hsame.mono (by decide) (by decide)⟩
  · show Steps p.tables e below (s₁.setTop (mkF m 0 #[.val (.ref o1)] [])) _
    refine sA X0 hx hby d12_0 rfl rfl ?_
    refine st1 _ ?_
    jvm_step X1.here [X1.here.top, hx, (hb hby d12_4), X1.method', Bd.returns, narrow]
    first | (intro acts; rw [hr _ acts rfl rfl rfl]) | rw [hr _ _ rfl rfl rfl]
    exact Steps.refl _
  · show Q12_27 Z w o1 h0 n0 _ T1.heap _
    rw [e1]
    exact ⟨rfl, N0, rfl⟩
theorem d21_21 : decode prog_14_method_9_code 21 = .ok (.aload_n 3, 1) := by decide +kernel
theorem d21_22 : decode prog_14_method_9_code 22 = .ok (.aload_n 1, 1) := by decide +kernel
theorem d21_23 : decode prog_14_method_9_code 23 = .ok (.putfield 56, 3) := by decide +kernel
theorem ef_21_28 (m : MethodId) (o1 : Addr) (o2 : Addr) (q3 : Int32) : entryFrame m #[(.ref o1), (.ref o2), (.int q3)] 4 = mkF m 0 #[.val (.ref o1), .val (.ref o2), .val (.int q3), .unset] [] := by first | (simp [entryFrame, mkF, argsToLocals, Value.category]; done) | rfl
def Q21_28 (Z : State) (w : Nat → Addr) (o1 : Addr) (o2 : Addr) (q3 : Int32) (o4 : Addr) (k5 : ClassId) (o6 : Addr) (h0 : Heap) (n0 : Nat) (v : Option Value) (h : Heap) (L : List Loc) : Prop := v = none ∧ Fr n0 L ∧ own_KL h0 h [⟨o2, Jvm.RoadKit.slotOf Z cs0 cs3 cs1⟩, ⟨o2, Jvm.RoadKit.slotOf Z cs0 cs4 cs1⟩, ⟨o6, Jvm.RoadKit.slotOf Z cs0 cs3 cs1⟩, ⟨o4, (q3).toNatClampNeg⟩, ⟨o2, Jvm.RoadKit.slotOf Z cs0 "slot" "I"⟩] ∧ own_Gk Z h o4 k5 (.object cs0) (386 : Int32) q3 (.ref o2) ∧ Fld Z h o2 cs0 cs3 cs1 .null ∧ Fld Z h o2 cs0 cs4 cs1 (.ref o6) ∧ Fld Z h o6 cs0 cs3 cs1 (.ref o2) ∧ Fld Z h o2 cs0 "slot" "I" (.int q3)
set_option maxRecDepth 65536 in
set_option maxHeartbeats 40000000 in
theorem rm21_28 (l : Launch) (Z : State) (a0 : Array Value) (hw : HW Z a0) (w : Nat → Addr) (hW : Wd Z w) (ws : List Jvm.Cond) (o1 : Addr) (o2 : Addr) (q3 : Int32) (o4 : Addr) (k5 : ClassId) (o6 : Addr) (h0 : Heap) (n0 : Nat) (O0 : Old Z n0 h0) (f1 : Fld Z h0 o1 cs2 "firsts" cs8 (.ref o4)) (f2 : own_Gk Z h0 o4 k5 (.object cs0) (386 : Int32) q3 (.ref o6)) (c3 : ¬ (q3 < (0 : Int32))) (c4 : q3 < (386 : Int32)) (f5 : Exa Z h0 o2 cs0) (f6 : Fld Z h0 o2 cs0 cs3 cs1 .null) (g7 : n0 ≤ o2) (f8 : Fld Z h0 o2 cs0 cs4 cs1 .null) (f9 : Exa Z h0 o6 cs0) (f10 : Fld Z h0 o6 cs0 cs3 cs1 .null) (u11 : o6 ≠ o2) (g12 : n0 ≤ o6) (u13 : o1 ≠ o2) (u14 : o1 ≠ o6) (g15 : n0 ≤ o4) (u16 : o4 ≠ o2) (u17 : o4 ≠ o6) (v18 : Ovr Z k5 cs0) (f19 : Fld Z h0 o2 cs0 "slot" "I" (.int (-1 : Int32))) :
    MetFree l ym18 (head1 (Jvm.Cond.code ym18 prog_14_method_9_code 4 none :: ws) ({ frames := 0, cells := 0, slots := 0, locals := 0 } : Room)) (fun a U => a = #[(.ref o1), (.ref o2), (.int q3)] ∧ Z.Warmed39 U.vm ∧ U.heap = h0) (fun _ _ _ _ _ => True) (fun _ U o U' => ∃ v L, o = .returned v ∧ Q21_28 Z w o1 o2 q3 o4 k5 o6 h0 n0 v U'.heap L ∧ FrameEnd U o U' L ({ frames := 0, cells := 0, slots := 0, locals := 0 } : Room).cells ({ frames := 0, cells := 0, slots := 0, locals := 0 } : Room).slots) := by
  refine MetFree.of_bodySF (plainFor_of_name pnc_2) hisR ?_
  intro p e s m args below meth c s₁ Bd hml0 hP hK
  obtain ⟨rfl, hZ, hh⟩ := hP
  have hx := Bd.exec
  have hby := Bd.bytes
  have hml : c.maxLocals = 4 := hml0
  have hown : s.vm.findClass cs2 = some m.cls := findClass_of_methodNamed Bd.named
  have hnm := (name_of_methodNamed Bd.named Bd.method).1
  have X0 : Stand p l e ({ frames := 0, cells := 0, slots := 0, locals := 0 } : Room) s m #[(.ref o1), (.ref o2), (.int q3)] below meth c s₁ [] 0 0 := Stand.of_body Bd
  have e0 : s₁.heap = h0 := by rw [← hh, Bd.state]; rfl
  have N0 := Fr.nil n0
  let La : Array Slot := #[.val (.ref o1), .val (.ref o2), .val (.int q3), .unset]
  have pre0 : ∀ t, Steps p.tables e below (s₁.setTop (mkF m 0 #[.val (.ref o1), .val (.ref o2), .val (.int q3), .unset] [])) t → Steps p.tables e below (s₁.setTop (entryFrame m #[(.ref o1), (.ref o2), (.int q3)] 4)) t := fun t k => castTop (ef_21_28 m o1 o2 q3) k
  obtain ⟨T1, X1, e1, st1⟩ := getF X0 hx hZ hown (host := "") (Or.inl (wk46 hw)) Via.refl e0 f1 (g := (mkF m 1 La [(.ref o1)])) rfl rfl (hb hby d21_1)
  obtain ⟨cl2, Ar2, cw2, S2, Nn2, Hb2⟩ := id (f2)
  have hin2 : ¬ (q3 < 0 ∨ cl2.slots.size ≤ (q3).toNatClampNeg) := inb_of S2 ⟨c3, c4⟩
  let Lb3 : Array Slot := #[.val (.ref o1), .val (.ref o2), .val (.int q3), .val (.ref o6)]
  obtain ⟨T4, h4, X4, e4, W4, st4⟩ := putF X1 hx hZ hown (host := "") (Or.inl (wk154 hw)) Via.refl e1 f6 f5 (Or.inl (wk108 hw)) (wk49 hw) (ty := (.object cs0)) (by decide) rfl rfl (g := (mkF m 9 Lb3 [.null, (.ref o2)])) rfl rfl (hb hby d21_9)
  have F4 : Fld Z h4 o2 cs0 cs3 cs1 .null := f6.same W4
  have N4 := Fr.snoc X4 N0 g7
  have O5 := O0.wr W4 g7
  have t6 := (f8.other W4 (Or.inr (sn78 hw)))
  have t7 := (f5.wr W4)
  obtain ⟨T8, h8, X8, e8, W8, st8⟩ := putF X4 hx hZ hown (host := "") (Or.inl (wk155 hw)) Via.refl e4 t6 t7 (Or.inl (wk110 hw)) (wk49 hw) (ty := (.object cs0)) (by decide) rfl rfl (g := (mkF m 14 Lb3 [(.ref o6), (.ref o2)])) rfl rfl (hb hby d21_14)
  have F8 : Fld Z h8 o2 cs0 cs4 cs1 (.ref o6) := t6.same W8
  have N8 := Fr.snoc X8 N4 g7
  have O9 := O5.wr W8 g7
  have t10 := ((f10.other W4 (Or.inl u11)).other W8 (Or.inl u11))
  have t11 := ((f9.wr W4).wr W8)
  obtain ⟨T12, h12, X12, e12, W12, st12⟩ := putF X8 hx hZ hown (host := "") (Or.inl (wk154 hw)) Via.refl e8 t10 t11 (Or.inl (wk108 hw)) (wk49 hw) (ty := (.object cs0)) (by decide) rfl rfl (g := (mkF m 23 Lb3 [(.ref o2), (.ref o6)])) rfl rfl (hb hby d21_23)
  have F12 : Fld Z h12 o6 cs0 cs3 cs1 (.ref o2) := t10.same W12
  have N12 := Fr.snoc X12 N8 g12
  have O13 := O9.wr W12 g12
  have t14 := (((f1.other W4 (Or.inl u13)).other W8 (Or.inl u13)).other W12 (Or.inl u14))
  obtain ⟨T15, X15, e15, st15⟩ := getF X12 hx hZ hown (host := "") (Or.inl (wk46 hw)) Via.refl e12 t14 (g := (mkF m 27 Lb3 [(.ref o1)])) rfl rfl (hb hby d21_27)
  have t17 := (own_gk_oth (own_gk_oth (own_gk_oth f2 W4 u16) W8 u16) W12 u17)
  obtain ⟨cl16, Ar16, cw16, S16, Nn16, Hb16⟩ := id (t17)
  have hin16 : ¬ (q3 < 0 ∨ cl16.slots.size ≤ (q3).toNatClampNeg) := inb_of S16 ⟨c3, c4⟩
  have t18 := ((t7.wr W8).wr W12)
  obtain ⟨T16, h16, X16, e16, W16, st16⟩ := stR X15 hx hZ e15 Ar16 (j := q3) hin16 rfl (Sto.ofV Ar16 cw16 v18 (Ins.self t18)) (g := (mkF m 32 Lb3 [(.ref o2), (.int q3), (.ref o4)])) rfl rfl (hb hby d21_32)
  have V16 : own_Gk Z h16 o4 k5 (.object cs0) (386 : Int32) q3 (.ref o2) := own_gk_set Ar16 cw16 S16 Nn16 W16
  have N16 := Fr.snoc X16 N12 g15
  have O19 := O13.wr W16 g15
  have t20 := ((((f19.other W4 (Or.inr (sn79 hw))).other W8 (Or.inr (sn80 hw))).other W12 (Or.inl (Ne.symm u11))).other W16 (Or.inl (Ne.symm u16)))
  have t21 := (t18.wr W16)
  obtain ⟨T22, h22, X22, e22, W22, st22⟩ := putF X16 hx hZ hown (host := "") (Or.inl (wk99 hw)) Via.refl e16 t20 t21 (Or.inl (wk63 hw)) (wk49 hw) (ty := .int) (by decide) rfl rfl (g := (mkF m 35 Lb3 [(.int q3), (.ref o2)])) rfl rfl (hb hby d21_35)
  have F22 : Fld Z h22 o2 cs0 "slot" "I" (.int q3) := t20.same W22
  have N22 := Fr.snoc X22 N16 g7
  have O23 := O19.wr W22 g7
  obtain ⟨fs, hr, hrun, hended, hWm, hsame⟩ := X22.leave (v := none) (fun _ => rfl)
  have Kf24 : own_KL h0 h22 [⟨o2, Jvm.RoadKit.slotOf Z cs0 cs3 cs1⟩, ⟨o2, Jvm.RoadKit.slotOf Z cs0 cs4 cs1⟩, ⟨o6, Jvm.RoadKit.slotOf Z cs0 cs3 cs1⟩, ⟨o4, (q3).toNatClampNeg⟩, ⟨o2, Jvm.RoadKit.slotOf Z cs0 "slot" "I"⟩] := (own_klW (own_klW (own_klW (own_klW (own_klW (own_kl0 h0 [⟨o2, Jvm.RoadKit.slotOf Z cs0 cs3 cs1⟩, ⟨o2, Jvm.RoadKit.slotOf Z cs0 cs4 cs1⟩, ⟨o6, Jvm.RoadKit.slotOf Z cs0 cs3 cs1⟩, ⟨o4, (q3).toNatClampNeg⟩, ⟨o2, Jvm.RoadKit.slotOf Z cs0 "slot" "I"⟩]) W4 (Or.inl (List.mem_of_getElem? (i := 0) rfl))) W8 (Or.inl (List.mem_of_getElem? (i := 1) rfl))) W12 (Or.inl (List.mem_of_getElem? (i := 2) rfl))) W16 (Or.inl (List.mem_of_getElem? (i := 3) rfl))) W22 (Or.inl (List.mem_of_getElem? (i := 4) rfl)))
  have t25 := (own_gk_oth V16 W22 u16)
  have t26 := ((((F4.other W8 (Or.inr (sn81 hw))).other W12 (Or.inl (Ne.symm u11))).other W16 (Or.inl (Ne.symm u16))).other W22 (Or.inr (sn69 hw)))
  have t27 := (((F8.other W12 (Or.inl (Ne.symm u11))).other W16 (Or.inl (Ne.symm u16))).other W22 (Or.inr (sn77 hw)))
  have t28 := ((F12.other W16 (Or.inl (Ne.symm u17))).other W22 (Or.inl u11))
  refine ⟨_, _, pre0 _ ?_, hrun, hended, _, _, rfl, ?_, ⟨_, rfl⟩, hWm, hsame.mono (by decide) (by decide)⟩
  · show Steps p.tables e below (s₁.setTop (mkF m 0 La [])) _
    refine sA X0 hx hby d21_0 rfl rfl ?_
    refine st1 _ ?_
    refine sI X1 hx hby d21_4 rfl ?_
    refine X1.aaload hx (j := q3) (v := (.ref o6)) (by rw [e1]; exact Ar2.1) (State.isArrayOf_alike hZ.alike Ar2.2.1) rfl Ar2.2.2 hin2 Hb2 (g := (mkF m 5 La [(.int q3), (.ref o4)])) rfl rfl (hb hby d21_5) _ ?_
    refine XS.astoreN X1.here hx rfl (hb hby d21_6) rfl rfl (l' := Lb3) rfl ?_
    refine sA X1 hx hby d21_7 rfl rfl ?_
    refine XS.aconstNull X1.here hx rfl (hb hby d21_8) ?_
    show Steps p.tables e below (T1.setTop (mkF m 9 Lb3 [.null, (.ref o2)])) _
    refine st4 _ ?_
    refine sA X4 hx hby d21_12 rfl rfl ?_
    refine sA X4 hx hby d21_13 rfl rfl ?_
    refine st8 _ ?_
    refine sA X8 hx hby d21_17 rfl rfl ?_
    refine XS.ifnullNo X8.here hx rfl (hb hby d21_18) rfl ?_
    refine sA X8 hx hby d21_21 rfl rfl ?_
    refine sA X8 hx hby d21_22 rfl rfl ?_
    refine st12 _ ?_
    refine sA X12 hx hby d21_26 rfl rfl ?_
    refine st15 _ ?_
    refine sI X15 hx hby d21_30 rfl ?_
    refine sA X15 hx hby d21_31 rfl rfl ?_
    refine st16 _ ?_
    refine sA X16 hx hby d21_33 rfl rfl ?_
    refine sI X16 hx hby d21_34 rfl ?_
    refine st22 _ ?_
    exact X22.returnOut hx Bd.returns (hb hby d21_38) hr
  · show Q21_28 Z w o1 o2 q3 o4 k5 o6 h0 n0 _ T22.heap _
    rw [e22]
    exact ⟨rfl, N22, Kf24, t25, t26, t27, t28, F22⟩
theorem ef_13_29 (m : MethodId) (o1 : Addr) (o2 : Addr) (q3 : Int64) : entryFrame m #[(.ref o1), (.ref o2), (.long q3)] 5 = mkF m 0 #[.val (.ref o1), .val (.ref o2), .val (.long q3), .second, .unset] [] := by first | (simp [entryFrame, mkF, argsToLocals, Value.category]; done) | rfl
def Q13_29 (Z : State) (w : Nat → Addr) (o1 : Addr) (o2 : Addr) (q3 : Int64) (o4 : Addr) (q5 : Int64) (o6 : Addr) (k7 : ClassId) (o8 : Addr) (h0 : Heap) (n0 : Nat) (v : Option Value) (h : Heap) (L : List Loc) : Prop := v = none ∧ Fr n0 L ∧ own_KL h0 h [⟨o2, Jvm.RoadKit.slotOf Z cs0 cs3 cs1⟩, ⟨o2, Jvm.RoadKit.slotOf Z cs0 cs4 cs1⟩, ⟨o8, Jvm.RoadKit.slotOf Z cs0 cs3 cs1⟩, ⟨o6, ((ownS (ownEnd q3 q5) q3)).toNatClampNeg⟩, ⟨o2, Jvm.RoadKit.slotOf Z cs0 "slot" "I"⟩, ⟨o1, Jvm.RoadKit.slotOf Z cs2 "size" "J"⟩] ∧ Fld Z h o1 cs2 "size" "J" (.long (2 : Int64)) ∧ Fld Z h o2 cs0 "slot" "I" (.int (ownS (ownEnd q3 q5) q3)) ∧ own_Gk Z h o6 k7 (.object cs0) (386 : Int32) (ownS (ownEnd q3 q5) q3) (.ref o2) ∧ Fld Z h o2 cs0 cs3 cs1 .null ∧ Fld Z h o2 cs0 cs4 cs1 (.ref o8) ∧ Fld Z h o8 cs0 cs3 cs1 (.ref o2)
set_option maxRecDepth 65536 in
set_option maxHeartbeats 40000000 in
theorem rm13_29 (l : Launch) (Z : State) (a0 : Array Value) (hw : HW Z a0) (w : Nat → Addr) (hW : Wd Z w) (ws : List Jvm.Cond) (o1 : Addr) (o2 : Addr) (q3 : Int64) (o4 : Addr) (q5 : Int64) (o6 : Addr) (k7 : ClassId) (o8 : Addr) (h0 : Heap) (n0 : Nat) (O0 : Old Z n0 h0) (f1 : Fld Z h0 o1 cs2 "size" "J" (.long (1 : Int64))) (f2 : Fld Z h0 o2 cs0 "expiry" cs7 (.ref o4)) (f3 : Exa Z h0 o4 cs5) (f4 : Fld Z h0 o4 cs5 "lifespan" "J" (.long q5)) (c5 : ¬ (q5 = (-1 : Int64))) (f6 : Exa Z h0 o2 cs0) (f7 : Fld Z h0 o2 cs0 "created" "J" (.long q3)) (f8 : Fld Z h0 o2 cs0 "lastUsed" "J" (.long q3)) (f9 : Fld Z h0 o4 cs5 "maxIdle" "J" (.long (-1 : Int64))) (c10 : ¬ ((9223372036854775807 : Int64) < (ownEnd q3 q5))) (f11 : Fld Z h0 o1 cs2 "time" "J" (.long q3)) (f12 : Exa Z h0 o1 cs2) (f13 : Fld Z h0 o2 cs0 "slot" "I" (.int (-1 : Int32))) (c14 : ¬ ((ownS (ownEnd q3 q5) q3) = (-1 : Int32))) (f15 : Fld Z h0 o1 cs2 "firsts" cs8 (.ref o6)) (f16 : own_Gk Z h0 o6 k7 (.object cs0) (386 : Int32) (ownS (ownEnd q3 q5) q3) (.ref o8)) (c17 : ¬ ((ownS (ownEnd q3 q5) q3) < (0 : Int32))) (c18 : (ownS (ownEnd q3 q5) q3) < (386 : Int32)) (f19 : Fld Z h0 o2 cs0 cs3 cs1 .null) (f20 : Fld Z h0 o2 cs0 cs4 cs1 .null) (f21 : Exa Z h0 o8 cs0) (f22 : Fld Z h0 o8 cs0 cs3 cs1 .null) (v23 : Ovr Z k7 cs0) (g24 : n0 ≤ o2) (u25 : o8 ≠ o2) (g26 : n0 ≤ o8) (u27 : o1 ≠ o2) (u28 : o1 ≠ o8) (g29 : n0 ≤ o6) (u30 : o6 ≠ o2) (u31 : o6 ≠ o8) (u32 : o1 ≠ o6) (g33 : n0 ≤ o1) :
    MetFree l ym19 (head1 (Jvm.Cond.code ym19 prog_14_method_3_code 5 none :: ws) ({ frames := 3, cells := 0, slots := 0, locals := 46 } : Room)) (fun a U => a = #[(.ref o1), (.ref o2), (.long q3)] ∧ Z.Warmed39 U.vm ∧ U.heap = h0) (fun _ _ _ _ _ => True) (fun _ U o U' => ∃ v L, o = .returned v ∧ Q13_29 Z w o1 o2 q3 o4 q5 o6 k7 o8 h0 n0 v U'.heap L ∧ FrameEnd U o U' L ({ frames := 3, cells := 0, slots := 0, locals := 46 } : Room).cells ({ frames := 3, cells := 0, slots := 0, locals := 46 } : Room).slots) := by
  refine MetFree.of_bodySF (plainFor_of_name pnc_2) hisR ?_
  intro p e s m args below meth c s₁ Bd hml0 hP hK
  obtain ⟨rfl, hZ, hh⟩ := hP
  have hx := Bd.exec
  have hby := Bd.bytes
  have hml : c.maxLocals = 5 := hml0
  have hown : s.vm.findClass cs2 = some m.cls := findClass_of_methodNamed Bd.named
  have hnm := (name_of_methodNamed Bd.named Bd.method).1
  have X0 : Stand p l e ({ frames := 3, cells := 0, slots := 0, locals := 46 } : Room) s m #[(.ref o1), (.ref o2), (.long q3)] below meth c s₁ [] 0 0 := Stand.of_body Bd
  have e0 : s₁.heap = h0 := by rw [← hh, Bd.state]; rfl
  have N0 := Fr.nil n0
  let La : Array Slot := #[.val (.ref o1), .val (.ref o2), .val (.long q3), .second, .unset]
  have pre0 : ∀ t, Steps p.tables e below (s₁.setTop (mkF m 0 #[.val (.ref o1), .val (.ref o2), .val (.long q3), .second, .unset] [])) t → Steps p.tables e below (s₁.setTop (entryFrame m #[(.ref o1), (.ref o2), (.long q3)] 5)) t := fun t k => castTop (ef_13_29 m o1 o2 q3) k
  obtain ⟨T1, X1, e1, st1⟩ := getF X0 hx hZ hown (host := "") (Or.inl (wk105 hw)) Via.refl e0 f1 (g := (mkF m 1 La [(.ref o1)])) rfl rfl (hb hby d13_1)
  obtain ⟨T2, X2, e2, st2⟩ := getF X1 hx hZ hown (host := "") (Or.inl (wk116 hw)) Via.refl e1 f2 (g := (mkF m 24 La [(.ref o2)])) rfl rfl (hb hby d13_24)
  obtain ⟨cq3, kq3, q3a, q3b, q3c⟩ := isOf hZ e2 f3
  obtain ⟨_, _, ⟨T3, L3, kk3, nn3⟩, -, X3, ⟨Lc3, hQ3, l3, y3, z3⟩, st3⟩ := X2.virtualBack hx (y := ym6) (z := ym6) hown (mvT hZ (wk117 hw)) (mvT hZ (wk87 hw)) (notFace_of_selects (args := #[]) (mvT hZ (wk89 hw))) (mvT hZ (wk89 hw)) (mvT hZ (wk88 hw)) (by decide) (backOf (W := 0) (rm10_7 l Z a0 hw w hW [] o4 q5 h0 n0 O0 f4 c5) hZ (wk90 hw) (wk4 hw) (by decide) (by decide)) q3a q3c (g := (mkF m 27 La [(.ref o4)])) rfl (by rw [hml]; rfl) (Steps.refl _) (argsL := []) (rest := []) (lenOf pds_5 rfl) rfl (by show 2 * 0 + _ ≤ _; exact Nat.le_of_eq rfl) (hb hby d13_27) (fun _ _ => ⟨rfl, e2, (by decide : 0 + 0 ≤ _), (by decide : 0 + 0 ≤ _)⟩)
  dsimp only [Pt.U, Pt.locs, Pt.cells, Pt.slots] at X3 l3 y3 z3 st3 hQ3
  rw [l3, y3, z3] at X3
  obtain ⟨rfl, N3q, e3⟩ := hQ3
  have N3 := Fr.app N0 N3q
  obtain ⟨cq4, kq4, q4a, q4b, q4c⟩ := isOf hZ e3 f6
  obtain ⟨_, _, ⟨T4, L4, kk4, nn4⟩, -, X4, ⟨Lc4, hQ4, l4, y4, z4⟩, st4⟩ := X3.virtualBack hx (y := ym14) (z := ym14) hown (mvT hZ (wk118 hw)) (mvT hZ (wk119 hw)) (notFace_of_selects (args := #[]) (mvT hZ (wk121 hw))) (mvT hZ (wk121 hw)) (mvT hZ (wk120 hw)) (by decide) (backOf (W := 1) (rm14_18 l Z a0 hw w hW [] o2 o4 q3 q5 h0 n0 O0 f2 f7 f8 f3 f4 f9 c10) hZ (wk122 hw) (wk50 hw) (by decide) (by decide)) q4a q4c (g := (mkF m 35 La [(.ref o2), (.ref o1)])) rfl (by rw [hml]; rfl) (Steps.refl _) (argsL := []) (rest := [(.ref o1)]) (lenOf pds_9 rfl) rfl (by show 2 * 0 + _ ≤ _; exact Nat.le_of_eq rfl) (hb hby d13_35) (fun _ _ => ⟨rfl, e3, (by decide : 0 + 0 ≤ _), (by decide : 0 + 0 ≤ _)⟩)
  dsimp only [Pt.U, Pt.locs, Pt.cells, Pt.slots] at X4 l4 y4 z4 st4 hQ4
  rw [l4, y4, z4] at X4
  obtain ⟨rfl, N4q, e4⟩ := hQ4
  have N4 := Fr.app N3 N4q
  obtain ⟨cq5, cw5, cw5'⟩ := f12.cell
  obtain ⟨_, _, ⟨T5, L5, kk5, nn5⟩, -, X5, ⟨Lc5, hQ5, l5, y5, z5⟩, st5⟩ := X4.privateBack hx (y := ym17) hown (mvT hZ (wk136 hw)) (mvT hZ (wk137 hw)) (mvT hZ (own_selp (y := ym17) (wk35 hw) (wk138 hw) (wk137 hw) (by decide))) (Cond.privateMethod_at (mvP hZ (wk138 hw) (args := #[]))) (mvT hZ (wk139 hw)) (by decide) (backOf (W := 0) (rm18_21 l Z a0 hw w hW [] o1 (ownEnd q3 q5) q3 h0 n0 O0 f11) hZ (wk139 hw) (wk36 hw) (by decide) (by decide)) (g := (mkF m 38 La [(.long (ownEnd q3 q5)), (.ref o1)])) rfl (by rw [hml]; rfl) (Steps.refl _) (a := o1) (by rw [e4]; exact cw5) cw5' (argsL := [(.long (ownEnd q3 q5))]) (rest := []) (lenOf pds_12 rfl) rfl (by show 2 * 0 + _ ≤ _; exact Nat.le_of_eq rfl) (hb hby d13_38) (fun _ _ => ⟨rfl, e4, (by decide : 0 + 0 ≤ _), (by decide : 0 + 0 ≤ _)⟩)
  dsimp only [Pt.U, Pt.locs, Pt.cells, Pt.slots] at X5 l5 y5 z5 st5 hQ5
  rw [l5, y5, z5] at X5
  obtain ⟨rfl, N5q, e5⟩ := hQ5
  have N5 := Fr.app N4 N5q
  let Lb6 : Array Slot := #[.val (.ref o1), .val (.ref o2), .val (.long q3), .second, .val (.int (ownS (ownEnd q3 q5) q3))]
  obtain ⟨T7, X7, e7, st7⟩ := getF X5 hx hZ hown (host := "") (Or.inl (wk99 hw)) Via.refl e5 f13 (g := (mkF m 50 Lb6 [(.ref o2), (.int (ownS (ownEnd q3 q5) q3))])) rfl rfl (hb hby d13_50)
  obtain ⟨cq8, kq8, q8a, q8b, q8c⟩ := isOf hZ e7 f12
  obtain ⟨_, _, ⟨T8, L8, kk8, nn8⟩, -, X8, ⟨Lc8, hQ8, l8, y8, z8⟩, st8⟩ := X7.virtualBack hx (y := ym9) (z := ym9) hown (mvT hZ (wk149 hw)) (mvT hZ (wk95 hw)) (notFace_of_selects (args := #[]) (mvT hZ (wk97 hw))) (mvT hZ (wk97 hw)) (mvT hZ (wk96 hw)) (by decide) (backOf (W := 0) (rm11_12 l Z a0 hw w hW [] o1 o2 h0 n0 O0 f13) hZ (wk98 hw) (wk36 hw) (by decide) (by decide)) q8a q8c (g := (mkF m 58 Lb6 [(.ref o2), (.ref o1)])) rfl (by rw [hml]; rfl) (Steps.refl _) (argsL := [(.ref o2)]) (rest := []) (lenOf pds_8 rfl) rfl (by show 2 * 0 + _ ≤ _; exact Nat.le_of_eq rfl) (hb hby d13_58) (fun _ _ => ⟨rfl, e7, (by decide : 0 + 0 ≤ _), (by decide : 0 + 0 ≤ _)⟩)
  dsimp only [Pt.U, Pt.locs, Pt.cells, Pt.slots] at X8 l8 y8 z8 st8 hQ8
  rw [l8, y8, z8] at X8
  obtain ⟨rfl, N8q, e8⟩ := hQ8
  have N8 := Fr.app N5 N8q
  obtain ⟨cq9, cw9, cw9'⟩ := f12.cell
  obtain ⟨_, _, ⟨T9, L9, kk9, nn9⟩, -, X9, ⟨Lc9, hQ9, l9, y9, z9⟩, st9⟩ := X8.privateBack hx (y := ym18) hown (mvT hZ (wk150 hw)) (mvT hZ (wk151 hw)) (mvT hZ (own_selp (y := ym18) (wk35 hw) (wk152 hw) (wk151 hw) (by decide))) (Cond.privateMethod_at (mvP hZ (wk152 hw) (args := #[]))) (mvT hZ (wk153 hw)) (by decide) (backOf (W := 0) (rm21_28 l Z a0 hw w hW [] o1 o2 (ownS (ownEnd q3 q5) q3) o6 k7 o8 h0 n0 O0 f15 f16 c17 c18 f6 f19 g24 f20 f21 f22 u25 g26 u27 u28 g29 u30 u31 v23 f13) hZ (wk153 hw) (wk36 hw) (by decide) (by decide)) (g := (mkF m 71 Lb6 [(.int (ownS (ownEnd q3 q5) q3)), (.ref o2), (.ref o1)])) rfl (by rw [hml]; rfl) (Steps.refl _) (a := o1) (by rw [e8]; exact cw9) cw9' (argsL := [(.ref o2), (.int (ownS (ownEnd q3 q5) q3))]) (rest := []) (lenOf pds_13 rfl) rfl (by show 2 * 0 + _ ≤ _; exact Nat.le_of_eq rfl) (hb hby d13_71) (fun _ _ => ⟨rfl, e8, (by decide : 0 + 0 ≤ _), (by decide : 0 + 0 ≤ _)⟩)
  dsimp only [Pt.U, Pt.locs, Pt.cells, Pt.slots] at X9 l9 y9 z9 st9 hQ9
  rw [l9, y9, z9] at X9
  obtain ⟨rfl, N9q, K9, r9_0, r9_1, r9_2, r9_3, r9_4⟩ := hQ9
  have N9 := Fr.app N8 N9q
  have O10 := own_old O0 K9 (own_ngc g24 (own_ngc g24 (own_ngc g26 (own_ngc g29 (own_ngc g24 own_ng0)))))
  have t11 := (own_fld f1 K9 (own_nlb u27 (own_nlb u27 (own_nlb u28 (own_nlb u32 (own_nlb u27 own_nl0))))))
  obtain ⟨T12, X12, e12, st12⟩ := getF X9 hx hZ hown (host := "") (Or.inl (wk105 hw)) Via.refl rfl t11 (g := (mkF m 76 Lb6 [(.ref o1), (.ref o1)])) rfl rfl (hb hby d13_76)
  have t13 := (own_exa f12 K9)
  obtain ⟨T14, h14, X14, e14, W14, st14⟩ := putF X12 hx hZ hown (host := "") (Or.inl (wk105 hw)) Via.refl e12 t11 t13 (Or.inl (wk106 hw)) (wk35 hw) (ty := .long) (by decide) rfl rfl (g := (mkF m 81 Lb6 [(.long (2 : Int64)), (.ref o1)])) rfl rfl (hb hby d13_81)
  have F14 : Fld Z h14 o1 cs2 "size" "J" (.long (2 : Int64)) := t11.same W14
  have N14 := Fr.snoc X14 N9 g33
  have O15 := O10.wr W14 g33
  obtain ⟨fs, hr, hrun, hended, hWm, hsame⟩ := X14.leave (v := none) (fun _ => rfl)
  have Kf16 : own_KL h0 h14 [⟨o2, Jvm.RoadKit.slotOf Z cs0 cs3 cs1⟩, ⟨o2, Jvm.RoadKit.slotOf Z cs0 cs4 cs1⟩, ⟨o8, Jvm.RoadKit.slotOf Z cs0 cs3 cs1⟩, ⟨o6, ((ownS (ownEnd q3 q5) q3)).toNatClampNeg⟩, ⟨o2, Jvm.RoadKit.slotOf Z cs0 "slot" "I"⟩, ⟨o1, Jvm.RoadKit.slotOf Z cs2 "size" "J"⟩] := (own_klW (own_klT (own_kl0 h0 [⟨o2, Jvm.RoadKit.slotOf Z cs0 cs3 cs1⟩, ⟨o2, Jvm.RoadKit.slotOf Z cs0 cs4 cs1⟩, ⟨o8, Jvm.RoadKit.slotOf Z cs0 cs3 cs1⟩, ⟨o6, ((ownS (ownEnd q3 q5) q3)).toNatClampNeg⟩, ⟨o2, Jvm.RoadKit.slotOf Z cs0 "slot" "I"⟩, ⟨o1, Jvm.RoadKit.slotOf Z cs2 "size" "J"⟩]) K9 (own_kac (Or.inl (List.mem_of_getElem? (i := 0) rfl)) (own_kac (Or.inl (List.mem_of_getElem? (i := 1) rfl)) (own_kac (Or.inl (List.mem_of_getElem? (i := 2) rfl)) (own_kac (Or.inl (List.mem_of_getElem? (i := 3) rfl)) (own_kac (Or.inl (List.mem_of_getElem? (i := 4) rfl)) own_ka0)))))) W14 (Or.inl (List.mem_of_getElem? (i := 5) rfl)))
  have t17 := (r9_4.other W14 (Or.inl (Ne.symm u27)))
  have t18 := (own_gk_oth r9_0 W14 (Ne.symm u32))
  have t19 := (r9_1.other W14 (Or.inl (Ne.symm u27)))
  have t20 := (r9_2.other W14 (Or.inl (Ne.symm u27)))
  have t21 := (r9_3.other W14 (Or.inl (Ne.symm u28)))
  refine ⟨_, _, pre0 _ ?_, hrun, hended, _, _, rfl, ?_, ⟨_, rfl⟩, hWm, hsame.mono (by decide) (by decide)⟩
  · show Steps p.tables e below (s₁.setTop (mkF m 0 La [])) _
    refine sA X0 hx hby d13_0 rfl rfl ?_
    refine st1 _ ?_
    refine XS.lconst X1.here hx rfl (hb hby d13_4) ?_
    refine XS.lcmp X1.here hx rfl (hb hby d13_5) rfl ?_
    refine XS.ifYes X1.here hx rfl (pc0 := 6) (pc' := 23) rfl (hb hby d13_6) rfl (by decide) (by decide) (by decide) ?_
    refine sA X1 hx hby d13_23 rfl rfl ?_
    refine st2 _ ?_
    refine st3.trans ?_
    refine sN X3 hx hby d13_30 (by decide) ?_
    refine sA X3 hx hby d13_33 rfl rfl ?_
    refine sA X3 hx hby d13_34 rfl rfl ?_
    refine st4.trans ?_
    refine st5.trans ?_
    refine sg (pc := 41) (pc' := 45) X5 hx hby d13_41 (by decide) (by decide) ?_
    refine XS.istore X5.here hx rfl (hb hby d13_45) rfl (l' := Lb6) rfl ?_
    refine si X5 hx hby d13_47 rfl ?_
    refine sA X5 hx hby d13_49 rfl rfl ?_
    refine st7 _ ?_
    refine sn X7 hx hby d13_53 (feq (c14 : ¬ ((ownS (ownEnd q3 q5) q3) = (-1 : Int32)))).1 ?_
    refine sA X7 hx hby d13_56 rfl rfl ?_
    refine sA X7 hx hby d13_57 rfl rfl ?_
    refine st8.trans ?_
    refine si X8 hx hby d13_61 rfl ?_
    refine sc X8 hx hby d13_63 ?_
    refine sn X8 hx hby d13_64 (feq (c14 : ¬ ((ownS (ownEnd q3 q5) q3) = (-1 : Int32)))).1 ?_
    refine sA X8 hx hby d13_67 rfl rfl ?_
    refine sA X8 hx hby d13_68 rfl rfl ?_
    show Steps p.tables e below (T8.setTop (mkF m 69 Lb6 [(.ref o2), (.ref o1)])) _
    refine si X8 hx hby d13_69 rfl ?_
    refine st9.trans ?_
    refine sA X9 hx hby d13_74 rfl rfl ?_
    refine XS.dup X9.here hx rfl (hb hby d13_75) rfl rfl ?_
    refine st12 _ ?_
    refine XS.lconst X12.here hx rfl (hb hby d13_79) ?_
    refine XS.ladd X12.here hx rfl (hb hby d13_80) rfl ?_
    refine st14 _ ?_
    exact X14.returnOut hx Bd.returns (hb hby d13_84) hr
  · show Q13_29 Z w o1 o2 q3 o4 q5 o6 k7 o8 h0 n0 _ T14.heap _
    rw [e14]
    exact ⟨rfl, N14, Kf16, F14, t17, t18, t19, t20, t21⟩
theorem d11_32 : decode prog_14_method_4_code 32 = .ok (.aload_n 1, 1) := by decide +kernel
theorem d11_33 : decode prog_14_method_4_code 33 = .ok (.getfield 56, 3) := by decide +kernel
theorem d11_36 : decode prog_14_method_4_code 36 = .ok (.aload_n 1, 1) := by decide +kernel
theorem d11_37 : decode prog_14_method_4_code 37 = .ok (.getfield 60, 3) := by decide +kernel
theorem d11_40 : decode prog_14_method_4_code 40 = .ok (.putfield 60, 3) := by decide +kernel
theorem ef_11_30 (m : MethodId) (o1 : Addr) (o2 : Addr) : entryFrame m #[(.ref o1), (.ref o2)] 2 = mkF m 0 #[.val (.ref o1), .val (.ref o2)] [] := by first | (simp [entryFrame, mkF, argsToLocals, Value.category]; done) | rfl
def Q11_30 (Z : State) (w : Nat → Addr) (o1 : Addr) (o2 : Addr) (q3 : Int32) (o4 : Addr) (h0 : Heap) (n0 : Nat) (v : Option Value) (h : Heap) (L : List Loc) : Prop := v = none ∧ Fr n0 L ∧ own_KL h0 h [⟨o4, Jvm.RoadKit.slotOf Z cs0 cs4 cs1⟩, ⟨o2, Jvm.RoadKit.slotOf Z cs0 cs3 cs1⟩, ⟨o2, Jvm.RoadKit.slotOf Z cs0 cs4 cs1⟩, ⟨o2, Jvm.RoadKit.slotOf Z cs0 "slot" "I"⟩, ⟨o1, Jvm.RoadKit.slotOf Z cs2 "size" "J"⟩] ∧ Fld Z h o2 cs0 "slot" "I" (.int (-1 : Int32)) ∧ Fld Z h o2 cs0 cs3 cs1 .null ∧ Fld Z h o2 cs0 cs4 cs1 .null ∧ Fld Z h o4 cs0 cs4 cs1 .null ∧ Fld Z h o1 cs2 "size" "J" (.long (1 : Int64))
set_option maxRecDepth 65536 in
set_option maxHeartbeats 40000000 in
theorem rm11_30 (l : Launch) (Z : State) (a0 : Array Value) (hw : HW Z a0) (w : Nat → Addr) (hW : Wd Z w) (ws : List Jvm.Cond) (o1 : Addr) (o2 : Addr) (q3 : Int32) (o4 : Addr) (h0 : Heap) (n0 : Nat) (O0 : Old Z n0 h0) (f1 : Fld Z h0 o2 cs0 "slot" "I" (.int q3)) (c2 : ¬ (q3 = (-1 : Int32))) (f3 : Fld Z h0 o2 cs0 cs3 cs1 (.ref o4)) (f4 : Fld Z h0 o2 cs0 cs4 cs1 .null) (f5 : Exa Z h0 o4 cs0) (f6 : Fld Z h0 o4 cs0 cs4 cs1 (.ref o2)) (g7 : n0 ≤ o4) (u8 : o2 ≠ o4) (f9 : Exa Z h0 o2 cs0) (g10 : n0 ≤ o2) (f11 : Fld Z h0 o1 cs2 "size" "J" (.long (2 : Int64))) (u12 : o1 ≠ o4) (u13 : o1 ≠ o2) (f14 : Exa Z h0 o1 cs2) (g15 : n0 ≤ o1) :
    MetFree l ym9 (head1 (Jvm.Cond.code ym9 prog_14_method_4_code 2 none :: ws) ({ frames := 0, cells := 0, slots := 0, locals := 0 } : Room)) (fun a U => a = #[(.ref o1), (.ref o2)] ∧ Z.Warmed39 U.vm ∧ U.heap = h0) (fun _ _ _ _ _ => True) (fun _ U o U' => ∃ v L, o = .returned v ∧ Q11_30 Z w o1 o2 q3 o4 h0 n0 v U'.heap L ∧ FrameEnd U o U' L ({ frames := 0, cells := 0, slots := 0, locals := 0 } : Room).cells ({ frames := 0, cells := 0, slots := 0, locals := 0 } : Room).slots) := by
  refine MetFree.of_bodySF (plainFor_of_name pnc_2) hisR ?_
  intro p e s m args below meth c s₁ Bd hml0 hP hK
  obtain ⟨rfl, hZ, hh⟩ := hP
  have hx := Bd.exec
  have hby := Bd.bytes
  have hml : c.maxLocals = 2 := hml0
  have hown : s.vm.findClass cs2 = some m.cls := findClass_of_methodNamed Bd.named
  have hnm := (name_of_methodNamed Bd.named Bd.method).1
  have X0 : Stand p l e ({ frames := 0, cells := 0, slots := 0, locals := 0 } : Room) s m #[(.ref o1), (.ref o2)] below meth c s₁ [] 0 0 := Stand.of_body Bd
  have e0 : s₁.heap = h0 := by rw [← hh, Bd.state]; rfl
  have N0 := Fr.nil n0
  skip
  have pre0 : ∀ t, Steps p.tables e below (s₁.setTop (mkF m 0 #[.val (.ref o1), .val (.ref o2)] [])) t → Steps p.tables e below (s₁.setTop (entryFrame m #[(.ref o1), (.ref o2)] 2)) t := fun t k => castTop (ef_11_30 m o1 o2) k
  obtain ⟨T1, X1, e1, st1⟩ := getF X0 hx hZ hown (host := "") (Or.inl (wk99 hw)) Via.refl e0 f1 (g := (mkF m 1 #[.val (.ref o1), .val (.ref o2)] [(.ref o2)])) rfl rfl (hb hby d11_1)
  obtain ⟨T2, X2, e2, st2⟩ := getF X1 hx hZ hown (host := "") (Or.inl (wk154 hw)) Via.refl e1 f3 (g := (mkF m 10 #[.val (.ref o1), .val (.ref o2)] [(.ref o2)])) rfl rfl (hb hby d11_10)
  obtain ⟨T3, X3, e3, st3⟩ := getF X2 hx hZ hown (host := "") (Or.inl (wk154 hw)) Via.refl e2 f3 (g := (mkF m 33 #[.val (.ref o1), .val (.ref o2)] [(.ref o2)])) rfl rfl (hb hby d11_33)
  obtain ⟨T4, X4, e4, st4⟩ := getF X3 hx hZ hown (host := "") (Or.inl (wk155 hw)) Via.refl e3 f4 (g := (mkF m 37 #[.val (.ref o1), .val (.ref o2)] [(.ref o2), (.ref o4)])) rfl rfl (hb hby d11_37)
  obtain ⟨T5, h5, X5, e5, W5, st5⟩ := putF X4 hx hZ hown (host := "") (Or.inl (wk155 hw)) Via.refl e4 f6 f5 (Or.inl (wk110 hw)) (wk49 hw) (ty := (.object cs0)) (by decide) rfl rfl (g := (mkF m 40 #[.val (.ref o1), .val (.ref o2)] [.null, (.ref o4)])) rfl rfl (hb hby d11_40)
  have F5 : Fld Z h5 o4 cs0 cs4 cs1 .null := f6.same W5
  have N5 := Fr.snoc X5 N0 g7
  have O6 := O0.wr W5 g7
  have t7 := (f4.other W5 (Or.inl u8))
  obtain ⟨T8, X8, e8, st8⟩ := getF X5 hx hZ hown (host := "") (Or.inl (wk155 hw)) Via.refl e5 t7 (g := (mkF m 44 #[.val (.ref o1), .val (.ref o2)] [(.ref o2)])) rfl rfl (hb hby d11_44)
  have t9 := (f3.other W5 (Or.inl u8))
  have t10 := (f9.wr W5)
  obtain ⟨T11, h11, X11, e11, W11, st11⟩ := putF X8 hx hZ hown (host := "") (Or.inl (wk154 hw)) Via.refl e8 t9 t10 (Or.inl (wk108 hw)) (wk49 hw) (ty := (.object cs0)) (by decide) rfl rfl (g := (mkF m 63 #[.val (.ref o1), .val (.ref o2)] [.null, (.ref o2)])) rfl rfl (hb hby d11_63)
  have F11 : Fld Z h11 o2 cs0 cs3 cs1 .null := t9.same W11
  have N11 := Fr.snoc X11 N5 g10
  have O12 := O6.wr W11 g10
  have t13 := (t7.other W11 (Or.inr (sn78 hw)))
  have t14 := (t10.wr W11)
  obtain ⟨T15, h15, X15, e15, W15, st15⟩ := putF X11 hx hZ hown (host := "") (Or.inl (wk155 hw)) Via.refl e11 t13 t14 (Or.inl (wk110 hw)) (wk49 hw) (ty := (.object cs0)) (by decide) rfl rfl (g := (mkF m 68 #[.val (.ref o1), .val (.ref o2)] [.null, (.ref o2)])) rfl rfl (hb hby d11_68)
  have F15 : Fld Z h15 o2 cs0 cs4 cs1 .null := t13.same W15
  have N15 := Fr.snoc X15 N11 g10
  have O16 := O12.wr W15 g10
  have t17 := (((f1.other W5 (Or.inl u8)).other W11 (Or.inr (sn79 hw))).other W15 (Or.inr (sn80 hw)))
  have t18 := (t14.wr W15)
  obtain ⟨T19, h19, X19, e19, W19, st19⟩ := putF X15 hx hZ hown (host := "") (Or.inl (wk99 hw)) Via.refl e15 t17 t18 (Or.inl (wk63 hw)) (wk49 hw) (ty := .int) (by decide) rfl rfl (g := (mkF m 73 #[.val (.ref o1), .val (.ref o2)] [(.int (-1 : Int32)), (.ref o2)])) rfl rfl (hb hby d11_73)
  have F19 : Fld Z h19 o2 cs0 "slot" "I" (.int (-1 : Int32)) := t17.same W19
  have N19 := Fr.snoc X19 N15 g10
  have O20 := O16.wr W19 g10
  have t21 := ((((f11.other W5 (Or.inl u12)).other W11 (Or.inl u13)).other W15 (Or.inl u13)).other W19 (Or.inl u13))
  obtain ⟨T22, X22, e22, st22⟩ := getF X19 hx hZ hown (host := "") (Or.inl (wk105 hw)) Via.refl e19 t21 (g := (mkF m 78 #[.val (.ref o1), .val (.ref o2)] [(.ref o1), (.ref o1)])) rfl rfl (hb hby d11_78)
  have t23 := ((((f14.wr W5).wr W11).wr W15).wr W19)
  obtain ⟨T24, h24, X24, e24, W24, st24⟩ := putF X22 hx hZ hown (host := "") (Or.inl (wk105 hw)) Via.refl e22 t21 t23 (Or.inl (wk106 hw)) (wk35 hw) (ty := .long) (by decide) rfl rfl (g := (mkF m 83 #[.val (.ref o1), .val (.ref o2)] [(.long (1 : Int64)), (.ref o1)])) rfl rfl (hb hby d11_83)
  have F24 : Fld Z h24 o1 cs2 "size" "J" (.long (1 : Int64)) := t21.same W24
  have N24 := Fr.snoc X24 N19 g15
  have O25 := O20.wr W24 g15
  obtain ⟨fs, hr, hrun, hended, hWm, hsame⟩ := X24.leave (v := none) (fun _ => rfl)
  have Kf26 : own_KL h0 h24 [⟨o4, Jvm.RoadKit.slotOf Z cs0 cs4 cs1⟩, ⟨o2, Jvm.RoadKit.slotOf Z cs0 cs3 cs1⟩, ⟨o2, Jvm.RoadKit.slotOf Z cs0 cs4 cs1⟩, ⟨o2, Jvm.RoadKit.slotOf Z cs0 "slot" "I"⟩, ⟨o1, Jvm.RoadKit.slotOf Z cs2 "size" "J"⟩] := (own_klW (own_klW (own_klW (own_klW (own_klW (own_kl0 h0 [⟨o4, Jvm.RoadKit.slotOf Z cs0 cs4 cs1⟩, ⟨o2, Jvm.RoadKit.slotOf Z cs0 cs3 cs1⟩, ⟨o2, Jvm.RoadKit.slotOf Z cs0 cs4 cs1⟩, ⟨o2, Jvm.RoadKit.slotOf Z cs0 "slot" "I"⟩, ⟨o1, Jvm.RoadKit.slotOf Z cs2 "size" "J"⟩]) W5 (Or.inl (List.mem_of_getElem? (i := 0) rfl))) W11 (Or.inl (List.mem_of_getElem? (i := 1) rfl))) W15 (Or.inl (List.mem_of_getElem? (i := 2) rfl))) W19 (Or.inl (List.mem_of_getElem? (i := 3) rfl))) W24 (Or.inl (List.mem_of_getElem? (i := 4) rfl)))
  have t27 := (F19.other W24 (Or.inl (Ne.symm u13)))
  have t28 := (((F11.other W15 (Or.inr (sn81 hw))).other W19 (Or.inr (sn69 hw))).other W24 (Or.inl (Ne.symm u13)))
  have t29 := ((F15.other W19 (Or.inr (sn77 hw))).other W24 (Or.inl (Ne.symm u13)))
  have t30 := ((((F5.other W11 (Or.inl (Ne.symm u8))).other W15 (Or.inl (Ne.symm u8))).other W19 (Or.inl (Ne.symm u8))).other W24 (Or.inl (Ne.symm u12)))
  refine ⟨_, _, pre0 _ ?_, hrun, hended, _, _, rfl, ?_, ⟨_, rfl⟩, hWm, hsame.mono (by decide) (by decide)⟩
  · show Steps p.tables e below (s₁.setTop (mkF m 0 #[.val (.ref o1), .val (.ref o2)] [])) _
    refine sA X0 hx hby d11_0 rfl rfl ?_
    refine st1 _ ?_
    refine sc X1 hx hby d11_4 ?_
    refine XS.icmpYes X1.here hx rfl (pc0 := 5) (pc' := 9) rfl (hb hby d11_5) rfl (feq (c2 : ¬ (q3 = (-1 : Int32)))).2 (by decide) (by decide) ?_
    refine sA X1 hx hby d11_9 rfl rfl ?_
    refine st2 _ ?_
    refine XS.ifnonnullYes X2.here hx rfl (pc0 := 13) (pc' := 32) rfl (hb hby d11_13) rfl (by decide) (by decide) ?_
    refine sA X2 hx hby d11_32 rfl rfl ?_
    refine st3 _ ?_
    refine sA X3 hx hby d11_36 rfl rfl ?_
    refine st4 _ ?_
    refine st5 _ ?_
    refine sA X5 hx hby d11_43 rfl rfl ?_
    refine st8 _ ?_
    refine XS.ifnullYes X8.here hx rfl (pc0 := 47) (pc' := 61) rfl (hb hby d11_47) rfl (by decide) (by decide) ?_
    refine sA X8 hx hby d11_61 rfl rfl ?_
    refine XS.aconstNull X8.here hx rfl (hb hby d11_62) ?_
    refine st11 _ ?_
    refine sA X11 hx hby d11_66 rfl rfl ?_
    refine XS.aconstNull X11.here hx rfl (hb hby d11_67) ?_
    refine st15 _ ?_
    refine sA X15 hx hby d11_71 rfl rfl ?_
    refine sc X15 hx hby d11_72 ?_
    refine st19 _ ?_
    refine sA X19 hx hby d11_76 rfl rfl ?_
    refine XS.dup X19.here hx rfl (hb hby d11_77) rfl rfl ?_
    refine st22 _ ?_
    refine XS.lconst X22.here hx rfl (hb hby d11_81) ?_
    refine XS.lsub X22.here hx rfl (hb hby d11_82) rfl ?_
    refine st24 _ ?_
    exact X24.returnOut hx Bd.returns (hb hby d11_86) hr
  · show Q11_30 Z w o1 o2 q3 o4 h0 n0 _ T24.heap _
    rw [e24]
    exact ⟨rfl, N24, Kf26, t27, t28, t29, t30, F24⟩
theorem d11_50 : decode prog_14_method_4_code 50 = .ok (.aload_n 1, 1) := by decide +kernel
theorem d11_51 : decode prog_14_method_4_code 51 = .ok (.getfield 60, 3) := by decide +kernel
theorem d11_54 : decode prog_14_method_4_code 54 = .ok (.aload_n 1, 1) := by decide +kernel
theorem d11_55 : decode prog_14_method_4_code 55 = .ok (.getfield 56, 3) := by decide +kernel
theorem d11_58 : decode prog_14_method_4_code 58 = .ok (.putfield 56, 3) := by decide +kernel
theorem ef_11_31 (m : MethodId) (o1 : Addr) (o2 : Addr) : entryFrame m #[(.ref o1), (.ref o2)] 2 = mkF m 0 #[.val (.ref o1), .val (.ref o2)] [] := by first | (simp [entryFrame, mkF, argsToLocals, Value.category]; done) | rfl
def Q11_31 (Z : State) (w : Nat → Addr) (o1 : Addr) (o2 : Addr) (q3 : Int32) (o4 : Addr) (o5 : Addr) (k6 : ClassId) (h0 : Heap) (n0 : Nat) (v : Option Value) (h : Heap) (L : List Loc) : Prop := v = none ∧ Fr n0 L ∧ own_KL h0 h [⟨o4, (q3).toNatClampNeg⟩, ⟨o5, Jvm.RoadKit.slotOf Z cs0 cs3 cs1⟩, ⟨o2, Jvm.RoadKit.slotOf Z cs0 cs3 cs1⟩, ⟨o2, Jvm.RoadKit.slotOf Z cs0 cs4 cs1⟩, ⟨o2, Jvm.RoadKit.slotOf Z cs0 "slot" "I"⟩, ⟨o1, Jvm.RoadKit.slotOf Z cs2 "size" "J"⟩] ∧ Fld Z h o2 cs0 "slot" "I" (.int (-1 : Int32)) ∧ Fld Z h o2 cs0 cs3 cs1 .null ∧ Fld Z h o2 cs0 cs4 cs1 .null ∧ own_Gk Z h o4 k6 (.object cs0) (386 : Int32) q3 (.ref o5) ∧ Fld Z h o5 cs0 cs3 cs1 .null ∧ Fld Z h o1 cs2 "size" "J" (.long (1 : Int64))
set_option maxRecDepth 65536 in
set_option maxHeartbeats 40000000 in
theorem rm11_31 (l : Launch) (Z : State) (a0 : Array Value) (hw : HW Z a0) (w : Nat → Addr) (hW : Wd Z w) (ws : List Jvm.Cond) (o1 : Addr) (o2 : Addr) (q3 : Int32) (o4 : Addr) (o5 : Addr) (k6 : ClassId) (h0 : Heap) (n0 : Nat) (O0 : Old Z n0 h0) (f1 : Fld Z h0 o2 cs0 "slot" "I" (.int q3)) (c2 : ¬ (q3 = (-1 : Int32))) (f3 : Fld Z h0 o2 cs0 cs3 cs1 .null) (f4 : Fld Z h0 o1 cs2 "firsts" cs8 (.ref o4)) (f5 : Fld Z h0 o2 cs0 cs4 cs1 (.ref o5)) (g6 : n0 ≤ o4) (f7 : own_Gk Z h0 o4 k6 (.object cs0) (386 : Int32) q3 (.ref o2)) (c8 : ¬ (q3 < (0 : Int32))) (c9 : q3 < (386 : Int32)) (v10 : Ovr Z k6 cs0) (f11 : Exa Z h0 o5 cs0) (u12 : o2 ≠ o4) (f13 : Fld Z h0 o5 cs0 cs3 cs1 (.ref o2)) (u14 : o5 ≠ o4) (g15 : n0 ≤ o5) (f16 : Exa Z h0 o2 cs0) (u17 : o2 ≠ o5) (g18 : n0 ≤ o2) (f19 : Fld Z h0 o1 cs2 "size" "J" (.long (2 : Int64))) (u20 : o1 ≠ o4) (u21 : o1 ≠ o5) (u22 : o1 ≠ o2) (f23 : Exa Z h0 o1 cs2) (g24 : n0 ≤ o1) :
    MetFree l ym9 (head1 (Jvm.Cond.code ym9 prog_14_method_4_code 2 none :: ws) ({ frames := 0, cells := 0, slots := 0, locals := 0 } : Room)) (fun a U => a = #[(.ref o1), (.ref o2)] ∧ Z.Warmed39 U.vm ∧ U.heap = h0) (fun _ _ _ _ _ => True) (fun _ U o U' => ∃ v L, o = .returned v ∧ Q11_31 Z w o1 o2 q3 o4 o5 k6 h0 n0 v U'.heap L ∧ FrameEnd U o U' L ({ frames := 0, cells := 0, slots := 0, locals := 0 } : Room).cells ({ frames := 0, cells := 0, slots := 0, locals := 0 } : Room).slots) := by
  refine MetFree.of_bodySF (plainFor_of_name pnc_2) hisR ?_
  intro p e s m args below meth c s₁ Bd hml0 hP hK
  obtain ⟨rfl, hZ, hh⟩ := hP
  have hx := Bd.exec
  have hby := Bd.bytes
  have hml : c.maxLocals = 2 := hml0
  have hown : s.vm.findClass cs2 = some m.cls := findClass_of_methodNamed Bd.named
  have hnm := (name_of_methodNamed Bd.named Bd.method).1
  have X0 : Stand p l e ({ frames := 0, cells := 0, slots := 0, locals := 0 } : Room) s m #[(.ref o1), (.ref o2)] below meth c s₁ [] 0 0 := Stand.of_body Bd
  have e0 : s₁.heap = h0 := by rw [← hh, Bd.state]; rfl
  have N0 := Fr.nil n0
  skip
  have pre0 : ∀ t, Steps p.tables e below (s₁.setTop (mkF m 0 #[.val (.ref o1), .val (.ref o2)] [])) t → Steps p.tables e below (s₁.setTop (entryFrame m #[(.ref o1), (.ref o2)] 2)) t := fun t k => castTop (ef_11_31 m o1 o2) k
  obtain ⟨T1, X1, e1, st1⟩ := getF X0 hx hZ hown (host := "") (Or.inl (wk99 hw)) Via.refl e0 f1 (g := (mkF m 1 #[.val (.ref o1), .val (.ref o2)] [(.ref o2)])) rfl rfl (hb hby d11_1)
  obtain ⟨T2, X2, e2, st2⟩ := getF X1 hx hZ hown (host := "") (Or.inl (wk154 hw)) Via.refl e1 f3 (g := (mkF m 10 #[.val (.ref o1), .val (.ref o2)] [(.ref o2)])) rfl rfl (hb hby d11_10)
  obtain ⟨T3, X3, e3, st3⟩ := getF X2 hx hZ hown (host := "") (Or.inl (wk46 hw)) Via.refl e2 f4 (g := (mkF m 17 #[.val (.ref o1), .val (.ref o2)] [(.ref o1)])) rfl rfl (hb hby d11_17)
  obtain ⟨T4, X4, e4, st4⟩ := getF X3 hx hZ hown (host := "") (Or.inl (wk99 hw)) Via.refl e3 f1 (g := (mkF m 21 #[.val (.ref o1), .val (.ref o2)] [(.ref o2), (.ref o4)])) rfl rfl (hb hby d11_21)
  obtain ⟨T5, X5, e5, st5⟩ := getF X4 hx hZ hown (host := "") (Or.inl (wk155 hw)) Via.refl e4 f5 (g := (mkF m 25 #[.val (.ref o1), .val (.ref o2)] [(.ref o2), (.int q3), (.ref o4)])) rfl rfl (hb hby d11_25)
  obtain ⟨cl6, Ar6, cw6, S6, Nn6, Hb6⟩ := id (f7)
  have hin6 : ¬ (q3 < 0 ∨ cl6.slots.size ≤ (q3).toNatClampNeg) := inb_of S6 ⟨c8, c9⟩
  obtain ⟨T6, h6, X6, e6, W6, st6⟩ := stR X5 hx hZ e5 Ar6 (j := q3) hin6 rfl (Sto.ofV Ar6 cw6 v10 (Ins.self f11)) (g := (mkF m 28 #[.val (.ref o1), .val (.ref o2)] [(.ref o5), (.int q3), (.ref o4)])) rfl rfl (hb hby d11_28)
  have V6 : own_Gk Z h6 o4 k6 (.object cs0) (386 : Int32) q3 (.ref o5) := own_gk_set Ar6 cw6 S6 Nn6 W6
  have N6 := Fr.snoc X6 N0 g6
  have O7 := O0.wr W6 g6
  have t8 := (f5.other W6 (Or.inl u12))
  obtain ⟨T9, X9, e9, st9⟩ := getF X6 hx hZ hown (host := "") (Or.inl (wk155 hw)) Via.refl e6 t8 (g := (mkF m 44 #[.val (.ref o1), .val (.ref o2)] [(.ref o2)])) rfl rfl (hb hby d11_44)
  obtain ⟨T10, X10, e10, st10⟩ := getF X9 hx hZ hown (host := "") (Or.inl (wk155 hw)) Via.refl e9 t8 (g := (mkF m 51 #[.val (.ref o1), .val (.ref o2)] [(.ref o2)])) rfl rfl (hb hby d11_51)
  have t11 := (f3.other W6 (Or.inl u12))
  obtain ⟨T12, X12, e12, st12⟩ := getF X10 hx hZ hown (host := "") (Or.inl (wk154 hw)) Via.refl e10 t11 (g := (mkF m 55 #[.val (.ref o1), .val (.ref o2)] [(.ref o2), (.ref o5)])) rfl rfl (hb hby d11_55)
  have t13 := (f13.other W6 (Or.inl u14))
  have t14 := (f11.wr W6)
  obtain ⟨T15, h15, X15, e15, W15, st15⟩ := putF X12 hx hZ hown (host := "") (Or.inl (wk154 hw)) Via.refl e12 t13 t14 (Or.inl (wk108 hw)) (wk49 hw) (ty := (.object cs0)) (by decide) rfl rfl (g := (mkF m 58 #[.val (.ref o1), .val (.ref o2)] [.null, (.ref o5)])) rfl rfl (hb hby d11_58)
  have F15 : Fld Z h15 o5 cs0 cs3 cs1 .null := t13.same W15
  have N15 := Fr.snoc X15 N6 g15
  have O16 := O7.wr W15 g15
  have t17 := (t11.other W15 (Or.inl u17))
  have t18 := ((f16.wr W6).wr W15)
  obtain ⟨T19, h19, X19, e19, W19, st19⟩ := putF X15 hx hZ hown (host := "") (Or.inl (wk154 hw)) Via.refl e15 t17 t18 (Or.inl (wk108 hw)) (wk49 hw) (ty := (.object cs0)) (by decide) rfl rfl (g := (mkF m 63 #[.val (.ref o1), .val (.ref o2)] [.null, (.ref o2)])) rfl rfl (hb hby d11_63)
  have F19 : Fld Z h19 o2 cs0 cs3 cs1 .null := t17.same W19
  have N19 := Fr.snoc X19 N15 g18
  have O20 := O16.wr W19 g18
  have t21 := ((t8.other W15 (Or.inl u17)).other W19 (Or.inr (sn78 hw)))
  have t22 := (t18.wr W19)
  obtain ⟨T23, h23, X23, e23, W23, st23⟩ := putF X19 hx hZ hown (host := "") (Or.inl (wk155 hw)) Via.refl e19 t21 t22 (Or.inl (wk110 hw)) (wk49 hw) (ty := (.object cs0)) (by decide) rfl rfl (g := (mkF m 68 #[.val (.ref o1), .val (.ref o2)] [.null, (.ref o2)])) rfl rfl (hb hby d11_68)
  have F23 : Fld Z h23 o2 cs0 cs4 cs1 .null := t21.same W23
  have N23 := Fr.snoc X23 N19 g18
  have O24 := O20.wr W23 g18
  have t25 := ((((f1.other W6 (Or.inl u12)).other W15 (Or.inl u17)).other W19 (Or.inr (sn79 hw))).other W23 (Or.inr (sn80 hw)))
  have t26 := (t22.wr W23)
  obtain ⟨T27, h27, X27, e27, W27, st27⟩ := putF X23 hx hZ hown (host := "") (Or.inl (wk99 hw)) Via.refl e23 t25 t26 (Or.inl (wk63 hw)) (wk49 hw) (ty := .int) (by decide) rfl rfl (g := (mkF m 73 #[.val (.ref o1), .val (.ref o2)] [(.int (-1 : Int32)), (.ref o2)])) rfl rfl (hb hby d11_73)
  have F27 : Fld Z h27 o2 cs0 "slot" "I" (.int (-1 : Int32)) := t25.same W27
  have N27 := Fr.snoc X27 N23 g18
  have O28 := O24.wr W27 g18
  have t29 := (((((f19.other W6 (Or.inl u20)).other W15 (Or.inl u21)).other W19 (Or.inl u22)).other W23 (Or.inl u22)).other W27 (Or.inl u22))
  obtain ⟨T30, X30, e30, st30⟩ := getF X27 hx hZ hown (host := "") (Or.inl (wk105 hw)) Via.refl e27 t29 (g := (mkF m 78 #[.val (.ref o1), .val (.ref o2)] [(.ref o1), (.ref o1)])) rfl rfl (hb hby d11_78)
  have t31 := (((((f23.wr W6).wr W15).wr W19).wr W23).wr W27)
  obtain ⟨T32, h32, X32, e32, W32, st32⟩ := putF X30 hx hZ hown (host := "") (Or.inl (wk105 hw)) Via.refl e30 t29 t31 (Or.inl (wk106 hw)) (wk35 hw) (ty := .long) (by decide) rfl rfl (g := (mkF m 83 #[.val (.ref o1), .val (.ref o2)] [(.long (1 : Int64)), (.ref o1)])) rfl rfl (hb hby d11_83)
  have F32 : Fld Z h32 o1 cs2 "size" "J" (.long (1 : Int64)) := t29.same W32
  have N32 := Fr.snoc X32 N27 g24
  have O33 := O28.wr W32 g24
  obtain ⟨fs, hr, hrun, hended, hWm, hsame⟩ := X32.leave (v := none) (fun _ => rfl)
  have Kf34 : own_KL h0 h32 [⟨o4, (q3).toNatClampNeg⟩, ⟨o5, Jvm.RoadKit.slotOf Z cs0 cs3 cs1⟩, ⟨o2, Jvm.RoadKit.slotOf Z cs0 cs3 cs1⟩, ⟨o2, Jvm.RoadKit.slotOf Z cs0 cs4 cs1⟩, ⟨o2, Jvm.RoadKit.slotOf Z cs0 "slot" "I"⟩, ⟨o1, Jvm.RoadKit.slotOf Z cs2 "size" "J"⟩] := (own_klW (own_klW (own_klW (own_klW (own_klW (own_klW (own_kl0 h0 [⟨o4, (q3).toNatClampNeg⟩, ⟨o5, Jvm.RoadKit.slotOf Z cs0 cs3 cs1⟩, ⟨o2, Jvm.RoadKit.slotOf Z cs0 cs3 cs1⟩, ⟨o2, Jvm.RoadKit.slotOf Z cs0 cs4 cs1⟩, ⟨o2, Jvm.RoadKit.slotOf Z cs0 "slot" "I"⟩, ⟨o1, Jvm.RoadKit.slotOf Z cs2 "size" "J"⟩]) W6 (Or.inl (List.mem_of_getElem? (i := 0) rfl))) W15 (Or.inl (List.mem_of_getElem? (i := 1) rfl))) W19 (Or.inl (List.mem_of_getElem? (i := 2) rfl))) W23 (Or.inl (List.mem_of_getElem? (i := 3) rfl))) W27 (Or.inl (List.mem_of_getElem? (i := 4) rfl))) W32 (Or.inl (List.mem_of_getElem? (i := 5) rfl)))
  have t35 := (F27.other W32 (Or.inl (Ne.symm u22)))
  have t36 := (((F19.other W23 (Or.inr (sn81 hw))).other W27 (Or.inr (sn69 hw))).other W32 (Or.inl (Ne.symm u22)))
  have t37 := ((F23.other W27 (Or.inr (sn77 hw))).other W32 (Or.inl (Ne.symm u22)))
  have t38 := (own_gk_oth (own_gk_oth (own_gk_oth (own_gk_oth (own_gk_oth V6 W15 (Ne.symm u14)) W19 (Ne.symm u12)) W23 (Ne.symm u12)) W27 (Ne.symm u12)) W32 (Ne.symm u20))
  have t39 := ((((F15.other W19 (Or.inl (Ne.symm u17))).other W23 (Or.inl (Ne.symm u17))).other W27 (Or.inl (Ne.symm u17))).other W32 (Or.inl (Ne.symm u21)))
  refine ⟨_, _, pre0 _ ?_, hrun, hended, _, _, rfl, ?_, ⟨_, rfl⟩, hWm, hsame.mono (by decide) (by decide)⟩
  · show Steps p.tables e below (s₁.setTop (mkF m 0 #[.val (.ref o1), .val (.ref o2)] [])) _
    refine sA X0 hx hby d11_0 rfl rfl ?_
    refine st1 _ ?_
    refine sc X1 hx hby d11_4 ?_
    refine XS.icmpYes X1.here hx rfl (pc0 := 5) (pc' := 9) rfl (hb hby d11_5) rfl (feq (c2 : ¬ (q3 = (-1 : Int32)))).2 (by decide) (by decide) ?_
    refine sA X1 hx hby d11_9 rfl rfl ?_
    refine st2 _ ?_
    refine XS.ifnonnullNo X2.here hx rfl (hb hby d11_13) rfl ?_
    refine sA X2 hx hby d11_16 rfl rfl ?_
    refine st3 _ ?_
    refine sA X3 hx hby d11_20 rfl rfl ?_
    refine st4 _ ?_
    refine sA X4 hx hby d11_24 rfl rfl ?_
    refine st5 _ ?_
    refine st6 _ ?_
    refine sg (pc := 29) (pc' := 43) X6 hx hby d11_29 (by decide) (by decide) ?_
    refine sA X6 hx hby d11_43 rfl rfl ?_
    refine st9 _ ?_
    refine XS.ifnullNo X9.here hx rfl (hb hby d11_47) rfl ?_
    refine sA X9 hx hby d11_50 rfl rfl ?_
    refine st10 _ ?_
    refine sA X10 hx hby d11_54 rfl rfl ?_
    refine st12 _ ?_
    refine st15 _ ?_
    refine sA X15 hx hby d11_61 rfl rfl ?_
    refine XS.aconstNull X15.here hx rfl (hb hby d11_62) ?_
    refine st19 _ ?_
    refine sA X19 hx hby d11_66 rfl rfl ?_
    refine XS.aconstNull X19.here hx rfl (hb hby d11_67) ?_
    refine st23 _ ?_
    refine sA X23 hx hby d11_71 rfl rfl ?_
    refine sc X23 hx hby d11_72 ?_
    refine st27 _ ?_
    refine sA X27 hx hby d11_76 rfl rfl ?_
    refine XS.dup X27.here hx rfl (hb hby d11_77) rfl rfl ?_
    refine st30 _ ?_
    refine XS.lconst X30.here hx rfl (hb hby d11_81) ?_
    refine XS.lsub X30.here hx rfl (hb hby d11_82) rfl ?_
    refine st32 _ ?_
    exact X32.returnOut hx Bd.returns (hb hby d11_86) hr
  · show Q11_31 Z w o1 o2 q3 o4 o5 k6 h0 n0 _ T32.heap _
    rw [e32]
    exact ⟨rfl, N32, Kf34, t35, t36, t37, t38, t39, F32⟩
theorem ef_12_32 (m : MethodId) (o1 : Addr) : entryFrame m #[(.ref o1)] 1 = mkF m 0 #[.val (.ref o1)] [] := by first | (simp [entryFrame, mkF, argsToLocals, Value.category]; done) | rfl
def Q12_32 (Z : State) (w : Nat → Addr) (o1 : Addr) (h0 : Heap) (n0 : Nat) (v : Option Value) (h : Heap) (L : List Loc) : Prop := v = some (.long (2 : Int64)) ∧ Fr n0 L ∧ h = h0
set_option maxRecDepth 65536 in
set_option maxHeartbeats 40000000 in
theorem rm12_32 (l : Launch) (Z : State) (a0 : Array Value) (hw : HW Z a0) (w : Nat → Addr) (hW : Wd Z w) (ws : List Jvm.Cond) (o1 : Addr) (h0 : Heap) (n0 : Nat) (O0 : Old Z n0 h0) (f1 : Fld Z h0 o1 cs2 "size" "J" (.long (2 : Int64))) :
    MetFree l ym10 (head1 (Jvm.Cond.code ym10 prog_14_method_2_code 1 (some .long) :: ws) ({ frames := 0, cells := 0, slots := 0, locals := 0 } : Room)) (fun a U => a = #[(.ref o1)] ∧ Z.Warmed39 U.vm ∧ U.heap = h0) (fun _ _ _ _ _ => True) (fun _ U o U' => ∃ v L, o = .returned v ∧ Q12_32 Z w o1 h0 n0 v U'.heap L ∧ FrameEnd U o U' L ({ frames := 0, cells := 0, slots := 0, locals := 0 } : Room).cells ({ frames := 0, cells := 0, slots := 0, locals := 0 } : Room).slots) := by
  refine MetFree.of_bodySF (plainFor_of_name pnc_2) hisR ?_
  intro p e s m args below meth c s₁ Bd hml0 hP hK
  obtain ⟨rfl, hZ, hh⟩ := hP
  have hx := Bd.exec
  have hby := Bd.bytes
  have hml : c.maxLocals = 1 := hml0
  have hown : s.vm.findClass cs2 = some m.cls := findClass_of_methodNamed Bd.named
  have hnm := (name_of_methodNamed Bd.named Bd.method).1
  have X0 : Stand p l e ({ frames := 0, cells := 0, slots := 0, locals := 0 } : Room) s m #[(.ref o1)] below meth c s₁ [] 0 0 := Stand.of_body Bd
  have e0 : s₁.heap = h0 := by rw [← hh, Bd.state]; rfl
  have N0 := Fr.nil n0
  skip
  have pre0 : ∀ t, Steps p.tables e below (s₁.setTop (mkF m 0 #[.val (.ref o1)] [])) t → Steps p.tables e below (s₁.setTop (entryFrame m #[(.ref o1)] 1)) t := fun t k => castTop (ef_12_32 m o1) k
  obtain ⟨T1, X1, e1, st1⟩ := getF X0 hx hZ hown (host := "") (Or.inl (wk105 hw)) Via.refl e0 f1 (g := (mkF m 1 #[.val (.ref o1)] [(.ref o1)])) rfl rfl (hb hby d12_1)
  obtain ⟨fs, hr, hrun, hended, hWm, hsame⟩ := X1.leave (v := some (.long (2 : Int64))) (fun h => by rw [Bd.returns] at h; cases h)
  refine ⟨_, _, pre0 _ ?_, hrun, hended, _, _, rfl, ?_, ⟨_, rfl⟩, hWm, hsame.mono (by decide) (by decide)⟩
  · show Steps p.tables e below (s₁.setTop (mkF m 0 #[.val (.ref o1)] [])) _
    refine sA X0 hx hby d12_0 rfl rfl ?_
    refine st1 _ ?_
    jvm_step X1.here [X1.here.top, hx, (hb hby d12_4), X1.method', Bd.returns, narrow]
    first | (intro acts; rw [hr _ acts rfl rfl rfl]) | rw [hr _ _ rfl rfl rfl]
    exact Steps.refl _
  · show Q12_32 Z w o1 h0 n0 _ T1.heap _
    rw [e1]
    exact ⟨rfl, N0, rfl⟩
theorem ef_13_33 (m : MethodId) (o1 : Addr) (o2 : Addr) (q3 : Int64) : entryFrame m #[(.ref o1), (.ref o2), (.long q3)] 5 = mkF m 0 #[.val (.ref o1), .val (.ref o2), .val (.long q3), .second, .unset] [] := by first | (simp [entryFrame, mkF, argsToLocals, Value.category]; done) | rfl
def Q13_33 (Z : State) (w : Nat → Addr) (o1 : Addr) (o2 : Addr) (q3 : Int64) (o4 : Addr) (q5 : Int64) (o6 : Addr) (k7 : ClassId) (o8 : Addr) (h0 : Heap) (n0 : Nat) (v : Option Value) (h : Heap) (L : List Loc) : Prop := v = none ∧ Fr n0 L ∧ own_KL h0 h [⟨o2, Jvm.RoadKit.slotOf Z cs0 cs3 cs1⟩, ⟨o2, Jvm.RoadKit.slotOf Z cs0 cs4 cs1⟩, ⟨o8, Jvm.RoadKit.slotOf Z cs0 cs3 cs1⟩, ⟨o6, ((ownS (ownEnd q3 q5) q3)).toNatClampNeg⟩, ⟨o2, Jvm.RoadKit.slotOf Z cs0 "slot" "I"⟩, ⟨o1, Jvm.RoadKit.slotOf Z cs2 "size" "J"⟩] ∧ Fld Z h o1 cs2 "size" "J" (.long (3 : Int64)) ∧ Fld Z h o2 cs0 "slot" "I" (.int (ownS (ownEnd q3 q5) q3)) ∧ own_Gk Z h o6 k7 (.object cs0) (386 : Int32) (ownS (ownEnd q3 q5) q3) (.ref o2) ∧ Fld Z h o2 cs0 cs3 cs1 .null ∧ Fld Z h o2 cs0 cs4 cs1 (.ref o8) ∧ Fld Z h o8 cs0 cs3 cs1 (.ref o2)
set_option maxRecDepth 65536 in
set_option maxHeartbeats 40000000 in
theorem rm13_33 (l : Launch) (Z : State) (a0 : Array Value) (hw : HW Z a0) (w : Nat → Addr) (hW : Wd Z w) (ws : List Jvm.Cond) (o1 : Addr) (o2 : Addr) (q3 : Int64) (o4 : Addr) (q5 : Int64) (o6 : Addr) (k7 : ClassId) (o8 : Addr) (h0 : Heap) (n0 : Nat) (O0 : Old Z n0 h0) (f1 : Fld Z h0 o1 cs2 "size" "J" (.long (2 : Int64))) (f2 : Fld Z h0 o2 cs0 "expiry" cs7 (.ref o4)) (f3 : Exa Z h0 o4 cs5) (f4 : Fld Z h0 o4 cs5 "lifespan" "J" (.long q5)) (c5 : ¬ (q5 = (-1 : Int64))) (f6 : Exa Z h0 o2 cs0) (f7 : Fld Z h0 o2 cs0 "created" "J" (.long q3)) (f8 : Fld Z h0 o2 cs0 "lastUsed" "J" (.long q3)) (f9 : Fld Z h0 o4 cs5 "maxIdle" "J" (.long (-1 : Int64))) (c10 : ¬ ((9223372036854775807 : Int64) < (ownEnd q3 q5))) (f11 : Fld Z h0 o1 cs2 "time" "J" (.long q3)) (f12 : Exa Z h0 o1 cs2) (f13 : Fld Z h0 o2 cs0 "slot" "I" (.int (-1 : Int32))) (c14 : ¬ ((ownS (ownEnd q3 q5) q3) = (-1 : Int32))) (f15 : Fld Z h0 o1 cs2 "firsts" cs8 (.ref o6)) (f16 : own_Gk Z h0 o6 k7 (.object cs0) (386 : Int32) (ownS (ownEnd q3 q5) q3) (.ref o8)) (c17 : ¬ ((ownS (ownEnd q3 q5) q3) < (0 : Int32))) (c18 : (ownS (ownEnd q3 q5) q3) < (386 : Int32)) (f19 : Fld Z h0 o2 cs0 cs3 cs1 .null) (f20 : Fld Z h0 o2 cs0 cs4 cs1 .null) (f21 : Exa Z h0 o8 cs0) (f22 : Fld Z h0 o8 cs0 cs3 cs1 .null) (g23 : n0 ≤ o2) (u24 : o8 ≠ o2) (g25 : n0 ≤ o8) (u26 : o1 ≠ o2) (u27 : o1 ≠ o8) (g28 : n0 ≤ o6) (u29 : o6 ≠ o2) (u30 : o6 ≠ o8) (v31 : Ovr Z k7 cs0) (u32 : o1 ≠ o6) (g33 : n0 ≤ o1) :
    MetFree l ym19 (head1 (Jvm.Cond.code ym19 prog_14_method_3_code 5 none :: ws) ({ frames := 3, cells := 0, slots := 0, locals := 46 } : Room)) (fun a U => a = #[(.ref o1), (.ref o2), (.long q3)] ∧ Z.Warmed39 U.vm ∧ U.heap = h0) (fun _ _ _ _ _ => True) (fun _ U o U' => ∃ v L, o = .returned v ∧ Q13_33 Z w o1 o2 q3 o4 q5 o6 k7 o8 h0 n0 v U'.heap L ∧ FrameEnd U o U' L ({ frames := 3, cells := 0, slots := 0, locals := 46 } : Room).cells ({ frames := 3, cells := 0, slots := 0, locals := 46 } : Room).slots) := by
  refine MetFree.of_bodySF (plainFor_of_name pnc_2) hisR ?_
  intro p e s m args below meth c s₁ Bd hml0 hP hK
  obtain ⟨rfl, hZ, hh⟩ := hP
  have hx := Bd.exec
  have hby := Bd.bytes
  have hml : c.maxLocals = 5 := hml0
  have hown : s.vm.findClass cs2 = some m.cls := findClass_of_methodNamed Bd.named
  have hnm := (name_of_methodNamed Bd.named Bd.method).1
  have X0 : Stand p l e ({ frames := 3, cells := 0, slots := 0, locals := 46 } : Room) s m #[(.ref o1), (.ref o2), (.long q3)] below meth c s₁ [] 0 0 := Stand.of_body Bd
  have e0 : s₁.heap = h0 := by rw [← hh, Bd.state]; rfl
  have N0 := Fr.nil n0
  let La : Array Slot := #[.val (.ref o1), .val (.ref o2), .val (.long q3), .second, .unset]
  have pre0 : ∀ t, Steps p.tables e below (s₁.setTop (mkF m 0 #[.val (.ref o1), .val (.ref o2), .val (.long q3), .second, .unset] [])) t → Steps p.tables e below (s₁.setTop (entryFrame m #[(.ref o1), (.ref o2), (.long q3)] 5)) t := fun t k => castTop (ef_13_33 m o1 o2 q3) k
  obtain ⟨T1, X1, e1, st1⟩ := getF X0 hx hZ hown (host := "") (Or.inl (wk105 hw)) Via.refl e0 f1 (g := (mkF m 1 La [(.ref o1)])) rfl rfl (hb hby d13_1)
  obtain ⟨T2, X2, e2, st2⟩ := getF X1 hx hZ hown (host := "") (Or.inl (wk116 hw)) Via.refl e1 f2 (g := (mkF m 24 La [(.ref o2)])) rfl rfl (hb hby d13_24)
  obtain ⟨cq3, kq3, q3a, q3b, q3c⟩ := isOf hZ e2 f3
  obtain ⟨_, _, ⟨T3, L3, kk3, nn3⟩, -, X3, ⟨Lc3, hQ3, l3, y3, z3⟩, st3⟩ := X2.virtualBack hx (y := ym6) (z := ym6) hown (mvT hZ (wk117 hw)) (mvT hZ (wk87 hw)) (notFace_of_selects (args := #[]) (mvT hZ (wk89 hw))) (mvT hZ (wk89 hw)) (mvT hZ (wk88 hw)) (by decide) (backOf (W := 0) (rm10_7 l Z a0 hw w hW [] o4 q5 h0 n0 O0 f4 c5) hZ (wk90 hw) (wk4 hw) (by decide) (by decide)) q3a q3c (g := (mkF m 27 La [(.ref o4)])) rfl (by rw [hml]; rfl) (Steps.refl _) (argsL := []) (rest := []) (lenOf pds_5 rfl) rfl (by show 2 * 0 + _ ≤ _; exact Nat.le_of_eq rfl) (hb hby d13_27) (fun _ _ => ⟨rfl, e2, (by decide : 0 + 0 ≤ _), (by decide : 0 + 0 ≤ _)⟩)
  dsimp only [Pt.U, Pt.locs, Pt.cells, Pt.slots] at X3 l3 y3 z3 st3 hQ3
  rw [l3, y3, z3] at X3
  obtain ⟨rfl, N3q, e3⟩ := hQ3
  have N3 := Fr.app N0 N3q
  obtain ⟨cq4, kq4, q4a, q4b, q4c⟩ := isOf hZ e3 f6
  obtain ⟨_, _, ⟨T4, L4, kk4, nn4⟩, -, X4, ⟨Lc4, hQ4, l4, y4, z4⟩, st4⟩ := X3.virtualBack hx (y := ym14) (z := ym14) hown (mvT hZ (wk118 hw)) (mvT hZ (wk119 hw)) (notFace_of_selects (args := #[]) (mvT hZ (wk121 hw))) (mvT hZ (wk121 hw)) (mvT hZ (wk120 hw)) (by decide) (backOf (W := 1) (rm14_18 l Z a0 hw w hW [] o2 o4 q3 q5 h0 n0 O0 f2 f7 f8 f3 f4 f9 c10) hZ (wk122 hw) (wk50 hw) (by decide) (by decide)) q4a q4c (g := (mkF m 35 La [(.ref o2), (.ref o1)])) rfl (by rw [hml]; rfl) (Steps.refl _) (argsL := []) (rest := [(.ref o1)]) (lenOf pds_9 rfl) rfl (by show 2 * 0 + _ ≤ _; exact Nat.le_of_eq rfl) (hb hby d13_35) (fun _ _ => ⟨rfl, e3, (by decide : 0 + 0 ≤ _), (by decide : 0 + 0 ≤ _)⟩)
  dsimp only [Pt.U, Pt.locs, Pt.cells, Pt.slots] at X4 l4 y4 z4 st4 hQ4
  rw [l4, y4, z4] at X4
  obtain ⟨rfl, N4q, e4⟩ := hQ4
  have N4 := Fr.app N3 N4q
  obtain ⟨cq5, cw5, cw5'⟩ := f12.cell
  obtain ⟨_, _, ⟨T5, L5, kk5, nn5⟩, -, X5, ⟨Lc5, hQ5, l5, y5, z5⟩, st5⟩ := X4.privateBack hx (y := ym17) hown (mvT hZ (wk136 hw)) (mvT hZ (wk137 hw)) (mvT hZ (own_selp (y := ym17) (wk35 hw) (wk138 hw) (wk137 hw) (by decide))) (Cond.privateMethod_at (mvP hZ (wk138 hw) (args := #[]))) (mvT hZ (wk139 hw)) (by decide) (backOf (W := 0) (rm18_21 l Z a0 hw w hW [] o1 (ownEnd q3 q5) q3 h0 n0 O0 f11) hZ (wk139 hw) (wk36 hw) (by decide) (by decide)) (g := (mkF m 38 La [(.long (ownEnd q3 q5)), (.ref o1)])) rfl (by rw [hml]; rfl) (Steps.refl _) (a := o1) (by rw [e4]; exact cw5) cw5' (argsL := [(.long (ownEnd q3 q5))]) (rest := []) (lenOf pds_12 rfl) rfl (by show 2 * 0 + _ ≤ _; exact Nat.le_of_eq rfl) (hb hby d13_38) (fun _ _ => ⟨rfl, e4, (by decide : 0 + 0 ≤ _), (by decide : 0 + 0 ≤ _)⟩)
  dsimp only [Pt.U, Pt.locs, Pt.cells, Pt.slots] at X5 l5 y5 z5 st5 hQ5
  rw [l5, y5, z5] at X5
  obtain ⟨rfl, N5q, e5⟩ := hQ5
  have N5 := Fr.app N4 N5q
  let Lb6 : Array Slot := #[.val (.ref o1), .val (.ref o2), .val (.long q3), .second, .val (.int (ownS (ownEnd q3 q5) q3))]
  obtain ⟨T7, X7, e7, st7⟩ := getF X5 hx hZ hown (host := "") (Or.inl (wk99 hw)) Via.refl e5 f13 (g := (mkF m 50 Lb6 [(.ref o2), (.int (ownS (ownEnd q3 q5) q3))])) rfl rfl (hb hby d13_50)
  obtain ⟨cq8, kq8, q8a, q8b, q8c⟩ := isOf hZ e7 f12
  obtain ⟨_, _, ⟨T8, L8, kk8, nn8⟩, -, X8, ⟨Lc8, hQ8, l8, y8, z8⟩, st8⟩ := X7.virtualBack hx (y := ym9) (z := ym9) hown (mvT hZ (wk149 hw)) (mvT hZ (wk95 hw)) (notFace_of_selects (args := #[]) (mvT hZ (wk97 hw))) (mvT hZ (wk97 hw)) (mvT hZ (wk96 hw)) (by decide) (backOf (W := 0) (rm11_12 l Z a0 hw w hW [] o1 o2 h0 n0 O0 f13) hZ (wk98 hw) (wk36 hw) (by decide) (by decide)) q8a q8c (g := (mkF m 58 Lb6 [(.ref o2), (.ref o1)])) rfl (by rw [hml]; rfl) (Steps.refl _) (argsL := [(.ref o2)]) (rest := []) (lenOf pds_8 rfl) rfl (by show 2 * 0 + _ ≤ _; exact Nat.le_of_eq rfl) (hb hby d13_58) (fun _ _ => ⟨rfl, e7, (by decide : 0 + 0 ≤ _), (by decide : 0 + 0 ≤ _)⟩)
  dsimp only [Pt.U, Pt.locs, Pt.cells, Pt.slots] at X8 l8 y8 z8 st8 hQ8
  rw [l8, y8, z8] at X8
  obtain ⟨rfl, N8q, e8⟩ := hQ8
  have N8 := Fr.app N5 N8q
  obtain ⟨cq9, cw9, cw9'⟩ := f12.cell
  obtain ⟨_, _, ⟨T9, L9, kk9, nn9⟩, -, X9, ⟨Lc9, hQ9, l9, y9, z9⟩, st9⟩ := X8.privateBack hx (y := ym18) hown (mvT hZ (wk150 hw)) (mvT hZ (wk151 hw)) (mvT hZ (own_selp (y := ym18) (wk35 hw) (wk152 hw) (wk151 hw) (by decide))) (Cond.privateMethod_at (mvP hZ (wk152 hw) (args := #[]))) (mvT hZ (wk153 hw)) (by decide) (backOf (W := 0) (rm21_28 l Z a0 hw w hW [] o1 o2 (ownS (ownEnd q3 q5) q3) o6 k7 o8 h0 n0 O0 f15 f16 c17 c18 f6 f19 g23 f20 f21 f22 u24 g25 u26 u27 g28 u29 u30 v31 f13) hZ (wk153 hw) (wk36 hw) (by decide) (by decide)) (g := (mkF m 71 Lb6 [(.int (ownS (ownEnd q3 q5) q3)), (.ref o2), (.ref o1)])) rfl (by rw [hml]; rfl) (Steps.refl _) (a := o1) (by rw [e8]; exact cw9) cw9' (argsL := [(.ref o2), (.int (ownS (ownEnd q3 q5) q3))]) (rest := []) (lenOf pds_13 rfl) rfl (by show 2 * 0 + _ ≤ _; exact Nat.le_of_eq rfl) (hb hby d13_71) (fun _ _ => ⟨rfl, e8, (by decide : 0 + 0 ≤ _), (by decide : 0 + 0 ≤ _)⟩)
  dsimp only [Pt.U, Pt.locs, Pt.cells, Pt.slots] at X9 l9 y9 z9 st9 hQ9
  rw [l9, y9, z9] at X9
  obtain ⟨rfl, N9q, K9, r9_0, r9_1, r9_2, r9_3, r9_4⟩ := hQ9
  have N9 := Fr.app N8 N9q
  have O10 := own_old O0 K9 (own_ngc g23 (own_ngc g23 (own_ngc g25 (own_ngc g28 (own_ngc g23 own_ng0)))))
  have t11 := (own_fld f1 K9 (own_nlb u26 (own_nlb u26 (own_nlb u27 (own_nlb u32 (own_nlb u26 own_nl0))))))
  obtain ⟨T12, X12, e12, st12⟩ := getF X9 hx hZ hown (host := "") (Or.inl (wk105 hw)) Via.refl rfl t11 (g := (mkF m 76 Lb6 [(.ref o1), (.ref o1)])) rfl rfl (hb hby d13_76)
  have t13 := (own_exa f12 K9)
  obtain ⟨T14, h14, X14, e14, W14, st14⟩ := putF X12 hx hZ hown (host := "") (Or.inl (wk105 hw)) Via.refl e12 t11 t13 (Or.inl (wk106 hw)) (wk35 hw) (ty := .long) (by decide) rfl rfl (g := (mkF m 81 Lb6 [(.long (3 : Int64)), (.ref o1)])) rfl rfl (hb hby d13_81)
  have F14 : Fld Z h14 o1 cs2 "size" "J" (.long (3 : Int64)) := t11.same W14
  have N14 := Fr.snoc X14 N9 g33
  have O15 := O10.wr W14 g33
  obtain ⟨fs, hr, hrun, hended, hWm, hsame⟩ := X14.leave (v := none) (fun _ => rfl)
  have Kf16 : own_KL h0 h14 [⟨o2, Jvm.RoadKit.slotOf Z cs0 cs3 cs1⟩, ⟨o2, Jvm.RoadKit.slotOf Z cs0 cs4 cs1⟩, ⟨o8, Jvm.RoadKit.slotOf Z cs0 cs3 cs1⟩, ⟨o6, ((ownS (ownEnd q3 q5) q3)).toNatClampNeg⟩, ⟨o2, Jvm.RoadKit.slotOf Z cs0 "slot" "I"⟩, ⟨o1, Jvm.RoadKit.slotOf Z cs2 "size" "J"⟩] := (own_klW (own_klT (own_kl0 h0 [⟨o2, Jvm.RoadKit.slotOf Z cs0 cs3 cs1⟩, ⟨o2, Jvm.RoadKit.slotOf Z cs0 cs4 cs1⟩, ⟨o8, Jvm.RoadKit.slotOf Z cs0 cs3 cs1⟩, ⟨o6, ((ownS (ownEnd q3 q5) q3)).toNatClampNeg⟩, ⟨o2, Jvm.RoadKit.slotOf Z cs0 "slot" "I"⟩, ⟨o1, Jvm.RoadKit.slotOf Z cs2 "size" "J"⟩]) K9 (own_kac (Or.inl (List.mem_of_getElem? (i := 0) rfl)) (own_kac (Or.inl (List.mem_of_getElem? (i := 1) rfl)) (own_kac (Or.inl (List.mem_of_getElem? (i := 2) rfl)) (own_kac (Or.inl (List.mem_of_getElem? (i := 3) rfl)) (own_kac (Or.inl (List.mem_of_getElem? (i := 4) rfl)) own_ka0)))))) W14 (Or.inl (List.mem_of_getElem? (i := 5) rfl)))
  have t17 := (r9_4.other W14 (Or.inl (Ne.symm u26)))
  have t18 := (own_gk_oth r9_0 W14 (Ne.symm u32))
  have t19 := (r9_1.other W14 (Or.inl (Ne.symm u26)))
  have t20 := (r9_2.other W14 (Or.inl (Ne.symm u26)))
  have t21 := (r9_3.other W14 (Or.inl (Ne.symm u27)))
  refine ⟨_, _, pre0 _ ?_, hrun, hended, _, _, rfl, ?_, ⟨_, rfl⟩, hWm, hsame.mono (by decide) (by decide)⟩
  · show Steps p.tables e below (s₁.setTop (mkF m 0 La [])) _
    refine sA X0 hx hby d13_0 rfl rfl ?_
    refine st1 _ ?_
    refine XS.lconst X1.here hx rfl (hb hby d13_4) ?_
    refine XS.lcmp X1.here hx rfl (hb hby d13_5) rfl ?_
    refine XS.ifYes X1.here hx rfl (pc0 := 6) (pc' := 23) rfl (hb hby d13_6) rfl (by decide) (by decide) (by decide) ?_
    refine sA X1 hx hby d13_23 rfl rfl ?_
    refine st2 _ ?_
    refine st3.trans ?_
    refine sN X3 hx hby d13_30 (by decide) ?_
    refine sA X3 hx hby d13_33 rfl rfl ?_
    refine sA X3 hx hby d13_34 rfl rfl ?_
    refine st4.trans ?_
    refine st5.trans ?_
    refine sg (pc := 41) (pc' := 45) X5 hx hby d13_41 (by decide) (by decide) ?_
    refine XS.istore X5.here hx rfl (hb hby d13_45) rfl (l' := Lb6) rfl ?_
    refine si X5 hx hby d13_47 rfl ?_
    refine sA X5 hx hby d13_49 rfl rfl ?_
    refine st7 _ ?_
    refine sn X7 hx hby d13_53 (feq (c14 : ¬ ((ownS (ownEnd q3 q5) q3) = (-1 : Int32)))).1 ?_
    refine sA X7 hx hby d13_56 rfl rfl ?_
    refine sA X7 hx hby d13_57 rfl rfl ?_
    refine st8.trans ?_
    refine si X8 hx hby d13_61 rfl ?_
    refine sc X8 hx hby d13_63 ?_
    refine sn X8 hx hby d13_64 (feq (c14 : ¬ ((ownS (ownEnd q3 q5) q3) = (-1 : Int32)))).1 ?_
    refine sA X8 hx hby d13_67 rfl rfl ?_
    refine sA X8 hx hby d13_68 rfl rfl ?_
    show Steps p.tables e below (T8.setTop (mkF m 69 Lb6 [(.ref o2), (.ref o1)])) _
    refine si X8 hx hby d13_69 rfl ?_
    refine st9.trans ?_
    refine sA X9 hx hby d13_74 rfl rfl ?_
    refine XS.dup X9.here hx rfl (hb hby d13_75) rfl rfl ?_
    refine st12 _ ?_
    refine XS.lconst X12.here hx rfl (hb hby d13_79) ?_
    refine XS.ladd X12.here hx rfl (hb hby d13_80) rfl ?_
    refine st14 _ ?_
    exact X14.returnOut hx Bd.returns (hb hby d13_84) hr
  · show Q13_33 Z w o1 o2 q3 o4 q5 o6 k7 o8 h0 n0 _ T14.heap _
    rw [e14]
    exact ⟨rfl, N14, Kf16, F14, t17, t18, t19, t20, t21⟩
theorem ef_11_34 (m : MethodId) (o1 : Addr) (o2 : Addr) : entryFrame m #[(.ref o1), (.ref o2)] 2 = mkF m 0 #[.val (.ref o1), .val (.ref o2)] [] := by first | (simp [entryFrame, mkF, argsToLocals, Value.category]; done) | rfl
def Q11_34 (Z : State) (w : Nat → Addr) (o1 : Addr) (o2 : Addr) (q3 : Int32) (o4 : Addr) (h0 : Heap) (n0 : Nat) (v : Option Value) (h : Heap) (L : List Loc) : Prop := v = none ∧ Fr n0 L ∧ own_KL h0 h [⟨o4, Jvm.RoadKit.slotOf Z cs0 cs4 cs1⟩, ⟨o2, Jvm.RoadKit.slotOf Z cs0 cs3 cs1⟩, ⟨o2, Jvm.RoadKit.slotOf Z cs0 cs4 cs1⟩, ⟨o2, Jvm.RoadKit.slotOf Z cs0 "slot" "I"⟩, ⟨o1, Jvm.RoadKit.slotOf Z cs2 "size" "J"⟩] ∧ Fld Z h o2 cs0 "slot" "I" (.int (-1 : Int32)) ∧ Fld Z h o2 cs0 cs3 cs1 .null ∧ Fld Z h o2 cs0 cs4 cs1 .null ∧ Fld Z h o4 cs0 cs4 cs1 .null ∧ Fld Z h o1 cs2 "size" "J" (.long (2 : Int64))
set_option maxRecDepth 65536 in
set_option maxHeartbeats 40000000 in
theorem rm11_34 (l : Launch) (Z : State) (a0 : Array Value) (hw : HW Z a0) (w : Nat → Addr) (hW : Wd Z w) (ws : List Jvm.Cond) (o1 : Addr) (o2 : Addr) (q3 : Int32) (o4 : Addr) (h0 : Heap) (n0 : Nat) (O0 : Old Z n0 h0) (f1 : Fld Z h0 o2 cs0 "slot" "I" (.int q3)) (c2 : ¬ (q3 = (-1 : Int32))) (f3 : Fld Z h0 o2 cs0 cs3 cs1 (.ref o4)) (f4 : Fld Z h0 o2 cs0 cs4 cs1 .null) (f5 : Exa Z h0 o4 cs0) (f6 : Fld Z h0 o4 cs0 cs4 cs1 (.ref o2)) (g7 : n0 ≤ o4) (u8 : o2 ≠ o4) (f9 : Exa Z h0 o2 cs0) (g10 : n0 ≤ o2) (f11 : Fld Z h0 o1 cs2 "size" "J" (.long (3 : Int64))) (u12 : o1 ≠ o4) (u13 : o1 ≠ o2) (f14 : Exa Z h0 o1 cs2) (g15 : n0 ≤ o1) :
    MetFree l ym9 (head1 (Jvm.Cond.code ym9 prog_14_method_4_code 2 none :: ws) ({ frames := 0, cells := 0, slots := 0, locals := 0 } : Room)) (fun a U => a = #[(.ref o1), (.ref o2)] ∧ Z.Warmed39 U.vm ∧ U.heap = h0) (fun _ _ _ _ _ => True) (fun _ U o U' => ∃ v L, o = .returned v ∧ Q11_34 Z w o1 o2 q3 o4 h0 n0 v U'.heap L ∧ FrameEnd U o U' L ({ frames := 0, cells := 0, slots := 0, locals := 0 } : Room).cells ({ frames := 0, cells := 0, slots := 0, locals := 0 } : Room).slots) := by
  refine MetFree.of_bodySF (plainFor_of_name pnc_2) hisR ?_
  intro p e s m args below meth c s₁ Bd hml0 hP hK
  obtain ⟨rfl, hZ, hh⟩ := hP
  have hx := Bd.exec
  have hby := Bd.bytes
  have hml : c.maxLocals = 2 := hml0
  have hown : s.vm.findClass cs2 = some m.cls := findClass_of_methodNamed Bd.named
  have hnm := (name_of_methodNamed Bd.named Bd.method).1
  have X0 : Stand p l e ({ frames := 0, cells := 0, slots := 0, locals := 0 } : Room) s m #[(.ref o1), (.ref o2)] below meth c s₁ [] 0 0 := Stand.of_body Bd
  have e0 : s₁.heap = h0 := by rw [← hh, Bd.state]; rfl
  have N0 := Fr.nil n0
  skip
  have pre0 : ∀ t, Steps p.tables e below (s₁.setTop (mkF m 0 #[.val (.ref o1), .val (.ref o2)] [])) t → Steps p.tables e below (s₁.setTop (entryFrame m #[(.ref o1), (.ref o2)] 2)) t := fun t k => castTop (ef_11_34 m o1 o2) k
  obtain ⟨T1, X1, e1, st1⟩ := getF X0 hx hZ hown (host := "") (Or.inl (wk99 hw)) Via.refl e0 f1 (g := (mkF m 1 #[.val (.ref o1), .val (.ref o2)] [(.ref o2)])) rfl rfl (hb hby d11_1)
  obtain ⟨T2, X2, e2, st2⟩ := getF X1 hx hZ hown (host := "") (Or.inl (wk154 hw)) Via.refl e1 f3 (g := (mkF m 10 #[.val (.ref o1), .val (.ref o2)] [(.ref o2)])) rfl rfl (hb hby d11_10)
  obtain ⟨T3, X3, e3, st3⟩ := getF X2 hx hZ hown (host := "") (Or.inl (wk154 hw)) Via.refl e2 f3 (g := (mkF m 33 #[.val (.ref o1), .val (.ref o2)] [(.ref o2)])) rfl rfl (hb hby d11_33)
  obtain ⟨T4, X4, e4, st4⟩ := getF X3 hx hZ hown (host := "") (Or.inl (wk155 hw)) Via.refl e3 f4 (g := (mkF m 37 #[.val (.ref o1), .val (.ref o2)] [(.ref o2), (.ref o4)])) rfl rfl (hb hby d11_37)
  obtain ⟨T5, h5, X5, e5, W5, st5⟩ := putF X4 hx hZ hown (host := "") (Or.inl (wk155 hw)) Via.refl e4 f6 f5 (Or.inl (wk110 hw)) (wk49 hw) (ty := (.object cs0)) (by decide) rfl rfl (g := (mkF m 40 #[.val (.ref o1), .val (.ref o2)] [.null, (.ref o4)])) rfl rfl (hb hby d11_40)
  have F5 : Fld Z h5 o4 cs0 cs4 cs1 .null := f6.same W5
  have N5 := Fr.snoc X5 N0 g7
  have O6 := O0.wr W5 g7
  have t7 := (f4.other W5 (Or.inl u8))
  obtain ⟨T8, X8, e8, st8⟩ := getF X5 hx hZ hown (host := "") (Or.inl (wk155 hw)) Via.refl e5 t7 (g := (mkF m 44 #[.val (.ref o1), .val (.ref o2)] [(.ref o2)])) rfl rfl (hb hby d11_44)
  have t9 := (f3.other W5 (Or.inl u8))
  have t10 := (f9.wr W5)
  obtain ⟨T11, h11, X11, e11, W11, st11⟩ := putF X8 hx hZ hown (host := "") (Or.inl (wk154 hw)) Via.refl e8 t9 t10 (Or.inl (wk108 hw)) (wk49 hw) (ty := (.object cs0)) (by decide) rfl rfl (g := (mkF m 63 #[.val (.ref o1), .val (.ref o2)] [.null, (.ref o2)])) rfl rfl (hb hby d11_63)
  have F11 : Fld Z h11 o2 cs0 cs3 cs1 .null := t9.same W11
  have N11 := Fr.snoc X11 N5 g10
  have O12 := O6.wr W11 g10
  have t13 := (t7.other W11 (Or.inr (sn78 hw)))
  have t14 := (t10.wr W11)
  obtain ⟨T15, h15, X15, e15, W15, st15⟩ := putF X11 hx hZ hown (host := "") (Or.inl (wk155 hw)) Via.refl e11 t13 t14 (Or.inl (wk110 hw)) (wk49 hw) (ty := (.object cs0)) (by decide) rfl rfl (g := (mkF m 68 #[.val (.ref o1), .val (.ref o2)] [.null, (.ref o2)])) rfl rfl (hb hby d11_68)
  have F15 : Fld Z h15 o2 cs0 cs4 cs1 .null := t13.same W15
  have N15 := Fr.snoc X15 N11 g10
  have O16 := O12.wr W15 g10
  have t17 := (((f1.other W5 (Or.inl u8)).other W11 (Or.inr (sn79 hw))).other W15 (Or.inr (sn80 hw)))
  have t18 := (t14.wr W15)
  obtain ⟨T19, h19, X19, e19, W19, st19⟩ := putF X15 hx hZ hown (host := "") (Or.inl (wk99 hw)) Via.refl e15 t17 t18 (Or.inl (wk63 hw)) (wk49 hw) (ty := .int) (by decide) rfl rfl (g := (mkF m 73 #[.val (.ref o1), .val (.ref o2)] [(.int (-1 : Int32)), (.ref o2)])) rfl rfl (hb hby d11_73)
  have F19 : Fld Z h19 o2 cs0 "slot" "I" (.int (-1 : Int32)) := t17.same W19
  have N19 := Fr.snoc X19 N15 g10
  have O20 := O16.wr W19 g10
  have t21 := ((((f11.other W5 (Or.inl u12)).other W11 (Or.inl u13)).other W15 (Or.inl u13)).other W19 (Or.inl u13))
  obtain ⟨T22, X22, e22, st22⟩ := getF X19 hx hZ hown (host := "") (Or.inl (wk105 hw)) Via.refl e19 t21 (g := (mkF m 78 #[.val (.ref o1), .val (.ref o2)] [(.ref o1), (.ref o1)])) rfl rfl (hb hby d11_78)
  have t23 := ((((f14.wr W5).wr W11).wr W15).wr W19)
  obtain ⟨T24, h24, X24, e24, W24, st24⟩ := putF X22 hx hZ hown (host := "") (Or.inl (wk105 hw)) Via.refl e22 t21 t23 (Or.inl (wk106 hw)) (wk35 hw) (ty := .long) (by decide) rfl rfl (g := (mkF m 83 #[.val (.ref o1), .val (.ref o2)] [(.long (2 : Int64)), (.ref o1)])) rfl rfl (hb hby d11_83)
  have F24 : Fld Z h24 o1 cs2 "size" "J" (.long (2 : Int64)) := t21.same W24
  have N24 := Fr.snoc X24 N19 g15
  have O25 := O20.wr W24 g15
  obtain ⟨fs, hr, hrun, hended, hWm, hsame⟩ := X24.leave (v := none) (fun _ => rfl)
  have Kf26 : own_KL h0 h24 [⟨o4, Jvm.RoadKit.slotOf Z cs0 cs4 cs1⟩, ⟨o2, Jvm.RoadKit.slotOf Z cs0 cs3 cs1⟩, ⟨o2, Jvm.RoadKit.slotOf Z cs0 cs4 cs1⟩, ⟨o2, Jvm.RoadKit.slotOf Z cs0 "slot" "I"⟩, ⟨o1, Jvm.RoadKit.slotOf Z cs2 "size" "J"⟩] := (own_klW (own_klW (own_klW (own_klW (own_klW (own_kl0 h0 [⟨o4, Jvm.RoadKit.slotOf Z cs0 cs4 cs1⟩, ⟨o2, Jvm.RoadKit.slotOf Z cs0 cs3 cs1⟩, ⟨o2, Jvm.RoadKit.slotOf Z cs0 cs4 cs1⟩, ⟨o2, Jvm.RoadKit.slotOf Z cs0 "slot" "I"⟩, ⟨o1, Jvm.RoadKit.slotOf Z cs2 "size" "J"⟩]) W5 (Or.inl (List.mem_of_getElem? (i := 0) rfl))) W11 (Or.inl (List.mem_of_getElem? (i := 1) rfl))) W15 (Or.inl (List.mem_of_getElem? (i := 2) rfl))) W19 (Or.inl (List.mem_of_getElem? (i := 3) rfl))) W24 (Or.inl (List.mem_of_getElem? (i := 4) rfl)))
  have t27 := (F19.other W24 (Or.inl (Ne.symm u13)))
  have t28 := (((F11.other W15 (Or.inr (sn81 hw))).other W19 (Or.inr (sn69 hw))).other W24 (Or.inl (Ne.symm u13)))
  have t29 := ((F15.other W19 (Or.inr (sn77 hw))).other W24 (Or.inl (Ne.symm u13)))
  have t30 := ((((F5.other W11 (Or.inl (Ne.symm u8))).other W15 (Or.inl (Ne.symm u8))).other W19 (Or.inl (Ne.symm u8))).other W24 (Or.inl (Ne.symm u12)))
  refine ⟨_, _, pre0 _ ?_, hrun, hended, _, _, rfl, ?_, ⟨_, rfl⟩, hWm, hsame.mono (by decide) (by decide)⟩
  · show Steps p.tables e below (s₁.setTop (mkF m 0 #[.val (.ref o1), .val (.ref o2)] [])) _
    refine sA X0 hx hby d11_0 rfl rfl ?_
    refine st1 _ ?_
    refine sc X1 hx hby d11_4 ?_
    refine XS.icmpYes X1.here hx rfl (pc0 := 5) (pc' := 9) rfl (hb hby d11_5) rfl (feq (c2 : ¬ (q3 = (-1 : Int32)))).2 (by decide) (by decide) ?_
    refine sA X1 hx hby d11_9 rfl rfl ?_
    refine st2 _ ?_
    refine XS.ifnonnullYes X2.here hx rfl (pc0 := 13) (pc' := 32) rfl (hb hby d11_13) rfl (by decide) (by decide) ?_
    refine sA X2 hx hby d11_32 rfl rfl ?_
    refine st3 _ ?_
    refine sA X3 hx hby d11_36 rfl rfl ?_
    refine st4 _ ?_
    refine st5 _ ?_
    refine sA X5 hx hby d11_43 rfl rfl ?_
    refine st8 _ ?_
    refine XS.ifnullYes X8.here hx rfl (pc0 := 47) (pc' := 61) rfl (hb hby d11_47) rfl (by decide) (by decide) ?_
    refine sA X8 hx hby d11_61 rfl rfl ?_
    refine XS.aconstNull X8.here hx rfl (hb hby d11_62) ?_
    refine st11 _ ?_
    refine sA X11 hx hby d11_66 rfl rfl ?_
    refine XS.aconstNull X11.here hx rfl (hb hby d11_67) ?_
    refine st15 _ ?_
    refine sA X15 hx hby d11_71 rfl rfl ?_
    refine sc X15 hx hby d11_72 ?_
    refine st19 _ ?_
    refine sA X19 hx hby d11_76 rfl rfl ?_
    refine XS.dup X19.here hx rfl (hb hby d11_77) rfl rfl ?_
    refine st22 _ ?_
    refine XS.lconst X22.here hx rfl (hb hby d11_81) ?_
    refine XS.lsub X22.here hx rfl (hb hby d11_82) rfl ?_
    refine st24 _ ?_
    exact X24.returnOut hx Bd.returns (hb hby d11_86) hr
  · show Q11_34 Z w o1 o2 q3 o4 h0 n0 _ T24.heap _
    rw [e24]
    exact ⟨rfl, N24, Kf26, t27, t28, t29, t30, F24⟩
theorem ef_11_35 (m : MethodId) (o1 : Addr) (o2 : Addr) : entryFrame m #[(.ref o1), (.ref o2)] 2 = mkF m 0 #[.val (.ref o1), .val (.ref o2)] [] := by first | (simp [entryFrame, mkF, argsToLocals, Value.category]; done) | rfl
def Q11_35 (Z : State) (w : Nat → Addr) (o1 : Addr) (o2 : Addr) (q3 : Int32) (o4 : Addr) (o5 : Addr) (h0 : Heap) (n0 : Nat) (v : Option Value) (h : Heap) (L : List Loc) : Prop := v = none ∧ Fr n0 L ∧ own_KL h0 h [⟨o4, Jvm.RoadKit.slotOf Z cs0 cs4 cs1⟩, ⟨o5, Jvm.RoadKit.slotOf Z cs0 cs3 cs1⟩, ⟨o2, Jvm.RoadKit.slotOf Z cs0 cs3 cs1⟩, ⟨o2, Jvm.RoadKit.slotOf Z cs0 cs4 cs1⟩, ⟨o2, Jvm.RoadKit.slotOf Z cs0 "slot" "I"⟩, ⟨o1, Jvm.RoadKit.slotOf Z cs2 "size" "J"⟩] ∧ Fld Z h o2 cs0 "slot" "I" (.int (-1 : Int32)) ∧ Fld Z h o2 cs0 cs3 cs1 .null ∧ Fld Z h o2 cs0 cs4 cs1 .null ∧ Fld Z h o4 cs0 cs4 cs1 (.ref o5) ∧ Fld Z h o5 cs0 cs3 cs1 (.ref o4) ∧ Fld Z h o1 cs2 "size" "J" (.long (2 : Int64))
set_option maxRecDepth 65536 in
set_option maxHeartbeats 40000000 in
theorem rm11_35 (l : Launch) (Z : State) (a0 : Array Value) (hw : HW Z a0) (w : Nat → Addr) (hW : Wd Z w) (ws : List Jvm.Cond) (o1 : Addr) (o2 : Addr) (q3 : Int32) (o4 : Addr) (o5 : Addr) (h0 : Heap) (n0 : Nat) (O0 : Old Z n0 h0) (f1 : Fld Z h0 o2 cs0 "slot" "I" (.int q3)) (c2 : ¬ (q3 = (-1 : Int32))) (f3 : Fld Z h0 o2 cs0 cs3 cs1 (.ref o4)) (f4 : Fld Z h0 o2 cs0 cs4 cs1 (.ref o5)) (f5 : Exa Z h0 o4 cs0) (f6 : Fld Z h0 o4 cs0 cs4 cs1 (.ref o2)) (g7 : n0 ≤ o4) (u8 : o2 ≠ o4) (f9 : Exa Z h0 o5 cs0) (f10 : Fld Z h0 o5 cs0 cs3 cs1 (.ref o2)) (u11 : o5 ≠ o4) (g12 : n0 ≤ o5) (f13 : Exa Z h0 o2 cs0) (u14 : o2 ≠ o5) (g15 : n0 ≤ o2) (f16 : Fld Z h0 o1 cs2 "size" "J" (.long (3 : Int64))) (u17 : o1 ≠ o4) (u18 : o1 ≠ o5) (u19 : o1 ≠ o2) (f20 : Exa Z h0 o1 cs2) (g21 : n0 ≤ o1) :
    MetFree l ym9 (head1 (Jvm.Cond.code ym9 prog_14_method_4_code 2 none :: ws) ({ frames := 0, cells := 0, slots := 0, locals := 0 } : Room)) (fun a U => a = #[(.ref o1), (.ref o2)] ∧ Z.Warmed39 U.vm ∧ U.heap = h0) (fun _ _ _ _ _ => True) (fun _ U o U' => ∃ v L, o = .returned v ∧ Q11_35 Z w o1 o2 q3 o4 o5 h0 n0 v U'.heap L ∧ FrameEnd U o U' L ({ frames := 0, cells := 0, slots := 0, locals := 0 } : Room).cells ({ frames := 0, cells := 0, slots := 0, locals := 0 } : Room).slots) := by
  refine MetFree.of_bodySF (plainFor_of_name pnc_2) hisR ?_
  intro p e s m args below meth c s₁ Bd hml0 hP hK
  obtain ⟨rfl, hZ, hh⟩ := hP
  have hx := Bd.exec
  have hby := Bd.bytes
  have hml : c.maxLocals = 2 := hml0
  have hown : s.vm.findClass cs2 = some m.cls := findClass_of_methodNamed Bd.named
  have hnm := (name_of_methodNamed Bd.named Bd.method).1
  have X0 : Stand p l e ({ frames := 0, cells := 0, slots := 0, locals := 0 } : Room) s m #[(.ref o1), (.ref o2)] below meth c s₁ [] 0 0 := Stand.of_body Bd
  have e0 : s₁.heap = h0 := by rw [← hh, Bd.state]; rfl
  have N0 := Fr.nil n0
  skip
  have pre0 : ∀ t, Steps p.tables e below (s₁.setTop (mkF m 0 #[.val (.ref o1), .val (.ref o2)] [])) t → Steps p.tables e below (s₁.setTop (entryFrame m #[(.ref o1), (.ref o2)] 2)) t := fun t k => castTop (ef_11_35 m o1 o2) k
  obtain ⟨T1, X1, e1, st1⟩ := getF X0 hx hZ hown (host := "") (Or.inl (wk99 hw)) Via.refl e0 f1 (g := (mkF m 1 #[.val (.ref o1), .val (.ref o2)] [(.ref o2)])) rfl rfl (hb hby d11_1)
  obtain ⟨T2, X2, e2, st2⟩ := getF X1 hx hZ hown (host := "") (Or.inl (wk154 hw)) Via.refl e1 f3 (g := (mkF m 10 #[.val (.ref o1), .val (.ref o2)] [(.ref o2)])) rfl rfl (hb hby d11_10)
  obtain ⟨T3, X3, e3, st3⟩ := getF X2 hx hZ hown (host := "") (Or.inl (wk154 hw)) Via.refl e2 f3 (g := (mkF m 33 #[.val (.ref o1), .val (.ref o2)] [(.ref o2)])) rfl rfl (hb hby d11_33)
  obtain ⟨T4, X4, e4, st4⟩ := getF X3 hx hZ hown (host := "") (Or.inl (wk155 hw)) Via.refl e3 f4 (g := (mkF m 37 #[.val (.ref o1), .val (.ref o2)] [(.ref o2), (.ref o4)])) rfl rfl (hb hby d11_37)
  obtain ⟨T5, h5, X5, e5, W5, st5⟩ := putF X4 hx hZ hown (host := "") (Or.inl (wk155 hw)) Via.refl e4 f6 f5 (Or.inl (wk110 hw)) (wk49 hw) (ty := (.object cs0)) (by decide) rfl rfl (g := (mkF m 40 #[.val (.ref o1), .val (.ref o2)] [(.ref o5), (.ref o4)])) rfl rfl (hb hby d11_40)
  have F5 : Fld Z h5 o4 cs0 cs4 cs1 (.ref o5) := f6.same W5
  have N5 := Fr.snoc X5 N0 g7
  have O6 := O0.wr W5 g7
  have t7 := (f4.other W5 (Or.inl u8))
  obtain ⟨T8, X8, e8, st8⟩ := getF X5 hx hZ hown (host := "") (Or.inl (wk155 hw)) Via.refl e5 t7 (g := (mkF m 44 #[.val (.ref o1), .val (.ref o2)] [(.ref o2)])) rfl rfl (hb hby d11_44)
  obtain ⟨T9, X9, e9, st9⟩ := getF X8 hx hZ hown (host := "") (Or.inl (wk155 hw)) Via.refl e8 t7 (g := (mkF m 51 #[.val (.ref o1), .val (.ref o2)] [(.ref o2)])) rfl rfl (hb hby d11_51)
  have t10 := (f3.other W5 (Or.inl u8))
  obtain ⟨T11, X11, e11, st11⟩ := getF X9 hx hZ hown (host := "") (Or.inl (wk154 hw)) Via.refl e9 t10 (g := (mkF m 55 #[.val (.ref o1), .val (.ref o2)] [(.ref o2), (.ref o5)])) rfl rfl (hb hby d11_55)
  have t12 := (f10.other W5 (Or.inl u11))
  have t13 := (f9.wr W5)
  obtain ⟨T14, h14, X14, e14, W14, st14⟩ := putF X11 hx hZ hown (host := "") (Or.inl (wk154 hw)) Via.refl e11 t12 t13 (Or.inl (wk108 hw)) (wk49 hw) (ty := (.object cs0)) (by decide) rfl rfl (g := (mkF m 58 #[.val (.ref o1), .val (.ref o2)] [(.ref o4), (.ref o5)])) rfl rfl (hb hby d11_58)
  have F14 : Fld Z h14 o5 cs0 cs3 cs1 (.ref o4) := t12.same W14
  have N14 := Fr.snoc X14 N5 g12
  have O15 := O6.wr W14 g12
  have t16 := (t10.other W14 (Or.inl u14))
  have t17 := ((f13.wr W5).wr W14)
  obtain ⟨T18, h18, X18, e18, W18, st18⟩ := putF X14 hx hZ hown (host := "") (Or.inl (wk154 hw)) Via.refl e14 t16 t17 (Or.inl (wk108 hw)) (wk49 hw) (ty := (.object cs0)) (by decide) rfl rfl (g := (mkF m 63 #[.val (.ref o1), .val (.ref o2)] [.null, (.ref o2)])) rfl rfl (hb hby d11_63)
  have F18 : Fld Z h18 o2 cs0 cs3 cs1 .null := t16.same W18
  have N18 := Fr.snoc X18 N14 g15
  have O19 := O15.wr W18 g15
  have t20 := ((t7.other W14 (Or.inl u14)).other W18 (Or.inr (sn78 hw)))
  have t21 := (t17.wr W18)
  obtain ⟨T22, h22, X22, e22, W22, st22⟩ := putF X18 hx hZ hown (host := "") (Or.inl (wk155 hw)) Via.refl e18 t20 t21 (Or.inl (wk110 hw)) (wk49 hw) (ty := (.object cs0)) (by decide) rfl rfl (g := (mkF m 68 #[.val (.ref o1), .val (.ref o2)] [.null, (.ref o2)])) rfl rfl (hb hby d11_68)
  have F22 : Fld Z h22 o2 cs0 cs4 cs1 .null := t20.same W22
  have N22 := Fr.snoc X22 N18 g15
  have O23 := O19.wr W22 g15
  have t24 := ((((f1.other W5 (Or.inl u8)).other W14 (Or.inl u14)).other W18 (Or.inr (sn79 hw))).other W22 (Or.inr (sn80 hw)))
  have t25 := (t21.wr W22)
  obtain ⟨T26, h26, X26, e26, W26, st26⟩ := putF X22 hx hZ hown (host := "") (Or.inl (wk99 hw)) Via.refl e22 t24 t25 (Or.inl (wk63 hw)) (wk49 hw) (ty := .int) (by decide) rfl rfl (g := (mkF m 73 #[.val (.ref o1), .val (.ref o2)] [(.int (-1 : Int32)), (.ref o2)])) rfl rfl (hb hby d11_73)
  have F26 : Fld Z h26 o2 cs0 "slot" "I" (.int (-1 : Int32)) := t24.same W26
  have N26 := Fr.snoc X26 N22 g15
  have O27 := O23.wr W26 g15
  have t28 := (((((f16.other W5 (Or.inl u17)).other W14 (Or.inl u18)).other W18 (Or.inl u19)).other W22 (Or.inl u19)).other W26 (Or.inl u19))
  obtain ⟨T29, X29, e29, st29⟩ := getF X26 hx hZ hown (host := "") (Or.inl (wk105 hw)) Via.refl e26 t28 (g := (mkF m 78 #[.val (.ref o1), .val (.ref o2)] [(.ref o1), (.ref o1)])) rfl rfl (hb hby d11_78)
  have t30 := (((((f20.wr W5).wr W14).wr W18).wr W22).wr W26)
  obtain ⟨T31, h31, X31, e31, W31, st31⟩ := putF X29 hx hZ hown (host := "") (Or.inl (wk105 hw)) Via.refl e29 t28 t30 (Or.inl (wk106 hw)) (wk35 hw) (ty := .long) (by decide) rfl rfl (g := (mkF m 83 #[.val (.ref o1), .val (.ref o2)] [(.long (2 : Int64)), (.ref o1)])) rfl rfl (hb hby d11_83)
  have F31 : Fld Z h31 o1 cs2 "size" "J" (.long (2 : Int64)) := t28.same W31
  have N31 := Fr.snoc X31 N26 g21
  have O32 := O27.wr W31 g21
  obtain ⟨fs, hr, hrun, hended, hWm, hsame⟩ := X31.leave (v := none) (fun _ => rfl)
  have Kf33 : own_KL h0 h31 [⟨o4, Jvm.RoadKit.slotOf Z cs0 cs4 cs1⟩, ⟨o5, Jvm.RoadKit.slotOf Z cs0 cs3 cs1⟩, ⟨o2, Jvm.RoadKit.slotOf Z cs0 cs3 cs1⟩, ⟨o2, Jvm.RoadKit.slotOf Z cs0 cs4 cs1⟩, ⟨o2, Jvm.RoadKit.slotOf Z cs0 "slot" "I"⟩, ⟨o1, Jvm.RoadKit.slotOf Z cs2 "size" "J"⟩] := (own_klW (own_klW (own_klW (own_klW (own_klW (own_klW (own_kl0 h0 [⟨o4, Jvm.RoadKit.slotOf Z cs0 cs4 cs1⟩, ⟨o5, Jvm.RoadKit.slotOf Z cs0 cs3 cs1⟩, ⟨o2, Jvm.RoadKit.slotOf Z cs0 cs3 cs1⟩, ⟨o2, Jvm.RoadKit.slotOf Z cs0 cs4 cs1⟩, ⟨o2, Jvm.RoadKit.slotOf Z cs0 "slot" "I"⟩, ⟨o1, Jvm.RoadKit.slotOf Z cs2 "size" "J"⟩]) W5 (Or.inl (List.mem_of_getElem? (i := 0) rfl))) W14 (Or.inl (List.mem_of_getElem? (i := 1) rfl))) W18 (Or.inl (List.mem_of_getElem? (i := 2) rfl))) W22 (Or.inl (List.mem_of_getElem? (i := 3) rfl))) W26 (Or.inl (List.mem_of_getElem? (i := 4) rfl))) W31 (Or.inl (List.mem_of_getElem? (i := 5) rfl)))
  have t34 := (F26.other W31 (Or.inl (Ne.symm u19)))
  have t35 := (((F18.other W22 (Or.inr (sn81 hw))).other W26 (Or.inr (sn69 hw))).other W31 (Or.inl (Ne.symm u19)))
  have t36 := ((F22.other W26 (Or.inr (sn77 hw))).other W31 (Or.inl (Ne.symm u19)))
  have t37 := (((((F5.other W14 (Or.inl (Ne.symm u11))).other W18 (Or.inl (Ne.symm u8))).other W22 (Or.inl (Ne.symm u8))).other W26 (Or.inl (Ne.symm u8))).other W31 (Or.inl (Ne.symm u17)))
  have t38 := ((((F14.other W18 (Or.inl (Ne.symm u14))).other W22 (Or.inl (Ne.symm u14))).other W26 (Or.inl (Ne.symm u14))).other W31 (Or.inl (Ne.symm u18)))
  refine ⟨_, _, pre0 _ ?_, hrun, hended, _, _, rfl, ?_, ⟨_, rfl⟩, hWm, hsame.mono (by decide) (by decide)⟩
  · show Steps p.tables e below (s₁.setTop (mkF m 0 #[.val (.ref o1), .val (.ref o2)] [])) _
    refine sA X0 hx hby d11_0 rfl rfl ?_
    refine st1 _ ?_
    refine sc X1 hx hby d11_4 ?_
    refine XS.icmpYes X1.here hx rfl (pc0 := 5) (pc' := 9) rfl (hb hby d11_5) rfl (feq (c2 : ¬ (q3 = (-1 : Int32)))).2 (by decide) (by decide) ?_
    refine sA X1 hx hby d11_9 rfl rfl ?_
    refine st2 _ ?_
    refine XS.ifnonnullYes X2.here hx rfl (pc0 := 13) (pc' := 32) rfl (hb hby d11_13) rfl (by decide) (by decide) ?_
    refine sA X2 hx hby d11_32 rfl rfl ?_
    refine st3 _ ?_
    refine sA X3 hx hby d11_36 rfl rfl ?_
    refine st4 _ ?_
    refine st5 _ ?_
    refine sA X5 hx hby d11_43 rfl rfl ?_
    refine st8 _ ?_
    refine XS.ifnullNo X8.here hx rfl (hb hby d11_47) rfl ?_
    refine sA X8 hx hby d11_50 rfl rfl ?_
    refine st9 _ ?_
    refine sA X9 hx hby d11_54 rfl rfl ?_
    refine st11 _ ?_
    refine st14 _ ?_
    refine sA X14 hx hby d11_61 rfl rfl ?_
    refine XS.aconstNull X14.here hx rfl (hb hby d11_62) ?_
    refine st18 _ ?_
    refine sA X18 hx hby d11_66 rfl rfl ?_
    refine XS.aconstNull X18.here hx rfl (hb hby d11_67) ?_
    refine st22 _ ?_
    refine sA X22 hx hby d11_71 rfl rfl ?_
    refine sc X22 hx hby d11_72 ?_
    refine st26 _ ?_
    refine sA X26 hx hby d11_76 rfl rfl ?_
    refine XS.dup X26.here hx rfl (hb hby d11_77) rfl rfl ?_
    refine st29 _ ?_
    refine XS.lconst X29.here hx rfl (hb hby d11_81) ?_
    refine XS.lsub X29.here hx rfl (hb hby d11_82) rfl ?_
    refine st31 _ ?_
    exact X31.returnOut hx Bd.returns (hb hby d11_86) hr
  · show Q11_35 Z w o1 o2 q3 o4 o5 h0 n0 _ T31.heap _
    rw [e31]
    exact ⟨rfl, N31, Kf33, t34, t35, t36, t37, t38, F31⟩
theorem ef_11_36 (m : MethodId) (o1 : Addr) (o2 : Addr) : entryFrame m #[(.ref o1), (.ref o2)] 2 = mkF m 0 #[.val (.ref o1), .val (.ref o2)] [] := by first | (simp [entryFrame, mkF, argsToLocals, Value.category]; done) | rfl
def Q11_36 (Z : State) (w : Nat → Addr) (o1 : Addr) (o2 : Addr) (q3 : Int32) (o4 : Addr) (o5 : Addr) (k6 : ClassId) (h0 : Heap) (n0 : Nat) (v : Option Value) (h : Heap) (L : List Loc) : Prop := v = none ∧ Fr n0 L ∧ own_KL h0 h [⟨o4, (q3).toNatClampNeg⟩, ⟨o5, Jvm.RoadKit.slotOf Z cs0 cs3 cs1⟩, ⟨o2, Jvm.RoadKit.slotOf Z cs0 cs3 cs1⟩, ⟨o2, Jvm.RoadKit.slotOf Z cs0 cs4 cs1⟩, ⟨o2, Jvm.RoadKit.slotOf Z cs0 "slot" "I"⟩, ⟨o1, Jvm.RoadKit.slotOf Z cs2 "size" "J"⟩] ∧ Fld Z h o2 cs0 "slot" "I" (.int (-1 : Int32)) ∧ Fld Z h o2 cs0 cs3 cs1 .null ∧ Fld Z h o2 cs0 cs4 cs1 .null ∧ own_Gk Z h o4 k6 (.object cs0) (386 : Int32) q3 (.ref o5) ∧ Fld Z h o5 cs0 cs3 cs1 .null ∧ Fld Z h o1 cs2 "size" "J" (.long (2 : Int64))
set_option maxRecDepth 65536 in
set_option maxHeartbeats 40000000 in
theorem rm11_36 (l : Launch) (Z : State) (a0 : Array Value) (hw : HW Z a0) (w : Nat → Addr) (hW : Wd Z w) (ws : List Jvm.Cond) (o1 : Addr) (o2 : Addr) (q3 : Int32) (o4 : Addr) (o5 : Addr) (k6 : ClassId) (h0 : Heap) (n0 : Nat) (O0 : Old Z n0 h0) (f1 : Fld Z h0 o2 cs0 "slot" "I" (.int q3)) (c2 : ¬ (q3 = (-1 : Int32))) (f3 : Fld Z h0 o2 cs0 cs3 cs1 .null) (f4 : Fld Z h0 o1 cs2 "firsts" cs8 (.ref o4)) (f5 : Fld Z h0 o2 cs0 cs4 cs1 (.ref o5)) (g6 : n0 ≤ o4) (f7 : own_Gk Z h0 o4 k6 (.object cs0) (386 : Int32) q3 (.ref o2)) (c8 : ¬ (q3 < (0 : Int32))) (c9 : q3 < (386 : Int32)) (v10 : Ovr Z k6 cs0) (f11 : Exa Z h0 o5 cs0) (u12 : o2 ≠ o4) (f13 : Fld Z h0 o5 cs0 cs3 cs1 (.ref o2)) (u14 : o5 ≠ o4) (g15 : n0 ≤ o5) (f16 : Exa Z h0 o2 cs0) (u17 : o2 ≠ o5) (g18 : n0 ≤ o2) (f19 : Fld Z h0 o1 cs2 "size" "J" (.long (3 : Int64))) (u20 : o1 ≠ o4) (u21 : o1 ≠ o5) (u22 : o1 ≠ o2) (f23 : Exa Z h0 o1 cs2) (g24 : n0 ≤ o1) :
    MetFree l ym9 (head1 (Jvm.Cond.code ym9 prog_14_method_4_code 2 none :: ws) ({ frames := 0, cells := 0, slots := 0, locals := 0 } : Room)) (fun a U => a = #[(.ref o1), (.ref o2)] ∧ Z.Warmed39 U.vm ∧ U.heap = h0) (fun _ _ _ _ _ => True) (fun _ U o U' => ∃ v L, o = .returned v ∧ Q11_36 Z w o1 o2 q3 o4 o5 k6 h0 n0 v U'.heap L ∧ FrameEnd U o U' L ({ frames := 0, cells := 0, slots := 0, locals := 0 } : Room).cells ({ frames := 0, cells := 0, slots := 0, locals := 0 } : Room).slots) := by
  refine MetFree.of_bodySF (plainFor_of_name pnc_2) hisR ?_
  intro p e s m args below meth c s₁ Bd hml0 hP hK
  obtain ⟨rfl, hZ, hh⟩ := hP
  have hx := Bd.exec
  have hby := Bd.bytes
  have hml : c.maxLocals = 2 := hml0
  have hown : s.vm.findClass cs2 = some m.cls := findClass_of_methodNamed Bd.named
  have hnm := (name_of_methodNamed Bd.named Bd.method).1
  have X0 : Stand p l e ({ frames := 0, cells := 0, slots := 0, locals := 0 } : Room) s m #[(.ref o1), (.ref o2)] below meth c s₁ [] 0 0 := Stand.of_body Bd
  have e0 : s₁.heap = h0 := by rw [← hh, Bd.state]; rfl
  have N0 := Fr.nil n0
  skip
  have pre0 : ∀ t, Steps p.tables e below (s₁.setTop (mkF m 0 #[.val (.ref o1), .val (.ref o2)] [])) t → Steps p.tables e below (s₁.setTop (entryFrame m #[(.ref o1), (.ref o2)] 2)) t := fun t k => castTop (ef_11_36 m o1 o2) k
  obtain ⟨T1, X1, e1, st1⟩ := getF X0 hx hZ hown (host := "") (Or.inl (wk99 hw)) Via.refl e0 f1 (g := (mkF m 1 #[.val (.ref o1), .val (.ref o2)] [(.ref o2)])) rfl rfl (hb hby d11_1)
  obtain ⟨T2, X2, e2, st2⟩ := getF X1 hx hZ hown (host := "") (Or.inl (wk154 hw)) Via.refl e1 f3 (g := (mkF m 10 #[.val (.ref o1), .val (.ref o2)] [(.ref o2)])) rfl rfl (hb hby d11_10)
  obtain ⟨T3, X3, e3, st3⟩ := getF X2 hx hZ hown (host := "") (Or.inl (wk46 hw)) Via.refl e2 f4 (g := (mkF m 17 #[.val (.ref o1), .val (.ref o2)] [(.ref o1)])) rfl rfl (hb hby d11_17)
  obtain ⟨T4, X4, e4, st4⟩ := getF X3 hx hZ hown (host := "") (Or.inl (wk99 hw)) Via.refl e3 f1 (g := (mkF m 21 #[.val (.ref o1), .val (.ref o2)] [(.ref o2), (.ref o4)])) rfl rfl (hb hby d11_21)
  obtain ⟨T5, X5, e5, st5⟩ := getF X4 hx hZ hown (host := "") (Or.inl (wk155 hw)) Via.refl e4 f5 (g := (mkF m 25 #[.val (.ref o1), .val (.ref o2)] [(.ref o2), (.int q3), (.ref o4)])) rfl rfl (hb hby d11_25)
  obtain ⟨cl6, Ar6, cw6, S6, Nn6, Hb6⟩ := id (f7)
  have hin6 : ¬ (q3 < 0 ∨ cl6.slots.size ≤ (q3).toNatClampNeg) := inb_of S6 ⟨c8, c9⟩
  obtain ⟨T6, h6, X6, e6, W6, st6⟩ := stR X5 hx hZ e5 Ar6 (j := q3) hin6 rfl (Sto.ofV Ar6 cw6 v10 (Ins.self f11)) (g := (mkF m 28 #[.val (.ref o1), .val (.ref o2)] [(.ref o5), (.int q3), (.ref o4)])) rfl rfl (hb hby d11_28)
  have V6 : own_Gk Z h6 o4 k6 (.object cs0) (386 : Int32) q3 (.ref o5) := own_gk_set Ar6 cw6 S6 Nn6 W6
  have N6 := Fr.snoc X6 N0 g6
  have O7 := O0.wr W6 g6
  have t8 := (f5.other W6 (Or.inl u12))
  obtain ⟨T9, X9, e9, st9⟩ := getF X6 hx hZ hown (host := "") (Or.inl (wk155 hw)) Via.refl e6 t8 (g := (mkF m 44 #[.val (.ref o1), .val (.ref o2)] [(.ref o2)])) rfl rfl (hb hby d11_44)
  obtain ⟨T10, X10, e10, st10⟩ := getF X9 hx hZ hown (host := "") (Or.inl (wk155 hw)) Via.refl e9 t8 (g := (mkF m 51 #[.val (.ref o1), .val (.ref o2)] [(.ref o2)])) rfl rfl (hb hby d11_51)
  have t11 := (f3.other W6 (Or.inl u12))
  obtain ⟨T12, X12, e12, st12⟩ := getF X10 hx hZ hown (host := "") (Or.inl (wk154 hw)) Via.refl e10 t11 (g := (mkF m 55 #[.val (.ref o1), .val (.ref o2)] [(.ref o2), (.ref o5)])) rfl rfl (hb hby d11_55)
  have t13 := (f13.other W6 (Or.inl u14))
  have t14 := (f11.wr W6)
  obtain ⟨T15, h15, X15, e15, W15, st15⟩ := putF X12 hx hZ hown (host := "") (Or.inl (wk154 hw)) Via.refl e12 t13 t14 (Or.inl (wk108 hw)) (wk49 hw) (ty := (.object cs0)) (by decide) rfl rfl (g := (mkF m 58 #[.val (.ref o1), .val (.ref o2)] [.null, (.ref o5)])) rfl rfl (hb hby d11_58)
  have F15 : Fld Z h15 o5 cs0 cs3 cs1 .null := t13.same W15
  have N15 := Fr.snoc X15 N6 g15
  have O16 := O7.wr W15 g15
  have t17 := (t11.other W15 (Or.inl u17))
  have t18 := ((f16.wr W6).wr W15)
  obtain ⟨T19, h19, X19, e19, W19, st19⟩ := putF X15 hx hZ hown (host := "") (Or.inl (wk154 hw)) Via.refl e15 t17 t18 (Or.inl (wk108 hw)) (wk49 hw) (ty := (.object cs0)) (by decide) rfl rfl (g := (mkF m 63 #[.val (.ref o1), .val (.ref o2)] [.null, (.ref o2)])) rfl rfl (hb hby d11_63)
  have F19 : Fld Z h19 o2 cs0 cs3 cs1 .null := t17.same W19
  have N19 := Fr.snoc X19 N15 g18
  have O20 := O16.wr W19 g18
  have t21 := ((t8.other W15 (Or.inl u17)).other W19 (Or.inr (sn78 hw)))
  have t22 := (t18.wr W19)
  obtain ⟨T23, h23, X23, e23, W23, st23⟩ := putF X19 hx hZ hown (host := "") (Or.inl (wk155 hw)) Via.refl e19 t21 t22 (Or.inl (wk110 hw)) (wk49 hw) (ty := (.object cs0)) (by decide) rfl rfl (g := (mkF m 68 #[.val (.ref o1), .val (.ref o2)] [.null, (.ref o2)])) rfl rfl (hb hby d11_68)
  have F23 : Fld Z h23 o2 cs0 cs4 cs1 .null := t21.same W23
  have N23 := Fr.snoc X23 N19 g18
  have O24 := O20.wr W23 g18
  have t25 := ((((f1.other W6 (Or.inl u12)).other W15 (Or.inl u17)).other W19 (Or.inr (sn79 hw))).other W23 (Or.inr (sn80 hw)))
  have t26 := (t22.wr W23)
  obtain ⟨T27, h27, X27, e27, W27, st27⟩ := putF X23 hx hZ hown (host := "") (Or.inl (wk99 hw)) Via.refl e23 t25 t26 (Or.inl (wk63 hw)) (wk49 hw) (ty := .int) (by decide) rfl rfl (g := (mkF m 73 #[.val (.ref o1), .val (.ref o2)] [(.int (-1 : Int32)), (.ref o2)])) rfl rfl (hb hby d11_73)
  have F27 : Fld Z h27 o2 cs0 "slot" "I" (.int (-1 : Int32)) := t25.same W27
  have N27 := Fr.snoc X27 N23 g18
  have O28 := O24.wr W27 g18
  have t29 := (((((f19.other W6 (Or.inl u20)).other W15 (Or.inl u21)).other W19 (Or.inl u22)).other W23 (Or.inl u22)).other W27 (Or.inl u22))
  obtain ⟨T30, X30, e30, st30⟩ := getF X27 hx hZ hown (host := "") (Or.inl (wk105 hw)) Via.refl e27 t29 (g := (mkF m 78 #[.val (.ref o1), .val (.ref o2)] [(.ref o1), (.ref o1)])) rfl rfl (hb hby d11_78)
  have t31 := (((((f23.wr W6).wr W15).wr W19).wr W23).wr W27)
  obtain ⟨T32, h32, X32, e32, W32, st32⟩ := putF X30 hx hZ hown (host := "") (Or.inl (wk105 hw)) Via.refl e30 t29 t31 (Or.inl (wk106 hw)) (wk35 hw) (ty := .long) (by decide) rfl rfl (g := (mkF m 83 #[.val (.ref o1), .val (.ref o2)] [(.long (2 : Int64)), (.ref o1)])) rfl rfl (hb hby d11_83)
  have F32 : Fld Z h32 o1 cs2 "size" "J" (.long (2 : Int64)) := t29.same W32
  have N32 := Fr.snoc X32 N27 g24
  have O33 := O28.wr W32 g24
  obtain ⟨fs, hr, hrun, hended, hWm, hsame⟩ := X32.leave (v := none) (fun _ => rfl)
  have Kf34 : own_KL h0 h32 [⟨o4, (q3).toNatClampNeg⟩, ⟨o5, Jvm.RoadKit.slotOf Z cs0 cs3 cs1⟩, ⟨o2, Jvm.RoadKit.slotOf Z cs0 cs3 cs1⟩, ⟨o2, Jvm.RoadKit.slotOf Z cs0 cs4 cs1⟩, ⟨o2, Jvm.RoadKit.slotOf Z cs0 "slot" "I"⟩, ⟨o1, Jvm.RoadKit.slotOf Z cs2 "size" "J"⟩] := (own_klW (own_klW (own_klW (own_klW (own_klW (own_klW (own_kl0 h0 [⟨o4, (q3).toNatClampNeg⟩, ⟨o5, Jvm.RoadKit.slotOf Z cs0 cs3 cs1⟩, ⟨o2, Jvm.RoadKit.slotOf Z cs0 cs3 cs1⟩, ⟨o2, Jvm.RoadKit.slotOf Z cs0 cs4 cs1⟩, ⟨o2, Jvm.RoadKit.slotOf Z cs0 "slot" "I"⟩, ⟨o1, Jvm.RoadKit.slotOf Z cs2 "size" "J"⟩]) W6 (Or.inl (List.mem_of_getElem? (i := 0) rfl))) W15 (Or.inl (List.mem_of_getElem? (i := 1) rfl))) W19 (Or.inl (List.mem_of_getElem? (i := 2) rfl))) W23 (Or.inl (List.mem_of_getElem? (i := 3) rfl))) W27 (Or.inl (List.mem_of_getElem? (i := 4) rfl))) W32 (Or.inl (List.mem_of_getElem? (i := 5) rfl)))
  have t35 := (F27.other W32 (Or.inl (Ne.symm u22)))
  have t36 := (((F19.other W23 (Or.inr (sn81 hw))).other W27 (Or.inr (sn69 hw))).other W32 (Or.inl (Ne.symm u22)))
  have t37 := ((F23.other W27 (Or.inr (sn77 hw))).other W32 (Or.inl (Ne.symm u22)))
  have t38 := (own_gk_oth (own_gk_oth (own_gk_oth (own_gk_oth (own_gk_oth V6 W15 (Ne.symm u14)) W19 (Ne.symm u12)) W23 (Ne.symm u12)) W27 (Ne.symm u12)) W32 (Ne.symm u20))
  have t39 := ((((F15.other W19 (Or.inl (Ne.symm u17))).other W23 (Or.inl (Ne.symm u17))).other W27 (Or.inl (Ne.symm u17))).other W32 (Or.inl (Ne.symm u21)))
  refine ⟨_, _, pre0 _ ?_, hrun, hended, _, _, rfl, ?_, ⟨_, rfl⟩, hWm, hsame.mono (by decide) (by decide)⟩
  · show Steps p.tables e below (s₁.setTop (mkF m 0 #[.val (.ref o1), .val (.ref o2)] [])) _
    refine sA X0 hx hby d11_0 rfl rfl ?_
    refine st1 _ ?_
    refine sc X1 hx hby d11_4 ?_
    refine XS.icmpYes X1.here hx rfl (pc0 := 5) (pc' := 9) rfl (hb hby d11_5) rfl (feq (c2 : ¬ (q3 = (-1 : Int32)))).2 (by decide) (by decide) ?_
    refine sA X1 hx hby d11_9 rfl rfl ?_
    refine st2 _ ?_
    refine XS.ifnonnullNo X2.here hx rfl (hb hby d11_13) rfl ?_
    refine sA X2 hx hby d11_16 rfl rfl ?_
    refine st3 _ ?_
    refine sA X3 hx hby d11_20 rfl rfl ?_
    refine st4 _ ?_
    refine sA X4 hx hby d11_24 rfl rfl ?_
    refine st5 _ ?_
    refine st6 _ ?_
    refine sg (pc := 29) (pc' := 43) X6 hx hby d11_29 (by decide) (by decide) ?_
    refine sA X6 hx hby d11_43 rfl rfl ?_
    refine st9 _ ?_
    refine XS.ifnullNo X9.here hx rfl (hb hby d11_47) rfl ?_
    refine sA X9 hx hby d11_50 rfl rfl ?_
    refine st10 _ ?_
    refine sA X10 hx hby d11_54 rfl rfl ?_
    refine st12 _ ?_
    refine st15 _ ?_
    refine sA X15 hx hby d11_61 rfl rfl ?_
    refine XS.aconstNull X15.here hx rfl (hb hby d11_62) ?_
    refine st19 _ ?_
    refine sA X19 hx hby d11_66 rfl rfl ?_
    refine XS.aconstNull X19.here hx rfl (hb hby d11_67) ?_
    refine st23 _ ?_
    refine sA X23 hx hby d11_71 rfl rfl ?_
    refine sc X23 hx hby d11_72 ?_
    refine st27 _ ?_
    refine sA X27 hx hby d11_76 rfl rfl ?_
    refine XS.dup X27.here hx rfl (hb hby d11_77) rfl rfl ?_
    refine st30 _ ?_
    refine XS.lconst X30.here hx rfl (hb hby d11_81) ?_
    refine XS.lsub X30.here hx rfl (hb hby d11_82) rfl ?_
    refine st32 _ ?_
    exact X32.returnOut hx Bd.returns (hb hby d11_86) hr
  · show Q11_36 Z w o1 o2 q3 o4 o5 k6 h0 n0 _ T32.heap _
    rw [e32]
    exact ⟨rfl, N32, Kf34, t35, t36, t37, t38, t39, F32⟩
theorem ef_0_37 (m : MethodId) (p0 : Int64) (p1 : Int64) (p2 : Int32) (p3 : Int32) : entryFrame m #[(.long p0), (.long p1), (.int p2), (.int p3)] maxLocals = mkF m 0 #[.val (.long p0), .second, .val (.long p1), .second, .val (.int p2), .val (.int p3), .unset, .unset, .unset, .unset, .unset, .unset, .unset, .unset, .unset, .unset, .unset, .unset, .unset, .unset] [] := by first | (simp [entryFrame, mkF, argsToLocals, Value.category, maxLocals]; done) | rfl
theorem pnc_6 : plainName "com/example/tidemark/tidemark/DeadlinesUnfilePinLaw" = true := by first | (simp [plainName, overriddenIn]; done) | decide +kernel
def Q0 (n0 : Nat) (v : Option Value) (h : Heap) (L : List Loc) : Prop := v = some (.int (1 : Int32)) ∧ Fr n0 L
set_option maxRecDepth 65536 in
set_option maxHeartbeats 400000000 in
theorem rm0 (l : Launch) (Z : State) (a0 : Array Value) (hw : HW Z a0) (w : Nat → Addr) (hW : Wd Z w) (ws : List Jvm.Cond) (p0 : Int64) (p1 : Int64) (p2 : Int32) (p3 : Int32) (h0 : Heap) (n0 : Nat) (O0 : Old Z n0 h0) :
    MetFree l x (head1 (Jvm.Cond.code x code maxLocals ret :: ws) room_1) (fun a U => a = #[(.long p0), (.long p1), (.int p2), (.int p3)] ∧ Z.Warmed39 U.vm ∧ U.heap = h0) (fun _ _ _ _ _ => True) (fun _ U o U' => ∃ v L, o = .returned v ∧ Q0 n0 v U'.heap L ∧ ReturnedEndW U o U' L room_1.cells room_1.slots) := by
  refine MetFree.of_bodySF (plainFor_of_name pnc_6) hisR ?_
  intro p e s m args below meth c s₁ Bd hml0 hP hK
  obtain ⟨rfl, hZ, hh⟩ := hP
  have hx := Bd.exec
  have hby := Bd.bytes
  have hml : c.maxLocals = 20 := hml0
  have hown : s.vm.findClass "com/example/tidemark/tidemark/DeadlinesUnfilePinLaw" = some m.cls := findClass_of_methodNamed Bd.named
  have hnm := (name_of_methodNamed Bd.named Bd.method).1
  have X0 : Stand p l e room_1 s m #[(.long p0), (.long p1), (.int p2), (.int p3)] below meth c s₁ [] 0 0 := Stand.of_body Bd
  have hS0 : s.Since s.vm 0 := (State.WarmedH.refl s).since 0
  have e0 : s₁.heap = h0 := by rw [← hh, Bd.state]; rfl
  have N0 := Fr.nil n0
  let La : Array Slot := #[.val (.long p0), .second, .val (.long p1), .second, .val (.int p2), .val (.int p3), .unset, .unset, .unset, .unset, .unset, .unset, .unset, .unset, .unset, .unset, .unset, .unset, .unset, .unset]
  have pre0 : ∀ t, Steps p.tables e below (s₁.setTop (mkF m 0 #[.val (.long p0), .second, .val (.long p1), .second, .val (.int p2), .val (.int p3), .unset, .unset, .unset, .unset, .unset, .unset, .unset, .unset, .unset, .unset, .unset, .unset, .unset, .unset] [])) t → Steps p.tables e below (s₁.setTop (entryFrame m #[(.long p0), (.long p1), (.int p2), (.int p3)] maxLocals)) t := fun t k => castTop (ef_0_37 m p0 p1 p2 p3) k
  let Lb1 : Array Slot := #[.val (.long p0), .second, .val (.long p1), .second, .val (.int p2), .val (.int p3), .val (.int (p2 &&& (3 : Int32))), .unset, .unset, .unset, .unset, .unset, .unset, .unset, .unset, .unset, .unset, .unset, .unset, .unset]
  let Lb2 : Array Slot := #[.val (.long p0), .second, .val (.long p1), .second, .val (.int p2), .val (.int p3), .val (.int (p2 &&& (3 : Int32))), .val (.int ((p3 &&& (2147483647 : Int32)) % (3 : Int32))), .unset, .unset, .unset, .unset, .unset, .unset, .unset, .unset, .unset, .unset, .unset, .unset]
  let Lb3 : Array Slot := #[.val (.long p0), .second, .val (.long p1), .second, .val (.int p2), .val (.int p3), .val (.int (p2 &&& (3 : Int32))), .val (.int ((p3 &&& (2147483647 : Int32)) % (3 : Int32))), .val (.long (p1 &&& (9223372036854775807 : Int64))), .second, .unset, .unset, .unset, .unset, .unset, .unset, .unset, .unset, .unset, .unset]
  obtain ⟨T4, h4, X4, e4, E4, A4, D4, -, st4⟩ := newO X0 hx hZ hown (wk2 hw) (wk3 hw) (wk4 hw) e0 (g := (mkF m 22 Lb3 [])) rfl (hb hby at_22) (by decide) (by decide)
  obtain ⟨b4, g4⟩ : ∃ z, z = h0.size := ⟨_, rfl⟩
  rw [← g4] at A4 D4 st4
  have gg4 : n0 ≤ b4 := by rw [← O0.1, g4]; exact O0.2.1
  have O5 := O0.ext E4
  have i4_31 : Fld Z h4 b4 cs5 "lifespan" "J" (.long (0 : Int64)) := D4 (Or.inr (wk31 hw)) (ty := .long) (by decide)
  have i4_33 : Fld Z h4 b4 cs5 "maxIdle" "J" (.long (0 : Int64)) := D4 (Or.inr (wk33 hw)) (ty := .long) (by decide)
  obtain ⟨_, _, ⟨T6, L6, kk6, nn6⟩, -, X6, hS6, gr6, ⟨Lc6, hQ6, l6, y6, z6⟩, st6⟩ := X4.specialBackS hx (y := ym2) rfl hown (mvT hZ (wk6 hw)) (mvT hZ (wk7 hw)) (mvT hZ (wk8 hw)) (by decide) (backOfS (W := 1) (rm1_3 l Z a0 hw w hW [] b4 (p1 &&& (9223372036854775807 : Int64)) h4 n0 O5 (own_lf2 _) A4 i4_31 gg4 i4_33) hZ (wk8 hw) (wk4 hw) (by decide) (by decide)) (g := (mkF m 31 Lb3 [(.long (-1 : Int64)), (.long (p1 &&& (9223372036854775807 : Int64))), (.ref b4), (.ref b4)])) rfl (by rw [hml]; rfl) (Steps.refl _) (a := b4) (argsL := [(.long (p1 &&& (9223372036854775807 : Int64))), (.long (-1 : Int64))]) (rest := [(.ref b4)]) (lenOf pds_2 rfl) rfl (by show 2 * 0 + _ ≤ _; exact Nat.le_of_eq rfl) (hb hby at_31) (fun _ _ => ⟨rfl, e4, (by decide : 1 + 4 ≤ _), (by decide : 2 + 68 ≤ _)⟩)
  dsimp only [Pt.U, Pt.locs, Pt.cells, Pt.slots] at X6 l6 y6 z6 st6 hQ6 hS6 gr6
  rw [l6, y6, z6] at X6
  have hownA := hown
  have hZA := hZ
  have hZ : Z.Warmed39 (s.setVm T6.vm).vm := State.Warmed39.trans hZ hS6.1
  have hown : (s.setVm T6.vm).vm.findClass "com/example/tidemark/tidemark/DeadlinesUnfilePinLaw" = some m.cls := (hS6.1.alike.findClass _ _).trans hown
  obtain ⟨rfl, N6q, K6, r6_0, r6_1⟩ := hQ6
  have N6 := Fr.app N0 N6q
  have O7 := own_old O5 K6 (own_ngc gg4 (own_ngc gg4 own_ng0))
  let Lb8 : Array Slot := #[.val (.long p0), .second, .val (.long p1), .second, .val (.int p2), .val (.int p3), .val (.int (p2 &&& (3 : Int32))), .val (.int ((p3 &&& (2147483647 : Int32)) % (3 : Int32))), .val (.long (p1 &&& (9223372036854775807 : Int64))), .second, .val (.ref b4), .unset, .unset, .unset, .unset, .unset, .unset, .unset, .unset, .unset]
  obtain ⟨T9, h9, X9, e9, E9, A9, D9, -, st9⟩ := newO X6 hx hZ hown (wk34 hw) (wk35 hw) (wk36 hw) rfl (g := (mkF m 36 Lb8 [])) rfl (hb hby at_36) (by decide) (by decide)
  obtain ⟨b9, g9⟩ : ∃ z, z = T6.heap.size := ⟨_, rfl⟩
  rw [← g9] at A9 D9 st9
  have gg9 : n0 ≤ b9 := by rw [← O7.1, g9]; exact O7.2.1
  have O10 := O7.ext E9
  have i9_43 : Fld Z h9 b9 cs2 "time" "J" (.long (0 : Int64)) := D9 (Or.inl (wk43 hw)) (ty := .long) (by decide)
  have i9_47 : Fld Z h9 b9 cs2 "firsts" cs8 .null := D9 (Or.inr (wk47 hw)) (ty := (.array (.object cs0))) (by decide)
  have i9_106 : Fld Z h9 b9 cs2 "size" "J" (.long (0 : Int64)) := D9 (Or.inl (wk106 hw)) (ty := .long) (by decide)
  obtain ⟨_, _, ⟨T11, L11, kk11, nn11⟩, -, X11, ⟨Lc11, hQ11, l11, y11, z11⟩, st11⟩ := X9.specialBack hx (y := ym3) rfl hown (mvT hZ (wk37 hw)) (mvT hZ (wk38 hw)) (mvT hZ (wk39 hw)) (by decide) (backOf (W := 1) (rm5_4 l Z a0 hw w hW [] b9 h9 n0 O10 A9 i9_43 gg9 i9_47) hZ (wk39 hw) (wk36 hw) (by decide) (by decide)) (g := (mkF m 40 Lb8 [(.ref b9), (.ref b9)])) rfl (by rw [hml]; rfl) (Steps.refl _) (a := b9) (argsL := []) (rest := [(.ref b9)]) (lenOf pds_0 rfl) rfl (by show 2 * 0 + _ ≤ _; exact Nat.le_of_eq rfl) (hb hby at_40) (fun _ _ => ⟨rfl, e9, (by decide : 6 + 1 ≤ _), (by decide : 73 + 386 ≤ _)⟩)
  dsimp only [Pt.U, Pt.locs, Pt.cells, Pt.slots] at X11 l11 y11 z11 st11 hQ11
  rw [l11, y11, z11] at X11
  obtain ⟨b11_0, k11_0, rfl, N11q, K11, r11_0, r11_1, r11_2, r11_3, r11_4⟩ := hQ11
  have N11 := Fr.app N6 N11q
  have O12 := own_old O10 K11 (own_ngc gg9 (own_ngc gg9 own_ng0))
  have ggb11_0 : n0 ≤ b11_0 := by rw [← O10.1]; exact Nat.le_trans O10.2.1 r11_3
  let Lb13 : Array Slot := #[.val (.long p0), .second, .val (.long p1), .second, .val (.int p2), .val (.int p3), .val (.int (p2 &&& (3 : Int32))), .val (.int ((p3 &&& (2147483647 : Int32)) % (3 : Int32))), .val (.long (p1 &&& (9223372036854775807 : Int64))), .second, .val (.ref b4), .val (.ref b9), .unset, .unset, .unset, .unset, .unset, .unset, .unset, .unset]
  obtain ⟨T14, h14, X14, e14, E14, A14, D14, -, st14⟩ := newO X11 hx hZ hown (wk48 hw) (wk49 hw) (wk50 hw) rfl (g := (mkF m 45 Lb13 [])) rfl (hb hby at_45) (by decide) (by decide)
  obtain ⟨b14, g14⟩ : ∃ z, z = T11.heap.size := ⟨_, rfl⟩
  rw [← g14] at A14 D14 st14
  have gg14 : n0 ≤ b14 := by rw [← O12.1, g14]; exact O12.2.1
  have O15 := O12.ext E14
  have i14_63 : Fld Z h14 b14 cs0 "slot" "I" (.int (0 : Int32)) := D14 (Or.inl (wk63 hw)) (ty := .int) (by decide)
  have i14_65 : Fld Z h14 b14 cs0 "key" cs6 .null := D14 (Or.inr (wk65 hw)) (ty := (.object cs11)) (by decide)
  have i14_67 : Fld Z h14 b14 cs0 "charge" "J" (.long (0 : Int64)) := D14 (Or.inl (wk67 hw)) (ty := .long) (by decide)
  have i14_74 : Fld Z h14 b14 cs0 "value" cs6 .null := D14 (Or.inl (wk74 hw)) (ty := (.object cs11)) (by decide)
  have i14_76 : Fld Z h14 b14 cs0 "expiry" cs7 .null := D14 (Or.inl (wk76 hw)) (ty := (.object cs5)) (by decide)
  have i14_83 : Fld Z h14 b14 cs0 "created" "J" (.long (0 : Int64)) := D14 (Or.inl (wk83 hw)) (ty := .long) (by decide)
  have i14_85 : Fld Z h14 b14 cs0 "lastUsed" "J" (.long (0 : Int64)) := D14 (Or.inl (wk85 hw)) (ty := .long) (by decide)
  have i14_92 : Fld Z h14 b14 cs0 cs10 cs6 .null := D14 (Or.inl (wk92 hw)) (ty := (.object cs11)) (by decide)
  have i14_108 : Fld Z h14 b14 cs0 cs3 cs1 .null := D14 (Or.inl (wk108 hw)) (ty := (.object cs0)) (by decide)
  have i14_110 : Fld Z h14 b14 cs0 cs4 cs1 .null := D14 (Or.inl (wk110 hw)) (ty := (.object cs0)) (by decide)
  obtain ⟨_, _, ⟨T16, L16, kk16, nn16⟩, -, X16, ⟨Lc16, hQ16, l16, y16, z16⟩, st16⟩ := Jvm.LawKit.callS X14 hx (y := ym4) hown (mvT hZ (wk51 hw)) (mvT hZ (wk52 hw)) (mvT hZ (wk53 hw)) (mvT hZ (wk54 hw)) (by decide) (backOf (W := 2) (rm6_5 l Z a0 hw w hW []  h14 n0 O15 ) hZ (wk54 hw) (wk53 hw) (by decide) (by decide)) (g := (mkF m 50 Lb13 [(.int (0 : Int32)), (.ref b14), (.ref b14)])) rfl (by rw [hml]; rfl) (argsL := [(.int (0 : Int32))]) (rest := [(.ref b14), (.ref b14)]) (lenOf pds_3 rfl) rfl (by show 2 * 0 + _ ≤ _; exact Nat.le_of_eq rfl) (hb hby at_50) (fun _ _ => ⟨rfl, e14, (by decide : 8 + 0 ≤ _), (by decide : 477 + 0 ≤ _)⟩)
  dsimp only [Pt.U, Pt.locs, Pt.cells, Pt.slots] at X16 l16 y16 z16 st16 hQ16
  rw [l16, y16, z16] at X16
  obtain ⟨b16_0, rfl, N16q, K16, r16_0, r16_1⟩ := hQ16
  have N16 := Fr.app N11 N16q
  have O17 := own_old O15 K16 own_ng0
  obtain ⟨_, _, ⟨T18, L18, kk18, nn18⟩, -, X18, ⟨Lc18, hQ18, l18, y18, z18⟩, st18⟩ := Jvm.LawKit.callS X16 hx (y := ym4) hown (mvT hZ (wk51 hw)) (mvT hZ (wk52 hw)) (mvT hZ (wk53 hw)) (mvT hZ (wk54 hw)) (by decide) (backOf (W := 3) (rm6_5 l Z a0 hw w hW []  T16.heap n0 O17 ) hZ (wk54 hw) (wk53 hw) (by decide) (by decide)) (g := (mkF m 54 Lb13 [(.int (0 : Int32)), (.ref b16_0), (.ref b14), (.ref b14)])) rfl (by rw [hml]; rfl) (argsL := [(.int (0 : Int32))]) (rest := [(.ref b16_0), (.ref b14), (.ref b14)]) (lenOf pds_3 rfl) rfl (by show 2 * 0 + _ ≤ _; exact Nat.le_of_eq rfl) (hb hby at_54) (fun _ _ => ⟨rfl, rfl, (by decide : 8 + 0 ≤ _), (by decide : 477 + 0 ≤ _)⟩)
  dsimp only [Pt.U, Pt.locs, Pt.cells, Pt.slots] at X18 l18 y18 z18 st18 hQ18
  rw [l18, y18, z18] at X18
  obtain ⟨b18_0, rfl, N18q, K18, r18_0, r18_1⟩ := hQ18
  have N18 := Fr.app N16 N18q
  have O19 := own_old O17 K18 own_ng0
  have t20 := (own_exa (own_exa A14 K16) K18)
  have t21 := (own_fld (own_fld i14_63 K16 own_nl0) K18 own_nl0)
  have t22 := (own_fld (own_fld i14_65 K16 own_nl0) K18 own_nl0)
  have t23 := (own_fld (own_fld i14_67 K16 own_nl0) K18 own_nl0)
  have t24 := (own_fld (own_fld i14_74 K16 own_nl0) K18 own_nl0)
  have t25 := (own_fld (own_fld i14_76 K16 own_nl0) K18 own_nl0)
  have t26 := (own_fld (own_fld i14_83 K16 own_nl0) K18 own_nl0)
  have t27 := (own_fld (own_fld i14_85 K16 own_nl0) K18 own_nl0)
  have t28 := (own_exa (own_exa ((own_exa ((own_exa A4 K6).ext E9) K11).ext E14) K16) K18)
  have ne29 : b4 ≠ b9 := (Nat.ne_of_lt (Nat.lt_of_lt_of_le (Nat.lt_of_lt_of_le A4.lt K6.1) (Nat.le_of_eq g9.symm)))
  have t30 := (own_fld (own_fld ((own_fld (r6_0.ext E9) K11 (own_nlb ne29 (own_nlb ne29 own_nl0))).ext E14) K16 own_nl0) K18 own_nl0)
  have t31 := (own_fld (own_fld i14_92 K16 own_nl0) K18 own_nl0)
  have ne32 : b4 ≠ b14 := (Nat.ne_of_lt (Nat.lt_of_lt_of_le (Nat.lt_of_lt_of_le (Nat.lt_of_lt_of_le (Nat.lt_of_lt_of_le A4.lt K6.1) E9.1) K11.1) (Nat.le_of_eq g14.symm)))
  obtain ⟨_, _, ⟨T33, L33, kk33, nn33⟩, -, X33, ⟨Lc33, hQ33, l33, y33, z33⟩, st33⟩ := X18.specialBack hx (y := ym8) rfl hown (mvT hZ (wk58 hw)) (mvT hZ (wk59 hw)) (mvT hZ (wk60 hw)) (by decide) (backOf (W := 1) (rm7_9 l Z a0 hw w hW [] b14 b16_0 b18_0 b4 p0 (p1 &&& (9223372036854775807 : Int64)) T18.heap n0 O19 t20 t21 gg14 t22 t23 t24 t25 t26 t27 t28 t30 (own_lf1 _) t31 ne32) hZ (wk60 hw) (wk50 hw) (by decide) (by decide)) (g := (mkF m 61 Lb13 [(.long (0 : Int64)), (.long p0), (.ref b4), (.ref b18_0), (.ref b16_0), (.ref b14), (.ref b14)])) rfl (by rw [hml]; rfl) (Steps.refl _) (a := b14) (argsL := [(.ref b16_0), (.ref b18_0), (.ref b4), (.long p0), (.long (0 : Int64))]) (rest := [(.ref b14)]) (lenOf pds_7 rfl) rfl (by show 2 * 0 + _ ≤ _; exact Nat.le_of_eq rfl) (hb hby at_61) (fun _ _ => ⟨rfl, rfl, (by decide : 8 + 0 ≤ _), (by decide : 477 + 0 ≤ _)⟩)
  dsimp only [Pt.U, Pt.locs, Pt.cells, Pt.slots] at X33 l33 y33 z33 st33 hQ33
  rw [l33, y33, z33] at X33
  obtain ⟨rfl, N33q, K33, r33_0, r33_1, r33_2, r33_3, r33_4, r33_5, r33_6, r33_7⟩ := hQ33
  have N33 := Fr.app N18 N33q
  have O34 := own_old O19 K33 (own_ngc gg14 (own_ngc gg14 (own_ngc gg14 (own_ngc gg14 (own_ngc gg14 (own_ngc gg14 (own_ngc gg14 (own_ngc gg14 own_ng0))))))))
  let Lb35 : Array Slot := #[.val (.long p0), .second, .val (.long p1), .second, .val (.int p2), .val (.int p3), .val (.int (p2 &&& (3 : Int32))), .val (.int ((p3 &&& (2147483647 : Int32)) % (3 : Int32))), .val (.long (p1 &&& (9223372036854775807 : Int64))), .second, .val (.ref b4), .val (.ref b9), .val (.ref b14), .unset, .unset, .unset, .unset, .unset, .unset, .unset]
  obtain ⟨T36, h36, X36, e36, E36, A36, D36, -, st36⟩ := newO X33 hx hZ hown (wk48 hw) (wk49 hw) (wk50 hw) rfl (g := (mkF m 66 Lb35 [])) rfl (hb hby at_66) (by decide) (by decide)
  obtain ⟨b36, g36⟩ : ∃ z, z = T33.heap.size := ⟨_, rfl⟩
  rw [← g36] at A36 D36 st36
  have gg36 : n0 ≤ b36 := by rw [← O34.1, g36]; exact O34.2.1
  have O37 := O34.ext E36
  have i36_63 : Fld Z h36 b36 cs0 "slot" "I" (.int (0 : Int32)) := D36 (Or.inl (wk63 hw)) (ty := .int) (by decide)
  have i36_65 : Fld Z h36 b36 cs0 "key" cs6 .null := D36 (Or.inr (wk65 hw)) (ty := (.object cs11)) (by decide)
  have i36_67 : Fld Z h36 b36 cs0 "charge" "J" (.long (0 : Int64)) := D36 (Or.inl (wk67 hw)) (ty := .long) (by decide)
  have i36_74 : Fld Z h36 b36 cs0 "value" cs6 .null := D36 (Or.inl (wk74 hw)) (ty := (.object cs11)) (by decide)
  have i36_76 : Fld Z h36 b36 cs0 "expiry" cs7 .null := D36 (Or.inl (wk76 hw)) (ty := (.object cs5)) (by decide)
  have i36_83 : Fld Z h36 b36 cs0 "created" "J" (.long (0 : Int64)) := D36 (Or.inl (wk83 hw)) (ty := .long) (by decide)
  have i36_85 : Fld Z h36 b36 cs0 "lastUsed" "J" (.long (0 : Int64)) := D36 (Or.inl (wk85 hw)) (ty := .long) (by decide)
  have i36_92 : Fld Z h36 b36 cs0 cs10 cs6 .null := D36 (Or.inl (wk92 hw)) (ty := (.object cs11)) (by decide)
  have i36_108 : Fld Z h36 b36 cs0 cs3 cs1 .null := D36 (Or.inl (wk108 hw)) (ty := (.object cs0)) (by decide)
  have i36_110 : Fld Z h36 b36 cs0 cs4 cs1 .null := D36 (Or.inl (wk110 hw)) (ty := (.object cs0)) (by decide)
  obtain ⟨_, _, ⟨T38, L38, kk38, nn38⟩, -, X38, ⟨Lc38, hQ38, l38, y38, z38⟩, st38⟩ := Jvm.LawKit.callS X36 hx (y := ym4) hown (mvT hZ (wk51 hw)) (mvT hZ (wk52 hw)) (mvT hZ (wk53 hw)) (mvT hZ (wk54 hw)) (by decide) (backOf (W := 2) (rm6_10 l Z a0 hw w hW []  h36 n0 O37 ) hZ (wk54 hw) (wk53 hw) (by decide) (by decide)) (g := (mkF m 71 Lb35 [(.int (1 : Int32)), (.ref b36), (.ref b36)])) rfl (by rw [hml]; rfl) (argsL := [(.int (1 : Int32))]) (rest := [(.ref b36), (.ref b36)]) (lenOf pds_3 rfl) rfl (by show 2 * 0 + _ ≤ _; exact Nat.le_of_eq rfl) (hb hby at_71) (fun _ _ => ⟨rfl, e36, (by decide : 9 + 0 ≤ _), (by decide : 495 + 0 ≤ _)⟩)
  dsimp only [Pt.U, Pt.locs, Pt.cells, Pt.slots] at X38 l38 y38 z38 st38 hQ38
  rw [l38, y38, z38] at X38
  obtain ⟨b38_0, rfl, N38q, K38, r38_0, r38_1⟩ := hQ38
  have N38 := Fr.app N33 N38q
  have O39 := own_old O37 K38 own_ng0
  obtain ⟨_, _, ⟨T40, L40, kk40, nn40⟩, -, X40, ⟨Lc40, hQ40, l40, y40, z40⟩, st40⟩ := Jvm.LawKit.callS X38 hx (y := ym4) hown (mvT hZ (wk51 hw)) (mvT hZ (wk52 hw)) (mvT hZ (wk53 hw)) (mvT hZ (wk54 hw)) (by decide) (backOf (W := 3) (rm6_10 l Z a0 hw w hW []  T38.heap n0 O39 ) hZ (wk54 hw) (wk53 hw) (by decide) (by decide)) (g := (mkF m 75 Lb35 [(.int (1 : Int32)), (.ref b38_0), (.ref b36), (.ref b36)])) rfl (by rw [hml]; rfl) (argsL := [(.int (1 : Int32))]) (rest := [(.ref b38_0), (.ref b36), (.ref b36)]) (lenOf pds_3 rfl) rfl (by show 2 * 0 + _ ≤ _; exact Nat.le_of_eq rfl) (hb hby at_75) (fun _ _ => ⟨rfl, rfl, (by decide : 9 + 0 ≤ _), (by decide : 495 + 0 ≤ _)⟩)
  dsimp only [Pt.U, Pt.locs, Pt.cells, Pt.slots] at X40 l40 y40 z40 st40 hQ40
  rw [l40, y40, z40] at X40
  obtain ⟨b40_0, rfl, N40q, K40, r40_0, r40_1⟩ := hQ40
  have N40 := Fr.app N38 N40q
  have O41 := own_old O39 K40 own_ng0
  have t42 := (own_exa (own_exa A36 K38) K40)
  have t43 := (own_fld (own_fld i36_63 K38 own_nl0) K40 own_nl0)
  have t44 := (own_fld (own_fld i36_65 K38 own_nl0) K40 own_nl0)
  have t45 := (own_fld (own_fld i36_67 K38 own_nl0) K40 own_nl0)
  have t46 := (own_fld (own_fld i36_74 K38 own_nl0) K40 own_nl0)
  have t47 := (own_fld (own_fld i36_76 K38 own_nl0) K40 own_nl0)
  have t48 := (own_fld (own_fld i36_83 K38 own_nl0) K40 own_nl0)
  have t49 := (own_fld (own_fld i36_85 K38 own_nl0) K40 own_nl0)
  have t50 := (own_exa (own_exa ((own_exa t28 K33).ext E36) K38) K40)
  have t51 := (own_fld (own_fld ((own_fld t30 K33 (own_nlb ne32 (own_nlb ne32 (own_nlb ne32 (own_nlb ne32 (own_nlb ne32 (own_nlb ne32 (own_nlb ne32 (own_nlb ne32 own_nl0))))))))).ext E36) K38 own_nl0) K40 own_nl0)
  have t52 := (own_fld (own_fld i36_92 K38 own_nl0) K40 own_nl0)
  have ne53 : b4 ≠ b36 := (Nat.ne_of_lt (Nat.lt_of_lt_of_le (Nat.lt_of_lt_of_le t28.lt K33.1) (Nat.le_of_eq g36.symm)))
  obtain ⟨_, _, ⟨T54, L54, kk54, nn54⟩, -, X54, ⟨Lc54, hQ54, l54, y54, z54⟩, st54⟩ := X40.specialBack hx (y := ym8) rfl hown (mvT hZ (wk58 hw)) (mvT hZ (wk59 hw)) (mvT hZ (wk60 hw)) (by decide) (backOf (W := 1) (rm7_9 l Z a0 hw w hW [] b36 b38_0 b40_0 b4 p0 (p1 &&& (9223372036854775807 : Int64)) T40.heap n0 O41 t42 t43 gg36 t44 t45 t46 t47 t48 t49 t50 t51 (own_lf1 _) t52 ne53) hZ (wk60 hw) (wk50 hw) (by decide) (by decide)) (g := (mkF m 82 Lb35 [(.long (0 : Int64)), (.long p0), (.ref b4), (.ref b40_0), (.ref b38_0), (.ref b36), (.ref b36)])) rfl (by rw [hml]; rfl) (Steps.refl _) (a := b36) (argsL := [(.ref b38_0), (.ref b40_0), (.ref b4), (.long p0), (.long (0 : Int64))]) (rest := [(.ref b36)]) (lenOf pds_7 rfl) rfl (by show 2 * 0 + _ ≤ _; exact Nat.le_of_eq rfl) (hb hby at_82) (fun _ _ => ⟨rfl, rfl, (by decide : 9 + 0 ≤ _), (by decide : 495 + 0 ≤ _)⟩)
  dsimp only [Pt.U, Pt.locs, Pt.cells, Pt.slots] at X54 l54 y54 z54 st54 hQ54
  rw [l54, y54, z54] at X54
  obtain ⟨rfl, N54q, K54, r54_0, r54_1, r54_2, r54_3, r54_4, r54_5, r54_6, r54_7⟩ := hQ54
  have N54 := Fr.app N40 N54q
  have O55 := own_old O41 K54 (own_ngc gg36 (own_ngc gg36 (own_ngc gg36 (own_ngc gg36 (own_ngc gg36 (own_ngc gg36 (own_ngc gg36 (own_ngc gg36 own_ng0))))))))
  let Lb56 : Array Slot := #[.val (.long p0), .second, .val (.long p1), .second, .val (.int p2), .val (.int p3), .val (.int (p2 &&& (3 : Int32))), .val (.int ((p3 &&& (2147483647 : Int32)) % (3 : Int32))), .val (.long (p1 &&& (9223372036854775807 : Int64))), .second, .val (.ref b4), .val (.ref b9), .val (.ref b14), .val (.ref b36), .unset, .unset, .unset, .unset, .unset, .unset]
  obtain ⟨T57, h57, X57, e57, E57, A57, D57, -, st57⟩ := newO X54 hx hZ hown (wk48 hw) (wk49 hw) (wk50 hw) rfl (g := (mkF m 87 Lb56 [])) rfl (hb hby at_87) (by decide) (by decide)
  obtain ⟨b57, g57⟩ : ∃ z, z = T54.heap.size := ⟨_, rfl⟩
  rw [← g57] at A57 D57 st57
  have gg57 : n0 ≤ b57 := by rw [← O55.1, g57]; exact O55.2.1
  have O58 := O55.ext E57
  have i57_63 : Fld Z h57 b57 cs0 "slot" "I" (.int (0 : Int32)) := D57 (Or.inl (wk63 hw)) (ty := .int) (by decide)
  have i57_65 : Fld Z h57 b57 cs0 "key" cs6 .null := D57 (Or.inr (wk65 hw)) (ty := (.object cs11)) (by decide)
  have i57_67 : Fld Z h57 b57 cs0 "charge" "J" (.long (0 : Int64)) := D57 (Or.inl (wk67 hw)) (ty := .long) (by decide)
  have i57_74 : Fld Z h57 b57 cs0 "value" cs6 .null := D57 (Or.inl (wk74 hw)) (ty := (.object cs11)) (by decide)
  have i57_76 : Fld Z h57 b57 cs0 "expiry" cs7 .null := D57 (Or.inl (wk76 hw)) (ty := (.object cs5)) (by decide)
  have i57_83 : Fld Z h57 b57 cs0 "created" "J" (.long (0 : Int64)) := D57 (Or.inl (wk83 hw)) (ty := .long) (by decide)
  have i57_85 : Fld Z h57 b57 cs0 "lastUsed" "J" (.long (0 : Int64)) := D57 (Or.inl (wk85 hw)) (ty := .long) (by decide)
  have i57_92 : Fld Z h57 b57 cs0 cs10 cs6 .null := D57 (Or.inl (wk92 hw)) (ty := (.object cs11)) (by decide)
  have i57_108 : Fld Z h57 b57 cs0 cs3 cs1 .null := D57 (Or.inl (wk108 hw)) (ty := (.object cs0)) (by decide)
  have i57_110 : Fld Z h57 b57 cs0 cs4 cs1 .null := D57 (Or.inl (wk110 hw)) (ty := (.object cs0)) (by decide)
  obtain ⟨_, _, ⟨T59, L59, kk59, nn59⟩, -, X59, ⟨Lc59, hQ59, l59, y59, z59⟩, st59⟩ := Jvm.LawKit.callS X57 hx (y := ym4) hown (mvT hZ (wk51 hw)) (mvT hZ (wk52 hw)) (mvT hZ (wk53 hw)) (mvT hZ (wk54 hw)) (by decide) (backOf (W := 2) (rm6_11 l Z a0 hw w hW []  h57 n0 O58 ) hZ (wk54 hw) (wk53 hw) (by decide) (by decide)) (g := (mkF m 92 Lb56 [(.int (2 : Int32)), (.ref b57), (.ref b57)])) rfl (by rw [hml]; rfl) (argsL := [(.int (2 : Int32))]) (rest := [(.ref b57), (.ref b57)]) (lenOf pds_3 rfl) rfl (by show 2 * 0 + _ ≤ _; exact Nat.le_of_eq rfl) (hb hby at_92) (fun _ _ => ⟨rfl, e57, (by decide : 10 + 0 ≤ _), (by decide : 513 + 0 ≤ _)⟩)
  dsimp only [Pt.U, Pt.locs, Pt.cells, Pt.slots] at X59 l59 y59 z59 st59 hQ59
  rw [l59, y59, z59] at X59
  obtain ⟨b59_0, rfl, N59q, K59, r59_0, r59_1⟩ := hQ59
  have N59 := Fr.app N54 N59q
  have O60 := own_old O58 K59 own_ng0
  obtain ⟨_, _, ⟨T61, L61, kk61, nn61⟩, -, X61, ⟨Lc61, hQ61, l61, y61, z61⟩, st61⟩ := Jvm.LawKit.callS X59 hx (y := ym4) hown (mvT hZ (wk51 hw)) (mvT hZ (wk52 hw)) (mvT hZ (wk53 hw)) (mvT hZ (wk54 hw)) (by decide) (backOf (W := 3) (rm6_11 l Z a0 hw w hW []  T59.heap n0 O60 ) hZ (wk54 hw) (wk53 hw) (by decide) (by decide)) (g := (mkF m 96 Lb56 [(.int (2 : Int32)), (.ref b59_0), (.ref b57), (.ref b57)])) rfl (by rw [hml]; rfl) (argsL := [(.int (2 : Int32))]) (rest := [(.ref b59_0), (.ref b57), (.ref b57)]) (lenOf pds_3 rfl) rfl (by show 2 * 0 + _ ≤ _; exact Nat.le_of_eq rfl) (hb hby at_96) (fun _ _ => ⟨rfl, rfl, (by decide : 10 + 0 ≤ _), (by decide : 513 + 0 ≤ _)⟩)
  dsimp only [Pt.U, Pt.locs, Pt.cells, Pt.slots] at X61 l61 y61 z61 st61 hQ61
  rw [l61, y61, z61] at X61
  obtain ⟨b61_0, rfl, N61q, K61, r61_0, r61_1⟩ := hQ61
  have N61 := Fr.app N59 N61q
  have O62 := own_old O60 K61 own_ng0
  have t63 := (own_exa (own_exa A57 K59) K61)
  have t64 := (own_fld (own_fld i57_63 K59 own_nl0) K61 own_nl0)
  have t65 := (own_fld (own_fld i57_65 K59 own_nl0) K61 own_nl0)
  have t66 := (own_fld (own_fld i57_67 K59 own_nl0) K61 own_nl0)
  have t67 := (own_fld (own_fld i57_74 K59 own_nl0) K61 own_nl0)
  have t68 := (own_fld (own_fld i57_76 K59 own_nl0) K61 own_nl0)
  have t69 := (own_fld (own_fld i57_83 K59 own_nl0) K61 own_nl0)
  have t70 := (own_fld (own_fld i57_85 K59 own_nl0) K61 own_nl0)
  have t71 := (own_exa (own_exa ((own_exa t50 K54).ext E57) K59) K61)
  have t72 := (own_fld (own_fld ((own_fld t51 K54 (own_nlb ne53 (own_nlb ne53 (own_nlb ne53 (own_nlb ne53 (own_nlb ne53 (own_nlb ne53 (own_nlb ne53 (own_nlb ne53 own_nl0))))))))).ext E57) K59 own_nl0) K61 own_nl0)
  have t73 := (own_fld (own_fld i57_92 K59 own_nl0) K61 own_nl0)
  have ne74 : b4 ≠ b57 := (Nat.ne_of_lt (Nat.lt_of_lt_of_le (Nat.lt_of_lt_of_le t50.lt K54.1) (Nat.le_of_eq g57.symm)))
  obtain ⟨_, _, ⟨T75, L75, kk75, nn75⟩, -, X75, ⟨Lc75, hQ75, l75, y75, z75⟩, st75⟩ := X61.specialBack hx (y := ym8) rfl hown (mvT hZ (wk58 hw)) (mvT hZ (wk59 hw)) (mvT hZ (wk60 hw)) (by decide) (backOf (W := 1) (rm7_9 l Z a0 hw w hW [] b57 b59_0 b61_0 b4 p0 (p1 &&& (9223372036854775807 : Int64)) T61.heap n0 O62 t63 t64 gg57 t65 t66 t67 t68 t69 t70 t71 t72 (own_lf1 _) t73 ne74) hZ (wk60 hw) (wk50 hw) (by decide) (by decide)) (g := (mkF m 103 Lb56 [(.long (0 : Int64)), (.long p0), (.ref b4), (.ref b61_0), (.ref b59_0), (.ref b57), (.ref b57)])) rfl (by rw [hml]; rfl) (Steps.refl _) (a := b57) (argsL := [(.ref b59_0), (.ref b61_0), (.ref b4), (.long p0), (.long (0 : Int64))]) (rest := [(.ref b57)]) (lenOf pds_7 rfl) rfl (by show 2 * 0 + _ ≤ _; exact Nat.le_of_eq rfl) (hb hby at_103) (fun _ _ => ⟨rfl, rfl, (by decide : 10 + 0 ≤ _), (by decide : 513 + 0 ≤ _)⟩)
  dsimp only [Pt.U, Pt.locs, Pt.cells, Pt.slots] at X75 l75 y75 z75 st75 hQ75
  rw [l75, y75, z75] at X75
  obtain ⟨rfl, N75q, K75, r75_0, r75_1, r75_2, r75_3, r75_4, r75_5, r75_6, r75_7⟩ := hQ75
  have N75 := Fr.app N61 N75q
  have O76 := own_old O62 K75 (own_ngc gg57 (own_ngc gg57 (own_ngc gg57 (own_ngc gg57 (own_ngc gg57 (own_ngc gg57 (own_ngc gg57 (own_ngc gg57 own_ng0))))))))
  let Lb77 : Array Slot := #[.val (.long p0), .second, .val (.long p1), .second, .val (.int p2), .val (.int p3), .val (.int (p2 &&& (3 : Int32))), .val (.int ((p3 &&& (2147483647 : Int32)) % (3 : Int32))), .val (.long (p1 &&& (9223372036854775807 : Int64))), .second, .val (.ref b4), .val (.ref b9), .val (.ref b14), .val (.ref b36), .val (.ref b57), .unset, .unset, .unset, .unset, .unset]
  have pre78 : ∀ t, Steps p.tables e below (T75.setTop (mkF m 111 #[.val (.long p0), .second, .val (.long p1), .second, .val (.int p2), .val (.int p3), .val (.int (p2 &&& (3 : Int32))), .val (.int ((p3 &&& (2147483647 : Int32)) % (3 : Int32))), .val (.long (p1 &&& (9223372036854775807 : Int64))), .second, .val (.ref b4), .val (.ref b9), .val (.ref b14), .val (.ref b36), .val (.ref b57), .unset, .unset, .unset, .unset, .unset] [(.int (1 : Int32)), (.int (p2 &&& (3 : Int32)))])) t → Steps p.tables e below (s₁.setTop (entryFrame m #[(.long p0), (.long p1), (.int p2), (.int p3)] maxLocals)) t := fun t k => pre0 t (by
   show Steps p.tables e below (s₁.setTop (mkF m 0 La [])) _
   refine si X0 hx hby at_0 rfl ?_
   refine sc X0 hx hby at_2 ?_
   refine XS.iand X0.here hx rfl (hb hby at_3) rfl ?_
   refine XS.istore X0.here hx rfl (hb hby at_4) rfl (l' := Lb1) rfl ?_
   refine si X0 hx hby at_6 rfl ?_
   show Steps p.tables e below (s₁.setTop (mkF m 8 Lb1 [(.int p3)])) _
   refine X0.ldcInt hx hownA (mvT hZA (wk0 hw)) (g := (mkF m 8 Lb1 [(.int p3)])) rfl (hb hby at_8) _ ?_
   refine XS.iand X0.here hx rfl (hb hby at_10) rfl ?_
   refine sc X0 hx hby at_11 ?_
   refine iremM X0 hx rfl (hb hby at_12) rfl (by decide) ?_
   refine XS.istore X0.here hx rfl (hb hby at_13) rfl (l' := Lb2) rfl ?_
   show Steps p.tables e below (s₁.setTop (mkF m 15 Lb2 [])) _
   refine sL X0 hx hby at_15 rfl ?_
   refine X0.ldc2Long hx hownA (mvT hZA (wk1 hw)) (g := (mkF m 16 Lb2 [(.long p1)])) rfl (hb hby at_16) _ ?_
   refine XS.land X0.here hx rfl (hb hby at_19) rfl ?_
   refine XS.lstore X0.here hx rfl (hb hby at_20) rfl (l' := Lb3) rfl ?_
   refine st4 _ ?_
   refine XS.dup X4.here hx rfl (hb hby at_25) rfl rfl ?_
   refine XS.lload X4.here hx rfl (hb hby at_26) rfl ?_
   refine X4.ldc2Long hx hownA (mvT hZA (wk5 hw)) (g := (mkF m 28 Lb3 [(.long (p1 &&& (9223372036854775807 : Int64))), (.ref b4), (.ref b4)])) rfl (hb hby at_28) _ ?_
   refine st6.trans ?_
   refine XS.astore X6.here hx rfl (hb hby at_34) rfl rfl (l' := Lb8) rfl ?_
   refine st9 _ ?_
   refine XS.dup X9.here hx rfl (hb hby at_39) rfl rfl ?_
   refine st11.trans ?_
   refine XS.astore X11.here hx rfl (hb hby at_43) rfl rfl (l' := Lb13) rfl ?_
   refine st14 _ ?_
   refine XS.dup X14.here hx rfl (hb hby at_48) rfl rfl ?_
   refine sc X14 hx hby at_49 ?_
   refine st16 _ ?_
   refine sc X16 hx hby at_53 ?_
   refine st18 _ ?_
   refine sa X18 hx hby at_57 rfl rfl ?_
   refine sL X18 hx hby at_59 rfl ?_
   refine XS.lconst X18.here hx rfl (hb hby at_60) ?_
   refine st33.trans ?_
   refine XS.astore X33.here hx rfl (hb hby at_64) rfl rfl (l' := Lb35) rfl ?_
   refine st36 _ ?_
   refine XS.dup X36.here hx rfl (hb hby at_69) rfl rfl ?_
   refine sc X36 hx hby at_70 ?_
   refine st38 _ ?_
   refine sc X38 hx hby at_74 ?_
   refine st40 _ ?_
   refine sa X40 hx hby at_78 rfl rfl ?_
   refine sL X40 hx hby at_80 rfl ?_
   refine XS.lconst X40.here hx rfl (hb hby at_81) ?_
   refine st54.trans ?_
   refine XS.astore X54.here hx rfl (hb hby at_85) rfl rfl (l' := Lb56) rfl ?_
   refine st57 _ ?_
   refine XS.dup X57.here hx rfl (hb hby at_90) rfl rfl ?_
   refine sc X57 hx hby at_91 ?_
   refine st59 _ ?_
   refine sc X59 hx hby at_95 ?_
   refine st61 _ ?_
   refine sa X61 hx hby at_99 rfl rfl ?_
   refine sL X61 hx hby at_101 rfl ?_
   refine XS.lconst X61.here hx rfl (hb hby at_102) ?_
   refine st75.trans ?_
   refine XS.astore X75.here hx rfl (hb hby at_106) rfl rfl (l' := Lb77) rfl ?_
   refine si X75 hx hby at_108 rfl ?_
   refine sc X75 hx hby at_110 ?_
   exact k)
  rcases (own_and3 p2) with hs79 | hs79 | hs79 | hs79
  ·
   rw [hs79] at pre78
   let Lb80 : Array Slot := #[.val (.long p0), .second, .val (.long p1), .second, .val (.int p2), .val (.int p3), .val (.int (0 : Int32)), .val (.int ((p3 &&& (2147483647 : Int32)) % (3 : Int32))), .val (.long (p1 &&& (9223372036854775807 : Int64))), .second, .val (.ref b4), .val (.ref b9), .val (.ref b14), .val (.ref b36), .val (.ref b57), .unset, .unset, .unset, .unset, .unset]
   have ne81 : b14 ≠ b36 := (Nat.ne_of_lt (Nat.lt_of_lt_of_le (Nat.lt_of_lt_of_le t20.lt K33.1) (Nat.le_of_eq g36.symm)))
   have ne82 : b14 ≠ b57 := (Nat.ne_of_lt (Nat.lt_of_lt_of_le (Nat.lt_of_lt_of_le (Nat.lt_of_lt_of_le (Nat.lt_of_lt_of_le (Nat.lt_of_lt_of_le (Nat.lt_of_lt_of_le t20.lt K33.1) E36.1) K38.1) K40.1) K54.1) (Nat.le_of_eq g57.symm)))
   have t83 := (own_fld (own_fld (own_fld ((own_fld (own_fld (own_fld (r33_0.ext E36) K38 own_nl0) K40 own_nl0) K54 (own_nlb ne81 (own_nlb ne81 (own_nlb ne81 (own_nlb ne81 (own_nlb ne81 (own_nlb ne81 (own_nlb ne81 (own_nlb ne81 own_nl0))))))))).ext E57) K59 own_nl0) K61 own_nl0) K75 (own_nlb ne82 (own_nlb ne82 (own_nlb ne82 (own_nlb ne82 (own_nlb ne82 (own_nlb ne82 (own_nlb ne82 (own_nlb ne82 own_nl0)))))))))
   obtain ⟨T84, X84, e84, st84⟩ := getF X75 hx hZ hown (host := "") (Or.inl (wk93 hw)) Via.refl rfl t83 (g := (mkF m 152 Lb80 [(.ref b14)])) rfl rfl (hb hby at_152)
   let Lb85 : Array Slot := #[.val (.long p0), .second, .val (.long p1), .second, .val (.int p2), .val (.int p3), .val (.int (0 : Int32)), .val (.int ((p3 &&& (2147483647 : Int32)) % (3 : Int32))), .val (.long (p1 &&& (9223372036854775807 : Int64))), .second, .val (.ref b4), .val (.ref b9), .val (.ref b14), .val (.ref b36), .val (.ref b57), .val (.int (-1 : Int32)), .unset, .unset, .unset, .unset]
   have pre86 : ∀ t, Steps p.tables e below (T84.setTop (mkF m 159 #[.val (.long p0), .second, .val (.long p1), .second, .val (.int p2), .val (.int p3), .val (.int (0 : Int32)), .val (.int ((p3 &&& (2147483647 : Int32)) % (3 : Int32))), .val (.long (p1 &&& (9223372036854775807 : Int64))), .second, .val (.ref b4), .val (.ref b9), .val (.ref b14), .val (.ref b36), .val (.ref b57), .val (.int (-1 : Int32)), .unset, .unset, .unset, .unset] [(.int ((p3 &&& (2147483647 : Int32)) % (3 : Int32)))])) t → Steps p.tables e below (s₁.setTop (entryFrame m #[(.long p0), (.long p1), (.int p2), (.int p3)] maxLocals)) t := fun t k => pre78 t (by
    show Steps p.tables e below (T75.setTop (mkF m 111 Lb80 [(.int (1 : Int32)), (.int (0 : Int32))])) _
    refine XS.icmpYes X75.here hx rfl (pc0 := 111) (pc' := 122) rfl (hb hby at_111) rfl (by decide) (by decide) (by decide) ?_
    refine si X75 hx hby at_122 rfl ?_
    refine sc X75 hx hby at_124 ?_
    refine XS.icmpYes X75.here hx rfl (pc0 := 125) (pc' := 136) rfl (hb hby at_125) rfl (by decide) (by decide) (by decide) ?_
    refine si X75 hx hby at_136 rfl ?_
    show Steps p.tables e below (T75.setTop (mkF m 138 Lb80 [(.int (0 : Int32))])) _
    refine sc X75 hx hby at_138 ?_
    refine XS.icmpYes X75.here hx rfl (pc0 := 139) (pc' := 150) rfl (hb hby at_139) rfl (by decide) (by decide) (by decide) ?_
    refine sa X75 hx hby at_150 rfl rfl ?_
    refine st84 _ ?_
    refine XS.istore X84.here hx rfl (hb hby at_155) rfl (l' := Lb85) rfl ?_
    refine si X84 hx hby at_157 rfl ?_
    exact k)
   rcases (own_rem3 p3) with hs87 | hs87 | hs87
   ·
    rw [hs87] at pre86
    let Lb88 : Array Slot := #[.val (.long p0), .second, .val (.long p1), .second, .val (.int p2), .val (.int p3), .val (.int (0 : Int32)), .val (.int (0 : Int32)), .val (.long (p1 &&& (9223372036854775807 : Int64))), .second, .val (.ref b4), .val (.ref b9), .val (.ref b14), .val (.ref b36), .val (.ref b57), .val (.int (-1 : Int32)), .unset, .unset, .unset, .unset]
    let Lb89 : Array Slot := #[.val (.long p0), .second, .val (.long p1), .second, .val (.int p2), .val (.int p3), .val (.int (0 : Int32)), .val (.int (0 : Int32)), .val (.long (p1 &&& (9223372036854775807 : Int64))), .second, .val (.ref b4), .val (.ref b9), .val (.ref b14), .val (.ref b36), .val (.ref b57), .val (.int (-1 : Int32)), .val (.ref b14), .unset, .unset, .unset]
    obtain ⟨T90, h90, k90, X90, e90, E90, A90, Ov90, st90⟩ := newR X84 hx hZ hown (wk48 hw) (wk45 hw) e84 (g := (mkF m 183 Lb89 [(.int (3 : Int32))])) rfl (hb hby at_183) rfl (by decide) (cap := 3) (by decide) (by decide) (by decide) (by decide)
    obtain ⟨b90, g90⟩ : ∃ z, z = T75.heap.size := ⟨_, rfl⟩
    rw [← g90] at A90 st90
    have gg90 : n0 ≤ b90 := by rw [← O76.1, g90]; exact O76.2.1
    have O91 := O76.ext E90
    have V90 : Arv Z h90 b90 k90 (.object cs0) (3 : Int32) [.null, .null, .null] .null := own_pad (dv := .null) (Arv.new A90 (by decide)) 3 _ rfl
    let Lb92 : Array Slot := #[.val (.long p0), .second, .val (.long p1), .second, .val (.int p2), .val (.int p3), .val (.int (0 : Int32)), .val (.int (0 : Int32)), .val (.long (p1 &&& (9223372036854775807 : Int64))), .second, .val (.ref b4), .val (.ref b9), .val (.ref b14), .val (.ref b36), .val (.ref b57), .val (.int (-1 : Int32)), .val (.ref b14), .val (.ref b90), .unset, .unset]
    let Lb93 : Array Slot := #[.val (.long p0), .second, .val (.long p1), .second, .val (.int p2), .val (.int p3), .val (.int (0 : Int32)), .val (.int (0 : Int32)), .val (.long (p1 &&& (9223372036854775807 : Int64))), .second, .val (.ref b4), .val (.ref b9), .val (.ref b14), .val (.ref b36), .val (.ref b57), .val (.int (-1 : Int32)), .val (.ref b14), .val (.ref b90), .val (.int (0 : Int32)), .unset]
    have t94 := (t83.ext E90)
    have t96 := ((own_exa (own_exa (own_exa ((own_exa (own_exa (own_exa ((own_exa (own_exa (own_exa ((own_exa A9 K11).ext E14) K16) K18) K33).ext E36) K38) K40) K54).ext E57) K59) K61) K75).ext E90)
    obtain ⟨cq95, kq95, q95a, q95b, q95c⟩ := isOf hZ e90 t96
    obtain ⟨_, _, ⟨T95, L95, kk95, nn95⟩, -, X95, ⟨Lc95, hQ95, l95, y95, z95⟩, st95⟩ := X90.virtualBack hx (y := ym9) (z := ym9) hown (mvT hZ (wk94 hw)) (mvT hZ (wk95 hw)) (notFace_of_selects (args := #[]) (mvT hZ (wk97 hw))) (mvT hZ (wk97 hw)) (mvT hZ (wk96 hw)) (by decide) (backOf (W := 0) (rm11_12 l Z a0 hw w hW [] b9 b14 h90 n0 O91 t94) hZ (wk98 hw) (wk36 hw) (by decide) (by decide)) q95a q95c (g := (mkF m 260 Lb93 [(.ref b14), (.ref b9)])) rfl (by rw [hml]; rfl) (Steps.refl _) (argsL := [(.ref b14)]) (rest := []) (lenOf pds_8 rfl) rfl (by show 2 * 0 + _ ≤ _; exact Nat.le_of_eq rfl) (hb hby at_260) (fun _ _ => ⟨rfl, e90, (by decide : 11 + 0 ≤ _), (by decide : 516 + 0 ≤ _)⟩)
    dsimp only [Pt.U, Pt.locs, Pt.cells, Pt.slots] at X95 l95 y95 z95 st95 hQ95
    rw [l95, y95, z95] at X95
    obtain ⟨rfl, N95q, e95⟩ := hQ95
    have N95 := Fr.app N75 N95q
    have ne97 : b9 ≠ b14 := (Nat.ne_of_lt (Nat.lt_of_lt_of_le (Nat.lt_of_lt_of_le A9.lt K11.1) (Nat.le_of_eq g14.symm)))
    have ne98 : b9 ≠ b36 := (Nat.ne_of_lt (Nat.lt_of_lt_of_le (Nat.lt_of_lt_of_le (Nat.lt_of_lt_of_le (Nat.lt_of_lt_of_le (Nat.lt_of_lt_of_le (Nat.lt_of_lt_of_le A9.lt K11.1) E14.1) K16.1) K18.1) K33.1) (Nat.le_of_eq g36.symm)))
    have ne99 : b9 ≠ b57 := (Nat.ne_of_lt (Nat.lt_of_lt_of_le (Nat.lt_of_lt_of_le (Nat.lt_of_lt_of_le (Nat.lt_of_lt_of_le (Nat.lt_of_lt_of_le (Nat.lt_of_lt_of_le (Nat.lt_of_lt_of_le (Nat.lt_of_lt_of_le (Nat.lt_of_lt_of_le (Nat.lt_of_lt_of_le A9.lt K11.1) E14.1) K16.1) K18.1) K33.1) E36.1) K38.1) K40.1) K54.1) (Nat.le_of_eq g57.symm)))
    have t100 := ((own_fld (own_fld (own_fld ((own_fld (own_fld (own_fld ((own_fld (own_fld (own_fld ((own_fld i9_106 K11 (own_nls (sn61 hw) (own_nls (sn60 hw) own_nl0))).ext E14) K16 own_nl0) K18 own_nl0) K33 (own_nlb ne97 (own_nlb ne97 (own_nlb ne97 (own_nlb ne97 (own_nlb ne97 (own_nlb ne97 (own_nlb ne97 (own_nlb ne97 own_nl0))))))))).ext E36) K38 own_nl0) K40 own_nl0) K54 (own_nlb ne98 (own_nlb ne98 (own_nlb ne98 (own_nlb ne98 (own_nlb ne98 (own_nlb ne98 (own_nlb ne98 (own_nlb ne98 own_nl0))))))))).ext E57) K59 own_nl0) K61 own_nl0) K75 (own_nlb ne99 (own_nlb ne99 (own_nlb ne99 (own_nlb ne99 (own_nlb ne99 (own_nlb ne99 (own_nlb ne99 (own_nlb ne99 own_nl0))))))))).ext E90)
    obtain ⟨cq101, kq101, q101a, q101b, q101c⟩ := isOf hZ e95 t96
    obtain ⟨_, _, ⟨T101, L101, kk101, nn101⟩, -, X101, ⟨Lc101, hQ101, l101, y101, z101⟩, st101⟩ := X95.virtualBack hx (y := ym10) (z := ym10) hown (mvT hZ (wk100 hw)) (mvT hZ (wk101 hw)) (notFace_of_selects (args := #[]) (mvT hZ (wk103 hw))) (mvT hZ (wk103 hw)) (mvT hZ (wk102 hw)) (by decide) (backOf (W := 0) (rm12_13 l Z a0 hw w hW [] b9 h90 n0 O91 t100) hZ (wk104 hw) (wk36 hw) (by decide) (by decide)) q101a q101c (g := (mkF m 265 Lb93 [(.ref b9)])) rfl (by rw [hml]; rfl) (Steps.refl _) (argsL := []) (rest := []) (lenOf pds_9 rfl) rfl (by show 2 * 0 + _ ≤ _; exact Nat.le_of_eq rfl) (hb hby at_265) (fun _ _ => ⟨rfl, e95, (by decide : 11 + 0 ≤ _), (by decide : 516 + 0 ≤ _)⟩)
    dsimp only [Pt.U, Pt.locs, Pt.cells, Pt.slots] at X101 l101 y101 z101 st101 hQ101
    rw [l101, y101, z101] at X101
    obtain ⟨rfl, N101q, e101⟩ := hQ101
    have N101 := Fr.app N95 N101q
    let Lb102 : Array Slot := #[.val (.long p0), .second, .val (.long p1), .second, .val (.int p2), .val (.int p3), .val (.int (0 : Int32)), .val (.int (0 : Int32)), .val (.long (p1 &&& (9223372036854775807 : Int64))), .second, .val (.ref b4), .val (.ref b9), .val (.ref b14), .val (.ref b36), .val (.ref b57), .val (.int (-1 : Int32)), .val (.ref b14), .val (.ref b90), .val (.int (0 : Int32)), .val (.int (1 : Int32))]
    obtain ⟨T103, X103, e103, st103⟩ := getF X101 hx hZ hown (host := "") (Or.inl (wk93 hw)) Via.refl e101 t94 (g := (mkF m 289 Lb102 [(.ref b14)])) rfl rfl (hb hby at_289)
    have t104 := ((own_fld (own_fld (own_fld ((own_fld (own_fld (own_fld ((own_fld (own_fld (own_fld i14_108 K16 own_nl0) K18 own_nl0) K33 (own_nls (sn69 hw) (own_nls (sn68 hw) (own_nls (sn67 hw) (own_nls (sn66 hw) (own_nls (sn65 hw) (own_nls (sn64 hw) (own_nls (sn63 hw) (own_nls (sn62 hw) own_nl0))))))))).ext E36) K38 own_nl0) K40 own_nl0) K54 (own_nlb ne81 (own_nlb ne81 (own_nlb ne81 (own_nlb ne81 (own_nlb ne81 (own_nlb ne81 (own_nlb ne81 (own_nlb ne81 own_nl0))))))))).ext E57) K59 own_nl0) K61 own_nl0) K75 (own_nlb ne82 (own_nlb ne82 (own_nlb ne82 (own_nlb ne82 (own_nlb ne82 (own_nlb ne82 (own_nlb ne82 (own_nlb ne82 own_nl0))))))))).ext E90)
    obtain ⟨T105, X105, e105, st105⟩ := getF X103 hx hZ hown (host := "") (Or.inl (wk107 hw)) Via.refl e103 t104 (g := (mkF m 298 Lb102 [(.ref b14)])) rfl rfl (hb hby at_298)
    have t106 := ((own_fld (own_fld (own_fld ((own_fld (own_fld (own_fld ((own_fld (own_fld (own_fld i14_110 K16 own_nl0) K18 own_nl0) K33 (own_nls (sn77 hw) (own_nls (sn76 hw) (own_nls (sn75 hw) (own_nls (sn74 hw) (own_nls (sn73 hw) (own_nls (sn72 hw) (own_nls (sn71 hw) (own_nls (sn70 hw) own_nl0))))))))).ext E36) K38 own_nl0) K40 own_nl0) K54 (own_nlb ne81 (own_nlb ne81 (own_nlb ne81 (own_nlb ne81 (own_nlb ne81 (own_nlb ne81 (own_nlb ne81 (own_nlb ne81 own_nl0))))))))).ext E57) K59 own_nl0) K61 own_nl0) K75 (own_nlb ne82 (own_nlb ne82 (own_nlb ne82 (own_nlb ne82 (own_nlb ne82 (own_nlb ne82 (own_nlb ne82 (own_nlb ne82 own_nl0))))))))).ext E90)
    obtain ⟨T107, X107, e107, st107⟩ := getF X105 hx hZ hown (host := "") (Or.inl (wk109 hw)) Via.refl e105 t106 (g := (mkF m 306 Lb102 [(.ref b14)])) rfl rfl (hb hby at_306)
    have t108 := ((own_fld (own_fld (own_fld ((own_fld (own_fld (own_fld ((own_fld (own_fld (own_fld (r11_0.ext E14) K16 own_nl0) K18 own_nl0) K33 (own_nlb ne97 (own_nlb ne97 (own_nlb ne97 (own_nlb ne97 (own_nlb ne97 (own_nlb ne97 (own_nlb ne97 (own_nlb ne97 own_nl0))))))))).ext E36) K38 own_nl0) K40 own_nl0) K54 (own_nlb ne98 (own_nlb ne98 (own_nlb ne98 (own_nlb ne98 (own_nlb ne98 (own_nlb ne98 (own_nlb ne98 (own_nlb ne98 own_nl0))))))))).ext E57) K59 own_nl0) K61 own_nl0) K75 (own_nlb ne99 (own_nlb ne99 (own_nlb ne99 (own_nlb ne99 (own_nlb ne99 (own_nlb ne99 (own_nlb ne99 (own_nlb ne99 own_nl0))))))))).ext E90)
    have t109 := ((own_fld (own_fld (own_fld ((own_fld (own_fld (own_fld (r33_4.ext E36) K38 own_nl0) K40 own_nl0) K54 (own_nlb ne81 (own_nlb ne81 (own_nlb ne81 (own_nlb ne81 (own_nlb ne81 (own_nlb ne81 (own_nlb ne81 (own_nlb ne81 own_nl0))))))))).ext E57) K59 own_nl0) K61 own_nl0) K75 (own_nlb ne82 (own_nlb ne82 (own_nlb ne82 (own_nlb ne82 (own_nlb ne82 (own_nlb ne82 (own_nlb ne82 (own_nlb ne82 own_nl0))))))))).ext E90)
    have t110 := ((own_exa t71 K75).ext E90)
    have t111 := ((own_fld t72 K75 (own_nlb ne74 (own_nlb ne74 (own_nlb ne74 (own_nlb ne74 (own_nlb ne74 (own_nlb ne74 (own_nlb ne74 (own_nlb ne74 own_nl0))))))))).ext E90)
    have t112 := ((own_exa (own_exa (own_exa ((own_exa (own_exa (own_exa ((own_exa t20 K33).ext E36) K38) K40) K54).ext E57) K59) K61) K75).ext E90)
    have t113 := ((own_fld (own_fld (own_fld ((own_fld (own_fld (own_fld (r33_5.ext E36) K38 own_nl0) K40 own_nl0) K54 (own_nlb ne81 (own_nlb ne81 (own_nlb ne81 (own_nlb ne81 (own_nlb ne81 (own_nlb ne81 (own_nlb ne81 (own_nlb ne81 own_nl0))))))))).ext E57) K59 own_nl0) K61 own_nl0) K75 (own_nlb ne82 (own_nlb ne82 (own_nlb ne82 (own_nlb ne82 (own_nlb ne82 (own_nlb ne82 (own_nlb ne82 (own_nlb ne82 own_nl0))))))))).ext E90)
    have t114 := ((own_fld (own_fld (own_fld ((own_fld (own_fld (own_fld (r33_6.ext E36) K38 own_nl0) K40 own_nl0) K54 (own_nlb ne81 (own_nlb ne81 (own_nlb ne81 (own_nlb ne81 (own_nlb ne81 (own_nlb ne81 (own_nlb ne81 (own_nlb ne81 own_nl0))))))))).ext E57) K59 own_nl0) K61 own_nl0) K75 (own_nlb ne82 (own_nlb ne82 (own_nlb ne82 (own_nlb ne82 (own_nlb ne82 (own_nlb ne82 (own_nlb ne82 (own_nlb ne82 own_nl0))))))))).ext E90)
    have t115 := ((own_fld (own_fld (own_fld ((own_fld (own_fld (own_fld ((own_fld (own_fld (own_fld ((own_fld (r6_1.ext E9) K11 (own_nlb ne29 (own_nlb ne29 own_nl0))).ext E14) K16 own_nl0) K18 own_nl0) K33 (own_nlb ne32 (own_nlb ne32 (own_nlb ne32 (own_nlb ne32 (own_nlb ne32 (own_nlb ne32 (own_nlb ne32 (own_nlb ne32 own_nl0))))))))).ext E36) K38 own_nl0) K40 own_nl0) K54 (own_nlb ne53 (own_nlb ne53 (own_nlb ne53 (own_nlb ne53 (own_nlb ne53 (own_nlb ne53 (own_nlb ne53 (own_nlb ne53 own_nl0))))))))).ext E57) K59 own_nl0) K61 own_nl0) K75 (own_nlb ne74 (own_nlb ne74 (own_nlb ne74 (own_nlb ne74 (own_nlb ne74 (own_nlb ne74 (own_nlb ne74 (own_nlb ne74 own_nl0))))))))).ext E90)
    have t116 := ((own_fld (own_fld (own_fld ((own_fld (own_fld (own_fld ((own_fld (own_fld (own_fld (r11_2.ext E14) K16 own_nl0) K18 own_nl0) K33 (own_nlb ne97 (own_nlb ne97 (own_nlb ne97 (own_nlb ne97 (own_nlb ne97 (own_nlb ne97 (own_nlb ne97 (own_nlb ne97 own_nl0))))))))).ext E36) K38 own_nl0) K40 own_nl0) K54 (own_nlb ne98 (own_nlb ne98 (own_nlb ne98 (own_nlb ne98 (own_nlb ne98 (own_nlb ne98 (own_nlb ne98 (own_nlb ne98 own_nl0))))))))).ext E57) K59 own_nl0) K61 own_nl0) K75 (own_nlb ne99 (own_nlb ne99 (own_nlb ne99 (own_nlb ne99 (own_nlb ne99 (own_nlb ne99 (own_nlb ne99 (own_nlb ne99 own_nl0))))))))).ext E90)
    have ne117 : b11_0 ≠ b14 := (Nat.ne_of_lt (Nat.lt_of_lt_of_le r11_1.lt (Nat.le_of_eq g14.symm)))
    have ne118 : b11_0 ≠ b36 := (Nat.ne_of_lt (Nat.lt_of_lt_of_le (Nat.lt_of_lt_of_le (Nat.lt_of_lt_of_le (Nat.lt_of_lt_of_le (Nat.lt_of_lt_of_le r11_1.lt E14.1) K16.1) K18.1) K33.1) (Nat.le_of_eq g36.symm)))
    have ne119 : b11_0 ≠ b57 := (Nat.ne_of_lt (Nat.lt_of_lt_of_le (Nat.lt_of_lt_of_le (Nat.lt_of_lt_of_le (Nat.lt_of_lt_of_le (Nat.lt_of_lt_of_le (Nat.lt_of_lt_of_le (Nat.lt_of_lt_of_le (Nat.lt_of_lt_of_le (Nat.lt_of_lt_of_le r11_1.lt E14.1) K16.1) K18.1) K33.1) E36.1) K38.1) K40.1) K54.1) (Nat.le_of_eq g57.symm)))
    have t120 := ((own_arv (own_arv (own_arv ((own_arv (own_arv (own_arv ((own_arv (own_arv (own_arv (r11_1.ext E14) K16 own_nb0) K18 own_nb0) K33 (own_nbc (Ne.symm ne117) (own_nbc (Ne.symm ne117) (own_nbc (Ne.symm ne117) (own_nbc (Ne.symm ne117) (own_nbc (Ne.symm ne117) (own_nbc (Ne.symm ne117) (own_nbc (Ne.symm ne117) (own_nbc (Ne.symm ne117) own_nb0))))))))).ext E36) K38 own_nb0) K40 own_nb0) K54 (own_nbc (Ne.symm ne118) (own_nbc (Ne.symm ne118) (own_nbc (Ne.symm ne118) (own_nbc (Ne.symm ne118) (own_nbc (Ne.symm ne118) (own_nbc (Ne.symm ne118) (own_nbc (Ne.symm ne118) (own_nbc (Ne.symm ne118) own_nb0))))))))).ext E57) K59 own_nb0) K61 own_nb0) K75 (own_nbc (Ne.symm ne119) (own_nbc (Ne.symm ne119) (own_nbc (Ne.symm ne119) (own_nbc (Ne.symm ne119) (own_nbc (Ne.symm ne119) (own_nbc (Ne.symm ne119) (own_nbc (Ne.symm ne119) (own_nbc (Ne.symm ne119) own_nb0))))))))).ext E90)
    have ne121 : b9 ≠ b11_0 := (Nat.ne_of_lt (Nat.lt_of_lt_of_le A9.lt r11_3))
    obtain ⟨cq122, kq122, q122a, q122b, q122c⟩ := isOf hZ e107 t96
    obtain ⟨_, _, ⟨T122, L122, kk122, nn122⟩, -, X122, ⟨Lc122, hQ122, l122, y122, z122⟩, st122⟩ := X107.virtualBack hx (y := ym19) (z := ym19) hown (mvT hZ (wk111 hw)) (mvT hZ (wk112 hw)) (notFace_of_selects (args := #[]) (mvT hZ (wk114 hw))) (mvT hZ (wk114 hw)) (mvT hZ (wk113 hw)) (by decide) (backOf (W := 0) (rm13_23 l Z a0 hw w hW [] b9 b14 p0 b4 (p1 &&& (9223372036854775807 : Int64)) b11_0 k11_0 h90 n0 O91 t100 t108 t96 gg9 t109 (Ne.symm ne97) t110 t111 (own_lf1 _) ne29 t112 t113 t114 t115 (own_max _) t94 (own_S1 _ _) t116 t120 (own_S2 _ _) (own_S3 _ _) t104 t106 (Ne.symm ne121) gg14 ggb11_0 ne117 r11_4) hZ (wk115 hw) (wk36 hw) (by decide) (by decide)) q122a q122c (g := (mkF m 436 Lb102 [(.long p0), (.ref b14), (.ref b9)])) rfl (by rw [hml]; rfl) (Steps.refl _) (argsL := [(.ref b14), (.long p0)]) (rest := []) (lenOf pds_14 rfl) rfl (by show 2 * 0 + _ ≤ _; exact Nat.le_of_eq rfl) (hb hby at_436) (fun _ _ => ⟨rfl, e107, (by decide : 11 + 0 ≤ _), (by decide : 516 + 0 ≤ _)⟩)
    dsimp only [Pt.U, Pt.locs, Pt.cells, Pt.slots] at X122 l122 y122 z122 st122 hQ122
    rw [l122, y122, z122] at X122
    obtain ⟨rfl, N122q, K122, r122_0, r122_1, r122_2, r122_3, r122_4, r122_5⟩ := hQ122
    have N122 := Fr.app N101 N122q
    have O123 := own_old O91 K122 (own_ngc gg9 (own_ngc gg14 (own_ngc gg14 (own_ngc ggb11_0 (own_ngc gg14 (own_ngc gg9 own_ng0))))))
    obtain ⟨T124, X124, e124, st124⟩ := getF X122 hx hZ hown (host := "") (Or.inl (wk109 hw)) Via.refl rfl r122_2 (g := (mkF m 446 Lb102 [(.ref b14)])) rfl rfl (hb hby at_446)
    have ne125 : b9 ≠ b90 := (Nat.ne_of_lt (Nat.lt_of_lt_of_le (Nat.lt_of_lt_of_le (Nat.lt_of_lt_of_le (Nat.lt_of_lt_of_le (Nat.lt_of_lt_of_le (Nat.lt_of_lt_of_le (Nat.lt_of_lt_of_le (Nat.lt_of_lt_of_le (Nat.lt_of_lt_of_le (Nat.lt_of_lt_of_le (Nat.lt_of_lt_of_le (Nat.lt_of_lt_of_le (Nat.lt_of_lt_of_le (Nat.lt_of_lt_of_le A9.lt K11.1) E14.1) K16.1) K18.1) K33.1) E36.1) K38.1) K40.1) K54.1) E57.1) K59.1) K61.1) K75.1) (Nat.le_of_eq g90.symm)))
    have ne126 : b14 ≠ b90 := (Nat.ne_of_lt (Nat.lt_of_lt_of_le (Nat.lt_of_lt_of_le (Nat.lt_of_lt_of_le (Nat.lt_of_lt_of_le (Nat.lt_of_lt_of_le (Nat.lt_of_lt_of_le (Nat.lt_of_lt_of_le (Nat.lt_of_lt_of_le (Nat.lt_of_lt_of_le (Nat.lt_of_lt_of_le t20.lt K33.1) E36.1) K38.1) K40.1) K54.1) E57.1) K59.1) K61.1) K75.1) (Nat.le_of_eq g90.symm)))
    have ne127 : b11_0 ≠ b90 := (Nat.ne_of_lt (Nat.lt_of_lt_of_le (Nat.lt_of_lt_of_le (Nat.lt_of_lt_of_le (Nat.lt_of_lt_of_le (Nat.lt_of_lt_of_le (Nat.lt_of_lt_of_le (Nat.lt_of_lt_of_le (Nat.lt_of_lt_of_le (Nat.lt_of_lt_of_le (Nat.lt_of_lt_of_le (Nat.lt_of_lt_of_le (Nat.lt_of_lt_of_le (Nat.lt_of_lt_of_le r11_1.lt E14.1) K16.1) K18.1) K33.1) E36.1) K38.1) K40.1) K54.1) E57.1) K59.1) K61.1) K75.1) (Nat.le_of_eq g90.symm)))
    have t128 := (own_arv V90 K122 (own_nbc ne125 (own_nbc ne126 (own_nbc ne126 (own_nbc ne127 (own_nbc ne126 (own_nbc ne125 own_nb0)))))))
    obtain ⟨cl129, Ar129, cw129, S129, Nn129, Hs129, G129⟩ := id (t128)
    have hin129 : ¬ ((0 : Int32) < 0 ∨ cl129.slots.size ≤ ((0 : Int32)).toNatClampNeg) := inb_of S129 ⟨by decide, by decide⟩
    obtain ⟨T130, X130, e130, st130⟩ := getF X124 hx hZ hown (host := "") (Or.inl (wk107 hw)) Via.refl e124 r122_3 (g := (mkF m 458 Lb102 [(.ref b14)])) rfl rfl (hb hby at_458)
    obtain ⟨fs, hr, hrun, hended, hREW⟩ := Stand.leaveW (s := s) (vm₁ := T6.vm) X130 hS6 (by rw [e130]; exact (Nat.le_trans (Nat.le_trans (Nat.le_trans (Nat.le_trans (Nat.le_trans (Nat.le_trans (Nat.le_trans (Nat.le_trans (Nat.le_trans (Nat.le_trans (Nat.le_trans (Nat.le_trans (Nat.le_trans (Nat.le_trans (Nat.le_trans (Nat.le_trans (Nat.le_refl _) E9.1) K11.1) E14.1) K16.1) K18.1) K33.1) E36.1) K38.1) K40.1) K54.1) E57.1) K59.1) K61.1) K75.1) E90.1) K122.1)) (v := some (.int (1 : Int32))) (fun h => by rw [Bd.returns] at h; cases h)
    refine ⟨_, _, pre86 _ ?_, hrun, hended, _, _, rfl, ?_, hREW.1, hREW.2.1, hREW.2.2.1, hREW.2.2.2.mono (by decide) (by decide)⟩
    · show Steps p.tables e below (T84.setTop (mkF m 159 Lb88 [(.int (0 : Int32))])) _
      refine sN X84 hx hby at_159 (by decide) ?_
      refine sa X84 hx hby at_162 rfl rfl ?_
      refine sg (pc := 164) (pc' := 180) X84 hx hby at_164 (by decide) (by decide) ?_
      refine XS.astore X84.here hx rfl (hb hby at_180) rfl rfl (l' := Lb89) rfl ?_
      refine sc X84 hx hby at_182 ?_
      show Steps p.tables e below (T84.setTop (mkF m 183 Lb89 [(.int (3 : Int32))])) _
      refine st90 _ ?_
      refine XS.astore X90.here hx rfl (hb hby at_186) rfl rfl (l' := Lb92) rfl ?_
      refine sc X90 hx hby at_188 ?_
      refine XS.istore X90.here hx rfl (hb hby at_189) rfl (l' := Lb93) rfl ?_
      refine si X90 hx hby at_191 rfl ?_
      refine sc X90 hx hby at_193 ?_
      show Steps p.tables e below (T90.setTop (mkF m 194 Lb93 [(.int (3 : Int32)), (.int (0 : Int32))])) _
      refine XS.icmpYes X90.here hx rfl (pc0 := 194) (pc' := 213) rfl (hb hby at_194) rfl (by decide) (by decide) (by decide) ?_
      refine si X90 hx hby at_213 rfl ?_
      refine sc X90 hx hby at_215 ?_
      refine XS.icmpYes X90.here hx rfl (pc0 := 216) (pc' := 235) rfl (hb hby at_216) rfl (by decide) (by decide) (by decide) ?_
      refine si X90 hx hby at_235 rfl ?_
      show Steps p.tables e below (T90.setTop (mkF m 237 Lb93 [(.int (0 : Int32))])) _
      refine sc X90 hx hby at_237 ?_
      refine XS.icmpYes X90.here hx rfl (pc0 := 238) (pc' := 256) rfl (hb hby at_238) rfl (by decide) (by decide) (by decide) ?_
      refine sa X90 hx hby at_256 rfl rfl ?_
      refine sa X90 hx hby at_258 rfl rfl ?_
      refine st95.trans ?_
      refine sa X95 hx hby at_263 rfl rfl ?_
      refine st101.trans ?_
      refine si X101 hx hby at_268 rfl ?_
      refine XS.i2l X101.here hx rfl (hb hby at_270) rfl ?_
      refine XS.lcmp X101.here hx rfl (hb hby at_271) rfl ?_
      refine sN X101 hx hby at_272 (by decide) ?_
      refine sc X101 hx hby at_275 ?_
      show Steps p.tables e below (T101.setTop (mkF m 276 Lb93 [(.int (1 : Int32))])) _
      refine sg (pc := 276) (pc' := 280) X101 hx hby at_276 (by decide) (by decide) ?_
      refine XS.istore X101.here hx rfl (hb hby at_280) rfl (l' := Lb102) rfl ?_
      refine si X101 hx hby at_282 rfl ?_
      refine sN X101 hx hby at_284 (by decide) ?_
      refine sa X101 hx hby at_287 rfl rfl ?_
      show Steps p.tables e below (T101.setTop (mkF m 289 Lb102 [(.ref b14)])) _
      refine st103 _ ?_
      refine sc X103 hx hby at_292 ?_
      refine sn X103 hx hby at_293 (by decide) ?_
      refine sa X103 hx hby at_296 rfl rfl ?_
      refine st105 _ ?_
      refine XS.ifnonnullNo X105.here hx rfl (hb hby at_301) rfl ?_
      refine sa X105 hx hby at_304 rfl rfl ?_
      refine st107 _ ?_
      refine XS.ifnonnullNo X107.here hx rfl (hb hby at_309) rfl ?_
      refine sc X107 hx hby at_312 ?_
      refine sg (pc := 313) (pc' := 317) X107 hx hby at_313 (by decide) (by decide) ?_
      refine XS.istore X107.here hx rfl (hb hby at_317) rfl (l' := Lb102) rfl ?_
      refine si X107 hx hby at_319 rfl ?_
      show Steps p.tables e below (T107.setTop (mkF m 321 Lb102 [(.int (0 : Int32))])) _
      refine sc X107 hx hby at_321 ?_
      refine XS.icmpYes X107.here hx rfl (pc0 := 322) (pc' := 373) rfl (hb hby at_322) rfl (by decide) (by decide) (by decide) ?_
      refine si X107 hx hby at_373 rfl ?_
      refine sc X107 hx hby at_375 ?_
      refine XS.icmpYes X107.here hx rfl (pc0 := 376) (pc' := 431) rfl (hb hby at_376) rfl (by decide) (by decide) (by decide) ?_
      show Steps p.tables e below (T107.setTop (mkF m 431 Lb102 [])) _
      refine sa X107 hx hby at_431 rfl rfl ?_
      refine sa X107 hx hby at_433 rfl rfl ?_
      refine sL X107 hx hby at_435 rfl ?_
      refine st122.trans ?_
      refine si X122 hx hby at_439 rfl ?_
      refine sN X122 hx hby at_441 (by decide) ?_
      refine sa X122 hx hby at_444 rfl rfl ?_
      refine st124 _ ?_
      refine sa X124 hx hby at_449 rfl rfl ?_
      refine sc X124 hx hby at_451 ?_
      refine X124.aaload hx (j := (0 : Int32)) (v := .null) (by rw [e124]; exact Ar129.1) (State.isArrayOf_alike hZ.alike Ar129.2.1) rfl Ar129.2.2 hin129 (Hs129.at hin129 rfl) (g := (mkF m 452 Lb102 [(.int (0 : Int32)), (.ref b90), .null])) rfl rfl (hb hby at_452) _ ?_
      refine Jvm.RoadKit.acmp (g := (mkF m 453 Lb102 [.null, .null])) X124 hx rfl rfl rfl (pc0 := 453) (pc' := 456) (same := true) rfl (hb hby at_453) rfl (decide_eq_true rfl) (by decide) (by decide) ?_
      refine sa X124 hx hby at_456 rfl rfl ?_
      show Steps p.tables e below (T124.setTop (mkF m 458 Lb102 [(.ref b14)])) _
      refine st130 _ ?_
      refine XS.ifnonnullNo X130.here hx rfl (hb hby at_461) rfl ?_
      refine sc X130 hx hby at_464 ?_
      refine sg (pc := 465) (pc' := 469) X130 hx hby at_465 (by decide) (by decide) ?_
      refine XS.istore X130.here hx rfl (hb hby at_469) rfl (l' := Lb102) rfl ?_
      refine si X130 hx hby at_471 rfl ?_
      show Steps p.tables e below (T130.setTop (mkF m 473 Lb102 [(.int (0 : Int32))])) _
      refine sc X130 hx hby at_473 ?_
      refine XS.icmpYes X130.here hx rfl (pc0 := 474) (pc' := 501) rfl (hb hby at_474) rfl (by decide) (by decide) (by decide) ?_
      refine si X130 hx hby at_501 rfl ?_
      exact retN X130 hx (t := .boolean) Bd.returns (by simp) (hb hby at_503) hr
    · show Q0 n0 _ T130.heap _
      rw [e130]
      exact ⟨rfl, N122⟩
   ·
    rw [hs87] at pre86
    let Lb131 : Array Slot := #[.val (.long p0), .second, .val (.long p1), .second, .val (.int p2), .val (.int p3), .val (.int (0 : Int32)), .val (.int (1 : Int32)), .val (.long (p1 &&& (9223372036854775807 : Int64))), .second, .val (.ref b4), .val (.ref b9), .val (.ref b14), .val (.ref b36), .val (.ref b57), .val (.int (-1 : Int32)), .unset, .unset, .unset, .unset]
    let Lb132 : Array Slot := #[.val (.long p0), .second, .val (.long p1), .second, .val (.int p2), .val (.int p3), .val (.int (0 : Int32)), .val (.int (1 : Int32)), .val (.long (p1 &&& (9223372036854775807 : Int64))), .second, .val (.ref b4), .val (.ref b9), .val (.ref b14), .val (.ref b36), .val (.ref b57), .val (.int (-1 : Int32)), .val (.ref b36), .unset, .unset, .unset]
    obtain ⟨T133, h133, k133, X133, e133, E133, A133, Ov133, st133⟩ := newR X84 hx hZ hown (wk48 hw) (wk45 hw) e84 (g := (mkF m 183 Lb132 [(.int (3 : Int32))])) rfl (hb hby at_183) rfl (by decide) (cap := 3) (by decide) (by decide) (by decide) (by decide)
    obtain ⟨b133, g133⟩ : ∃ z, z = T75.heap.size := ⟨_, rfl⟩
    rw [← g133] at A133 st133
    have gg133 : n0 ≤ b133 := by rw [← O76.1, g133]; exact O76.2.1
    have O134 := O76.ext E133
    have V133 : Arv Z h133 b133 k133 (.object cs0) (3 : Int32) [.null, .null, .null] .null := own_pad (dv := .null) (Arv.new A133 (by decide)) 3 _ rfl
    let Lb135 : Array Slot := #[.val (.long p0), .second, .val (.long p1), .second, .val (.int p2), .val (.int p3), .val (.int (0 : Int32)), .val (.int (1 : Int32)), .val (.long (p1 &&& (9223372036854775807 : Int64))), .second, .val (.ref b4), .val (.ref b9), .val (.ref b14), .val (.ref b36), .val (.ref b57), .val (.int (-1 : Int32)), .val (.ref b36), .val (.ref b133), .unset, .unset]
    let Lb136 : Array Slot := #[.val (.long p0), .second, .val (.long p1), .second, .val (.int p2), .val (.int p3), .val (.int (0 : Int32)), .val (.int (1 : Int32)), .val (.long (p1 &&& (9223372036854775807 : Int64))), .second, .val (.ref b4), .val (.ref b9), .val (.ref b14), .val (.ref b36), .val (.ref b57), .val (.int (-1 : Int32)), .val (.ref b36), .val (.ref b133), .val (.int (0 : Int32)), .unset]
    have ne137 : b36 ≠ b57 := (Nat.ne_of_lt (Nat.lt_of_lt_of_le (Nat.lt_of_lt_of_le t42.lt K54.1) (Nat.le_of_eq g57.symm)))
    have t138 := ((own_fld (own_fld (own_fld (r54_0.ext E57) K59 own_nl0) K61 own_nl0) K75 (own_nlb ne137 (own_nlb ne137 (own_nlb ne137 (own_nlb ne137 (own_nlb ne137 (own_nlb ne137 (own_nlb ne137 (own_nlb ne137 own_nl0))))))))).ext E133)
    have t140 := ((own_exa (own_exa (own_exa ((own_exa (own_exa (own_exa ((own_exa (own_exa (own_exa ((own_exa A9 K11).ext E14) K16) K18) K33).ext E36) K38) K40) K54).ext E57) K59) K61) K75).ext E133)
    obtain ⟨cq139, kq139, q139a, q139b, q139c⟩ := isOf hZ e133 t140
    obtain ⟨_, _, ⟨T139, L139, kk139, nn139⟩, -, X139, ⟨Lc139, hQ139, l139, y139, z139⟩, st139⟩ := X133.virtualBack hx (y := ym9) (z := ym9) hown (mvT hZ (wk94 hw)) (mvT hZ (wk95 hw)) (notFace_of_selects (args := #[]) (mvT hZ (wk97 hw))) (mvT hZ (wk97 hw)) (mvT hZ (wk96 hw)) (by decide) (backOf (W := 0) (rm11_12 l Z a0 hw w hW [] b9 b36 h133 n0 O134 t138) hZ (wk98 hw) (wk36 hw) (by decide) (by decide)) q139a q139c (g := (mkF m 260 Lb136 [(.ref b36), (.ref b9)])) rfl (by rw [hml]; rfl) (Steps.refl _) (argsL := [(.ref b36)]) (rest := []) (lenOf pds_8 rfl) rfl (by show 2 * 0 + _ ≤ _; exact Nat.le_of_eq rfl) (hb hby at_260) (fun _ _ => ⟨rfl, e133, (by decide : 11 + 0 ≤ _), (by decide : 516 + 0 ≤ _)⟩)
    dsimp only [Pt.U, Pt.locs, Pt.cells, Pt.slots] at X139 l139 y139 z139 st139 hQ139
    rw [l139, y139, z139] at X139
    obtain ⟨rfl, N139q, e139⟩ := hQ139
    have N139 := Fr.app N75 N139q
    have ne141 : b9 ≠ b14 := (Nat.ne_of_lt (Nat.lt_of_lt_of_le (Nat.lt_of_lt_of_le A9.lt K11.1) (Nat.le_of_eq g14.symm)))
    have ne142 : b9 ≠ b36 := (Nat.ne_of_lt (Nat.lt_of_lt_of_le (Nat.lt_of_lt_of_le (Nat.lt_of_lt_of_le (Nat.lt_of_lt_of_le (Nat.lt_of_lt_of_le (Nat.lt_of_lt_of_le A9.lt K11.1) E14.1) K16.1) K18.1) K33.1) (Nat.le_of_eq g36.symm)))
    have ne143 : b9 ≠ b57 := (Nat.ne_of_lt (Nat.lt_of_lt_of_le (Nat.lt_of_lt_of_le (Nat.lt_of_lt_of_le (Nat.lt_of_lt_of_le (Nat.lt_of_lt_of_le (Nat.lt_of_lt_of_le (Nat.lt_of_lt_of_le (Nat.lt_of_lt_of_le (Nat.lt_of_lt_of_le (Nat.lt_of_lt_of_le A9.lt K11.1) E14.1) K16.1) K18.1) K33.1) E36.1) K38.1) K40.1) K54.1) (Nat.le_of_eq g57.symm)))
    have t144 := ((own_fld (own_fld (own_fld ((own_fld (own_fld (own_fld ((own_fld (own_fld (own_fld ((own_fld i9_106 K11 (own_nls (sn61 hw) (own_nls (sn60 hw) own_nl0))).ext E14) K16 own_nl0) K18 own_nl0) K33 (own_nlb ne141 (own_nlb ne141 (own_nlb ne141 (own_nlb ne141 (own_nlb ne141 (own_nlb ne141 (own_nlb ne141 (own_nlb ne141 own_nl0))))))))).ext E36) K38 own_nl0) K40 own_nl0) K54 (own_nlb ne142 (own_nlb ne142 (own_nlb ne142 (own_nlb ne142 (own_nlb ne142 (own_nlb ne142 (own_nlb ne142 (own_nlb ne142 own_nl0))))))))).ext E57) K59 own_nl0) K61 own_nl0) K75 (own_nlb ne143 (own_nlb ne143 (own_nlb ne143 (own_nlb ne143 (own_nlb ne143 (own_nlb ne143 (own_nlb ne143 (own_nlb ne143 own_nl0))))))))).ext E133)
    obtain ⟨cq145, kq145, q145a, q145b, q145c⟩ := isOf hZ e139 t140
    obtain ⟨_, _, ⟨T145, L145, kk145, nn145⟩, -, X145, ⟨Lc145, hQ145, l145, y145, z145⟩, st145⟩ := X139.virtualBack hx (y := ym10) (z := ym10) hown (mvT hZ (wk100 hw)) (mvT hZ (wk101 hw)) (notFace_of_selects (args := #[]) (mvT hZ (wk103 hw))) (mvT hZ (wk103 hw)) (mvT hZ (wk102 hw)) (by decide) (backOf (W := 0) (rm12_13 l Z a0 hw w hW [] b9 h133 n0 O134 t144) hZ (wk104 hw) (wk36 hw) (by decide) (by decide)) q145a q145c (g := (mkF m 265 Lb136 [(.ref b9)])) rfl (by rw [hml]; rfl) (Steps.refl _) (argsL := []) (rest := []) (lenOf pds_9 rfl) rfl (by show 2 * 0 + _ ≤ _; exact Nat.le_of_eq rfl) (hb hby at_265) (fun _ _ => ⟨rfl, e139, (by decide : 11 + 0 ≤ _), (by decide : 516 + 0 ≤ _)⟩)
    dsimp only [Pt.U, Pt.locs, Pt.cells, Pt.slots] at X145 l145 y145 z145 st145 hQ145
    rw [l145, y145, z145] at X145
    obtain ⟨rfl, N145q, e145⟩ := hQ145
    have N145 := Fr.app N139 N145q
    let Lb146 : Array Slot := #[.val (.long p0), .second, .val (.long p1), .second, .val (.int p2), .val (.int p3), .val (.int (0 : Int32)), .val (.int (1 : Int32)), .val (.long (p1 &&& (9223372036854775807 : Int64))), .second, .val (.ref b4), .val (.ref b9), .val (.ref b14), .val (.ref b36), .val (.ref b57), .val (.int (-1 : Int32)), .val (.ref b36), .val (.ref b133), .val (.int (0 : Int32)), .val (.int (1 : Int32))]
    obtain ⟨T147, X147, e147, st147⟩ := getF X145 hx hZ hown (host := "") (Or.inl (wk93 hw)) Via.refl e145 t138 (g := (mkF m 289 Lb146 [(.ref b36)])) rfl rfl (hb hby at_289)
    have t148 := ((own_fld (own_fld (own_fld ((own_fld (own_fld (own_fld i36_108 K38 own_nl0) K40 own_nl0) K54 (own_nls (sn69 hw) (own_nls (sn68 hw) (own_nls (sn67 hw) (own_nls (sn66 hw) (own_nls (sn65 hw) (own_nls (sn64 hw) (own_nls (sn63 hw) (own_nls (sn62 hw) own_nl0))))))))).ext E57) K59 own_nl0) K61 own_nl0) K75 (own_nlb ne137 (own_nlb ne137 (own_nlb ne137 (own_nlb ne137 (own_nlb ne137 (own_nlb ne137 (own_nlb ne137 (own_nlb ne137 own_nl0))))))))).ext E133)
    obtain ⟨T149, X149, e149, st149⟩ := getF X147 hx hZ hown (host := "") (Or.inl (wk107 hw)) Via.refl e147 t148 (g := (mkF m 298 Lb146 [(.ref b36)])) rfl rfl (hb hby at_298)
    have t150 := ((own_fld (own_fld (own_fld ((own_fld (own_fld (own_fld i36_110 K38 own_nl0) K40 own_nl0) K54 (own_nls (sn77 hw) (own_nls (sn76 hw) (own_nls (sn75 hw) (own_nls (sn74 hw) (own_nls (sn73 hw) (own_nls (sn72 hw) (own_nls (sn71 hw) (own_nls (sn70 hw) own_nl0))))))))).ext E57) K59 own_nl0) K61 own_nl0) K75 (own_nlb ne137 (own_nlb ne137 (own_nlb ne137 (own_nlb ne137 (own_nlb ne137 (own_nlb ne137 (own_nlb ne137 (own_nlb ne137 own_nl0))))))))).ext E133)
    obtain ⟨T151, X151, e151, st151⟩ := getF X149 hx hZ hown (host := "") (Or.inl (wk109 hw)) Via.refl e149 t150 (g := (mkF m 306 Lb146 [(.ref b36)])) rfl rfl (hb hby at_306)
    have t152 := ((own_fld (own_fld (own_fld ((own_fld (own_fld (own_fld ((own_fld (own_fld (own_fld (r11_0.ext E14) K16 own_nl0) K18 own_nl0) K33 (own_nlb ne141 (own_nlb ne141 (own_nlb ne141 (own_nlb ne141 (own_nlb ne141 (own_nlb ne141 (own_nlb ne141 (own_nlb ne141 own_nl0))))))))).ext E36) K38 own_nl0) K40 own_nl0) K54 (own_nlb ne142 (own_nlb ne142 (own_nlb ne142 (own_nlb ne142 (own_nlb ne142 (own_nlb ne142 (own_nlb ne142 (own_nlb ne142 own_nl0))))))))).ext E57) K59 own_nl0) K61 own_nl0) K75 (own_nlb ne143 (own_nlb ne143 (own_nlb ne143 (own_nlb ne143 (own_nlb ne143 (own_nlb ne143 (own_nlb ne143 (own_nlb ne143 own_nl0))))))))).ext E133)
    have t153 := ((own_fld (own_fld (own_fld (r54_4.ext E57) K59 own_nl0) K61 own_nl0) K75 (own_nlb ne137 (own_nlb ne137 (own_nlb ne137 (own_nlb ne137 (own_nlb ne137 (own_nlb ne137 (own_nlb ne137 (own_nlb ne137 own_nl0))))))))).ext E133)
    have t154 := ((own_exa t71 K75).ext E133)
    have t155 := ((own_fld t72 K75 (own_nlb ne74 (own_nlb ne74 (own_nlb ne74 (own_nlb ne74 (own_nlb ne74 (own_nlb ne74 (own_nlb ne74 (own_nlb ne74 own_nl0))))))))).ext E133)
    have t156 := ((own_exa (own_exa (own_exa ((own_exa t42 K54).ext E57) K59) K61) K75).ext E133)
    have t157 := ((own_fld (own_fld (own_fld (r54_5.ext E57) K59 own_nl0) K61 own_nl0) K75 (own_nlb ne137 (own_nlb ne137 (own_nlb ne137 (own_nlb ne137 (own_nlb ne137 (own_nlb ne137 (own_nlb ne137 (own_nlb ne137 own_nl0))))))))).ext E133)
    have t158 := ((own_fld (own_fld (own_fld (r54_6.ext E57) K59 own_nl0) K61 own_nl0) K75 (own_nlb ne137 (own_nlb ne137 (own_nlb ne137 (own_nlb ne137 (own_nlb ne137 (own_nlb ne137 (own_nlb ne137 (own_nlb ne137 own_nl0))))))))).ext E133)
    have t159 := ((own_fld (own_fld (own_fld ((own_fld (own_fld (own_fld ((own_fld (own_fld (own_fld ((own_fld (r6_1.ext E9) K11 (own_nlb ne29 (own_nlb ne29 own_nl0))).ext E14) K16 own_nl0) K18 own_nl0) K33 (own_nlb ne32 (own_nlb ne32 (own_nlb ne32 (own_nlb ne32 (own_nlb ne32 (own_nlb ne32 (own_nlb ne32 (own_nlb ne32 own_nl0))))))))).ext E36) K38 own_nl0) K40 own_nl0) K54 (own_nlb ne53 (own_nlb ne53 (own_nlb ne53 (own_nlb ne53 (own_nlb ne53 (own_nlb ne53 (own_nlb ne53 (own_nlb ne53 own_nl0))))))))).ext E57) K59 own_nl0) K61 own_nl0) K75 (own_nlb ne74 (own_nlb ne74 (own_nlb ne74 (own_nlb ne74 (own_nlb ne74 (own_nlb ne74 (own_nlb ne74 (own_nlb ne74 own_nl0))))))))).ext E133)
    have t160 := ((own_fld (own_fld (own_fld ((own_fld (own_fld (own_fld ((own_fld (own_fld (own_fld (r11_2.ext E14) K16 own_nl0) K18 own_nl0) K33 (own_nlb ne141 (own_nlb ne141 (own_nlb ne141 (own_nlb ne141 (own_nlb ne141 (own_nlb ne141 (own_nlb ne141 (own_nlb ne141 own_nl0))))))))).ext E36) K38 own_nl0) K40 own_nl0) K54 (own_nlb ne142 (own_nlb ne142 (own_nlb ne142 (own_nlb ne142 (own_nlb ne142 (own_nlb ne142 (own_nlb ne142 (own_nlb ne142 own_nl0))))))))).ext E57) K59 own_nl0) K61 own_nl0) K75 (own_nlb ne143 (own_nlb ne143 (own_nlb ne143 (own_nlb ne143 (own_nlb ne143 (own_nlb ne143 (own_nlb ne143 (own_nlb ne143 own_nl0))))))))).ext E133)
    have ne161 : b11_0 ≠ b14 := (Nat.ne_of_lt (Nat.lt_of_lt_of_le r11_1.lt (Nat.le_of_eq g14.symm)))
    have ne162 : b11_0 ≠ b36 := (Nat.ne_of_lt (Nat.lt_of_lt_of_le (Nat.lt_of_lt_of_le (Nat.lt_of_lt_of_le (Nat.lt_of_lt_of_le (Nat.lt_of_lt_of_le r11_1.lt E14.1) K16.1) K18.1) K33.1) (Nat.le_of_eq g36.symm)))
    have ne163 : b11_0 ≠ b57 := (Nat.ne_of_lt (Nat.lt_of_lt_of_le (Nat.lt_of_lt_of_le (Nat.lt_of_lt_of_le (Nat.lt_of_lt_of_le (Nat.lt_of_lt_of_le (Nat.lt_of_lt_of_le (Nat.lt_of_lt_of_le (Nat.lt_of_lt_of_le (Nat.lt_of_lt_of_le r11_1.lt E14.1) K16.1) K18.1) K33.1) E36.1) K38.1) K40.1) K54.1) (Nat.le_of_eq g57.symm)))
    have t164 := ((own_arv (own_arv (own_arv ((own_arv (own_arv (own_arv ((own_arv (own_arv (own_arv (r11_1.ext E14) K16 own_nb0) K18 own_nb0) K33 (own_nbc (Ne.symm ne161) (own_nbc (Ne.symm ne161) (own_nbc (Ne.symm ne161) (own_nbc (Ne.symm ne161) (own_nbc (Ne.symm ne161) (own_nbc (Ne.symm ne161) (own_nbc (Ne.symm ne161) (own_nbc (Ne.symm ne161) own_nb0))))))))).ext E36) K38 own_nb0) K40 own_nb0) K54 (own_nbc (Ne.symm ne162) (own_nbc (Ne.symm ne162) (own_nbc (Ne.symm ne162) (own_nbc (Ne.symm ne162) (own_nbc (Ne.symm ne162) (own_nbc (Ne.symm ne162) (own_nbc (Ne.symm ne162) (own_nbc (Ne.symm ne162) own_nb0))))))))).ext E57) K59 own_nb0) K61 own_nb0) K75 (own_nbc (Ne.symm ne163) (own_nbc (Ne.symm ne163) (own_nbc (Ne.symm ne163) (own_nbc (Ne.symm ne163) (own_nbc (Ne.symm ne163) (own_nbc (Ne.symm ne163) (own_nbc (Ne.symm ne163) (own_nbc (Ne.symm ne163) own_nb0))))))))).ext E133)
    have ne165 : b9 ≠ b11_0 := (Nat.ne_of_lt (Nat.lt_of_lt_of_le A9.lt r11_3))
    obtain ⟨cq166, kq166, q166a, q166b, q166c⟩ := isOf hZ e151 t140
    obtain ⟨_, _, ⟨T166, L166, kk166, nn166⟩, -, X166, ⟨Lc166, hQ166, l166, y166, z166⟩, st166⟩ := X151.virtualBack hx (y := ym19) (z := ym19) hown (mvT hZ (wk111 hw)) (mvT hZ (wk112 hw)) (notFace_of_selects (args := #[]) (mvT hZ (wk114 hw))) (mvT hZ (wk114 hw)) (mvT hZ (wk113 hw)) (by decide) (backOf (W := 0) (rm13_23 l Z a0 hw w hW [] b9 b36 p0 b4 (p1 &&& (9223372036854775807 : Int64)) b11_0 k11_0 h133 n0 O134 t144 t152 t140 gg9 t153 (Ne.symm ne142) t154 t155 (own_lf1 _) ne29 t156 t157 t158 t159 (own_max _) t138 (own_S1 _ _) t160 t164 (own_S2 _ _) (own_S3 _ _) t148 t150 (Ne.symm ne165) gg36 ggb11_0 ne162 r11_4) hZ (wk115 hw) (wk36 hw) (by decide) (by decide)) q166a q166c (g := (mkF m 436 Lb146 [(.long p0), (.ref b36), (.ref b9)])) rfl (by rw [hml]; rfl) (Steps.refl _) (argsL := [(.ref b36), (.long p0)]) (rest := []) (lenOf pds_14 rfl) rfl (by show 2 * 0 + _ ≤ _; exact Nat.le_of_eq rfl) (hb hby at_436) (fun _ _ => ⟨rfl, e151, (by decide : 11 + 0 ≤ _), (by decide : 516 + 0 ≤ _)⟩)
    dsimp only [Pt.U, Pt.locs, Pt.cells, Pt.slots] at X166 l166 y166 z166 st166 hQ166
    rw [l166, y166, z166] at X166
    obtain ⟨rfl, N166q, K166, r166_0, r166_1, r166_2, r166_3, r166_4, r166_5⟩ := hQ166
    have N166 := Fr.app N145 N166q
    have O167 := own_old O134 K166 (own_ngc gg9 (own_ngc gg36 (own_ngc gg36 (own_ngc ggb11_0 (own_ngc gg36 (own_ngc gg9 own_ng0))))))
    obtain ⟨T168, X168, e168, st168⟩ := getF X166 hx hZ hown (host := "") (Or.inl (wk109 hw)) Via.refl rfl r166_2 (g := (mkF m 446 Lb146 [(.ref b36)])) rfl rfl (hb hby at_446)
    have ne169 : b9 ≠ b133 := (Nat.ne_of_lt (Nat.lt_of_lt_of_le (Nat.lt_of_lt_of_le (Nat.lt_of_lt_of_le (Nat.lt_of_lt_of_le (Nat.lt_of_lt_of_le (Nat.lt_of_lt_of_le (Nat.lt_of_lt_of_le (Nat.lt_of_lt_of_le (Nat.lt_of_lt_of_le (Nat.lt_of_lt_of_le (Nat.lt_of_lt_of_le (Nat.lt_of_lt_of_le (Nat.lt_of_lt_of_le (Nat.lt_of_lt_of_le A9.lt K11.1) E14.1) K16.1) K18.1) K33.1) E36.1) K38.1) K40.1) K54.1) E57.1) K59.1) K61.1) K75.1) (Nat.le_of_eq g133.symm)))
    have ne170 : b36 ≠ b133 := (Nat.ne_of_lt (Nat.lt_of_lt_of_le (Nat.lt_of_lt_of_le (Nat.lt_of_lt_of_le (Nat.lt_of_lt_of_le (Nat.lt_of_lt_of_le (Nat.lt_of_lt_of_le t42.lt K54.1) E57.1) K59.1) K61.1) K75.1) (Nat.le_of_eq g133.symm)))
    have ne171 : b11_0 ≠ b133 := (Nat.ne_of_lt (Nat.lt_of_lt_of_le (Nat.lt_of_lt_of_le (Nat.lt_of_lt_of_le (Nat.lt_of_lt_of_le (Nat.lt_of_lt_of_le (Nat.lt_of_lt_of_le (Nat.lt_of_lt_of_le (Nat.lt_of_lt_of_le (Nat.lt_of_lt_of_le (Nat.lt_of_lt_of_le (Nat.lt_of_lt_of_le (Nat.lt_of_lt_of_le (Nat.lt_of_lt_of_le r11_1.lt E14.1) K16.1) K18.1) K33.1) E36.1) K38.1) K40.1) K54.1) E57.1) K59.1) K61.1) K75.1) (Nat.le_of_eq g133.symm)))
    have t172 := (own_arv V133 K166 (own_nbc ne169 (own_nbc ne170 (own_nbc ne170 (own_nbc ne171 (own_nbc ne170 (own_nbc ne169 own_nb0)))))))
    obtain ⟨cl173, Ar173, cw173, S173, Nn173, Hs173, G173⟩ := id (t172)
    have hin173 : ¬ ((0 : Int32) < 0 ∨ cl173.slots.size ≤ ((0 : Int32)).toNatClampNeg) := inb_of S173 ⟨by decide, by decide⟩
    obtain ⟨T174, X174, e174, st174⟩ := getF X168 hx hZ hown (host := "") (Or.inl (wk107 hw)) Via.refl e168 r166_3 (g := (mkF m 458 Lb146 [(.ref b36)])) rfl rfl (hb hby at_458)
    obtain ⟨fs, hr, hrun, hended, hREW⟩ := Stand.leaveW (s := s) (vm₁ := T6.vm) X174 hS6 (by rw [e174]; exact (Nat.le_trans (Nat.le_trans (Nat.le_trans (Nat.le_trans (Nat.le_trans (Nat.le_trans (Nat.le_trans (Nat.le_trans (Nat.le_trans (Nat.le_trans (Nat.le_trans (Nat.le_trans (Nat.le_trans (Nat.le_trans (Nat.le_trans (Nat.le_trans (Nat.le_refl _) E9.1) K11.1) E14.1) K16.1) K18.1) K33.1) E36.1) K38.1) K40.1) K54.1) E57.1) K59.1) K61.1) K75.1) E133.1) K166.1)) (v := some (.int (1 : Int32))) (fun h => by rw [Bd.returns] at h; cases h)
    refine ⟨_, _, pre86 _ ?_, hrun, hended, _, _, rfl, ?_, hREW.1, hREW.2.1, hREW.2.2.1, hREW.2.2.2.mono (by decide) (by decide)⟩
    · show Steps p.tables e below (T84.setTop (mkF m 159 Lb131 [(.int (1 : Int32))])) _
      refine XS.ifYes X84.here hx rfl (pc0 := 159) (pc' := 167) rfl (hb hby at_159) rfl (by decide) (by decide) (by decide) ?_
      refine si X84 hx hby at_167 rfl ?_
      refine sc X84 hx hby at_169 ?_
      refine sn X84 hx hby at_170 (by decide) ?_
      refine sa X84 hx hby at_173 rfl rfl ?_
      show Steps p.tables e below (T84.setTop (mkF m 175 Lb131 [(.ref b36)])) _
      refine sg (pc := 175) (pc' := 180) X84 hx hby at_175 (by decide) (by decide) ?_
      refine XS.astore X84.here hx rfl (hb hby at_180) rfl rfl (l' := Lb132) rfl ?_
      refine sc X84 hx hby at_182 ?_
      refine st133 _ ?_
      refine XS.astore X133.here hx rfl (hb hby at_186) rfl rfl (l' := Lb135) rfl ?_
      refine sc X133 hx hby at_188 ?_
      refine XS.istore X133.here hx rfl (hb hby at_189) rfl (l' := Lb136) rfl ?_
      refine si X133 hx hby at_191 rfl ?_
      refine sc X133 hx hby at_193 ?_
      show Steps p.tables e below (T133.setTop (mkF m 194 Lb136 [(.int (3 : Int32)), (.int (0 : Int32))])) _
      refine XS.icmpYes X133.here hx rfl (pc0 := 194) (pc' := 213) rfl (hb hby at_194) rfl (by decide) (by decide) (by decide) ?_
      refine si X133 hx hby at_213 rfl ?_
      refine sc X133 hx hby at_215 ?_
      refine XS.icmpYes X133.here hx rfl (pc0 := 216) (pc' := 235) rfl (hb hby at_216) rfl (by decide) (by decide) (by decide) ?_
      refine si X133 hx hby at_235 rfl ?_
      show Steps p.tables e below (T133.setTop (mkF m 237 Lb136 [(.int (0 : Int32))])) _
      refine sc X133 hx hby at_237 ?_
      refine XS.icmpYes X133.here hx rfl (pc0 := 238) (pc' := 256) rfl (hb hby at_238) rfl (by decide) (by decide) (by decide) ?_
      refine sa X133 hx hby at_256 rfl rfl ?_
      refine sa X133 hx hby at_258 rfl rfl ?_
      refine st139.trans ?_
      refine sa X139 hx hby at_263 rfl rfl ?_
      refine st145.trans ?_
      refine si X145 hx hby at_268 rfl ?_
      refine XS.i2l X145.here hx rfl (hb hby at_270) rfl ?_
      refine XS.lcmp X145.here hx rfl (hb hby at_271) rfl ?_
      refine sN X145 hx hby at_272 (by decide) ?_
      refine sc X145 hx hby at_275 ?_
      show Steps p.tables e below (T145.setTop (mkF m 276 Lb136 [(.int (1 : Int32))])) _
      refine sg (pc := 276) (pc' := 280) X145 hx hby at_276 (by decide) (by decide) ?_
      refine XS.istore X145.here hx rfl (hb hby at_280) rfl (l' := Lb146) rfl ?_
      refine si X145 hx hby at_282 rfl ?_
      refine sN X145 hx hby at_284 (by decide) ?_
      refine sa X145 hx hby at_287 rfl rfl ?_
      show Steps p.tables e below (T145.setTop (mkF m 289 Lb146 [(.ref b36)])) _
      refine st147 _ ?_
      refine sc X147 hx hby at_292 ?_
      refine sn X147 hx hby at_293 (by decide) ?_
      refine sa X147 hx hby at_296 rfl rfl ?_
      refine st149 _ ?_
      refine XS.ifnonnullNo X149.here hx rfl (hb hby at_301) rfl ?_
      refine sa X149 hx hby at_304 rfl rfl ?_
      refine st151 _ ?_
      refine XS.ifnonnullNo X151.here hx rfl (hb hby at_309) rfl ?_
      refine sc X151 hx hby at_312 ?_
      refine sg (pc := 313) (pc' := 317) X151 hx hby at_313 (by decide) (by decide) ?_
      refine XS.istore X151.here hx rfl (hb hby at_317) rfl (l' := Lb146) rfl ?_
      refine si X151 hx hby at_319 rfl ?_
      show Steps p.tables e below (T151.setTop (mkF m 321 Lb146 [(.int (0 : Int32))])) _
      refine sc X151 hx hby at_321 ?_
      refine XS.icmpYes X151.here hx rfl (pc0 := 322) (pc' := 373) rfl (hb hby at_322) rfl (by decide) (by decide) (by decide) ?_
      refine si X151 hx hby at_373 rfl ?_
      refine sc X151 hx hby at_375 ?_
      refine XS.icmpYes X151.here hx rfl (pc0 := 376) (pc' := 431) rfl (hb hby at_376) rfl (by decide) (by decide) (by decide) ?_
      show Steps p.tables e below (T151.setTop (mkF m 431 Lb146 [])) _
      refine sa X151 hx hby at_431 rfl rfl ?_
      refine sa X151 hx hby at_433 rfl rfl ?_
      refine sL X151 hx hby at_435 rfl ?_
      refine st166.trans ?_
      refine si X166 hx hby at_439 rfl ?_
      refine sN X166 hx hby at_441 (by decide) ?_
      refine sa X166 hx hby at_444 rfl rfl ?_
      refine st168 _ ?_
      refine sa X168 hx hby at_449 rfl rfl ?_
      refine sc X168 hx hby at_451 ?_
      refine X168.aaload hx (j := (0 : Int32)) (v := .null) (by rw [e168]; exact Ar173.1) (State.isArrayOf_alike hZ.alike Ar173.2.1) rfl Ar173.2.2 hin173 (Hs173.at hin173 rfl) (g := (mkF m 452 Lb146 [(.int (0 : Int32)), (.ref b133), .null])) rfl rfl (hb hby at_452) _ ?_
      refine Jvm.RoadKit.acmp (g := (mkF m 453 Lb146 [.null, .null])) X168 hx rfl rfl rfl (pc0 := 453) (pc' := 456) (same := true) rfl (hb hby at_453) rfl (decide_eq_true rfl) (by decide) (by decide) ?_
      refine sa X168 hx hby at_456 rfl rfl ?_
      show Steps p.tables e below (T168.setTop (mkF m 458 Lb146 [(.ref b36)])) _
      refine st174 _ ?_
      refine XS.ifnonnullNo X174.here hx rfl (hb hby at_461) rfl ?_
      refine sc X174 hx hby at_464 ?_
      refine sg (pc := 465) (pc' := 469) X174 hx hby at_465 (by decide) (by decide) ?_
      refine XS.istore X174.here hx rfl (hb hby at_469) rfl (l' := Lb146) rfl ?_
      refine si X174 hx hby at_471 rfl ?_
      show Steps p.tables e below (T174.setTop (mkF m 473 Lb146 [(.int (0 : Int32))])) _
      refine sc X174 hx hby at_473 ?_
      refine XS.icmpYes X174.here hx rfl (pc0 := 474) (pc' := 501) rfl (hb hby at_474) rfl (by decide) (by decide) (by decide) ?_
      refine si X174 hx hby at_501 rfl ?_
      exact retN X174 hx (t := .boolean) Bd.returns (by simp) (hb hby at_503) hr
    · show Q0 n0 _ T174.heap _
      rw [e174]
      exact ⟨rfl, N166⟩
   ·
    rw [hs87] at pre86
    let Lb175 : Array Slot := #[.val (.long p0), .second, .val (.long p1), .second, .val (.int p2), .val (.int p3), .val (.int (0 : Int32)), .val (.int (2 : Int32)), .val (.long (p1 &&& (9223372036854775807 : Int64))), .second, .val (.ref b4), .val (.ref b9), .val (.ref b14), .val (.ref b36), .val (.ref b57), .val (.int (-1 : Int32)), .unset, .unset, .unset, .unset]
    let Lb176 : Array Slot := #[.val (.long p0), .second, .val (.long p1), .second, .val (.int p2), .val (.int p3), .val (.int (0 : Int32)), .val (.int (2 : Int32)), .val (.long (p1 &&& (9223372036854775807 : Int64))), .second, .val (.ref b4), .val (.ref b9), .val (.ref b14), .val (.ref b36), .val (.ref b57), .val (.int (-1 : Int32)), .val (.ref b57), .unset, .unset, .unset]
    obtain ⟨T177, h177, k177, X177, e177, E177, A177, Ov177, st177⟩ := newR X84 hx hZ hown (wk48 hw) (wk45 hw) e84 (g := (mkF m 183 Lb176 [(.int (3 : Int32))])) rfl (hb hby at_183) rfl (by decide) (cap := 3) (by decide) (by decide) (by decide) (by decide)
    obtain ⟨b177, g177⟩ : ∃ z, z = T75.heap.size := ⟨_, rfl⟩
    rw [← g177] at A177 st177
    have gg177 : n0 ≤ b177 := by rw [← O76.1, g177]; exact O76.2.1
    have O178 := O76.ext E177
    have V177 : Arv Z h177 b177 k177 (.object cs0) (3 : Int32) [.null, .null, .null] .null := own_pad (dv := .null) (Arv.new A177 (by decide)) 3 _ rfl
    let Lb179 : Array Slot := #[.val (.long p0), .second, .val (.long p1), .second, .val (.int p2), .val (.int p3), .val (.int (0 : Int32)), .val (.int (2 : Int32)), .val (.long (p1 &&& (9223372036854775807 : Int64))), .second, .val (.ref b4), .val (.ref b9), .val (.ref b14), .val (.ref b36), .val (.ref b57), .val (.int (-1 : Int32)), .val (.ref b57), .val (.ref b177), .unset, .unset]
    let Lb180 : Array Slot := #[.val (.long p0), .second, .val (.long p1), .second, .val (.int p2), .val (.int p3), .val (.int (0 : Int32)), .val (.int (2 : Int32)), .val (.long (p1 &&& (9223372036854775807 : Int64))), .second, .val (.ref b4), .val (.ref b9), .val (.ref b14), .val (.ref b36), .val (.ref b57), .val (.int (-1 : Int32)), .val (.ref b57), .val (.ref b177), .val (.int (0 : Int32)), .unset]
    have t181 := (r75_0.ext E177)
    have t183 := ((own_exa (own_exa (own_exa ((own_exa (own_exa (own_exa ((own_exa (own_exa (own_exa ((own_exa A9 K11).ext E14) K16) K18) K33).ext E36) K38) K40) K54).ext E57) K59) K61) K75).ext E177)
    obtain ⟨cq182, kq182, q182a, q182b, q182c⟩ := isOf hZ e177 t183
    obtain ⟨_, _, ⟨T182, L182, kk182, nn182⟩, -, X182, ⟨Lc182, hQ182, l182, y182, z182⟩, st182⟩ := X177.virtualBack hx (y := ym9) (z := ym9) hown (mvT hZ (wk94 hw)) (mvT hZ (wk95 hw)) (notFace_of_selects (args := #[]) (mvT hZ (wk97 hw))) (mvT hZ (wk97 hw)) (mvT hZ (wk96 hw)) (by decide) (backOf (W := 0) (rm11_12 l Z a0 hw w hW [] b9 b57 h177 n0 O178 t181) hZ (wk98 hw) (wk36 hw) (by decide) (by decide)) q182a q182c (g := (mkF m 260 Lb180 [(.ref b57), (.ref b9)])) rfl (by rw [hml]; rfl) (Steps.refl _) (argsL := [(.ref b57)]) (rest := []) (lenOf pds_8 rfl) rfl (by show 2 * 0 + _ ≤ _; exact Nat.le_of_eq rfl) (hb hby at_260) (fun _ _ => ⟨rfl, e177, (by decide : 11 + 0 ≤ _), (by decide : 516 + 0 ≤ _)⟩)
    dsimp only [Pt.U, Pt.locs, Pt.cells, Pt.slots] at X182 l182 y182 z182 st182 hQ182
    rw [l182, y182, z182] at X182
    obtain ⟨rfl, N182q, e182⟩ := hQ182
    have N182 := Fr.app N75 N182q
    have ne184 : b9 ≠ b14 := (Nat.ne_of_lt (Nat.lt_of_lt_of_le (Nat.lt_of_lt_of_le A9.lt K11.1) (Nat.le_of_eq g14.symm)))
    have ne185 : b9 ≠ b36 := (Nat.ne_of_lt (Nat.lt_of_lt_of_le (Nat.lt_of_lt_of_le (Nat.lt_of_lt_of_le (Nat.lt_of_lt_of_le (Nat.lt_of_lt_of_le (Nat.lt_of_lt_of_le A9.lt K11.1) E14.1) K16.1) K18.1) K33.1) (Nat.le_of_eq g36.symm)))
    have ne186 : b9 ≠ b57 := (Nat.ne_of_lt (Nat.lt_of_lt_of_le (Nat.lt_of_lt_of_le (Nat.lt_of_lt_of_le (Nat.lt_of_lt_of_le (Nat.lt_of_lt_of_le (Nat.lt_of_lt_of_le (Nat.lt_of_lt_of_le (Nat.lt_of_lt_of_le (Nat.lt_of_lt_of_le (Nat.lt_of_lt_of_le A9.lt K11.1) E14.1) K16.1) K18.1) K33.1) E36.1) K38.1) K40.1) K54.1) (Nat.le_of_eq g57.symm)))
    have t187 := ((own_fld (own_fld (own_fld ((own_fld (own_fld (own_fld ((own_fld (own_fld (own_fld ((own_fld i9_106 K11 (own_nls (sn61 hw) (own_nls (sn60 hw) own_nl0))).ext E14) K16 own_nl0) K18 own_nl0) K33 (own_nlb ne184 (own_nlb ne184 (own_nlb ne184 (own_nlb ne184 (own_nlb ne184 (own_nlb ne184 (own_nlb ne184 (own_nlb ne184 own_nl0))))))))).ext E36) K38 own_nl0) K40 own_nl0) K54 (own_nlb ne185 (own_nlb ne185 (own_nlb ne185 (own_nlb ne185 (own_nlb ne185 (own_nlb ne185 (own_nlb ne185 (own_nlb ne185 own_nl0))))))))).ext E57) K59 own_nl0) K61 own_nl0) K75 (own_nlb ne186 (own_nlb ne186 (own_nlb ne186 (own_nlb ne186 (own_nlb ne186 (own_nlb ne186 (own_nlb ne186 (own_nlb ne186 own_nl0))))))))).ext E177)
    obtain ⟨cq188, kq188, q188a, q188b, q188c⟩ := isOf hZ e182 t183
    obtain ⟨_, _, ⟨T188, L188, kk188, nn188⟩, -, X188, ⟨Lc188, hQ188, l188, y188, z188⟩, st188⟩ := X182.virtualBack hx (y := ym10) (z := ym10) hown (mvT hZ (wk100 hw)) (mvT hZ (wk101 hw)) (notFace_of_selects (args := #[]) (mvT hZ (wk103 hw))) (mvT hZ (wk103 hw)) (mvT hZ (wk102 hw)) (by decide) (backOf (W := 0) (rm12_13 l Z a0 hw w hW [] b9 h177 n0 O178 t187) hZ (wk104 hw) (wk36 hw) (by decide) (by decide)) q188a q188c (g := (mkF m 265 Lb180 [(.ref b9)])) rfl (by rw [hml]; rfl) (Steps.refl _) (argsL := []) (rest := []) (lenOf pds_9 rfl) rfl (by show 2 * 0 + _ ≤ _; exact Nat.le_of_eq rfl) (hb hby at_265) (fun _ _ => ⟨rfl, e182, (by decide : 11 + 0 ≤ _), (by decide : 516 + 0 ≤ _)⟩)
    dsimp only [Pt.U, Pt.locs, Pt.cells, Pt.slots] at X188 l188 y188 z188 st188 hQ188
    rw [l188, y188, z188] at X188
    obtain ⟨rfl, N188q, e188⟩ := hQ188
    have N188 := Fr.app N182 N188q
    let Lb189 : Array Slot := #[.val (.long p0), .second, .val (.long p1), .second, .val (.int p2), .val (.int p3), .val (.int (0 : Int32)), .val (.int (2 : Int32)), .val (.long (p1 &&& (9223372036854775807 : Int64))), .second, .val (.ref b4), .val (.ref b9), .val (.ref b14), .val (.ref b36), .val (.ref b57), .val (.int (-1 : Int32)), .val (.ref b57), .val (.ref b177), .val (.int (0 : Int32)), .val (.int (1 : Int32))]
    obtain ⟨T190, X190, e190, st190⟩ := getF X188 hx hZ hown (host := "") (Or.inl (wk93 hw)) Via.refl e188 t181 (g := (mkF m 289 Lb189 [(.ref b57)])) rfl rfl (hb hby at_289)
    have t191 := ((own_fld (own_fld (own_fld i57_108 K59 own_nl0) K61 own_nl0) K75 (own_nls (sn69 hw) (own_nls (sn68 hw) (own_nls (sn67 hw) (own_nls (sn66 hw) (own_nls (sn65 hw) (own_nls (sn64 hw) (own_nls (sn63 hw) (own_nls (sn62 hw) own_nl0))))))))).ext E177)
    obtain ⟨T192, X192, e192, st192⟩ := getF X190 hx hZ hown (host := "") (Or.inl (wk107 hw)) Via.refl e190 t191 (g := (mkF m 298 Lb189 [(.ref b57)])) rfl rfl (hb hby at_298)
    have t193 := ((own_fld (own_fld (own_fld i57_110 K59 own_nl0) K61 own_nl0) K75 (own_nls (sn77 hw) (own_nls (sn76 hw) (own_nls (sn75 hw) (own_nls (sn74 hw) (own_nls (sn73 hw) (own_nls (sn72 hw) (own_nls (sn71 hw) (own_nls (sn70 hw) own_nl0))))))))).ext E177)
    obtain ⟨T194, X194, e194, st194⟩ := getF X192 hx hZ hown (host := "") (Or.inl (wk109 hw)) Via.refl e192 t193 (g := (mkF m 306 Lb189 [(.ref b57)])) rfl rfl (hb hby at_306)
    have t195 := ((own_fld (own_fld (own_fld ((own_fld (own_fld (own_fld ((own_fld (own_fld (own_fld (r11_0.ext E14) K16 own_nl0) K18 own_nl0) K33 (own_nlb ne184 (own_nlb ne184 (own_nlb ne184 (own_nlb ne184 (own_nlb ne184 (own_nlb ne184 (own_nlb ne184 (own_nlb ne184 own_nl0))))))))).ext E36) K38 own_nl0) K40 own_nl0) K54 (own_nlb ne185 (own_nlb ne185 (own_nlb ne185 (own_nlb ne185 (own_nlb ne185 (own_nlb ne185 (own_nlb ne185 (own_nlb ne185 own_nl0))))))))).ext E57) K59 own_nl0) K61 own_nl0) K75 (own_nlb ne186 (own_nlb ne186 (own_nlb ne186 (own_nlb ne186 (own_nlb ne186 (own_nlb ne186 (own_nlb ne186 (own_nlb ne186 own_nl0))))))))).ext E177)
    have t196 := (r75_4.ext E177)
    have t197 := ((own_exa t71 K75).ext E177)
    have t198 := ((own_fld t72 K75 (own_nlb ne74 (own_nlb ne74 (own_nlb ne74 (own_nlb ne74 (own_nlb ne74 (own_nlb ne74 (own_nlb ne74 (own_nlb ne74 own_nl0))))))))).ext E177)
    have t199 := ((own_exa t63 K75).ext E177)
    have t200 := (r75_5.ext E177)
    have t201 := (r75_6.ext E177)
    have t202 := ((own_fld (own_fld (own_fld ((own_fld (own_fld (own_fld ((own_fld (own_fld (own_fld ((own_fld (r6_1.ext E9) K11 (own_nlb ne29 (own_nlb ne29 own_nl0))).ext E14) K16 own_nl0) K18 own_nl0) K33 (own_nlb ne32 (own_nlb ne32 (own_nlb ne32 (own_nlb ne32 (own_nlb ne32 (own_nlb ne32 (own_nlb ne32 (own_nlb ne32 own_nl0))))))))).ext E36) K38 own_nl0) K40 own_nl0) K54 (own_nlb ne53 (own_nlb ne53 (own_nlb ne53 (own_nlb ne53 (own_nlb ne53 (own_nlb ne53 (own_nlb ne53 (own_nlb ne53 own_nl0))))))))).ext E57) K59 own_nl0) K61 own_nl0) K75 (own_nlb ne74 (own_nlb ne74 (own_nlb ne74 (own_nlb ne74 (own_nlb ne74 (own_nlb ne74 (own_nlb ne74 (own_nlb ne74 own_nl0))))))))).ext E177)
    have t203 := ((own_fld (own_fld (own_fld ((own_fld (own_fld (own_fld ((own_fld (own_fld (own_fld (r11_2.ext E14) K16 own_nl0) K18 own_nl0) K33 (own_nlb ne184 (own_nlb ne184 (own_nlb ne184 (own_nlb ne184 (own_nlb ne184 (own_nlb ne184 (own_nlb ne184 (own_nlb ne184 own_nl0))))))))).ext E36) K38 own_nl0) K40 own_nl0) K54 (own_nlb ne185 (own_nlb ne185 (own_nlb ne185 (own_nlb ne185 (own_nlb ne185 (own_nlb ne185 (own_nlb ne185 (own_nlb ne185 own_nl0))))))))).ext E57) K59 own_nl0) K61 own_nl0) K75 (own_nlb ne186 (own_nlb ne186 (own_nlb ne186 (own_nlb ne186 (own_nlb ne186 (own_nlb ne186 (own_nlb ne186 (own_nlb ne186 own_nl0))))))))).ext E177)
    have ne204 : b11_0 ≠ b14 := (Nat.ne_of_lt (Nat.lt_of_lt_of_le r11_1.lt (Nat.le_of_eq g14.symm)))
    have ne205 : b11_0 ≠ b36 := (Nat.ne_of_lt (Nat.lt_of_lt_of_le (Nat.lt_of_lt_of_le (Nat.lt_of_lt_of_le (Nat.lt_of_lt_of_le (Nat.lt_of_lt_of_le r11_1.lt E14.1) K16.1) K18.1) K33.1) (Nat.le_of_eq g36.symm)))
    have ne206 : b11_0 ≠ b57 := (Nat.ne_of_lt (Nat.lt_of_lt_of_le (Nat.lt_of_lt_of_le (Nat.lt_of_lt_of_le (Nat.lt_of_lt_of_le (Nat.lt_of_lt_of_le (Nat.lt_of_lt_of_le (Nat.lt_of_lt_of_le (Nat.lt_of_lt_of_le (Nat.lt_of_lt_of_le r11_1.lt E14.1) K16.1) K18.1) K33.1) E36.1) K38.1) K40.1) K54.1) (Nat.le_of_eq g57.symm)))
    have t207 := ((own_arv (own_arv (own_arv ((own_arv (own_arv (own_arv ((own_arv (own_arv (own_arv (r11_1.ext E14) K16 own_nb0) K18 own_nb0) K33 (own_nbc (Ne.symm ne204) (own_nbc (Ne.symm ne204) (own_nbc (Ne.symm ne204) (own_nbc (Ne.symm ne204) (own_nbc (Ne.symm ne204) (own_nbc (Ne.symm ne204) (own_nbc (Ne.symm ne204) (own_nbc (Ne.symm ne204) own_nb0))))))))).ext E36) K38 own_nb0) K40 own_nb0) K54 (own_nbc (Ne.symm ne205) (own_nbc (Ne.symm ne205) (own_nbc (Ne.symm ne205) (own_nbc (Ne.symm ne205) (own_nbc (Ne.symm ne205) (own_nbc (Ne.symm ne205) (own_nbc (Ne.symm ne205) (own_nbc (Ne.symm ne205) own_nb0))))))))).ext E57) K59 own_nb0) K61 own_nb0) K75 (own_nbc (Ne.symm ne206) (own_nbc (Ne.symm ne206) (own_nbc (Ne.symm ne206) (own_nbc (Ne.symm ne206) (own_nbc (Ne.symm ne206) (own_nbc (Ne.symm ne206) (own_nbc (Ne.symm ne206) (own_nbc (Ne.symm ne206) own_nb0))))))))).ext E177)
    have ne208 : b9 ≠ b11_0 := (Nat.ne_of_lt (Nat.lt_of_lt_of_le A9.lt r11_3))
    obtain ⟨cq209, kq209, q209a, q209b, q209c⟩ := isOf hZ e194 t183
    obtain ⟨_, _, ⟨T209, L209, kk209, nn209⟩, -, X209, ⟨Lc209, hQ209, l209, y209, z209⟩, st209⟩ := X194.virtualBack hx (y := ym19) (z := ym19) hown (mvT hZ (wk111 hw)) (mvT hZ (wk112 hw)) (notFace_of_selects (args := #[]) (mvT hZ (wk114 hw))) (mvT hZ (wk114 hw)) (mvT hZ (wk113 hw)) (by decide) (backOf (W := 0) (rm13_23 l Z a0 hw w hW [] b9 b57 p0 b4 (p1 &&& (9223372036854775807 : Int64)) b11_0 k11_0 h177 n0 O178 t187 t195 t183 gg9 t196 (Ne.symm ne186) t197 t198 (own_lf1 _) ne29 t199 t200 t201 t202 (own_max _) t181 (own_S1 _ _) t203 t207 (own_S2 _ _) (own_S3 _ _) t191 t193 (Ne.symm ne208) gg57 ggb11_0 ne206 r11_4) hZ (wk115 hw) (wk36 hw) (by decide) (by decide)) q209a q209c (g := (mkF m 436 Lb189 [(.long p0), (.ref b57), (.ref b9)])) rfl (by rw [hml]; rfl) (Steps.refl _) (argsL := [(.ref b57), (.long p0)]) (rest := []) (lenOf pds_14 rfl) rfl (by show 2 * 0 + _ ≤ _; exact Nat.le_of_eq rfl) (hb hby at_436) (fun _ _ => ⟨rfl, e194, (by decide : 11 + 0 ≤ _), (by decide : 516 + 0 ≤ _)⟩)
    dsimp only [Pt.U, Pt.locs, Pt.cells, Pt.slots] at X209 l209 y209 z209 st209 hQ209
    rw [l209, y209, z209] at X209
    obtain ⟨rfl, N209q, K209, r209_0, r209_1, r209_2, r209_3, r209_4, r209_5⟩ := hQ209
    have N209 := Fr.app N188 N209q
    have O210 := own_old O178 K209 (own_ngc gg9 (own_ngc gg57 (own_ngc gg57 (own_ngc ggb11_0 (own_ngc gg57 (own_ngc gg9 own_ng0))))))
    obtain ⟨T211, X211, e211, st211⟩ := getF X209 hx hZ hown (host := "") (Or.inl (wk109 hw)) Via.refl rfl r209_2 (g := (mkF m 446 Lb189 [(.ref b57)])) rfl rfl (hb hby at_446)
    have ne212 : b9 ≠ b177 := (Nat.ne_of_lt (Nat.lt_of_lt_of_le (Nat.lt_of_lt_of_le (Nat.lt_of_lt_of_le (Nat.lt_of_lt_of_le (Nat.lt_of_lt_of_le (Nat.lt_of_lt_of_le (Nat.lt_of_lt_of_le (Nat.lt_of_lt_of_le (Nat.lt_of_lt_of_le (Nat.lt_of_lt_of_le (Nat.lt_of_lt_of_le (Nat.lt_of_lt_of_le (Nat.lt_of_lt_of_le (Nat.lt_of_lt_of_le A9.lt K11.1) E14.1) K16.1) K18.1) K33.1) E36.1) K38.1) K40.1) K54.1) E57.1) K59.1) K61.1) K75.1) (Nat.le_of_eq g177.symm)))
    have ne213 : b57 ≠ b177 := (Nat.ne_of_lt (Nat.lt_of_lt_of_le (Nat.lt_of_lt_of_le t63.lt K75.1) (Nat.le_of_eq g177.symm)))
    have ne214 : b11_0 ≠ b177 := (Nat.ne_of_lt (Nat.lt_of_lt_of_le (Nat.lt_of_lt_of_le (Nat.lt_of_lt_of_le (Nat.lt_of_lt_of_le (Nat.lt_of_lt_of_le (Nat.lt_of_lt_of_le (Nat.lt_of_lt_of_le (Nat.lt_of_lt_of_le (Nat.lt_of_lt_of_le (Nat.lt_of_lt_of_le (Nat.lt_of_lt_of_le (Nat.lt_of_lt_of_le (Nat.lt_of_lt_of_le r11_1.lt E14.1) K16.1) K18.1) K33.1) E36.1) K38.1) K40.1) K54.1) E57.1) K59.1) K61.1) K75.1) (Nat.le_of_eq g177.symm)))
    have t215 := (own_arv V177 K209 (own_nbc ne212 (own_nbc ne213 (own_nbc ne213 (own_nbc ne214 (own_nbc ne213 (own_nbc ne212 own_nb0)))))))
    obtain ⟨cl216, Ar216, cw216, S216, Nn216, Hs216, G216⟩ := id (t215)
    have hin216 : ¬ ((0 : Int32) < 0 ∨ cl216.slots.size ≤ ((0 : Int32)).toNatClampNeg) := inb_of S216 ⟨by decide, by decide⟩
    obtain ⟨T217, X217, e217, st217⟩ := getF X211 hx hZ hown (host := "") (Or.inl (wk107 hw)) Via.refl e211 r209_3 (g := (mkF m 458 Lb189 [(.ref b57)])) rfl rfl (hb hby at_458)
    obtain ⟨fs, hr, hrun, hended, hREW⟩ := Stand.leaveW (s := s) (vm₁ := T6.vm) X217 hS6 (by rw [e217]; exact (Nat.le_trans (Nat.le_trans (Nat.le_trans (Nat.le_trans (Nat.le_trans (Nat.le_trans (Nat.le_trans (Nat.le_trans (Nat.le_trans (Nat.le_trans (Nat.le_trans (Nat.le_trans (Nat.le_trans (Nat.le_trans (Nat.le_trans (Nat.le_trans (Nat.le_refl _) E9.1) K11.1) E14.1) K16.1) K18.1) K33.1) E36.1) K38.1) K40.1) K54.1) E57.1) K59.1) K61.1) K75.1) E177.1) K209.1)) (v := some (.int (1 : Int32))) (fun h => by rw [Bd.returns] at h; cases h)
    refine ⟨_, _, pre86 _ ?_, hrun, hended, _, _, rfl, ?_, hREW.1, hREW.2.1, hREW.2.2.1, hREW.2.2.2.mono (by decide) (by decide)⟩
    · show Steps p.tables e below (T84.setTop (mkF m 159 Lb175 [(.int (2 : Int32))])) _
      refine XS.ifYes X84.here hx rfl (pc0 := 159) (pc' := 167) rfl (hb hby at_159) rfl (by decide) (by decide) (by decide) ?_
      refine si X84 hx hby at_167 rfl ?_
      refine sc X84 hx hby at_169 ?_
      refine XS.icmpYes X84.here hx rfl (pc0 := 170) (pc' := 178) rfl (hb hby at_170) rfl (by decide) (by decide) (by decide) ?_
      refine sa X84 hx hby at_178 rfl rfl ?_
      show Steps p.tables e below (T84.setTop (mkF m 180 Lb175 [(.ref b57)])) _
      refine XS.astore X84.here hx rfl (hb hby at_180) rfl rfl (l' := Lb176) rfl ?_
      refine sc X84 hx hby at_182 ?_
      refine st177 _ ?_
      refine XS.astore X177.here hx rfl (hb hby at_186) rfl rfl (l' := Lb179) rfl ?_
      refine sc X177 hx hby at_188 ?_
      refine XS.istore X177.here hx rfl (hb hby at_189) rfl (l' := Lb180) rfl ?_
      refine si X177 hx hby at_191 rfl ?_
      refine sc X177 hx hby at_193 ?_
      show Steps p.tables e below (T177.setTop (mkF m 194 Lb180 [(.int (3 : Int32)), (.int (0 : Int32))])) _
      refine XS.icmpYes X177.here hx rfl (pc0 := 194) (pc' := 213) rfl (hb hby at_194) rfl (by decide) (by decide) (by decide) ?_
      refine si X177 hx hby at_213 rfl ?_
      refine sc X177 hx hby at_215 ?_
      refine XS.icmpYes X177.here hx rfl (pc0 := 216) (pc' := 235) rfl (hb hby at_216) rfl (by decide) (by decide) (by decide) ?_
      refine si X177 hx hby at_235 rfl ?_
      show Steps p.tables e below (T177.setTop (mkF m 237 Lb180 [(.int (0 : Int32))])) _
      refine sc X177 hx hby at_237 ?_
      refine XS.icmpYes X177.here hx rfl (pc0 := 238) (pc' := 256) rfl (hb hby at_238) rfl (by decide) (by decide) (by decide) ?_
      refine sa X177 hx hby at_256 rfl rfl ?_
      refine sa X177 hx hby at_258 rfl rfl ?_
      refine st182.trans ?_
      refine sa X182 hx hby at_263 rfl rfl ?_
      refine st188.trans ?_
      refine si X188 hx hby at_268 rfl ?_
      refine XS.i2l X188.here hx rfl (hb hby at_270) rfl ?_
      refine XS.lcmp X188.here hx rfl (hb hby at_271) rfl ?_
      refine sN X188 hx hby at_272 (by decide) ?_
      refine sc X188 hx hby at_275 ?_
      show Steps p.tables e below (T188.setTop (mkF m 276 Lb180 [(.int (1 : Int32))])) _
      refine sg (pc := 276) (pc' := 280) X188 hx hby at_276 (by decide) (by decide) ?_
      refine XS.istore X188.here hx rfl (hb hby at_280) rfl (l' := Lb189) rfl ?_
      refine si X188 hx hby at_282 rfl ?_
      refine sN X188 hx hby at_284 (by decide) ?_
      refine sa X188 hx hby at_287 rfl rfl ?_
      show Steps p.tables e below (T188.setTop (mkF m 289 Lb189 [(.ref b57)])) _
      refine st190 _ ?_
      refine sc X190 hx hby at_292 ?_
      refine sn X190 hx hby at_293 (by decide) ?_
      refine sa X190 hx hby at_296 rfl rfl ?_
      refine st192 _ ?_
      refine XS.ifnonnullNo X192.here hx rfl (hb hby at_301) rfl ?_
      refine sa X192 hx hby at_304 rfl rfl ?_
      refine st194 _ ?_
      refine XS.ifnonnullNo X194.here hx rfl (hb hby at_309) rfl ?_
      refine sc X194 hx hby at_312 ?_
      refine sg (pc := 313) (pc' := 317) X194 hx hby at_313 (by decide) (by decide) ?_
      refine XS.istore X194.here hx rfl (hb hby at_317) rfl (l' := Lb189) rfl ?_
      refine si X194 hx hby at_319 rfl ?_
      show Steps p.tables e below (T194.setTop (mkF m 321 Lb189 [(.int (0 : Int32))])) _
      refine sc X194 hx hby at_321 ?_
      refine XS.icmpYes X194.here hx rfl (pc0 := 322) (pc' := 373) rfl (hb hby at_322) rfl (by decide) (by decide) (by decide) ?_
      refine si X194 hx hby at_373 rfl ?_
      refine sc X194 hx hby at_375 ?_
      refine XS.icmpYes X194.here hx rfl (pc0 := 376) (pc' := 431) rfl (hb hby at_376) rfl (by decide) (by decide) (by decide) ?_
      show Steps p.tables e below (T194.setTop (mkF m 431 Lb189 [])) _
      refine sa X194 hx hby at_431 rfl rfl ?_
      refine sa X194 hx hby at_433 rfl rfl ?_
      refine sL X194 hx hby at_435 rfl ?_
      refine st209.trans ?_
      refine si X209 hx hby at_439 rfl ?_
      refine sN X209 hx hby at_441 (by decide) ?_
      refine sa X209 hx hby at_444 rfl rfl ?_
      refine st211 _ ?_
      refine sa X211 hx hby at_449 rfl rfl ?_
      refine sc X211 hx hby at_451 ?_
      refine X211.aaload hx (j := (0 : Int32)) (v := .null) (by rw [e211]; exact Ar216.1) (State.isArrayOf_alike hZ.alike Ar216.2.1) rfl Ar216.2.2 hin216 (Hs216.at hin216 rfl) (g := (mkF m 452 Lb189 [(.int (0 : Int32)), (.ref b177), .null])) rfl rfl (hb hby at_452) _ ?_
      refine Jvm.RoadKit.acmp (g := (mkF m 453 Lb189 [.null, .null])) X211 hx rfl rfl rfl (pc0 := 453) (pc' := 456) (same := true) rfl (hb hby at_453) rfl (decide_eq_true rfl) (by decide) (by decide) ?_
      refine sa X211 hx hby at_456 rfl rfl ?_
      show Steps p.tables e below (T211.setTop (mkF m 458 Lb189 [(.ref b57)])) _
      refine st217 _ ?_
      refine XS.ifnonnullNo X217.here hx rfl (hb hby at_461) rfl ?_
      refine sc X217 hx hby at_464 ?_
      refine sg (pc := 465) (pc' := 469) X217 hx hby at_465 (by decide) (by decide) ?_
      refine XS.istore X217.here hx rfl (hb hby at_469) rfl (l' := Lb189) rfl ?_
      refine si X217 hx hby at_471 rfl ?_
      show Steps p.tables e below (T217.setTop (mkF m 473 Lb189 [(.int (0 : Int32))])) _
      refine sc X217 hx hby at_473 ?_
      refine XS.icmpYes X217.here hx rfl (pc0 := 474) (pc' := 501) rfl (hb hby at_474) rfl (by decide) (by decide) (by decide) ?_
      refine si X217 hx hby at_501 rfl ?_
      exact retN X217 hx (t := .boolean) Bd.returns (by simp) (hb hby at_503) hr
    · show Q0 n0 _ T217.heap _
      rw [e217]
      exact ⟨rfl, N209⟩
  ·
   rw [hs79] at pre78
   let Lb218 : Array Slot := #[.val (.long p0), .second, .val (.long p1), .second, .val (.int p2), .val (.int p3), .val (.int (1 : Int32)), .val (.int ((p3 &&& (2147483647 : Int32)) % (3 : Int32))), .val (.long (p1 &&& (9223372036854775807 : Int64))), .second, .val (.ref b4), .val (.ref b9), .val (.ref b14), .val (.ref b36), .val (.ref b57), .unset, .unset, .unset, .unset, .unset]
   have ne219 : b9 ≠ b14 := (Nat.ne_of_lt (Nat.lt_of_lt_of_le (Nat.lt_of_lt_of_le A9.lt K11.1) (Nat.le_of_eq g14.symm)))
   have ne220 : b9 ≠ b36 := (Nat.ne_of_lt (Nat.lt_of_lt_of_le (Nat.lt_of_lt_of_le (Nat.lt_of_lt_of_le (Nat.lt_of_lt_of_le (Nat.lt_of_lt_of_le (Nat.lt_of_lt_of_le A9.lt K11.1) E14.1) K16.1) K18.1) K33.1) (Nat.le_of_eq g36.symm)))
   have ne221 : b9 ≠ b57 := (Nat.ne_of_lt (Nat.lt_of_lt_of_le (Nat.lt_of_lt_of_le (Nat.lt_of_lt_of_le (Nat.lt_of_lt_of_le (Nat.lt_of_lt_of_le (Nat.lt_of_lt_of_le (Nat.lt_of_lt_of_le (Nat.lt_of_lt_of_le (Nat.lt_of_lt_of_le (Nat.lt_of_lt_of_le A9.lt K11.1) E14.1) K16.1) K18.1) K33.1) E36.1) K38.1) K40.1) K54.1) (Nat.le_of_eq g57.symm)))
   have t222 := (own_fld (own_fld (own_fld ((own_fld (own_fld (own_fld ((own_fld (own_fld (own_fld ((own_fld i9_106 K11 (own_nls (sn61 hw) (own_nls (sn60 hw) own_nl0))).ext E14) K16 own_nl0) K18 own_nl0) K33 (own_nlb ne219 (own_nlb ne219 (own_nlb ne219 (own_nlb ne219 (own_nlb ne219 (own_nlb ne219 (own_nlb ne219 (own_nlb ne219 own_nl0))))))))).ext E36) K38 own_nl0) K40 own_nl0) K54 (own_nlb ne220 (own_nlb ne220 (own_nlb ne220 (own_nlb ne220 (own_nlb ne220 (own_nlb ne220 (own_nlb ne220 (own_nlb ne220 own_nl0))))))))).ext E57) K59 own_nl0) K61 own_nl0) K75 (own_nlb ne221 (own_nlb ne221 (own_nlb ne221 (own_nlb ne221 (own_nlb ne221 (own_nlb ne221 (own_nlb ne221 (own_nlb ne221 own_nl0)))))))))
   have t223 := (own_fld (own_fld (own_fld ((own_fld (own_fld (own_fld ((own_fld (own_fld (own_fld (r11_0.ext E14) K16 own_nl0) K18 own_nl0) K33 (own_nlb ne219 (own_nlb ne219 (own_nlb ne219 (own_nlb ne219 (own_nlb ne219 (own_nlb ne219 (own_nlb ne219 (own_nlb ne219 own_nl0))))))))).ext E36) K38 own_nl0) K40 own_nl0) K54 (own_nlb ne220 (own_nlb ne220 (own_nlb ne220 (own_nlb ne220 (own_nlb ne220 (own_nlb ne220 (own_nlb ne220 (own_nlb ne220 own_nl0))))))))).ext E57) K59 own_nl0) K61 own_nl0) K75 (own_nlb ne221 (own_nlb ne221 (own_nlb ne221 (own_nlb ne221 (own_nlb ne221 (own_nlb ne221 (own_nlb ne221 (own_nlb ne221 own_nl0)))))))))
   have t224 := (own_exa (own_exa (own_exa ((own_exa (own_exa (own_exa ((own_exa (own_exa (own_exa ((own_exa A9 K11).ext E14) K16) K18) K33).ext E36) K38) K40) K54).ext E57) K59) K61) K75)
   have ne225 : b14 ≠ b36 := (Nat.ne_of_lt (Nat.lt_of_lt_of_le (Nat.lt_of_lt_of_le t20.lt K33.1) (Nat.le_of_eq g36.symm)))
   have ne226 : b14 ≠ b57 := (Nat.ne_of_lt (Nat.lt_of_lt_of_le (Nat.lt_of_lt_of_le (Nat.lt_of_lt_of_le (Nat.lt_of_lt_of_le (Nat.lt_of_lt_of_le (Nat.lt_of_lt_of_le t20.lt K33.1) E36.1) K38.1) K40.1) K54.1) (Nat.le_of_eq g57.symm)))
   have t227 := (own_fld (own_fld (own_fld ((own_fld (own_fld (own_fld (r33_4.ext E36) K38 own_nl0) K40 own_nl0) K54 (own_nlb ne225 (own_nlb ne225 (own_nlb ne225 (own_nlb ne225 (own_nlb ne225 (own_nlb ne225 (own_nlb ne225 (own_nlb ne225 own_nl0))))))))).ext E57) K59 own_nl0) K61 own_nl0) K75 (own_nlb ne226 (own_nlb ne226 (own_nlb ne226 (own_nlb ne226 (own_nlb ne226 (own_nlb ne226 (own_nlb ne226 (own_nlb ne226 own_nl0)))))))))
   have t228 := (own_exa t71 K75)
   have t229 := (own_fld t72 K75 (own_nlb ne74 (own_nlb ne74 (own_nlb ne74 (own_nlb ne74 (own_nlb ne74 (own_nlb ne74 (own_nlb ne74 (own_nlb ne74 own_nl0)))))))))
   have t230 := (own_exa (own_exa (own_exa ((own_exa (own_exa (own_exa ((own_exa t20 K33).ext E36) K38) K40) K54).ext E57) K59) K61) K75)
   have t231 := (own_fld (own_fld (own_fld ((own_fld (own_fld (own_fld (r33_5.ext E36) K38 own_nl0) K40 own_nl0) K54 (own_nlb ne225 (own_nlb ne225 (own_nlb ne225 (own_nlb ne225 (own_nlb ne225 (own_nlb ne225 (own_nlb ne225 (own_nlb ne225 own_nl0))))))))).ext E57) K59 own_nl0) K61 own_nl0) K75 (own_nlb ne226 (own_nlb ne226 (own_nlb ne226 (own_nlb ne226 (own_nlb ne226 (own_nlb ne226 (own_nlb ne226 (own_nlb ne226 own_nl0)))))))))
   have t232 := (own_fld (own_fld (own_fld ((own_fld (own_fld (own_fld (r33_6.ext E36) K38 own_nl0) K40 own_nl0) K54 (own_nlb ne225 (own_nlb ne225 (own_nlb ne225 (own_nlb ne225 (own_nlb ne225 (own_nlb ne225 (own_nlb ne225 (own_nlb ne225 own_nl0))))))))).ext E57) K59 own_nl0) K61 own_nl0) K75 (own_nlb ne226 (own_nlb ne226 (own_nlb ne226 (own_nlb ne226 (own_nlb ne226 (own_nlb ne226 (own_nlb ne226 (own_nlb ne226 own_nl0)))))))))
   have t233 := (own_fld (own_fld (own_fld ((own_fld (own_fld (own_fld ((own_fld (own_fld (own_fld ((own_fld (r6_1.ext E9) K11 (own_nlb ne29 (own_nlb ne29 own_nl0))).ext E14) K16 own_nl0) K18 own_nl0) K33 (own_nlb ne32 (own_nlb ne32 (own_nlb ne32 (own_nlb ne32 (own_nlb ne32 (own_nlb ne32 (own_nlb ne32 (own_nlb ne32 own_nl0))))))))).ext E36) K38 own_nl0) K40 own_nl0) K54 (own_nlb ne53 (own_nlb ne53 (own_nlb ne53 (own_nlb ne53 (own_nlb ne53 (own_nlb ne53 (own_nlb ne53 (own_nlb ne53 own_nl0))))))))).ext E57) K59 own_nl0) K61 own_nl0) K75 (own_nlb ne74 (own_nlb ne74 (own_nlb ne74 (own_nlb ne74 (own_nlb ne74 (own_nlb ne74 (own_nlb ne74 (own_nlb ne74 own_nl0)))))))))
   have t234 := (own_fld (own_fld (own_fld ((own_fld (own_fld (own_fld (r33_0.ext E36) K38 own_nl0) K40 own_nl0) K54 (own_nlb ne225 (own_nlb ne225 (own_nlb ne225 (own_nlb ne225 (own_nlb ne225 (own_nlb ne225 (own_nlb ne225 (own_nlb ne225 own_nl0))))))))).ext E57) K59 own_nl0) K61 own_nl0) K75 (own_nlb ne226 (own_nlb ne226 (own_nlb ne226 (own_nlb ne226 (own_nlb ne226 (own_nlb ne226 (own_nlb ne226 (own_nlb ne226 own_nl0)))))))))
   have t235 := (own_fld (own_fld (own_fld ((own_fld (own_fld (own_fld ((own_fld (own_fld (own_fld (r11_2.ext E14) K16 own_nl0) K18 own_nl0) K33 (own_nlb ne219 (own_nlb ne219 (own_nlb ne219 (own_nlb ne219 (own_nlb ne219 (own_nlb ne219 (own_nlb ne219 (own_nlb ne219 own_nl0))))))))).ext E36) K38 own_nl0) K40 own_nl0) K54 (own_nlb ne220 (own_nlb ne220 (own_nlb ne220 (own_nlb ne220 (own_nlb ne220 (own_nlb ne220 (own_nlb ne220 (own_nlb ne220 own_nl0))))))))).ext E57) K59 own_nl0) K61 own_nl0) K75 (own_nlb ne221 (own_nlb ne221 (own_nlb ne221 (own_nlb ne221 (own_nlb ne221 (own_nlb ne221 (own_nlb ne221 (own_nlb ne221 own_nl0)))))))))
   have ne236 : b11_0 ≠ b14 := (Nat.ne_of_lt (Nat.lt_of_lt_of_le r11_1.lt (Nat.le_of_eq g14.symm)))
   have ne237 : b11_0 ≠ b36 := (Nat.ne_of_lt (Nat.lt_of_lt_of_le (Nat.lt_of_lt_of_le (Nat.lt_of_lt_of_le (Nat.lt_of_lt_of_le (Nat.lt_of_lt_of_le r11_1.lt E14.1) K16.1) K18.1) K33.1) (Nat.le_of_eq g36.symm)))
   have ne238 : b11_0 ≠ b57 := (Nat.ne_of_lt (Nat.lt_of_lt_of_le (Nat.lt_of_lt_of_le (Nat.lt_of_lt_of_le (Nat.lt_of_lt_of_le (Nat.lt_of_lt_of_le (Nat.lt_of_lt_of_le (Nat.lt_of_lt_of_le (Nat.lt_of_lt_of_le (Nat.lt_of_lt_of_le r11_1.lt E14.1) K16.1) K18.1) K33.1) E36.1) K38.1) K40.1) K54.1) (Nat.le_of_eq g57.symm)))
   have t239 := (own_arv (own_arv (own_arv ((own_arv (own_arv (own_arv ((own_arv (own_arv (own_arv (r11_1.ext E14) K16 own_nb0) K18 own_nb0) K33 (own_nbc (Ne.symm ne236) (own_nbc (Ne.symm ne236) (own_nbc (Ne.symm ne236) (own_nbc (Ne.symm ne236) (own_nbc (Ne.symm ne236) (own_nbc (Ne.symm ne236) (own_nbc (Ne.symm ne236) (own_nbc (Ne.symm ne236) own_nb0))))))))).ext E36) K38 own_nb0) K40 own_nb0) K54 (own_nbc (Ne.symm ne237) (own_nbc (Ne.symm ne237) (own_nbc (Ne.symm ne237) (own_nbc (Ne.symm ne237) (own_nbc (Ne.symm ne237) (own_nbc (Ne.symm ne237) (own_nbc (Ne.symm ne237) (own_nbc (Ne.symm ne237) own_nb0))))))))).ext E57) K59 own_nb0) K61 own_nb0) K75 (own_nbc (Ne.symm ne238) (own_nbc (Ne.symm ne238) (own_nbc (Ne.symm ne238) (own_nbc (Ne.symm ne238) (own_nbc (Ne.symm ne238) (own_nbc (Ne.symm ne238) (own_nbc (Ne.symm ne238) (own_nbc (Ne.symm ne238) own_nb0)))))))))
   have t240 := (own_fld (own_fld (own_fld ((own_fld (own_fld (own_fld ((own_fld (own_fld (own_fld i14_108 K16 own_nl0) K18 own_nl0) K33 (own_nls (sn69 hw) (own_nls (sn68 hw) (own_nls (sn67 hw) (own_nls (sn66 hw) (own_nls (sn65 hw) (own_nls (sn64 hw) (own_nls (sn63 hw) (own_nls (sn62 hw) own_nl0))))))))).ext E36) K38 own_nl0) K40 own_nl0) K54 (own_nlb ne225 (own_nlb ne225 (own_nlb ne225 (own_nlb ne225 (own_nlb ne225 (own_nlb ne225 (own_nlb ne225 (own_nlb ne225 own_nl0))))))))).ext E57) K59 own_nl0) K61 own_nl0) K75 (own_nlb ne226 (own_nlb ne226 (own_nlb ne226 (own_nlb ne226 (own_nlb ne226 (own_nlb ne226 (own_nlb ne226 (own_nlb ne226 own_nl0)))))))))
   have t241 := (own_fld (own_fld (own_fld ((own_fld (own_fld (own_fld ((own_fld (own_fld (own_fld i14_110 K16 own_nl0) K18 own_nl0) K33 (own_nls (sn77 hw) (own_nls (sn76 hw) (own_nls (sn75 hw) (own_nls (sn74 hw) (own_nls (sn73 hw) (own_nls (sn72 hw) (own_nls (sn71 hw) (own_nls (sn70 hw) own_nl0))))))))).ext E36) K38 own_nl0) K40 own_nl0) K54 (own_nlb ne225 (own_nlb ne225 (own_nlb ne225 (own_nlb ne225 (own_nlb ne225 (own_nlb ne225 (own_nlb ne225 (own_nlb ne225 own_nl0))))))))).ext E57) K59 own_nl0) K61 own_nl0) K75 (own_nlb ne226 (own_nlb ne226 (own_nlb ne226 (own_nlb ne226 (own_nlb ne226 (own_nlb ne226 (own_nlb ne226 (own_nlb ne226 own_nl0)))))))))
   have ne242 : b9 ≠ b11_0 := (Nat.ne_of_lt (Nat.lt_of_lt_of_le A9.lt r11_3))
   obtain ⟨cq243, kq243, q243a, q243b, q243c⟩ := isOf hZ rfl t224
   obtain ⟨_, _, ⟨T243, L243, kk243, nn243⟩, -, X243, ⟨Lc243, hQ243, l243, y243, z243⟩, st243⟩ := X75.virtualBack hx (y := ym19) (z := ym19) hown (mvT hZ (wk111 hw)) (mvT hZ (wk112 hw)) (notFace_of_selects (args := #[]) (mvT hZ (wk114 hw))) (mvT hZ (wk114 hw)) (mvT hZ (wk113 hw)) (by decide) (backOf (W := 0) (rm13_23 l Z a0 hw w hW [] b9 b14 p0 b4 (p1 &&& (9223372036854775807 : Int64)) b11_0 k11_0 T75.heap n0 O76 t222 t223 t224 gg9 t227 (Ne.symm ne219) t228 t229 (own_lf1 _) ne29 t230 t231 t232 t233 (own_max _) t234 (own_S1 _ _) t235 t239 (own_S2 _ _) (own_S3 _ _) t240 t241 (Ne.symm ne242) gg14 ggb11_0 ne236 r11_4) hZ (wk115 hw) (wk36 hw) (by decide) (by decide)) q243a q243c (g := (mkF m 119 Lb218 [(.long p0), (.ref b14), (.ref b9)])) rfl (by rw [hml]; rfl) (Steps.refl _) (argsL := [(.ref b14), (.long p0)]) (rest := []) (lenOf pds_14 rfl) rfl (by show 2 * 0 + _ ≤ _; exact Nat.le_of_eq rfl) (hb hby at_119) (fun _ _ => ⟨rfl, rfl, (by decide : 10 + 0 ≤ _), (by decide : 513 + 0 ≤ _)⟩)
   dsimp only [Pt.U, Pt.locs, Pt.cells, Pt.slots] at X243 l243 y243 z243 st243 hQ243
   rw [l243, y243, z243] at X243
   obtain ⟨rfl, N243q, K243, r243_0, r243_1, r243_2, r243_3, r243_4, r243_5⟩ := hQ243
   have N243 := Fr.app N75 N243q
   have O244 := own_old O76 K243 (own_ngc gg9 (own_ngc gg14 (own_ngc gg14 (own_ngc ggb11_0 (own_ngc gg14 (own_ngc gg9 own_ng0))))))
   obtain ⟨T245, X245, e245, st245⟩ := getF X243 hx hZ hown (host := "") (Or.inl (wk93 hw)) Via.refl rfl r243_4 (g := (mkF m 152 Lb218 [(.ref b14)])) rfl rfl (hb hby at_152)
   let Lb246 : Array Slot := #[.val (.long p0), .second, .val (.long p1), .second, .val (.int p2), .val (.int p3), .val (.int (1 : Int32)), .val (.int ((p3 &&& (2147483647 : Int32)) % (3 : Int32))), .val (.long (p1 &&& (9223372036854775807 : Int64))), .second, .val (.ref b4), .val (.ref b9), .val (.ref b14), .val (.ref b36), .val (.ref b57), .val (.int (ownS (ownEnd p0 (p1 &&& (9223372036854775807 : Int64))) p0)), .unset, .unset, .unset, .unset]
   have pre247 : ∀ t, Steps p.tables e below (T245.setTop (mkF m 159 #[.val (.long p0), .second, .val (.long p1), .second, .val (.int p2), .val (.int p3), .val (.int (1 : Int32)), .val (.int ((p3 &&& (2147483647 : Int32)) % (3 : Int32))), .val (.long (p1 &&& (9223372036854775807 : Int64))), .second, .val (.ref b4), .val (.ref b9), .val (.ref b14), .val (.ref b36), .val (.ref b57), .val (.int (ownS (ownEnd p0 (p1 &&& (9223372036854775807 : Int64))) p0)), .unset, .unset, .unset, .unset] [(.int ((p3 &&& (2147483647 : Int32)) % (3 : Int32)))])) t → Steps p.tables e below (s₁.setTop (entryFrame m #[(.long p0), (.long p1), (.int p2), (.int p3)] maxLocals)) t := fun t k => pre78 t (by
    show Steps p.tables e below (T75.setTop (mkF m 111 Lb218 [(.int (1 : Int32)), (.int (1 : Int32))])) _
    refine sn X75 hx hby at_111 (by decide) ?_
    refine sa X75 hx hby at_114 rfl rfl ?_
    refine sa X75 hx hby at_116 rfl rfl ?_
    refine sL X75 hx hby at_118 rfl ?_
    refine st243.trans ?_
    refine si X243 hx hby at_122 rfl ?_
    refine sc X243 hx hby at_124 ?_
    refine XS.icmpYes X243.here hx rfl (pc0 := 125) (pc' := 136) rfl (hb hby at_125) rfl (by decide) (by decide) (by decide) ?_
    refine si X243 hx hby at_136 rfl ?_
    refine sc X243 hx hby at_138 ?_
    show Steps p.tables e below (T243.setTop (mkF m 139 Lb218 [(.int (3 : Int32)), (.int (1 : Int32))])) _
    refine XS.icmpYes X243.here hx rfl (pc0 := 139) (pc' := 150) rfl (hb hby at_139) rfl (by decide) (by decide) (by decide) ?_
    refine sa X243 hx hby at_150 rfl rfl ?_
    refine st245 _ ?_
    refine XS.istore X245.here hx rfl (hb hby at_155) rfl (l' := Lb246) rfl ?_
    refine si X245 hx hby at_157 rfl ?_
    exact k)
   rcases (own_rem3 p3) with hs248 | hs248 | hs248
   ·
    rw [hs248] at pre247
    let Lb249 : Array Slot := #[.val (.long p0), .second, .val (.long p1), .second, .val (.int p2), .val (.int p3), .val (.int (1 : Int32)), .val (.int (0 : Int32)), .val (.long (p1 &&& (9223372036854775807 : Int64))), .second, .val (.ref b4), .val (.ref b9), .val (.ref b14), .val (.ref b36), .val (.ref b57), .val (.int (ownS (ownEnd p0 (p1 &&& (9223372036854775807 : Int64))) p0)), .unset, .unset, .unset, .unset]
    let Lb250 : Array Slot := #[.val (.long p0), .second, .val (.long p1), .second, .val (.int p2), .val (.int p3), .val (.int (1 : Int32)), .val (.int (0 : Int32)), .val (.long (p1 &&& (9223372036854775807 : Int64))), .second, .val (.ref b4), .val (.ref b9), .val (.ref b14), .val (.ref b36), .val (.ref b57), .val (.int (ownS (ownEnd p0 (p1 &&& (9223372036854775807 : Int64))) p0)), .val (.ref b14), .unset, .unset, .unset]
    obtain ⟨T251, h251, k251, X251, e251, E251, A251, Ov251, st251⟩ := newR X245 hx hZ hown (wk48 hw) (wk45 hw) e245 (g := (mkF m 183 Lb250 [(.int (3 : Int32))])) rfl (hb hby at_183) rfl (by decide) (cap := 3) (by decide) (by decide) (by decide) (by decide)
    obtain ⟨b251, g251⟩ : ∃ z, z = T243.heap.size := ⟨_, rfl⟩
    rw [← g251] at A251 st251
    have gg251 : n0 ≤ b251 := by rw [← O244.1, g251]; exact O244.2.1
    have O252 := O244.ext E251
    have V251 : Arv Z h251 b251 k251 (.object cs0) (3 : Int32) [.null, .null, .null] .null := own_pad (dv := .null) (Arv.new A251 (by decide)) 3 _ rfl
    let Lb253 : Array Slot := #[.val (.long p0), .second, .val (.long p1), .second, .val (.int p2), .val (.int p3), .val (.int (1 : Int32)), .val (.int (0 : Int32)), .val (.long (p1 &&& (9223372036854775807 : Int64))), .second, .val (.ref b4), .val (.ref b9), .val (.ref b14), .val (.ref b36), .val (.ref b57), .val (.int (ownS (ownEnd p0 (p1 &&& (9223372036854775807 : Int64))) p0)), .val (.ref b14), .val (.ref b251), .unset, .unset]
    let Lb254 : Array Slot := #[.val (.long p0), .second, .val (.long p1), .second, .val (.int p2), .val (.int p3), .val (.int (1 : Int32)), .val (.int (0 : Int32)), .val (.long (p1 &&& (9223372036854775807 : Int64))), .second, .val (.ref b4), .val (.ref b9), .val (.ref b14), .val (.ref b36), .val (.ref b57), .val (.int (ownS (ownEnd p0 (p1 &&& (9223372036854775807 : Int64))) p0)), .val (.ref b14), .val (.ref b251), .val (.int (0 : Int32)), .unset]
    have t255 := (r243_4.ext E251)
    have t256 := (r243_3.ext E251)
    have t257 := ((own_fld t235 K243 (own_nls (sn2 hw) (own_nlb ne219 (own_nlb ne219 (own_nlb ne242 (own_nlb ne219 (own_nls (sn83 hw) own_nl0))))))).ext E251)
    have t258 := (r243_2.ext E251)
    have t259 := (own_gk_ext r243_5 E251)
    have t260 := ((own_exa t230 K243).ext E251)
    have t261 := (r243_0.ext E251)
    have t262 := ((own_exa t224 K243).ext E251)
    obtain ⟨cq263, kq263, q263a, q263b, q263c⟩ := isOf hZ e251 t262
    obtain ⟨_, _, ⟨T263, L263, kk263, nn263⟩, -, X263, ⟨Lc263, hQ263, l263, y263, z263⟩, st263⟩ := X251.virtualBack hx (y := ym9) (z := ym9) hown (mvT hZ (wk94 hw)) (mvT hZ (wk95 hw)) (notFace_of_selects (args := #[]) (mvT hZ (wk97 hw))) (mvT hZ (wk97 hw)) (mvT hZ (wk96 hw)) (by decide) (backOf (W := 0) (rm11_24 l Z a0 hw w hW [] b9 b14 (ownS (ownEnd p0 (p1 &&& (9223372036854775807 : Int64))) p0) b11_0 k11_0 h251 n0 O252 t255 (own_S1 _ _) t256 t257 t258 ggb11_0 t259 (own_S2 _ _) (own_S3 _ _) r11_4 (Ne.symm ne236) t260 gg14 t261 ne242 ne219 t262 gg9) hZ (wk98 hw) (wk36 hw) (by decide) (by decide)) q263a q263c (g := (mkF m 260 Lb254 [(.ref b14), (.ref b9)])) rfl (by rw [hml]; rfl) (Steps.refl _) (argsL := [(.ref b14)]) (rest := []) (lenOf pds_8 rfl) rfl (by show 2 * 0 + _ ≤ _; exact Nat.le_of_eq rfl) (hb hby at_260) (fun _ _ => ⟨rfl, e251, (by decide : 11 + 0 ≤ _), (by decide : 516 + 0 ≤ _)⟩)
    dsimp only [Pt.U, Pt.locs, Pt.cells, Pt.slots] at X263 l263 y263 z263 st263 hQ263
    rw [l263, y263, z263] at X263
    obtain ⟨rfl, N263q, K263, r263_0, r263_1, r263_2, r263_3, r263_4⟩ := hQ263
    have N263 := Fr.app N243 N263q
    have O264 := own_old O252 K263 (own_ngc ggb11_0 (own_ngc gg14 (own_ngc gg14 (own_ngc gg14 (own_ngc gg9 own_ng0)))))
    have t266 := (own_exa t262 K263)
    obtain ⟨cq265, kq265, q265a, q265b, q265c⟩ := isOf hZ rfl t266
    obtain ⟨_, _, ⟨T265, L265, kk265, nn265⟩, -, X265, ⟨Lc265, hQ265, l265, y265, z265⟩, st265⟩ := X263.virtualBack hx (y := ym10) (z := ym10) hown (mvT hZ (wk100 hw)) (mvT hZ (wk101 hw)) (notFace_of_selects (args := #[]) (mvT hZ (wk103 hw))) (mvT hZ (wk103 hw)) (mvT hZ (wk102 hw)) (by decide) (backOf (W := 0) (rm12_13 l Z a0 hw w hW [] b9 T263.heap n0 O264 r263_4) hZ (wk104 hw) (wk36 hw) (by decide) (by decide)) q265a q265c (g := (mkF m 265 Lb254 [(.ref b9)])) rfl (by rw [hml]; rfl) (Steps.refl _) (argsL := []) (rest := []) (lenOf pds_9 rfl) rfl (by show 2 * 0 + _ ≤ _; exact Nat.le_of_eq rfl) (hb hby at_265) (fun _ _ => ⟨rfl, rfl, (by decide : 11 + 0 ≤ _), (by decide : 516 + 0 ≤ _)⟩)
    dsimp only [Pt.U, Pt.locs, Pt.cells, Pt.slots] at X265 l265 y265 z265 st265 hQ265
    rw [l265, y265, z265] at X265
    obtain ⟨rfl, N265q, e265⟩ := hQ265
    have N265 := Fr.app N263 N265q
    let Lb267 : Array Slot := #[.val (.long p0), .second, .val (.long p1), .second, .val (.int p2), .val (.int p3), .val (.int (1 : Int32)), .val (.int (0 : Int32)), .val (.long (p1 &&& (9223372036854775807 : Int64))), .second, .val (.ref b4), .val (.ref b9), .val (.ref b14), .val (.ref b36), .val (.ref b57), .val (.int (ownS (ownEnd p0 (p1 &&& (9223372036854775807 : Int64))) p0)), .val (.ref b14), .val (.ref b251), .val (.int (0 : Int32)), .val (.int (1 : Int32))]
    obtain ⟨T268, X268, e268, st268⟩ := getF X265 hx hZ hown (host := "") (Or.inl (wk93 hw)) Via.refl e265 r263_0 (g := (mkF m 289 Lb267 [(.ref b14)])) rfl rfl (hb hby at_289)
    obtain ⟨T269, X269, e269, st269⟩ := getF X268 hx hZ hown (host := "") (Or.inl (wk107 hw)) Via.refl e268 r263_1 (g := (mkF m 298 Lb267 [(.ref b14)])) rfl rfl (hb hby at_298)
    obtain ⟨T270, X270, e270, st270⟩ := getF X269 hx hZ hown (host := "") (Or.inl (wk109 hw)) Via.refl e269 r263_2 (g := (mkF m 306 Lb267 [(.ref b14)])) rfl rfl (hb hby at_306)
    have t271 := (own_fld (r243_1.ext E251) K263 (own_nlb ne242 (own_nlb ne219 (own_nlb ne219 (own_nlb ne219 (own_nls (sn82 hw) own_nl0))))))
    have t272 := (own_fld ((own_fld t227 K243 (own_nlb (Ne.symm ne219) (own_nls (sn85 hw) (own_nls (sn84 hw) (own_nlb (Ne.symm ne236) (own_nls (sn30 hw) (own_nlb (Ne.symm ne219) own_nl0))))))).ext E251) K263 (own_nlb (Ne.symm ne236) (own_nls (sn85 hw) (own_nls (sn84 hw) (own_nls (sn30 hw) (own_nlb (Ne.symm ne219) own_nl0))))))
    have t273 := (own_exa ((own_exa t228 K243).ext E251) K263)
    have ne274 : b4 ≠ b11_0 := (Nat.ne_of_lt (Nat.lt_of_lt_of_le (Nat.lt_of_lt_of_le (Nat.lt_of_lt_of_le A4.lt K6.1) E9.1) r11_3))
    have t275 := (own_fld ((own_fld t229 K243 (own_nlb ne29 (own_nlb ne32 (own_nlb ne32 (own_nlb ne274 (own_nlb ne32 (own_nlb ne29 own_nl0))))))).ext E251) K263 (own_nlb ne274 (own_nlb ne32 (own_nlb ne32 (own_nlb ne32 (own_nlb ne29 own_nl0))))))
    have t276 := (own_exa t260 K263)
    have t277 := (own_fld ((own_fld t231 K243 (own_nlb (Ne.symm ne219) (own_nls (sn87 hw) (own_nls (sn86 hw) (own_nlb (Ne.symm ne236) (own_nls (sn33 hw) (own_nlb (Ne.symm ne219) own_nl0))))))).ext E251) K263 (own_nlb (Ne.symm ne236) (own_nls (sn87 hw) (own_nls (sn86 hw) (own_nls (sn33 hw) (own_nlb (Ne.symm ne219) own_nl0))))))
    have t278 := (own_fld ((own_fld t232 K243 (own_nlb (Ne.symm ne219) (own_nls (sn89 hw) (own_nls (sn88 hw) (own_nlb (Ne.symm ne236) (own_nls (sn36 hw) (own_nlb (Ne.symm ne219) own_nl0))))))).ext E251) K263 (own_nlb (Ne.symm ne236) (own_nls (sn89 hw) (own_nls (sn88 hw) (own_nls (sn36 hw) (own_nlb (Ne.symm ne219) own_nl0))))))
    have t279 := (own_fld ((own_fld t233 K243 (own_nlb ne29 (own_nlb ne32 (own_nlb ne32 (own_nlb ne274 (own_nlb ne32 (own_nlb ne29 own_nl0))))))).ext E251) K263 (own_nlb ne274 (own_nlb ne32 (own_nlb ne32 (own_nlb ne32 (own_nlb ne29 own_nl0))))))
    have t280 := (own_fld t257 K263 (own_nlb ne242 (own_nlb ne219 (own_nlb ne219 (own_nlb ne219 (own_nls (sn83 hw) own_nl0))))))
    obtain ⟨cq281, kq281, q281a, q281b, q281c⟩ := isOf hZ e270 t266
    obtain ⟨_, _, ⟨T281, L281, kk281, nn281⟩, -, X281, ⟨Lc281, hQ281, l281, y281, z281⟩, st281⟩ := X270.virtualBack hx (y := ym19) (z := ym19) hown (mvT hZ (wk111 hw)) (mvT hZ (wk112 hw)) (notFace_of_selects (args := #[]) (mvT hZ (wk114 hw))) (mvT hZ (wk114 hw)) (mvT hZ (wk113 hw)) (by decide) (backOf (W := 0) (rm13_26 l Z a0 hw w hW [] b9 b14 p0 b4 (p1 &&& (9223372036854775807 : Int64)) b11_0 k11_0 T263.heap n0 O264 r263_4 t271 t272 t273 t275 (own_lf1 _) t276 t277 t278 t279 (own_max _) t266 r263_0 (own_S1 _ _) t280 r263_3 (own_S2 _ _) (own_S3 _ _) r263_1 r263_2 r11_4 gg14 ne219 ggb11_0 ne236 ne242 gg9) hZ (wk115 hw) (wk36 hw) (by decide) (by decide)) q281a q281c (g := (mkF m 436 Lb267 [(.long p0), (.ref b14), (.ref b9)])) rfl (by rw [hml]; rfl) (Steps.refl _) (argsL := [(.ref b14), (.long p0)]) (rest := []) (lenOf pds_14 rfl) rfl (by show 2 * 0 + _ ≤ _; exact Nat.le_of_eq rfl) (hb hby at_436) (fun _ _ => ⟨rfl, e270, (by decide : 11 + 0 ≤ _), (by decide : 516 + 0 ≤ _)⟩)
    dsimp only [Pt.U, Pt.locs, Pt.cells, Pt.slots] at X281 l281 y281 z281 st281 hQ281
    rw [l281, y281, z281] at X281
    obtain ⟨rfl, N281q, K281, r281_0, r281_1, r281_2, r281_3, r281_4⟩ := hQ281
    have N281 := Fr.app N265 N281q
    have O282 := own_old O264 K281 (own_ngc gg14 (own_ngc gg14 (own_ngc ggb11_0 (own_ngc gg14 (own_ngc gg9 own_ng0)))))
    obtain ⟨T283, X283, e283, st283⟩ := getF X281 hx hZ hown (host := "") (Or.inl (wk109 hw)) Via.refl rfl r281_4 (g := (mkF m 446 Lb267 [(.ref b14)])) rfl rfl (hb hby at_446)
    have ne284 : b9 ≠ b251 := (Nat.ne_of_lt (Nat.lt_of_lt_of_le (Nat.lt_of_lt_of_le t224.lt K243.1) (Nat.le_of_eq g251.symm)))
    have ne285 : b14 ≠ b251 := (Nat.ne_of_lt (Nat.lt_of_lt_of_le (Nat.lt_of_lt_of_le t230.lt K243.1) (Nat.le_of_eq g251.symm)))
    have ne286 : b11_0 ≠ b251 := (Nat.ne_of_lt (Nat.lt_of_lt_of_le r243_5.lt (Nat.le_of_eq g251.symm)))
    have t287 := (own_arv (own_arv V251 K263 (own_nbc ne286 (own_nbc ne285 (own_nbc ne285 (own_nbc ne285 (own_nbc ne284 own_nb0)))))) K281 (own_nbc ne285 (own_nbc ne285 (own_nbc ne286 (own_nbc ne285 (own_nbc ne284 own_nb0))))))
    obtain ⟨cl288, Ar288, cw288, S288, Nn288, Hs288, G288⟩ := id (t287)
    have hin288 : ¬ ((0 : Int32) < 0 ∨ cl288.slots.size ≤ ((0 : Int32)).toNatClampNeg) := inb_of S288 ⟨by decide, by decide⟩
    obtain ⟨T289, X289, e289, st289⟩ := getF X283 hx hZ hown (host := "") (Or.inl (wk107 hw)) Via.refl e283 r281_3 (g := (mkF m 458 Lb267 [(.ref b14)])) rfl rfl (hb hby at_458)
    obtain ⟨fs, hr, hrun, hended, hREW⟩ := Stand.leaveW (s := s) (vm₁ := T6.vm) X289 hS6 (by rw [e289]; exact (Nat.le_trans (Nat.le_trans (Nat.le_trans (Nat.le_trans (Nat.le_trans (Nat.le_trans (Nat.le_trans (Nat.le_trans (Nat.le_trans (Nat.le_trans (Nat.le_trans (Nat.le_trans (Nat.le_trans (Nat.le_trans (Nat.le_trans (Nat.le_trans (Nat.le_trans (Nat.le_trans (Nat.le_refl _) E9.1) K11.1) E14.1) K16.1) K18.1) K33.1) E36.1) K38.1) K40.1) K54.1) E57.1) K59.1) K61.1) K75.1) K243.1) E251.1) K263.1) K281.1)) (v := some (.int (1 : Int32))) (fun h => by rw [Bd.returns] at h; cases h)
    refine ⟨_, _, pre247 _ ?_, hrun, hended, _, _, rfl, ?_, hREW.1, hREW.2.1, hREW.2.2.1, hREW.2.2.2.mono (by decide) (by decide)⟩
    · show Steps p.tables e below (T245.setTop (mkF m 159 Lb249 [(.int (0 : Int32))])) _
      refine sN X245 hx hby at_159 (by decide) ?_
      refine sa X245 hx hby at_162 rfl rfl ?_
      refine sg (pc := 164) (pc' := 180) X245 hx hby at_164 (by decide) (by decide) ?_
      refine XS.astore X245.here hx rfl (hb hby at_180) rfl rfl (l' := Lb250) rfl ?_
      refine sc X245 hx hby at_182 ?_
      show Steps p.tables e below (T245.setTop (mkF m 183 Lb250 [(.int (3 : Int32))])) _
      refine st251 _ ?_
      refine XS.astore X251.here hx rfl (hb hby at_186) rfl rfl (l' := Lb253) rfl ?_
      refine sc X251 hx hby at_188 ?_
      refine XS.istore X251.here hx rfl (hb hby at_189) rfl (l' := Lb254) rfl ?_
      refine si X251 hx hby at_191 rfl ?_
      refine sc X251 hx hby at_193 ?_
      show Steps p.tables e below (T251.setTop (mkF m 194 Lb254 [(.int (3 : Int32)), (.int (1 : Int32))])) _
      refine XS.icmpYes X251.here hx rfl (pc0 := 194) (pc' := 213) rfl (hb hby at_194) rfl (by decide) (by decide) (by decide) ?_
      refine si X251 hx hby at_213 rfl ?_
      refine sc X251 hx hby at_215 ?_
      refine XS.icmpYes X251.here hx rfl (pc0 := 216) (pc' := 235) rfl (hb hby at_216) rfl (by decide) (by decide) (by decide) ?_
      refine si X251 hx hby at_235 rfl ?_
      show Steps p.tables e below (T251.setTop (mkF m 237 Lb254 [(.int (1 : Int32))])) _
      refine sc X251 hx hby at_237 ?_
      refine sn X251 hx hby at_238 (by decide) ?_
      refine si X251 hx hby at_241 rfl ?_
      refine XS.ifYes X251.here hx rfl (pc0 := 243) (pc' := 256) rfl (hb hby at_243) rfl (by decide) (by decide) (by decide) ?_
      refine sa X251 hx hby at_256 rfl rfl ?_
      show Steps p.tables e below (T251.setTop (mkF m 258 Lb254 [(.ref b9)])) _
      refine sa X251 hx hby at_258 rfl rfl ?_
      refine st263.trans ?_
      refine sa X263 hx hby at_263 rfl rfl ?_
      refine st265.trans ?_
      refine si X265 hx hby at_268 rfl ?_
      refine XS.i2l X265.here hx rfl (hb hby at_270) rfl ?_
      refine XS.lcmp X265.here hx rfl (hb hby at_271) rfl ?_
      refine sN X265 hx hby at_272 (by decide) ?_
      refine sc X265 hx hby at_275 ?_
      show Steps p.tables e below (T265.setTop (mkF m 276 Lb254 [(.int (1 : Int32))])) _
      refine sg (pc := 276) (pc' := 280) X265 hx hby at_276 (by decide) (by decide) ?_
      refine XS.istore X265.here hx rfl (hb hby at_280) rfl (l' := Lb267) rfl ?_
      refine si X265 hx hby at_282 rfl ?_
      refine sN X265 hx hby at_284 (by decide) ?_
      refine sa X265 hx hby at_287 rfl rfl ?_
      show Steps p.tables e below (T265.setTop (mkF m 289 Lb267 [(.ref b14)])) _
      refine st268 _ ?_
      refine sc X268 hx hby at_292 ?_
      refine sn X268 hx hby at_293 (by decide) ?_
      refine sa X268 hx hby at_296 rfl rfl ?_
      refine st269 _ ?_
      refine XS.ifnonnullNo X269.here hx rfl (hb hby at_301) rfl ?_
      refine sa X269 hx hby at_304 rfl rfl ?_
      refine st270 _ ?_
      refine XS.ifnonnullNo X270.here hx rfl (hb hby at_309) rfl ?_
      refine sc X270 hx hby at_312 ?_
      refine sg (pc := 313) (pc' := 317) X270 hx hby at_313 (by decide) (by decide) ?_
      refine XS.istore X270.here hx rfl (hb hby at_317) rfl (l' := Lb267) rfl ?_
      refine si X270 hx hby at_319 rfl ?_
      show Steps p.tables e below (T270.setTop (mkF m 321 Lb267 [(.int (0 : Int32))])) _
      refine sc X270 hx hby at_321 ?_
      refine XS.icmpYes X270.here hx rfl (pc0 := 322) (pc' := 373) rfl (hb hby at_322) rfl (by decide) (by decide) (by decide) ?_
      refine si X270 hx hby at_373 rfl ?_
      refine sc X270 hx hby at_375 ?_
      refine XS.icmpYes X270.here hx rfl (pc0 := 376) (pc' := 431) rfl (hb hby at_376) rfl (by decide) (by decide) (by decide) ?_
      show Steps p.tables e below (T270.setTop (mkF m 431 Lb267 [])) _
      refine sa X270 hx hby at_431 rfl rfl ?_
      refine sa X270 hx hby at_433 rfl rfl ?_
      refine sL X270 hx hby at_435 rfl ?_
      refine st281.trans ?_
      refine si X281 hx hby at_439 rfl ?_
      refine sN X281 hx hby at_441 (by decide) ?_
      refine sa X281 hx hby at_444 rfl rfl ?_
      refine st283 _ ?_
      refine sa X283 hx hby at_449 rfl rfl ?_
      refine sc X283 hx hby at_451 ?_
      refine X283.aaload hx (j := (0 : Int32)) (v := .null) (by rw [e283]; exact Ar288.1) (State.isArrayOf_alike hZ.alike Ar288.2.1) rfl Ar288.2.2 hin288 (Hs288.at hin288 rfl) (g := (mkF m 452 Lb267 [(.int (0 : Int32)), (.ref b251), .null])) rfl rfl (hb hby at_452) _ ?_
      refine Jvm.RoadKit.acmp (g := (mkF m 453 Lb267 [.null, .null])) X283 hx rfl rfl rfl (pc0 := 453) (pc' := 456) (same := true) rfl (hb hby at_453) rfl (decide_eq_true rfl) (by decide) (by decide) ?_
      refine sa X283 hx hby at_456 rfl rfl ?_
      show Steps p.tables e below (T283.setTop (mkF m 458 Lb267 [(.ref b14)])) _
      refine st289 _ ?_
      refine XS.ifnonnullNo X289.here hx rfl (hb hby at_461) rfl ?_
      refine sc X289 hx hby at_464 ?_
      refine sg (pc := 465) (pc' := 469) X289 hx hby at_465 (by decide) (by decide) ?_
      refine XS.istore X289.here hx rfl (hb hby at_469) rfl (l' := Lb267) rfl ?_
      refine si X289 hx hby at_471 rfl ?_
      show Steps p.tables e below (T289.setTop (mkF m 473 Lb267 [(.int (0 : Int32))])) _
      refine sc X289 hx hby at_473 ?_
      refine XS.icmpYes X289.here hx rfl (pc0 := 474) (pc' := 501) rfl (hb hby at_474) rfl (by decide) (by decide) (by decide) ?_
      refine si X289 hx hby at_501 rfl ?_
      exact retN X289 hx (t := .boolean) Bd.returns (by simp) (hb hby at_503) hr
    · show Q0 n0 _ T289.heap _
      rw [e289]
      exact ⟨rfl, N281⟩
   ·
    rw [hs248] at pre247
    let Lb290 : Array Slot := #[.val (.long p0), .second, .val (.long p1), .second, .val (.int p2), .val (.int p3), .val (.int (1 : Int32)), .val (.int (1 : Int32)), .val (.long (p1 &&& (9223372036854775807 : Int64))), .second, .val (.ref b4), .val (.ref b9), .val (.ref b14), .val (.ref b36), .val (.ref b57), .val (.int (ownS (ownEnd p0 (p1 &&& (9223372036854775807 : Int64))) p0)), .unset, .unset, .unset, .unset]
    let Lb291 : Array Slot := #[.val (.long p0), .second, .val (.long p1), .second, .val (.int p2), .val (.int p3), .val (.int (1 : Int32)), .val (.int (1 : Int32)), .val (.long (p1 &&& (9223372036854775807 : Int64))), .second, .val (.ref b4), .val (.ref b9), .val (.ref b14), .val (.ref b36), .val (.ref b57), .val (.int (ownS (ownEnd p0 (p1 &&& (9223372036854775807 : Int64))) p0)), .val (.ref b36), .unset, .unset, .unset]
    obtain ⟨T292, h292, k292, X292, e292, E292, A292, Ov292, st292⟩ := newR X245 hx hZ hown (wk48 hw) (wk45 hw) e245 (g := (mkF m 183 Lb291 [(.int (3 : Int32))])) rfl (hb hby at_183) rfl (by decide) (cap := 3) (by decide) (by decide) (by decide) (by decide)
    obtain ⟨b292, g292⟩ : ∃ z, z = T243.heap.size := ⟨_, rfl⟩
    rw [← g292] at A292 st292
    have gg292 : n0 ≤ b292 := by rw [← O244.1, g292]; exact O244.2.1
    have O293 := O244.ext E292
    have V292 : Arv Z h292 b292 k292 (.object cs0) (3 : Int32) [.null, .null, .null] .null := own_pad (dv := .null) (Arv.new A292 (by decide)) 3 _ rfl
    let Lb294 : Array Slot := #[.val (.long p0), .second, .val (.long p1), .second, .val (.int p2), .val (.int p3), .val (.int (1 : Int32)), .val (.int (1 : Int32)), .val (.long (p1 &&& (9223372036854775807 : Int64))), .second, .val (.ref b4), .val (.ref b9), .val (.ref b14), .val (.ref b36), .val (.ref b57), .val (.int (ownS (ownEnd p0 (p1 &&& (9223372036854775807 : Int64))) p0)), .val (.ref b36), .val (.ref b292), .unset, .unset]
    let Lb295 : Array Slot := #[.val (.long p0), .second, .val (.long p1), .second, .val (.int p2), .val (.int p3), .val (.int (1 : Int32)), .val (.int (1 : Int32)), .val (.long (p1 &&& (9223372036854775807 : Int64))), .second, .val (.ref b4), .val (.ref b9), .val (.ref b14), .val (.ref b36), .val (.ref b57), .val (.int (ownS (ownEnd p0 (p1 &&& (9223372036854775807 : Int64))) p0)), .val (.ref b36), .val (.ref b292), .val (.int (0 : Int32)), .unset]
    obtain ⟨cl296, Ar296, cw296, S296, Nn296, Hs296, G296⟩ := id (V292)
    have hin296 : ¬ ((0 : Int32) < 0 ∨ cl296.slots.size ≤ ((0 : Int32)).toNatClampNeg) := inb_of S296 ⟨by decide, by decide⟩
    have t297 := ((own_exa t230 K243).ext E292)
    obtain ⟨T296, h296, X296, e296, W296, st296⟩ := stR X292 hx hZ e292 Ar296 (j := (0 : Int32)) hin296 rfl (Sto.ofV Ar296 cw296 Ov292 (Ins.self t297)) (g := (mkF m 252 Lb295 [(.ref b14), (.int (0 : Int32)), (.ref b292)])) rfl rfl (hb hby at_252)
    have V296 : Arv Z h296 b292 k292 (.object cs0) (3 : Int32) [(.ref b14), .null, .null] .null := own_set Ar296 cw296 S296 Nn296 Hs296 G296 rfl W296 0 rfl (Nat.le_of_ble_eq_true rfl) (.ref b14) rfl _ rfl
    have N296 := Fr.snoc X296 N243 gg292
    have O298 := O293.wr W296 gg292
    let Lb299 : Array Slot := #[.val (.long p0), .second, .val (.long p1), .second, .val (.int p2), .val (.int p3), .val (.int (1 : Int32)), .val (.int (1 : Int32)), .val (.long (p1 &&& (9223372036854775807 : Int64))), .second, .val (.ref b4), .val (.ref b9), .val (.ref b14), .val (.ref b36), .val (.ref b57), .val (.int (ownS (ownEnd p0 (p1 &&& (9223372036854775807 : Int64))) p0)), .val (.ref b36), .val (.ref b292), .val (.int (1 : Int32)), .unset]
    have ne300 : b36 ≠ b57 := (Nat.ne_of_lt (Nat.lt_of_lt_of_le (Nat.lt_of_lt_of_le t42.lt K54.1) (Nat.le_of_eq g57.symm)))
    have ne301 : b36 ≠ b292 := (Nat.ne_of_lt (Nat.lt_of_lt_of_le (Nat.lt_of_lt_of_le (Nat.lt_of_lt_of_le (Nat.lt_of_lt_of_le (Nat.lt_of_lt_of_le (Nat.lt_of_lt_of_le (Nat.lt_of_lt_of_le t42.lt K54.1) E57.1) K59.1) K61.1) K75.1) K243.1) (Nat.le_of_eq g292.symm)))
    have t302 := (((own_fld (own_fld (own_fld (own_fld (r54_0.ext E57) K59 own_nl0) K61 own_nl0) K75 (own_nlb ne300 (own_nlb ne300 (own_nlb ne300 (own_nlb ne300 (own_nlb ne300 (own_nlb ne300 (own_nlb ne300 (own_nlb ne300 own_nl0))))))))) K243 (own_nlb (Ne.symm ne220) (own_nlb (Ne.symm ne225) (own_nlb (Ne.symm ne225) (own_nlb (Ne.symm ne237) (own_nlb (Ne.symm ne225) (own_nlb (Ne.symm ne220) own_nl0))))))).ext E292).other W296 (Or.inl ne301))
    have t304 := (((own_exa t224 K243).ext E292).wr W296)
    obtain ⟨cq303, kq303, q303a, q303b, q303c⟩ := isOf hZ e296 t304
    obtain ⟨_, _, ⟨T303, L303, kk303, nn303⟩, -, X303, ⟨Lc303, hQ303, l303, y303, z303⟩, st303⟩ := X296.virtualBack hx (y := ym9) (z := ym9) hown (mvT hZ (wk94 hw)) (mvT hZ (wk95 hw)) (notFace_of_selects (args := #[]) (mvT hZ (wk97 hw))) (mvT hZ (wk97 hw)) (mvT hZ (wk96 hw)) (by decide) (backOf (W := 0) (rm11_12 l Z a0 hw w hW [] b9 b36 h296 n0 O298 t302) hZ (wk98 hw) (wk36 hw) (by decide) (by decide)) q303a q303c (g := (mkF m 260 Lb299 [(.ref b36), (.ref b9)])) rfl (by rw [hml]; rfl) (Steps.refl _) (argsL := [(.ref b36)]) (rest := []) (lenOf pds_8 rfl) rfl (by show 2 * 0 + _ ≤ _; exact Nat.le_of_eq rfl) (hb hby at_260) (fun _ _ => ⟨rfl, e296, (by decide : 11 + 0 ≤ _), (by decide : 516 + 0 ≤ _)⟩)
    dsimp only [Pt.U, Pt.locs, Pt.cells, Pt.slots] at X303 l303 y303 z303 st303 hQ303
    rw [l303, y303, z303] at X303
    obtain ⟨rfl, N303q, e303⟩ := hQ303
    have N303 := Fr.app N296 N303q
    have ne305 : b9 ≠ b292 := (Nat.ne_of_lt (Nat.lt_of_lt_of_le (Nat.lt_of_lt_of_le t224.lt K243.1) (Nat.le_of_eq g292.symm)))
    have t306 := ((r243_0.ext E292).other W296 (Or.inl ne305))
    obtain ⟨cq307, kq307, q307a, q307b, q307c⟩ := isOf hZ e303 t304
    obtain ⟨_, _, ⟨T307, L307, kk307, nn307⟩, -, X307, ⟨Lc307, hQ307, l307, y307, z307⟩, st307⟩ := X303.virtualBack hx (y := ym10) (z := ym10) hown (mvT hZ (wk100 hw)) (mvT hZ (wk101 hw)) (notFace_of_selects (args := #[]) (mvT hZ (wk103 hw))) (mvT hZ (wk103 hw)) (mvT hZ (wk102 hw)) (by decide) (backOf (W := 0) (rm12_27 l Z a0 hw w hW [] b9 h296 n0 O298 t306) hZ (wk104 hw) (wk36 hw) (by decide) (by decide)) q307a q307c (g := (mkF m 265 Lb299 [(.ref b9)])) rfl (by rw [hml]; rfl) (Steps.refl _) (argsL := []) (rest := []) (lenOf pds_9 rfl) rfl (by show 2 * 0 + _ ≤ _; exact Nat.le_of_eq rfl) (hb hby at_265) (fun _ _ => ⟨rfl, e303, (by decide : 11 + 0 ≤ _), (by decide : 516 + 0 ≤ _)⟩)
    dsimp only [Pt.U, Pt.locs, Pt.cells, Pt.slots] at X307 l307 y307 z307 st307 hQ307
    rw [l307, y307, z307] at X307
    obtain ⟨rfl, N307q, e307⟩ := hQ307
    have N307 := Fr.app N303 N307q
    let Lb308 : Array Slot := #[.val (.long p0), .second, .val (.long p1), .second, .val (.int p2), .val (.int p3), .val (.int (1 : Int32)), .val (.int (1 : Int32)), .val (.long (p1 &&& (9223372036854775807 : Int64))), .second, .val (.ref b4), .val (.ref b9), .val (.ref b14), .val (.ref b36), .val (.ref b57), .val (.int (ownS (ownEnd p0 (p1 &&& (9223372036854775807 : Int64))) p0)), .val (.ref b36), .val (.ref b292), .val (.int (1 : Int32)), .val (.int (1 : Int32))]
    obtain ⟨T309, X309, e309, st309⟩ := getF X307 hx hZ hown (host := "") (Or.inl (wk93 hw)) Via.refl e307 t302 (g := (mkF m 289 Lb308 [(.ref b36)])) rfl rfl (hb hby at_289)
    have t310 := (((own_fld (own_fld (own_fld (own_fld ((own_fld (own_fld (own_fld i36_108 K38 own_nl0) K40 own_nl0) K54 (own_nls (sn69 hw) (own_nls (sn68 hw) (own_nls (sn67 hw) (own_nls (sn66 hw) (own_nls (sn65 hw) (own_nls (sn64 hw) (own_nls (sn63 hw) (own_nls (sn62 hw) own_nl0))))))))).ext E57) K59 own_nl0) K61 own_nl0) K75 (own_nlb ne300 (own_nlb ne300 (own_nlb ne300 (own_nlb ne300 (own_nlb ne300 (own_nlb ne300 (own_nlb ne300 (own_nlb ne300 own_nl0))))))))) K243 (own_nlb (Ne.symm ne220) (own_nlb (Ne.symm ne225) (own_nlb (Ne.symm ne225) (own_nlb (Ne.symm ne237) (own_nlb (Ne.symm ne225) (own_nlb (Ne.symm ne220) own_nl0))))))).ext E292).other W296 (Or.inl ne301))
    obtain ⟨T311, X311, e311, st311⟩ := getF X309 hx hZ hown (host := "") (Or.inl (wk107 hw)) Via.refl e309 t310 (g := (mkF m 298 Lb308 [(.ref b36)])) rfl rfl (hb hby at_298)
    have t312 := (((own_fld (own_fld (own_fld (own_fld ((own_fld (own_fld (own_fld i36_110 K38 own_nl0) K40 own_nl0) K54 (own_nls (sn77 hw) (own_nls (sn76 hw) (own_nls (sn75 hw) (own_nls (sn74 hw) (own_nls (sn73 hw) (own_nls (sn72 hw) (own_nls (sn71 hw) (own_nls (sn70 hw) own_nl0))))))))).ext E57) K59 own_nl0) K61 own_nl0) K75 (own_nlb ne300 (own_nlb ne300 (own_nlb ne300 (own_nlb ne300 (own_nlb ne300 (own_nlb ne300 (own_nlb ne300 (own_nlb ne300 own_nl0))))))))) K243 (own_nlb (Ne.symm ne220) (own_nlb (Ne.symm ne225) (own_nlb (Ne.symm ne225) (own_nlb (Ne.symm ne237) (own_nlb (Ne.symm ne225) (own_nlb (Ne.symm ne220) own_nl0))))))).ext E292).other W296 (Or.inl ne301))
    obtain ⟨T313, X313, e313, st313⟩ := getF X311 hx hZ hown (host := "") (Or.inl (wk109 hw)) Via.refl e311 t312 (g := (mkF m 306 Lb308 [(.ref b36)])) rfl rfl (hb hby at_306)
    obtain ⟨cl314, Ar314, cw314, S314, Nn314, Hs314, G314⟩ := id (V296)
    have hin314 : ¬ ((0 : Int32) < 0 ∨ cl314.slots.size ≤ ((0 : Int32)).toNatClampNeg) := inb_of S314 ⟨by decide, by decide⟩
    have ne315 : b14 ≠ b292 := (Nat.ne_of_lt (Nat.lt_of_lt_of_le (Nat.lt_of_lt_of_le t230.lt K243.1) (Nat.le_of_eq g292.symm)))
    have t316 := ((r243_3.ext E292).other W296 (Or.inl ne315))
    obtain ⟨T317, X317, e317, st317⟩ := getF X313 hx hZ hown (host := "") (Or.inl (wk107 hw)) Via.refl e313 t316 (g := (mkF m 334 Lb308 [(.ref b14)])) rfl rfl (hb hby at_334)
    obtain ⟨cl318, Ar318, cw318, S318, Nn318, Hs318, G318⟩ := id (V296)
    have hin318 : ¬ ((0 : Int32) < 0 ∨ cl318.slots.size ≤ ((0 : Int32)).toNatClampNeg) := inb_of S318 ⟨by decide, by decide⟩
    have t319 := ((r243_2.ext E292).other W296 (Or.inl ne315))
    obtain ⟨T320, X320, e320, st320⟩ := getF X317 hx hZ hown (host := "") (Or.inl (wk109 hw)) Via.refl e317 t319 (g := (mkF m 344 Lb308 [(.ref b14)])) rfl rfl (hb hby at_344)
    obtain ⟨cl321, Ar321, cw321, S321, Nn321, Hs321, G321⟩ := id (V296)
    have hin321 : ¬ ((1 : Int32) < 0 ∨ cl321.slots.size ≤ ((1 : Int32)).toNatClampNeg) := inb_of S321 ⟨by decide, by decide⟩
    obtain ⟨cl322, Ar322, cw322, S322, Nn322, Hs322, G322⟩ := id (V296)
    have hin322 : ¬ ((0 : Int32) < 0 ∨ cl322.slots.size ≤ ((0 : Int32)).toNatClampNeg) := inb_of S322 ⟨by decide, by decide⟩
    have t323 := ((r243_4.ext E292).other W296 (Or.inl ne315))
    obtain ⟨T324, X324, e324, st324⟩ := getF X320 hx hZ hown (host := "") (Or.inl (wk93 hw)) Via.refl e320 t323 (g := (mkF m 358 Lb308 [(.ref b14)])) rfl rfl (hb hby at_358)
    have t325 := (((own_fld (own_fld (own_fld (own_fld (r54_4.ext E57) K59 own_nl0) K61 own_nl0) K75 (own_nlb ne300 (own_nlb ne300 (own_nlb ne300 (own_nlb ne300 (own_nlb ne300 (own_nlb ne300 (own_nlb ne300 (own_nlb ne300 own_nl0))))))))) K243 (own_nlb (Ne.symm ne220) (own_nlb (Ne.symm ne225) (own_nlb (Ne.symm ne225) (own_nlb (Ne.symm ne237) (own_nlb (Ne.symm ne225) (own_nlb (Ne.symm ne220) own_nl0))))))).ext E292).other W296 (Or.inl ne301))
    have t326 := (((own_exa t228 K243).ext E292).wr W296)
    have ne327 : b4 ≠ b11_0 := (Nat.ne_of_lt (Nat.lt_of_lt_of_le (Nat.lt_of_lt_of_le (Nat.lt_of_lt_of_le A4.lt K6.1) E9.1) r11_3))
    have ne328 : b4 ≠ b292 := (Nat.ne_of_lt (Nat.lt_of_lt_of_le (Nat.lt_of_lt_of_le t228.lt K243.1) (Nat.le_of_eq g292.symm)))
    have t329 := (((own_fld t229 K243 (own_nlb ne29 (own_nlb ne32 (own_nlb ne32 (own_nlb ne327 (own_nlb ne32 (own_nlb ne29 own_nl0))))))).ext E292).other W296 (Or.inl ne328))
    have t330 := (((own_exa (own_exa (own_exa (own_exa ((own_exa t42 K54).ext E57) K59) K61) K75) K243).ext E292).wr W296)
    have t331 := (((own_fld (own_fld (own_fld (own_fld (r54_5.ext E57) K59 own_nl0) K61 own_nl0) K75 (own_nlb ne300 (own_nlb ne300 (own_nlb ne300 (own_nlb ne300 (own_nlb ne300 (own_nlb ne300 (own_nlb ne300 (own_nlb ne300 own_nl0))))))))) K243 (own_nlb (Ne.symm ne220) (own_nlb (Ne.symm ne225) (own_nlb (Ne.symm ne225) (own_nlb (Ne.symm ne237) (own_nlb (Ne.symm ne225) (own_nlb (Ne.symm ne220) own_nl0))))))).ext E292).other W296 (Or.inl ne301))
    have t332 := (((own_fld (own_fld (own_fld (own_fld (r54_6.ext E57) K59 own_nl0) K61 own_nl0) K75 (own_nlb ne300 (own_nlb ne300 (own_nlb ne300 (own_nlb ne300 (own_nlb ne300 (own_nlb ne300 (own_nlb ne300 (own_nlb ne300 own_nl0))))))))) K243 (own_nlb (Ne.symm ne220) (own_nlb (Ne.symm ne225) (own_nlb (Ne.symm ne225) (own_nlb (Ne.symm ne237) (own_nlb (Ne.symm ne225) (own_nlb (Ne.symm ne220) own_nl0))))))).ext E292).other W296 (Or.inl ne301))
    have t333 := (((own_fld t233 K243 (own_nlb ne29 (own_nlb ne32 (own_nlb ne32 (own_nlb ne327 (own_nlb ne32 (own_nlb ne29 own_nl0))))))).ext E292).other W296 (Or.inl ne328))
    have t334 := ((r243_1.ext E292).other W296 (Or.inl ne305))
    have t335 := (((own_fld t235 K243 (own_nls (sn2 hw) (own_nlb ne219 (own_nlb ne219 (own_nlb ne242 (own_nlb ne219 (own_nls (sn83 hw) own_nl0))))))).ext E292).other W296 (Or.inl ne305))
    have ne336 : b11_0 ≠ b292 := (Nat.ne_of_lt (Nat.lt_of_lt_of_le r243_5.lt (Nat.le_of_eq g292.symm)))
    have t337 := (own_gk_oth (own_gk_ext r243_5 E292) W296 ne336)
    have t338 := (t297.wr W296)
    obtain ⟨cq339, kq339, q339a, q339b, q339c⟩ := isOf hZ e324 t304
    obtain ⟨_, _, ⟨T339, L339, kk339, nn339⟩, -, X339, ⟨Lc339, hQ339, l339, y339, z339⟩, st339⟩ := X324.virtualBack hx (y := ym19) (z := ym19) hown (mvT hZ (wk111 hw)) (mvT hZ (wk112 hw)) (notFace_of_selects (args := #[]) (mvT hZ (wk114 hw))) (mvT hZ (wk114 hw)) (mvT hZ (wk113 hw)) (by decide) (backOf (W := 0) (rm13_29 l Z a0 hw w hW [] b9 b36 p0 b4 (p1 &&& (9223372036854775807 : Int64)) b11_0 k11_0 b14 h296 n0 O298 t306 t325 t326 t329 (own_lf1 _) t330 t331 t332 t333 (own_max _) t334 t304 t302 (own_S1 _ _) t335 t337 (own_S2 _ _) (own_S3 _ _) t310 t312 t338 t316 r11_4 gg36 ne225 gg14 ne220 ne219 ggb11_0 ne237 ne236 ne242 gg9) hZ (wk115 hw) (wk36 hw) (by decide) (by decide)) q339a q339c (g := (mkF m 436 Lb308 [(.long p0), (.ref b36), (.ref b9)])) rfl (by rw [hml]; rfl) (Steps.refl _) (argsL := [(.ref b36), (.long p0)]) (rest := []) (lenOf pds_14 rfl) rfl (by show 2 * 0 + _ ≤ _; exact Nat.le_of_eq rfl) (hb hby at_436) (fun _ _ => ⟨rfl, e324, (by decide : 11 + 0 ≤ _), (by decide : 516 + 0 ≤ _)⟩)
    dsimp only [Pt.U, Pt.locs, Pt.cells, Pt.slots] at X339 l339 y339 z339 st339 hQ339
    rw [l339, y339, z339] at X339
    obtain ⟨rfl, N339q, K339, r339_0, r339_1, r339_2, r339_3, r339_4, r339_5⟩ := hQ339
    have N339 := Fr.app N307 N339q
    have O340 := own_old O298 K339 (own_ngc gg36 (own_ngc gg36 (own_ngc gg14 (own_ngc ggb11_0 (own_ngc gg36 (own_ngc gg9 own_ng0))))))
    obtain ⟨T341, X341, e341, st341⟩ := getF X339 hx hZ hown (host := "") (Or.inl (wk109 hw)) Via.refl rfl r339_4 (g := (mkF m 446 Lb308 [(.ref b36)])) rfl rfl (hb hby at_446)
    have t342 := (own_arv V296 K339 (own_nbc ne301 (own_nbc ne301 (own_nbc ne315 (own_nbc ne336 (own_nbc ne301 (own_nbc ne305 own_nb0)))))))
    obtain ⟨cl343, Ar343, cw343, S343, Nn343, Hs343, G343⟩ := id (t342)
    have hin343 : ¬ ((0 : Int32) < 0 ∨ cl343.slots.size ≤ ((0 : Int32)).toNatClampNeg) := inb_of S343 ⟨by decide, by decide⟩
    obtain ⟨T344, X344, e344, st344⟩ := getF X341 hx hZ hown (host := "") (Or.inl (wk107 hw)) Via.refl e341 r339_3 (g := (mkF m 458 Lb308 [(.ref b36)])) rfl rfl (hb hby at_458)
    have pre345 : ∀ t, Steps p.tables e below (T344.setTop (mkF m 479 Lb308 [(.int (1 : Int32))])) t → Steps p.tables e below (s₁.setTop (entryFrame m #[(.long p0), (.long p1), (.int p2), (.int p3)] maxLocals)) t := fun t k => pre247 t (by
     show Steps p.tables e below (T245.setTop (mkF m 159 Lb290 [(.int (1 : Int32))])) _
     refine XS.ifYes X245.here hx rfl (pc0 := 159) (pc' := 167) rfl (hb hby at_159) rfl (by decide) (by decide) (by decide) ?_
     refine si X245 hx hby at_167 rfl ?_
     refine sc X245 hx hby at_169 ?_
     refine sn X245 hx hby at_170 (by decide) ?_
     refine sa X245 hx hby at_173 rfl rfl ?_
     show Steps p.tables e below (T245.setTop (mkF m 175 Lb290 [(.ref b36)])) _
     refine sg (pc := 175) (pc' := 180) X245 hx hby at_175 (by decide) (by decide) ?_
     refine XS.astore X245.here hx rfl (hb hby at_180) rfl rfl (l' := Lb291) rfl ?_
     refine sc X245 hx hby at_182 ?_
     refine st292 _ ?_
     refine XS.astore X292.here hx rfl (hb hby at_186) rfl rfl (l' := Lb294) rfl ?_
     refine sc X292 hx hby at_188 ?_
     refine XS.istore X292.here hx rfl (hb hby at_189) rfl (l' := Lb295) rfl ?_
     refine si X292 hx hby at_191 rfl ?_
     refine sc X292 hx hby at_193 ?_
     show Steps p.tables e below (T292.setTop (mkF m 194 Lb295 [(.int (3 : Int32)), (.int (1 : Int32))])) _
     refine XS.icmpYes X292.here hx rfl (pc0 := 194) (pc' := 213) rfl (hb hby at_194) rfl (by decide) (by decide) (by decide) ?_
     refine si X292 hx hby at_213 rfl ?_
     refine sc X292 hx hby at_215 ?_
     refine XS.icmpYes X292.here hx rfl (pc0 := 216) (pc' := 235) rfl (hb hby at_216) rfl (by decide) (by decide) (by decide) ?_
     refine si X292 hx hby at_235 rfl ?_
     show Steps p.tables e below (T292.setTop (mkF m 237 Lb295 [(.int (1 : Int32))])) _
     refine sc X292 hx hby at_237 ?_
     refine sn X292 hx hby at_238 (by decide) ?_
     refine si X292 hx hby at_241 rfl ?_
     refine sN X292 hx hby at_243 (by decide) ?_
     refine sa X292 hx hby at_246 rfl rfl ?_
     show Steps p.tables e below (T292.setTop (mkF m 248 Lb295 [(.ref b292)])) _
     refine si X292 hx hby at_248 rfl ?_
     refine sa X292 hx hby at_250 rfl rfl ?_
     refine st296 _ ?_
     refine XS.iinc X296.here hx rfl (hb hby at_253) rfl (l' := Lb299) rfl ?_
     refine sa X296 hx hby at_256 rfl rfl ?_
     refine sa X296 hx hby at_258 rfl rfl ?_
     refine st303.trans ?_
     refine sa X303 hx hby at_263 rfl rfl ?_
     refine st307.trans ?_
     refine si X307 hx hby at_268 rfl ?_
     refine XS.i2l X307.here hx rfl (hb hby at_270) rfl ?_
     refine XS.lcmp X307.here hx rfl (hb hby at_271) rfl ?_
     refine sN X307 hx hby at_272 (by decide) ?_
     refine sc X307 hx hby at_275 ?_
     show Steps p.tables e below (T307.setTop (mkF m 276 Lb299 [(.int (1 : Int32))])) _
     refine sg (pc := 276) (pc' := 280) X307 hx hby at_276 (by decide) (by decide) ?_
     refine XS.istore X307.here hx rfl (hb hby at_280) rfl (l' := Lb308) rfl ?_
     refine si X307 hx hby at_282 rfl ?_
     refine sN X307 hx hby at_284 (by decide) ?_
     refine sa X307 hx hby at_287 rfl rfl ?_
     show Steps p.tables e below (T307.setTop (mkF m 289 Lb308 [(.ref b36)])) _
     refine st309 _ ?_
     refine sc X309 hx hby at_292 ?_
     refine sn X309 hx hby at_293 (by decide) ?_
     refine sa X309 hx hby at_296 rfl rfl ?_
     refine st311 _ ?_
     refine XS.ifnonnullNo X311.here hx rfl (hb hby at_301) rfl ?_
     refine sa X311 hx hby at_304 rfl rfl ?_
     refine st313 _ ?_
     refine XS.ifnonnullNo X313.here hx rfl (hb hby at_309) rfl ?_
     refine sc X313 hx hby at_312 ?_
     refine sg (pc := 313) (pc' := 317) X313 hx hby at_313 (by decide) (by decide) ?_
     refine XS.istore X313.here hx rfl (hb hby at_317) rfl (l' := Lb308) rfl ?_
     refine si X313 hx hby at_319 rfl ?_
     show Steps p.tables e below (T313.setTop (mkF m 321 Lb308 [(.int (1 : Int32))])) _
     refine sc X313 hx hby at_321 ?_
     refine sn X313 hx hby at_322 (by decide) ?_
     refine si X313 hx hby at_325 rfl ?_
     refine sN X313 hx hby at_327 (by decide) ?_
     refine sa X313 hx hby at_330 rfl rfl ?_
     show Steps p.tables e below (T313.setTop (mkF m 332 Lb308 [(.ref b292)])) _
     refine sc X313 hx hby at_332 ?_
     refine X313.aaload hx (j := (0 : Int32)) (v := (.ref b14)) (by rw [e313]; exact Ar314.1) (State.isArrayOf_alike hZ.alike Ar314.2.1) rfl Ar314.2.2 hin314 (Hs314.at hin314 rfl) (g := (mkF m 333 Lb308 [(.int (0 : Int32)), (.ref b292)])) rfl rfl (hb hby at_333) _ ?_
     refine st317 _ ?_
     refine XS.ifnonnullNo X317.here hx rfl (hb hby at_337) rfl ?_
     refine sa X317 hx hby at_340 rfl rfl ?_
     refine sc X317 hx hby at_342 ?_
     refine X317.aaload hx (j := (0 : Int32)) (v := (.ref b14)) (by rw [e317]; exact Ar318.1) (State.isArrayOf_alike hZ.alike Ar318.2.1) rfl Ar318.2.2 hin318 (Hs318.at hin318 rfl) (g := (mkF m 343 Lb308 [(.int (0 : Int32)), (.ref b292)])) rfl rfl (hb hby at_343) _ ?_
     refine st320 _ ?_
     refine sa X320 hx hby at_347 rfl rfl ?_
     refine sc X320 hx hby at_349 ?_
     refine X320.aaload hx (j := (1 : Int32)) (v := .null) (by rw [e320]; exact Ar321.1) (State.isArrayOf_alike hZ.alike Ar321.2.1) rfl Ar321.2.2 hin321 (Hs321.at hin321 rfl) (g := (mkF m 350 Lb308 [(.int (1 : Int32)), (.ref b292), .null])) rfl rfl (hb hby at_350) _ ?_
     refine Jvm.RoadKit.acmp (g := (mkF m 351 Lb308 [.null, .null])) X320 hx rfl rfl rfl (pc0 := 351) (pc' := 354) (same := true) rfl (hb hby at_351) rfl (decide_eq_true rfl) (by decide) (by decide) ?_
     refine sa X320 hx hby at_354 rfl rfl ?_
     show Steps p.tables e below (T320.setTop (mkF m 356 Lb308 [(.ref b292)])) _
     refine sc X320 hx hby at_356 ?_
     refine X320.aaload hx (j := (0 : Int32)) (v := (.ref b14)) (by rw [e320]; exact Ar322.1) (State.isArrayOf_alike hZ.alike Ar322.2.1) rfl Ar322.2.2 hin322 (Hs322.at hin322 rfl) (g := (mkF m 357 Lb308 [(.int (0 : Int32)), (.ref b292)])) rfl rfl (hb hby at_357) _ ?_
     refine st324 _ ?_
     refine si X324 hx hby at_361 rfl ?_
     refine sn X324 hx hby at_363 (teq (rfl : (ownS (ownEnd p0 (p1 &&& (9223372036854775807 : Int64))) p0) = (ownS (ownEnd p0 (p1 &&& (9223372036854775807 : Int64))) p0))).2 ?_
     refine sc X324 hx hby at_366 ?_
     refine sg (pc := 367) (pc' := 371) X324 hx hby at_367 (by decide) (by decide) ?_
     refine XS.istore X324.here hx rfl (hb hby at_371) rfl (l' := Lb308) rfl ?_
     show Steps p.tables e below (T324.setTop (mkF m 373 Lb308 [])) _
     refine si X324 hx hby at_373 rfl ?_
     refine sc X324 hx hby at_375 ?_
     refine XS.icmpYes X324.here hx rfl (pc0 := 376) (pc' := 431) rfl (hb hby at_376) rfl (by decide) (by decide) (by decide) ?_
     refine sa X324 hx hby at_431 rfl rfl ?_
     refine sa X324 hx hby at_433 rfl rfl ?_
     show Steps p.tables e below (T324.setTop (mkF m 435 Lb308 [(.ref b36), (.ref b9)])) _
     refine sL X324 hx hby at_435 rfl ?_
     refine st339.trans ?_
     refine si X339 hx hby at_439 rfl ?_
     refine sN X339 hx hby at_441 (by decide) ?_
     refine sa X339 hx hby at_444 rfl rfl ?_
     refine st341 _ ?_
     refine sa X341 hx hby at_449 rfl rfl ?_
     refine sc X341 hx hby at_451 ?_
     refine X341.aaload hx (j := (0 : Int32)) (v := (.ref b14)) (by rw [e341]; exact Ar343.1) (State.isArrayOf_alike hZ.alike Ar343.2.1) rfl Ar343.2.2 hin343 (Hs343.at hin343 rfl) (g := (mkF m 452 Lb308 [(.int (0 : Int32)), (.ref b292), (.ref b14)])) rfl rfl (hb hby at_452) _ ?_
     refine Jvm.RoadKit.acmp (g := (mkF m 453 Lb308 [(.ref b14), (.ref b14)])) X341 hx rfl rfl rfl (pc0 := 453) (pc' := 456) (same := true) rfl (hb hby at_453) rfl (decide_eq_true rfl) (by decide) (by decide) ?_
     refine sa X341 hx hby at_456 rfl rfl ?_
     show Steps p.tables e below (T341.setTop (mkF m 458 Lb308 [(.ref b36)])) _
     refine st344 _ ?_
     refine XS.ifnonnullNo X344.here hx rfl (hb hby at_461) rfl ?_
     refine sc X344 hx hby at_464 ?_
     refine sg (pc := 465) (pc' := 469) X344 hx hby at_465 (by decide) (by decide) ?_
     refine XS.istore X344.here hx rfl (hb hby at_469) rfl (l' := Lb308) rfl ?_
     refine si X344 hx hby at_471 rfl ?_
     show Steps p.tables e below (T344.setTop (mkF m 473 Lb308 [(.int (1 : Int32))])) _
     refine sc X344 hx hby at_473 ?_
     refine sn X344 hx hby at_474 (by decide) ?_
     refine si X344 hx hby at_477 rfl ?_
     exact k)
    obtain ⟨cl346, Ar346, cw346, S346, Nn346, Hs346, G346⟩ := id (t342)
    have hin346 : ¬ ((0 : Int32) < 0 ∨ cl346.slots.size ≤ ((0 : Int32)).toNatClampNeg) := inb_of S346 ⟨by decide, by decide⟩
    obtain ⟨T347, X347, e347, st347⟩ := getF X344 hx hZ hown (host := "") (Or.inl (wk107 hw)) Via.refl e344 r339_5 (g := (mkF m 486 Lb308 [(.ref b14)])) rfl rfl (hb hby at_486)
    obtain ⟨fs, hr, hrun, hended, hREW⟩ := Stand.leaveW (s := s) (vm₁ := T6.vm) X347 hS6 (by rw [e347]; exact (Nat.le_trans (Nat.le_trans (Nat.le_trans (Nat.le_trans (Nat.le_trans (Nat.le_trans (Nat.le_trans (Nat.le_trans (Nat.le_trans (Nat.le_trans (Nat.le_trans (Nat.le_trans (Nat.le_trans (Nat.le_trans (Nat.le_trans (Nat.le_trans (Nat.le_trans (Nat.le_trans (Nat.le_refl _) E9.1) K11.1) E14.1) K16.1) K18.1) K33.1) E36.1) K38.1) K40.1) K54.1) E57.1) K59.1) K61.1) K75.1) K243.1) E292.1) (Nat.le_of_eq W296.size.symm)) K339.1)) (v := some (.int (1 : Int32))) (fun h => by rw [Bd.returns] at h; cases h)
    refine ⟨_, _, pre345 _ ?_, hrun, hended, _, _, rfl, ?_, hREW.1, hREW.2.1, hREW.2.2.1, hREW.2.2.2.mono (by decide) (by decide)⟩
    · show Steps p.tables e below (T344.setTop (mkF m 479 Lb308 [(.int (1 : Int32))])) _
      refine sN X344 hx hby at_479 (by decide) ?_
      refine sa X344 hx hby at_482 rfl rfl ?_
      refine sc X344 hx hby at_484 ?_
      refine X344.aaload hx (j := (0 : Int32)) (v := (.ref b14)) (by rw [e344]; exact Ar346.1) (State.isArrayOf_alike hZ.alike Ar346.2.1) rfl Ar346.2.2 hin346 (Hs346.at hin346 rfl) (g := (mkF m 485 Lb308 [(.int (0 : Int32)), (.ref b292)])) rfl rfl (hb hby at_485) _ ?_
      refine st347 _ ?_
      refine sa X347 hx hby at_489 rfl rfl ?_
      refine Jvm.RoadKit.acmp (g := (mkF m 491 Lb308 [(.ref b36), (.ref b36)])) X347 hx rfl rfl rfl (pc0 := 491) (pc' := 494) (same := true) rfl (hb hby at_491) rfl (decide_eq_true rfl) (by decide) (by decide) ?_
      refine sc X347 hx hby at_494 ?_
      refine sg (pc := 495) (pc' := 499) X347 hx hby at_495 (by decide) (by decide) ?_
      refine XS.istore X347.here hx rfl (hb hby at_499) rfl (l' := Lb308) rfl ?_
      show Steps p.tables e below (T347.setTop (mkF m 501 Lb308 [])) _
      refine si X347 hx hby at_501 rfl ?_
      exact retN X347 hx (t := .boolean) Bd.returns (by simp) (hb hby at_503) hr
    · show Q0 n0 _ T347.heap _
      rw [e347]
      exact ⟨rfl, N339⟩
   ·
    rw [hs248] at pre247
    let Lb348 : Array Slot := #[.val (.long p0), .second, .val (.long p1), .second, .val (.int p2), .val (.int p3), .val (.int (1 : Int32)), .val (.int (2 : Int32)), .val (.long (p1 &&& (9223372036854775807 : Int64))), .second, .val (.ref b4), .val (.ref b9), .val (.ref b14), .val (.ref b36), .val (.ref b57), .val (.int (ownS (ownEnd p0 (p1 &&& (9223372036854775807 : Int64))) p0)), .unset, .unset, .unset, .unset]
    let Lb349 : Array Slot := #[.val (.long p0), .second, .val (.long p1), .second, .val (.int p2), .val (.int p3), .val (.int (1 : Int32)), .val (.int (2 : Int32)), .val (.long (p1 &&& (9223372036854775807 : Int64))), .second, .val (.ref b4), .val (.ref b9), .val (.ref b14), .val (.ref b36), .val (.ref b57), .val (.int (ownS (ownEnd p0 (p1 &&& (9223372036854775807 : Int64))) p0)), .val (.ref b57), .unset, .unset, .unset]
    obtain ⟨T350, h350, k350, X350, e350, E350, A350, Ov350, st350⟩ := newR X245 hx hZ hown (wk48 hw) (wk45 hw) e245 (g := (mkF m 183 Lb349 [(.int (3 : Int32))])) rfl (hb hby at_183) rfl (by decide) (cap := 3) (by decide) (by decide) (by decide) (by decide)
    obtain ⟨b350, g350⟩ : ∃ z, z = T243.heap.size := ⟨_, rfl⟩
    rw [← g350] at A350 st350
    have gg350 : n0 ≤ b350 := by rw [← O244.1, g350]; exact O244.2.1
    have O351 := O244.ext E350
    have V350 : Arv Z h350 b350 k350 (.object cs0) (3 : Int32) [.null, .null, .null] .null := own_pad (dv := .null) (Arv.new A350 (by decide)) 3 _ rfl
    let Lb352 : Array Slot := #[.val (.long p0), .second, .val (.long p1), .second, .val (.int p2), .val (.int p3), .val (.int (1 : Int32)), .val (.int (2 : Int32)), .val (.long (p1 &&& (9223372036854775807 : Int64))), .second, .val (.ref b4), .val (.ref b9), .val (.ref b14), .val (.ref b36), .val (.ref b57), .val (.int (ownS (ownEnd p0 (p1 &&& (9223372036854775807 : Int64))) p0)), .val (.ref b57), .val (.ref b350), .unset, .unset]
    let Lb353 : Array Slot := #[.val (.long p0), .second, .val (.long p1), .second, .val (.int p2), .val (.int p3), .val (.int (1 : Int32)), .val (.int (2 : Int32)), .val (.long (p1 &&& (9223372036854775807 : Int64))), .second, .val (.ref b4), .val (.ref b9), .val (.ref b14), .val (.ref b36), .val (.ref b57), .val (.int (ownS (ownEnd p0 (p1 &&& (9223372036854775807 : Int64))) p0)), .val (.ref b57), .val (.ref b350), .val (.int (0 : Int32)), .unset]
    obtain ⟨cl354, Ar354, cw354, S354, Nn354, Hs354, G354⟩ := id (V350)
    have hin354 : ¬ ((0 : Int32) < 0 ∨ cl354.slots.size ≤ ((0 : Int32)).toNatClampNeg) := inb_of S354 ⟨by decide, by decide⟩
    have t355 := ((own_exa t230 K243).ext E350)
    obtain ⟨T354, h354, X354, e354, W354, st354⟩ := stR X350 hx hZ e350 Ar354 (j := (0 : Int32)) hin354 rfl (Sto.ofV Ar354 cw354 Ov350 (Ins.self t355)) (g := (mkF m 252 Lb353 [(.ref b14), (.int (0 : Int32)), (.ref b350)])) rfl rfl (hb hby at_252)
    have V354 : Arv Z h354 b350 k350 (.object cs0) (3 : Int32) [(.ref b14), .null, .null] .null := own_set Ar354 cw354 S354 Nn354 Hs354 G354 rfl W354 0 rfl (Nat.le_of_ble_eq_true rfl) (.ref b14) rfl _ rfl
    have N354 := Fr.snoc X354 N243 gg350
    have O356 := O351.wr W354 gg350
    let Lb357 : Array Slot := #[.val (.long p0), .second, .val (.long p1), .second, .val (.int p2), .val (.int p3), .val (.int (1 : Int32)), .val (.int (2 : Int32)), .val (.long (p1 &&& (9223372036854775807 : Int64))), .second, .val (.ref b4), .val (.ref b9), .val (.ref b14), .val (.ref b36), .val (.ref b57), .val (.int (ownS (ownEnd p0 (p1 &&& (9223372036854775807 : Int64))) p0)), .val (.ref b57), .val (.ref b350), .val (.int (1 : Int32)), .unset]
    have ne358 : b57 ≠ b350 := (Nat.ne_of_lt (Nat.lt_of_lt_of_le (Nat.lt_of_lt_of_le (Nat.lt_of_lt_of_le t63.lt K75.1) K243.1) (Nat.le_of_eq g350.symm)))
    have t359 := (((own_fld r75_0 K243 (own_nlb (Ne.symm ne221) (own_nlb (Ne.symm ne226) (own_nlb (Ne.symm ne226) (own_nlb (Ne.symm ne238) (own_nlb (Ne.symm ne226) (own_nlb (Ne.symm ne221) own_nl0))))))).ext E350).other W354 (Or.inl ne358))
    have t361 := (((own_exa t224 K243).ext E350).wr W354)
    obtain ⟨cq360, kq360, q360a, q360b, q360c⟩ := isOf hZ e354 t361
    obtain ⟨_, _, ⟨T360, L360, kk360, nn360⟩, -, X360, ⟨Lc360, hQ360, l360, y360, z360⟩, st360⟩ := X354.virtualBack hx (y := ym9) (z := ym9) hown (mvT hZ (wk94 hw)) (mvT hZ (wk95 hw)) (notFace_of_selects (args := #[]) (mvT hZ (wk97 hw))) (mvT hZ (wk97 hw)) (mvT hZ (wk96 hw)) (by decide) (backOf (W := 0) (rm11_12 l Z a0 hw w hW [] b9 b57 h354 n0 O356 t359) hZ (wk98 hw) (wk36 hw) (by decide) (by decide)) q360a q360c (g := (mkF m 260 Lb357 [(.ref b57), (.ref b9)])) rfl (by rw [hml]; rfl) (Steps.refl _) (argsL := [(.ref b57)]) (rest := []) (lenOf pds_8 rfl) rfl (by show 2 * 0 + _ ≤ _; exact Nat.le_of_eq rfl) (hb hby at_260) (fun _ _ => ⟨rfl, e354, (by decide : 11 + 0 ≤ _), (by decide : 516 + 0 ≤ _)⟩)
    dsimp only [Pt.U, Pt.locs, Pt.cells, Pt.slots] at X360 l360 y360 z360 st360 hQ360
    rw [l360, y360, z360] at X360
    obtain ⟨rfl, N360q, e360⟩ := hQ360
    have N360 := Fr.app N354 N360q
    have ne362 : b9 ≠ b350 := (Nat.ne_of_lt (Nat.lt_of_lt_of_le (Nat.lt_of_lt_of_le t224.lt K243.1) (Nat.le_of_eq g350.symm)))
    have t363 := ((r243_0.ext E350).other W354 (Or.inl ne362))
    obtain ⟨cq364, kq364, q364a, q364b, q364c⟩ := isOf hZ e360 t361
    obtain ⟨_, _, ⟨T364, L364, kk364, nn364⟩, -, X364, ⟨Lc364, hQ364, l364, y364, z364⟩, st364⟩ := X360.virtualBack hx (y := ym10) (z := ym10) hown (mvT hZ (wk100 hw)) (mvT hZ (wk101 hw)) (notFace_of_selects (args := #[]) (mvT hZ (wk103 hw))) (mvT hZ (wk103 hw)) (mvT hZ (wk102 hw)) (by decide) (backOf (W := 0) (rm12_27 l Z a0 hw w hW [] b9 h354 n0 O356 t363) hZ (wk104 hw) (wk36 hw) (by decide) (by decide)) q364a q364c (g := (mkF m 265 Lb357 [(.ref b9)])) rfl (by rw [hml]; rfl) (Steps.refl _) (argsL := []) (rest := []) (lenOf pds_9 rfl) rfl (by show 2 * 0 + _ ≤ _; exact Nat.le_of_eq rfl) (hb hby at_265) (fun _ _ => ⟨rfl, e360, (by decide : 11 + 0 ≤ _), (by decide : 516 + 0 ≤ _)⟩)
    dsimp only [Pt.U, Pt.locs, Pt.cells, Pt.slots] at X364 l364 y364 z364 st364 hQ364
    rw [l364, y364, z364] at X364
    obtain ⟨rfl, N364q, e364⟩ := hQ364
    have N364 := Fr.app N360 N364q
    let Lb365 : Array Slot := #[.val (.long p0), .second, .val (.long p1), .second, .val (.int p2), .val (.int p3), .val (.int (1 : Int32)), .val (.int (2 : Int32)), .val (.long (p1 &&& (9223372036854775807 : Int64))), .second, .val (.ref b4), .val (.ref b9), .val (.ref b14), .val (.ref b36), .val (.ref b57), .val (.int (ownS (ownEnd p0 (p1 &&& (9223372036854775807 : Int64))) p0)), .val (.ref b57), .val (.ref b350), .val (.int (1 : Int32)), .val (.int (1 : Int32))]
    obtain ⟨T366, X366, e366, st366⟩ := getF X364 hx hZ hown (host := "") (Or.inl (wk93 hw)) Via.refl e364 t359 (g := (mkF m 289 Lb365 [(.ref b57)])) rfl rfl (hb hby at_289)
    have t367 := (((own_fld (own_fld (own_fld (own_fld i57_108 K59 own_nl0) K61 own_nl0) K75 (own_nls (sn69 hw) (own_nls (sn68 hw) (own_nls (sn67 hw) (own_nls (sn66 hw) (own_nls (sn65 hw) (own_nls (sn64 hw) (own_nls (sn63 hw) (own_nls (sn62 hw) own_nl0))))))))) K243 (own_nlb (Ne.symm ne221) (own_nlb (Ne.symm ne226) (own_nlb (Ne.symm ne226) (own_nlb (Ne.symm ne238) (own_nlb (Ne.symm ne226) (own_nlb (Ne.symm ne221) own_nl0))))))).ext E350).other W354 (Or.inl ne358))
    obtain ⟨T368, X368, e368, st368⟩ := getF X366 hx hZ hown (host := "") (Or.inl (wk107 hw)) Via.refl e366 t367 (g := (mkF m 298 Lb365 [(.ref b57)])) rfl rfl (hb hby at_298)
    have t369 := (((own_fld (own_fld (own_fld (own_fld i57_110 K59 own_nl0) K61 own_nl0) K75 (own_nls (sn77 hw) (own_nls (sn76 hw) (own_nls (sn75 hw) (own_nls (sn74 hw) (own_nls (sn73 hw) (own_nls (sn72 hw) (own_nls (sn71 hw) (own_nls (sn70 hw) own_nl0))))))))) K243 (own_nlb (Ne.symm ne221) (own_nlb (Ne.symm ne226) (own_nlb (Ne.symm ne226) (own_nlb (Ne.symm ne238) (own_nlb (Ne.symm ne226) (own_nlb (Ne.symm ne221) own_nl0))))))).ext E350).other W354 (Or.inl ne358))
    obtain ⟨T370, X370, e370, st370⟩ := getF X368 hx hZ hown (host := "") (Or.inl (wk109 hw)) Via.refl e368 t369 (g := (mkF m 306 Lb365 [(.ref b57)])) rfl rfl (hb hby at_306)
    obtain ⟨cl371, Ar371, cw371, S371, Nn371, Hs371, G371⟩ := id (V354)
    have hin371 : ¬ ((0 : Int32) < 0 ∨ cl371.slots.size ≤ ((0 : Int32)).toNatClampNeg) := inb_of S371 ⟨by decide, by decide⟩
    have ne372 : b14 ≠ b350 := (Nat.ne_of_lt (Nat.lt_of_lt_of_le (Nat.lt_of_lt_of_le t230.lt K243.1) (Nat.le_of_eq g350.symm)))
    have t373 := ((r243_3.ext E350).other W354 (Or.inl ne372))
    obtain ⟨T374, X374, e374, st374⟩ := getF X370 hx hZ hown (host := "") (Or.inl (wk107 hw)) Via.refl e370 t373 (g := (mkF m 334 Lb365 [(.ref b14)])) rfl rfl (hb hby at_334)
    obtain ⟨cl375, Ar375, cw375, S375, Nn375, Hs375, G375⟩ := id (V354)
    have hin375 : ¬ ((0 : Int32) < 0 ∨ cl375.slots.size ≤ ((0 : Int32)).toNatClampNeg) := inb_of S375 ⟨by decide, by decide⟩
    have t376 := ((r243_2.ext E350).other W354 (Or.inl ne372))
    obtain ⟨T377, X377, e377, st377⟩ := getF X374 hx hZ hown (host := "") (Or.inl (wk109 hw)) Via.refl e374 t376 (g := (mkF m 344 Lb365 [(.ref b14)])) rfl rfl (hb hby at_344)
    obtain ⟨cl378, Ar378, cw378, S378, Nn378, Hs378, G378⟩ := id (V354)
    have hin378 : ¬ ((1 : Int32) < 0 ∨ cl378.slots.size ≤ ((1 : Int32)).toNatClampNeg) := inb_of S378 ⟨by decide, by decide⟩
    obtain ⟨cl379, Ar379, cw379, S379, Nn379, Hs379, G379⟩ := id (V354)
    have hin379 : ¬ ((0 : Int32) < 0 ∨ cl379.slots.size ≤ ((0 : Int32)).toNatClampNeg) := inb_of S379 ⟨by decide, by decide⟩
    have t380 := ((r243_4.ext E350).other W354 (Or.inl ne372))
    obtain ⟨T381, X381, e381, st381⟩ := getF X377 hx hZ hown (host := "") (Or.inl (wk93 hw)) Via.refl e377 t380 (g := (mkF m 358 Lb365 [(.ref b14)])) rfl rfl (hb hby at_358)
    have t382 := (((own_fld r75_4 K243 (own_nlb (Ne.symm ne221) (own_nlb (Ne.symm ne226) (own_nlb (Ne.symm ne226) (own_nlb (Ne.symm ne238) (own_nlb (Ne.symm ne226) (own_nlb (Ne.symm ne221) own_nl0))))))).ext E350).other W354 (Or.inl ne358))
    have t383 := (((own_exa t228 K243).ext E350).wr W354)
    have ne384 : b4 ≠ b11_0 := (Nat.ne_of_lt (Nat.lt_of_lt_of_le (Nat.lt_of_lt_of_le (Nat.lt_of_lt_of_le A4.lt K6.1) E9.1) r11_3))
    have ne385 : b4 ≠ b350 := (Nat.ne_of_lt (Nat.lt_of_lt_of_le (Nat.lt_of_lt_of_le t228.lt K243.1) (Nat.le_of_eq g350.symm)))
    have t386 := (((own_fld t229 K243 (own_nlb ne29 (own_nlb ne32 (own_nlb ne32 (own_nlb ne384 (own_nlb ne32 (own_nlb ne29 own_nl0))))))).ext E350).other W354 (Or.inl ne385))
    have t387 := (((own_exa (own_exa t63 K75) K243).ext E350).wr W354)
    have t388 := (((own_fld r75_5 K243 (own_nlb (Ne.symm ne221) (own_nlb (Ne.symm ne226) (own_nlb (Ne.symm ne226) (own_nlb (Ne.symm ne238) (own_nlb (Ne.symm ne226) (own_nlb (Ne.symm ne221) own_nl0))))))).ext E350).other W354 (Or.inl ne358))
    have t389 := (((own_fld r75_6 K243 (own_nlb (Ne.symm ne221) (own_nlb (Ne.symm ne226) (own_nlb (Ne.symm ne226) (own_nlb (Ne.symm ne238) (own_nlb (Ne.symm ne226) (own_nlb (Ne.symm ne221) own_nl0))))))).ext E350).other W354 (Or.inl ne358))
    have t390 := (((own_fld t233 K243 (own_nlb ne29 (own_nlb ne32 (own_nlb ne32 (own_nlb ne384 (own_nlb ne32 (own_nlb ne29 own_nl0))))))).ext E350).other W354 (Or.inl ne385))
    have t391 := ((r243_1.ext E350).other W354 (Or.inl ne362))
    have t392 := (((own_fld t235 K243 (own_nls (sn2 hw) (own_nlb ne219 (own_nlb ne219 (own_nlb ne242 (own_nlb ne219 (own_nls (sn83 hw) own_nl0))))))).ext E350).other W354 (Or.inl ne362))
    have ne393 : b11_0 ≠ b350 := (Nat.ne_of_lt (Nat.lt_of_lt_of_le r243_5.lt (Nat.le_of_eq g350.symm)))
    have t394 := (own_gk_oth (own_gk_ext r243_5 E350) W354 ne393)
    have t395 := (t355.wr W354)
    obtain ⟨cq396, kq396, q396a, q396b, q396c⟩ := isOf hZ e381 t361
    obtain ⟨_, _, ⟨T396, L396, kk396, nn396⟩, -, X396, ⟨Lc396, hQ396, l396, y396, z396⟩, st396⟩ := X381.virtualBack hx (y := ym19) (z := ym19) hown (mvT hZ (wk111 hw)) (mvT hZ (wk112 hw)) (notFace_of_selects (args := #[]) (mvT hZ (wk114 hw))) (mvT hZ (wk114 hw)) (mvT hZ (wk113 hw)) (by decide) (backOf (W := 0) (rm13_29 l Z a0 hw w hW [] b9 b57 p0 b4 (p1 &&& (9223372036854775807 : Int64)) b11_0 k11_0 b14 h354 n0 O356 t363 t382 t383 t386 (own_lf1 _) t387 t388 t389 t390 (own_max _) t391 t361 t359 (own_S1 _ _) t392 t394 (own_S2 _ _) (own_S3 _ _) t367 t369 t395 t373 r11_4 gg57 ne226 gg14 ne221 ne219 ggb11_0 ne238 ne236 ne242 gg9) hZ (wk115 hw) (wk36 hw) (by decide) (by decide)) q396a q396c (g := (mkF m 436 Lb365 [(.long p0), (.ref b57), (.ref b9)])) rfl (by rw [hml]; rfl) (Steps.refl _) (argsL := [(.ref b57), (.long p0)]) (rest := []) (lenOf pds_14 rfl) rfl (by show 2 * 0 + _ ≤ _; exact Nat.le_of_eq rfl) (hb hby at_436) (fun _ _ => ⟨rfl, e381, (by decide : 11 + 0 ≤ _), (by decide : 516 + 0 ≤ _)⟩)
    dsimp only [Pt.U, Pt.locs, Pt.cells, Pt.slots] at X396 l396 y396 z396 st396 hQ396
    rw [l396, y396, z396] at X396
    obtain ⟨rfl, N396q, K396, r396_0, r396_1, r396_2, r396_3, r396_4, r396_5⟩ := hQ396
    have N396 := Fr.app N364 N396q
    have O397 := own_old O356 K396 (own_ngc gg57 (own_ngc gg57 (own_ngc gg14 (own_ngc ggb11_0 (own_ngc gg57 (own_ngc gg9 own_ng0))))))
    obtain ⟨T398, X398, e398, st398⟩ := getF X396 hx hZ hown (host := "") (Or.inl (wk109 hw)) Via.refl rfl r396_4 (g := (mkF m 446 Lb365 [(.ref b57)])) rfl rfl (hb hby at_446)
    have t399 := (own_arv V354 K396 (own_nbc ne358 (own_nbc ne358 (own_nbc ne372 (own_nbc ne393 (own_nbc ne358 (own_nbc ne362 own_nb0)))))))
    obtain ⟨cl400, Ar400, cw400, S400, Nn400, Hs400, G400⟩ := id (t399)
    have hin400 : ¬ ((0 : Int32) < 0 ∨ cl400.slots.size ≤ ((0 : Int32)).toNatClampNeg) := inb_of S400 ⟨by decide, by decide⟩
    obtain ⟨T401, X401, e401, st401⟩ := getF X398 hx hZ hown (host := "") (Or.inl (wk107 hw)) Via.refl e398 r396_3 (g := (mkF m 458 Lb365 [(.ref b57)])) rfl rfl (hb hby at_458)
    have pre402 : ∀ t, Steps p.tables e below (T401.setTop (mkF m 482 Lb365 [])) t → Steps p.tables e below (s₁.setTop (entryFrame m #[(.long p0), (.long p1), (.int p2), (.int p3)] maxLocals)) t := fun t k => pre247 t (by
     show Steps p.tables e below (T245.setTop (mkF m 159 Lb348 [(.int (2 : Int32))])) _
     refine XS.ifYes X245.here hx rfl (pc0 := 159) (pc' := 167) rfl (hb hby at_159) rfl (by decide) (by decide) (by decide) ?_
     refine si X245 hx hby at_167 rfl ?_
     refine sc X245 hx hby at_169 ?_
     refine XS.icmpYes X245.here hx rfl (pc0 := 170) (pc' := 178) rfl (hb hby at_170) rfl (by decide) (by decide) (by decide) ?_
     refine sa X245 hx hby at_178 rfl rfl ?_
     show Steps p.tables e below (T245.setTop (mkF m 180 Lb348 [(.ref b57)])) _
     refine XS.astore X245.here hx rfl (hb hby at_180) rfl rfl (l' := Lb349) rfl ?_
     refine sc X245 hx hby at_182 ?_
     refine st350 _ ?_
     refine XS.astore X350.here hx rfl (hb hby at_186) rfl rfl (l' := Lb352) rfl ?_
     refine sc X350 hx hby at_188 ?_
     refine XS.istore X350.here hx rfl (hb hby at_189) rfl (l' := Lb353) rfl ?_
     refine si X350 hx hby at_191 rfl ?_
     refine sc X350 hx hby at_193 ?_
     show Steps p.tables e below (T350.setTop (mkF m 194 Lb353 [(.int (3 : Int32)), (.int (1 : Int32))])) _
     refine XS.icmpYes X350.here hx rfl (pc0 := 194) (pc' := 213) rfl (hb hby at_194) rfl (by decide) (by decide) (by decide) ?_
     refine si X350 hx hby at_213 rfl ?_
     refine sc X350 hx hby at_215 ?_
     refine XS.icmpYes X350.here hx rfl (pc0 := 216) (pc' := 235) rfl (hb hby at_216) rfl (by decide) (by decide) (by decide) ?_
     refine si X350 hx hby at_235 rfl ?_
     show Steps p.tables e below (T350.setTop (mkF m 237 Lb353 [(.int (1 : Int32))])) _
     refine sc X350 hx hby at_237 ?_
     refine sn X350 hx hby at_238 (by decide) ?_
     refine si X350 hx hby at_241 rfl ?_
     refine sN X350 hx hby at_243 (by decide) ?_
     refine sa X350 hx hby at_246 rfl rfl ?_
     show Steps p.tables e below (T350.setTop (mkF m 248 Lb353 [(.ref b350)])) _
     refine si X350 hx hby at_248 rfl ?_
     refine sa X350 hx hby at_250 rfl rfl ?_
     refine st354 _ ?_
     refine XS.iinc X354.here hx rfl (hb hby at_253) rfl (l' := Lb357) rfl ?_
     refine sa X354 hx hby at_256 rfl rfl ?_
     refine sa X354 hx hby at_258 rfl rfl ?_
     refine st360.trans ?_
     refine sa X360 hx hby at_263 rfl rfl ?_
     refine st364.trans ?_
     refine si X364 hx hby at_268 rfl ?_
     refine XS.i2l X364.here hx rfl (hb hby at_270) rfl ?_
     refine XS.lcmp X364.here hx rfl (hb hby at_271) rfl ?_
     refine sN X364 hx hby at_272 (by decide) ?_
     refine sc X364 hx hby at_275 ?_
     show Steps p.tables e below (T364.setTop (mkF m 276 Lb357 [(.int (1 : Int32))])) _
     refine sg (pc := 276) (pc' := 280) X364 hx hby at_276 (by decide) (by decide) ?_
     refine XS.istore X364.here hx rfl (hb hby at_280) rfl (l' := Lb365) rfl ?_
     refine si X364 hx hby at_282 rfl ?_
     refine sN X364 hx hby at_284 (by decide) ?_
     refine sa X364 hx hby at_287 rfl rfl ?_
     show Steps p.tables e below (T364.setTop (mkF m 289 Lb365 [(.ref b57)])) _
     refine st366 _ ?_
     refine sc X366 hx hby at_292 ?_
     refine sn X366 hx hby at_293 (by decide) ?_
     refine sa X366 hx hby at_296 rfl rfl ?_
     refine st368 _ ?_
     refine XS.ifnonnullNo X368.here hx rfl (hb hby at_301) rfl ?_
     refine sa X368 hx hby at_304 rfl rfl ?_
     refine st370 _ ?_
     refine XS.ifnonnullNo X370.here hx rfl (hb hby at_309) rfl ?_
     refine sc X370 hx hby at_312 ?_
     refine sg (pc := 313) (pc' := 317) X370 hx hby at_313 (by decide) (by decide) ?_
     refine XS.istore X370.here hx rfl (hb hby at_317) rfl (l' := Lb365) rfl ?_
     refine si X370 hx hby at_319 rfl ?_
     show Steps p.tables e below (T370.setTop (mkF m 321 Lb365 [(.int (1 : Int32))])) _
     refine sc X370 hx hby at_321 ?_
     refine sn X370 hx hby at_322 (by decide) ?_
     refine si X370 hx hby at_325 rfl ?_
     refine sN X370 hx hby at_327 (by decide) ?_
     refine sa X370 hx hby at_330 rfl rfl ?_
     show Steps p.tables e below (T370.setTop (mkF m 332 Lb365 [(.ref b350)])) _
     refine sc X370 hx hby at_332 ?_
     refine X370.aaload hx (j := (0 : Int32)) (v := (.ref b14)) (by rw [e370]; exact Ar371.1) (State.isArrayOf_alike hZ.alike Ar371.2.1) rfl Ar371.2.2 hin371 (Hs371.at hin371 rfl) (g := (mkF m 333 Lb365 [(.int (0 : Int32)), (.ref b350)])) rfl rfl (hb hby at_333) _ ?_
     refine st374 _ ?_
     refine XS.ifnonnullNo X374.here hx rfl (hb hby at_337) rfl ?_
     refine sa X374 hx hby at_340 rfl rfl ?_
     refine sc X374 hx hby at_342 ?_
     refine X374.aaload hx (j := (0 : Int32)) (v := (.ref b14)) (by rw [e374]; exact Ar375.1) (State.isArrayOf_alike hZ.alike Ar375.2.1) rfl Ar375.2.2 hin375 (Hs375.at hin375 rfl) (g := (mkF m 343 Lb365 [(.int (0 : Int32)), (.ref b350)])) rfl rfl (hb hby at_343) _ ?_
     refine st377 _ ?_
     refine sa X377 hx hby at_347 rfl rfl ?_
     refine sc X377 hx hby at_349 ?_
     refine X377.aaload hx (j := (1 : Int32)) (v := .null) (by rw [e377]; exact Ar378.1) (State.isArrayOf_alike hZ.alike Ar378.2.1) rfl Ar378.2.2 hin378 (Hs378.at hin378 rfl) (g := (mkF m 350 Lb365 [(.int (1 : Int32)), (.ref b350), .null])) rfl rfl (hb hby at_350) _ ?_
     refine Jvm.RoadKit.acmp (g := (mkF m 351 Lb365 [.null, .null])) X377 hx rfl rfl rfl (pc0 := 351) (pc' := 354) (same := true) rfl (hb hby at_351) rfl (decide_eq_true rfl) (by decide) (by decide) ?_
     refine sa X377 hx hby at_354 rfl rfl ?_
     show Steps p.tables e below (T377.setTop (mkF m 356 Lb365 [(.ref b350)])) _
     refine sc X377 hx hby at_356 ?_
     refine X377.aaload hx (j := (0 : Int32)) (v := (.ref b14)) (by rw [e377]; exact Ar379.1) (State.isArrayOf_alike hZ.alike Ar379.2.1) rfl Ar379.2.2 hin379 (Hs379.at hin379 rfl) (g := (mkF m 357 Lb365 [(.int (0 : Int32)), (.ref b350)])) rfl rfl (hb hby at_357) _ ?_
     refine st381 _ ?_
     refine si X381 hx hby at_361 rfl ?_
     refine sn X381 hx hby at_363 (teq (rfl : (ownS (ownEnd p0 (p1 &&& (9223372036854775807 : Int64))) p0) = (ownS (ownEnd p0 (p1 &&& (9223372036854775807 : Int64))) p0))).2 ?_
     refine sc X381 hx hby at_366 ?_
     refine sg (pc := 367) (pc' := 371) X381 hx hby at_367 (by decide) (by decide) ?_
     refine XS.istore X381.here hx rfl (hb hby at_371) rfl (l' := Lb365) rfl ?_
     show Steps p.tables e below (T381.setTop (mkF m 373 Lb365 [])) _
     refine si X381 hx hby at_373 rfl ?_
     refine sc X381 hx hby at_375 ?_
     refine XS.icmpYes X381.here hx rfl (pc0 := 376) (pc' := 431) rfl (hb hby at_376) rfl (by decide) (by decide) (by decide) ?_
     refine sa X381 hx hby at_431 rfl rfl ?_
     refine sa X381 hx hby at_433 rfl rfl ?_
     show Steps p.tables e below (T381.setTop (mkF m 435 Lb365 [(.ref b57), (.ref b9)])) _
     refine sL X381 hx hby at_435 rfl ?_
     refine st396.trans ?_
     refine si X396 hx hby at_439 rfl ?_
     refine sN X396 hx hby at_441 (by decide) ?_
     refine sa X396 hx hby at_444 rfl rfl ?_
     refine st398 _ ?_
     refine sa X398 hx hby at_449 rfl rfl ?_
     refine sc X398 hx hby at_451 ?_
     refine X398.aaload hx (j := (0 : Int32)) (v := (.ref b14)) (by rw [e398]; exact Ar400.1) (State.isArrayOf_alike hZ.alike Ar400.2.1) rfl Ar400.2.2 hin400 (Hs400.at hin400 rfl) (g := (mkF m 452 Lb365 [(.int (0 : Int32)), (.ref b350), (.ref b14)])) rfl rfl (hb hby at_452) _ ?_
     refine Jvm.RoadKit.acmp (g := (mkF m 453 Lb365 [(.ref b14), (.ref b14)])) X398 hx rfl rfl rfl (pc0 := 453) (pc' := 456) (same := true) rfl (hb hby at_453) rfl (decide_eq_true rfl) (by decide) (by decide) ?_
     refine sa X398 hx hby at_456 rfl rfl ?_
     show Steps p.tables e below (T398.setTop (mkF m 458 Lb365 [(.ref b57)])) _
     refine st401 _ ?_
     refine XS.ifnonnullNo X401.here hx rfl (hb hby at_461) rfl ?_
     refine sc X401 hx hby at_464 ?_
     refine sg (pc := 465) (pc' := 469) X401 hx hby at_465 (by decide) (by decide) ?_
     refine XS.istore X401.here hx rfl (hb hby at_469) rfl (l' := Lb365) rfl ?_
     refine si X401 hx hby at_471 rfl ?_
     show Steps p.tables e below (T401.setTop (mkF m 473 Lb365 [(.int (1 : Int32))])) _
     refine sc X401 hx hby at_473 ?_
     refine sn X401 hx hby at_474 (by decide) ?_
     refine si X401 hx hby at_477 rfl ?_
     refine sN X401 hx hby at_479 (by decide) ?_
     exact k)
    obtain ⟨cl403, Ar403, cw403, S403, Nn403, Hs403, G403⟩ := id (t399)
    have hin403 : ¬ ((0 : Int32) < 0 ∨ cl403.slots.size ≤ ((0 : Int32)).toNatClampNeg) := inb_of S403 ⟨by decide, by decide⟩
    obtain ⟨T404, X404, e404, st404⟩ := getF X401 hx hZ hown (host := "") (Or.inl (wk107 hw)) Via.refl e401 r396_5 (g := (mkF m 486 Lb365 [(.ref b14)])) rfl rfl (hb hby at_486)
    obtain ⟨fs, hr, hrun, hended, hREW⟩ := Stand.leaveW (s := s) (vm₁ := T6.vm) X404 hS6 (by rw [e404]; exact (Nat.le_trans (Nat.le_trans (Nat.le_trans (Nat.le_trans (Nat.le_trans (Nat.le_trans (Nat.le_trans (Nat.le_trans (Nat.le_trans (Nat.le_trans (Nat.le_trans (Nat.le_trans (Nat.le_trans (Nat.le_trans (Nat.le_trans (Nat.le_trans (Nat.le_trans (Nat.le_trans (Nat.le_refl _) E9.1) K11.1) E14.1) K16.1) K18.1) K33.1) E36.1) K38.1) K40.1) K54.1) E57.1) K59.1) K61.1) K75.1) K243.1) E350.1) (Nat.le_of_eq W354.size.symm)) K396.1)) (v := some (.int (1 : Int32))) (fun h => by rw [Bd.returns] at h; cases h)
    refine ⟨_, _, pre402 _ ?_, hrun, hended, _, _, rfl, ?_, hREW.1, hREW.2.1, hREW.2.2.1, hREW.2.2.2.mono (by decide) (by decide)⟩
    · show Steps p.tables e below (T401.setTop (mkF m 482 Lb365 [])) _
      refine sa X401 hx hby at_482 rfl rfl ?_
      refine sc X401 hx hby at_484 ?_
      refine X401.aaload hx (j := (0 : Int32)) (v := (.ref b14)) (by rw [e401]; exact Ar403.1) (State.isArrayOf_alike hZ.alike Ar403.2.1) rfl Ar403.2.2 hin403 (Hs403.at hin403 rfl) (g := (mkF m 485 Lb365 [(.int (0 : Int32)), (.ref b350)])) rfl rfl (hb hby at_485) _ ?_
      refine st404 _ ?_
      refine sa X404 hx hby at_489 rfl rfl ?_
      refine Jvm.RoadKit.acmp (g := (mkF m 491 Lb365 [(.ref b57), (.ref b57)])) X404 hx rfl rfl rfl (pc0 := 491) (pc' := 494) (same := true) rfl (hb hby at_491) rfl (decide_eq_true rfl) (by decide) (by decide) ?_
      refine sc X404 hx hby at_494 ?_
      refine sg (pc := 495) (pc' := 499) X404 hx hby at_495 (by decide) (by decide) ?_
      refine XS.istore X404.here hx rfl (hb hby at_499) rfl (l' := Lb365) rfl ?_
      show Steps p.tables e below (T404.setTop (mkF m 501 Lb365 [])) _
      refine si X404 hx hby at_501 rfl ?_
      exact retN X404 hx (t := .boolean) Bd.returns (by simp) (hb hby at_503) hr
    · show Q0 n0 _ T404.heap _
      rw [e404]
      exact ⟨rfl, N396⟩
  ·
   rw [hs79] at pre78
   let Lb405 : Array Slot := #[.val (.long p0), .second, .val (.long p1), .second, .val (.int p2), .val (.int p3), .val (.int (2 : Int32)), .val (.int ((p3 &&& (2147483647 : Int32)) % (3 : Int32))), .val (.long (p1 &&& (9223372036854775807 : Int64))), .second, .val (.ref b4), .val (.ref b9), .val (.ref b14), .val (.ref b36), .val (.ref b57), .unset, .unset, .unset, .unset, .unset]
   have ne406 : b9 ≠ b14 := (Nat.ne_of_lt (Nat.lt_of_lt_of_le (Nat.lt_of_lt_of_le A9.lt K11.1) (Nat.le_of_eq g14.symm)))
   have ne407 : b9 ≠ b36 := (Nat.ne_of_lt (Nat.lt_of_lt_of_le (Nat.lt_of_lt_of_le (Nat.lt_of_lt_of_le (Nat.lt_of_lt_of_le (Nat.lt_of_lt_of_le (Nat.lt_of_lt_of_le A9.lt K11.1) E14.1) K16.1) K18.1) K33.1) (Nat.le_of_eq g36.symm)))
   have ne408 : b9 ≠ b57 := (Nat.ne_of_lt (Nat.lt_of_lt_of_le (Nat.lt_of_lt_of_le (Nat.lt_of_lt_of_le (Nat.lt_of_lt_of_le (Nat.lt_of_lt_of_le (Nat.lt_of_lt_of_le (Nat.lt_of_lt_of_le (Nat.lt_of_lt_of_le (Nat.lt_of_lt_of_le (Nat.lt_of_lt_of_le A9.lt K11.1) E14.1) K16.1) K18.1) K33.1) E36.1) K38.1) K40.1) K54.1) (Nat.le_of_eq g57.symm)))
   have t409 := (own_fld (own_fld (own_fld ((own_fld (own_fld (own_fld ((own_fld (own_fld (own_fld ((own_fld i9_106 K11 (own_nls (sn61 hw) (own_nls (sn60 hw) own_nl0))).ext E14) K16 own_nl0) K18 own_nl0) K33 (own_nlb ne406 (own_nlb ne406 (own_nlb ne406 (own_nlb ne406 (own_nlb ne406 (own_nlb ne406 (own_nlb ne406 (own_nlb ne406 own_nl0))))))))).ext E36) K38 own_nl0) K40 own_nl0) K54 (own_nlb ne407 (own_nlb ne407 (own_nlb ne407 (own_nlb ne407 (own_nlb ne407 (own_nlb ne407 (own_nlb ne407 (own_nlb ne407 own_nl0))))))))).ext E57) K59 own_nl0) K61 own_nl0) K75 (own_nlb ne408 (own_nlb ne408 (own_nlb ne408 (own_nlb ne408 (own_nlb ne408 (own_nlb ne408 (own_nlb ne408 (own_nlb ne408 own_nl0)))))))))
   have t410 := (own_fld (own_fld (own_fld ((own_fld (own_fld (own_fld ((own_fld (own_fld (own_fld (r11_0.ext E14) K16 own_nl0) K18 own_nl0) K33 (own_nlb ne406 (own_nlb ne406 (own_nlb ne406 (own_nlb ne406 (own_nlb ne406 (own_nlb ne406 (own_nlb ne406 (own_nlb ne406 own_nl0))))))))).ext E36) K38 own_nl0) K40 own_nl0) K54 (own_nlb ne407 (own_nlb ne407 (own_nlb ne407 (own_nlb ne407 (own_nlb ne407 (own_nlb ne407 (own_nlb ne407 (own_nlb ne407 own_nl0))))))))).ext E57) K59 own_nl0) K61 own_nl0) K75 (own_nlb ne408 (own_nlb ne408 (own_nlb ne408 (own_nlb ne408 (own_nlb ne408 (own_nlb ne408 (own_nlb ne408 (own_nlb ne408 own_nl0)))))))))
   have t411 := (own_exa (own_exa (own_exa ((own_exa (own_exa (own_exa ((own_exa (own_exa (own_exa ((own_exa A9 K11).ext E14) K16) K18) K33).ext E36) K38) K40) K54).ext E57) K59) K61) K75)
   have ne412 : b14 ≠ b36 := (Nat.ne_of_lt (Nat.lt_of_lt_of_le (Nat.lt_of_lt_of_le t20.lt K33.1) (Nat.le_of_eq g36.symm)))
   have ne413 : b14 ≠ b57 := (Nat.ne_of_lt (Nat.lt_of_lt_of_le (Nat.lt_of_lt_of_le (Nat.lt_of_lt_of_le (Nat.lt_of_lt_of_le (Nat.lt_of_lt_of_le (Nat.lt_of_lt_of_le t20.lt K33.1) E36.1) K38.1) K40.1) K54.1) (Nat.le_of_eq g57.symm)))
   have t414 := (own_fld (own_fld (own_fld ((own_fld (own_fld (own_fld (r33_4.ext E36) K38 own_nl0) K40 own_nl0) K54 (own_nlb ne412 (own_nlb ne412 (own_nlb ne412 (own_nlb ne412 (own_nlb ne412 (own_nlb ne412 (own_nlb ne412 (own_nlb ne412 own_nl0))))))))).ext E57) K59 own_nl0) K61 own_nl0) K75 (own_nlb ne413 (own_nlb ne413 (own_nlb ne413 (own_nlb ne413 (own_nlb ne413 (own_nlb ne413 (own_nlb ne413 (own_nlb ne413 own_nl0)))))))))
   have t415 := (own_exa t71 K75)
   have t416 := (own_fld t72 K75 (own_nlb ne74 (own_nlb ne74 (own_nlb ne74 (own_nlb ne74 (own_nlb ne74 (own_nlb ne74 (own_nlb ne74 (own_nlb ne74 own_nl0)))))))))
   have t417 := (own_exa (own_exa (own_exa ((own_exa (own_exa (own_exa ((own_exa t20 K33).ext E36) K38) K40) K54).ext E57) K59) K61) K75)
   have t418 := (own_fld (own_fld (own_fld ((own_fld (own_fld (own_fld (r33_5.ext E36) K38 own_nl0) K40 own_nl0) K54 (own_nlb ne412 (own_nlb ne412 (own_nlb ne412 (own_nlb ne412 (own_nlb ne412 (own_nlb ne412 (own_nlb ne412 (own_nlb ne412 own_nl0))))))))).ext E57) K59 own_nl0) K61 own_nl0) K75 (own_nlb ne413 (own_nlb ne413 (own_nlb ne413 (own_nlb ne413 (own_nlb ne413 (own_nlb ne413 (own_nlb ne413 (own_nlb ne413 own_nl0)))))))))
   have t419 := (own_fld (own_fld (own_fld ((own_fld (own_fld (own_fld (r33_6.ext E36) K38 own_nl0) K40 own_nl0) K54 (own_nlb ne412 (own_nlb ne412 (own_nlb ne412 (own_nlb ne412 (own_nlb ne412 (own_nlb ne412 (own_nlb ne412 (own_nlb ne412 own_nl0))))))))).ext E57) K59 own_nl0) K61 own_nl0) K75 (own_nlb ne413 (own_nlb ne413 (own_nlb ne413 (own_nlb ne413 (own_nlb ne413 (own_nlb ne413 (own_nlb ne413 (own_nlb ne413 own_nl0)))))))))
   have t420 := (own_fld (own_fld (own_fld ((own_fld (own_fld (own_fld ((own_fld (own_fld (own_fld ((own_fld (r6_1.ext E9) K11 (own_nlb ne29 (own_nlb ne29 own_nl0))).ext E14) K16 own_nl0) K18 own_nl0) K33 (own_nlb ne32 (own_nlb ne32 (own_nlb ne32 (own_nlb ne32 (own_nlb ne32 (own_nlb ne32 (own_nlb ne32 (own_nlb ne32 own_nl0))))))))).ext E36) K38 own_nl0) K40 own_nl0) K54 (own_nlb ne53 (own_nlb ne53 (own_nlb ne53 (own_nlb ne53 (own_nlb ne53 (own_nlb ne53 (own_nlb ne53 (own_nlb ne53 own_nl0))))))))).ext E57) K59 own_nl0) K61 own_nl0) K75 (own_nlb ne74 (own_nlb ne74 (own_nlb ne74 (own_nlb ne74 (own_nlb ne74 (own_nlb ne74 (own_nlb ne74 (own_nlb ne74 own_nl0)))))))))
   have t421 := (own_fld (own_fld (own_fld ((own_fld (own_fld (own_fld (r33_0.ext E36) K38 own_nl0) K40 own_nl0) K54 (own_nlb ne412 (own_nlb ne412 (own_nlb ne412 (own_nlb ne412 (own_nlb ne412 (own_nlb ne412 (own_nlb ne412 (own_nlb ne412 own_nl0))))))))).ext E57) K59 own_nl0) K61 own_nl0) K75 (own_nlb ne413 (own_nlb ne413 (own_nlb ne413 (own_nlb ne413 (own_nlb ne413 (own_nlb ne413 (own_nlb ne413 (own_nlb ne413 own_nl0)))))))))
   have t422 := (own_fld (own_fld (own_fld ((own_fld (own_fld (own_fld ((own_fld (own_fld (own_fld (r11_2.ext E14) K16 own_nl0) K18 own_nl0) K33 (own_nlb ne406 (own_nlb ne406 (own_nlb ne406 (own_nlb ne406 (own_nlb ne406 (own_nlb ne406 (own_nlb ne406 (own_nlb ne406 own_nl0))))))))).ext E36) K38 own_nl0) K40 own_nl0) K54 (own_nlb ne407 (own_nlb ne407 (own_nlb ne407 (own_nlb ne407 (own_nlb ne407 (own_nlb ne407 (own_nlb ne407 (own_nlb ne407 own_nl0))))))))).ext E57) K59 own_nl0) K61 own_nl0) K75 (own_nlb ne408 (own_nlb ne408 (own_nlb ne408 (own_nlb ne408 (own_nlb ne408 (own_nlb ne408 (own_nlb ne408 (own_nlb ne408 own_nl0)))))))))
   have ne423 : b11_0 ≠ b14 := (Nat.ne_of_lt (Nat.lt_of_lt_of_le r11_1.lt (Nat.le_of_eq g14.symm)))
   have ne424 : b11_0 ≠ b36 := (Nat.ne_of_lt (Nat.lt_of_lt_of_le (Nat.lt_of_lt_of_le (Nat.lt_of_lt_of_le (Nat.lt_of_lt_of_le (Nat.lt_of_lt_of_le r11_1.lt E14.1) K16.1) K18.1) K33.1) (Nat.le_of_eq g36.symm)))
   have ne425 : b11_0 ≠ b57 := (Nat.ne_of_lt (Nat.lt_of_lt_of_le (Nat.lt_of_lt_of_le (Nat.lt_of_lt_of_le (Nat.lt_of_lt_of_le (Nat.lt_of_lt_of_le (Nat.lt_of_lt_of_le (Nat.lt_of_lt_of_le (Nat.lt_of_lt_of_le (Nat.lt_of_lt_of_le r11_1.lt E14.1) K16.1) K18.1) K33.1) E36.1) K38.1) K40.1) K54.1) (Nat.le_of_eq g57.symm)))
   have t426 := (own_arv (own_arv (own_arv ((own_arv (own_arv (own_arv ((own_arv (own_arv (own_arv (r11_1.ext E14) K16 own_nb0) K18 own_nb0) K33 (own_nbc (Ne.symm ne423) (own_nbc (Ne.symm ne423) (own_nbc (Ne.symm ne423) (own_nbc (Ne.symm ne423) (own_nbc (Ne.symm ne423) (own_nbc (Ne.symm ne423) (own_nbc (Ne.symm ne423) (own_nbc (Ne.symm ne423) own_nb0))))))))).ext E36) K38 own_nb0) K40 own_nb0) K54 (own_nbc (Ne.symm ne424) (own_nbc (Ne.symm ne424) (own_nbc (Ne.symm ne424) (own_nbc (Ne.symm ne424) (own_nbc (Ne.symm ne424) (own_nbc (Ne.symm ne424) (own_nbc (Ne.symm ne424) (own_nbc (Ne.symm ne424) own_nb0))))))))).ext E57) K59 own_nb0) K61 own_nb0) K75 (own_nbc (Ne.symm ne425) (own_nbc (Ne.symm ne425) (own_nbc (Ne.symm ne425) (own_nbc (Ne.symm ne425) (own_nbc (Ne.symm ne425) (own_nbc (Ne.symm ne425) (own_nbc (Ne.symm ne425) (own_nbc (Ne.symm ne425) own_nb0)))))))))
   have t427 := (own_fld (own_fld (own_fld ((own_fld (own_fld (own_fld ((own_fld (own_fld (own_fld i14_108 K16 own_nl0) K18 own_nl0) K33 (own_nls (sn69 hw) (own_nls (sn68 hw) (own_nls (sn67 hw) (own_nls (sn66 hw) (own_nls (sn65 hw) (own_nls (sn64 hw) (own_nls (sn63 hw) (own_nls (sn62 hw) own_nl0))))))))).ext E36) K38 own_nl0) K40 own_nl0) K54 (own_nlb ne412 (own_nlb ne412 (own_nlb ne412 (own_nlb ne412 (own_nlb ne412 (own_nlb ne412 (own_nlb ne412 (own_nlb ne412 own_nl0))))))))).ext E57) K59 own_nl0) K61 own_nl0) K75 (own_nlb ne413 (own_nlb ne413 (own_nlb ne413 (own_nlb ne413 (own_nlb ne413 (own_nlb ne413 (own_nlb ne413 (own_nlb ne413 own_nl0)))))))))
   have t428 := (own_fld (own_fld (own_fld ((own_fld (own_fld (own_fld ((own_fld (own_fld (own_fld i14_110 K16 own_nl0) K18 own_nl0) K33 (own_nls (sn77 hw) (own_nls (sn76 hw) (own_nls (sn75 hw) (own_nls (sn74 hw) (own_nls (sn73 hw) (own_nls (sn72 hw) (own_nls (sn71 hw) (own_nls (sn70 hw) own_nl0))))))))).ext E36) K38 own_nl0) K40 own_nl0) K54 (own_nlb ne412 (own_nlb ne412 (own_nlb ne412 (own_nlb ne412 (own_nlb ne412 (own_nlb ne412 (own_nlb ne412 (own_nlb ne412 own_nl0))))))))).ext E57) K59 own_nl0) K61 own_nl0) K75 (own_nlb ne413 (own_nlb ne413 (own_nlb ne413 (own_nlb ne413 (own_nlb ne413 (own_nlb ne413 (own_nlb ne413 (own_nlb ne413 own_nl0)))))))))
   have ne429 : b9 ≠ b11_0 := (Nat.ne_of_lt (Nat.lt_of_lt_of_le A9.lt r11_3))
   obtain ⟨cq430, kq430, q430a, q430b, q430c⟩ := isOf hZ rfl t411
   obtain ⟨_, _, ⟨T430, L430, kk430, nn430⟩, -, X430, ⟨Lc430, hQ430, l430, y430, z430⟩, st430⟩ := X75.virtualBack hx (y := ym19) (z := ym19) hown (mvT hZ (wk111 hw)) (mvT hZ (wk112 hw)) (notFace_of_selects (args := #[]) (mvT hZ (wk114 hw))) (mvT hZ (wk114 hw)) (mvT hZ (wk113 hw)) (by decide) (backOf (W := 0) (rm13_23 l Z a0 hw w hW [] b9 b14 p0 b4 (p1 &&& (9223372036854775807 : Int64)) b11_0 k11_0 T75.heap n0 O76 t409 t410 t411 gg9 t414 (Ne.symm ne406) t415 t416 (own_lf1 _) ne29 t417 t418 t419 t420 (own_max _) t421 (own_S1 _ _) t422 t426 (own_S2 _ _) (own_S3 _ _) t427 t428 (Ne.symm ne429) gg14 ggb11_0 ne423 r11_4) hZ (wk115 hw) (wk36 hw) (by decide) (by decide)) q430a q430c (g := (mkF m 119 Lb405 [(.long p0), (.ref b14), (.ref b9)])) rfl (by rw [hml]; rfl) (Steps.refl _) (argsL := [(.ref b14), (.long p0)]) (rest := []) (lenOf pds_14 rfl) rfl (by show 2 * 0 + _ ≤ _; exact Nat.le_of_eq rfl) (hb hby at_119) (fun _ _ => ⟨rfl, rfl, (by decide : 10 + 0 ≤ _), (by decide : 513 + 0 ≤ _)⟩)
   dsimp only [Pt.U, Pt.locs, Pt.cells, Pt.slots] at X430 l430 y430 z430 st430 hQ430
   rw [l430, y430, z430] at X430
   obtain ⟨rfl, N430q, K430, r430_0, r430_1, r430_2, r430_3, r430_4, r430_5⟩ := hQ430
   have N430 := Fr.app N75 N430q
   have O431 := own_old O76 K430 (own_ngc gg9 (own_ngc gg14 (own_ngc gg14 (own_ngc ggb11_0 (own_ngc gg14 (own_ngc gg9 own_ng0))))))
   have ne432 : b36 ≠ b57 := (Nat.ne_of_lt (Nat.lt_of_lt_of_le (Nat.lt_of_lt_of_le t42.lt K54.1) (Nat.le_of_eq g57.symm)))
   have t433 := (own_fld (own_fld (own_fld (own_fld (r54_4.ext E57) K59 own_nl0) K61 own_nl0) K75 (own_nlb ne432 (own_nlb ne432 (own_nlb ne432 (own_nlb ne432 (own_nlb ne432 (own_nlb ne432 (own_nlb ne432 (own_nlb ne432 own_nl0))))))))) K430 (own_nlb (Ne.symm ne407) (own_nlb (Ne.symm ne412) (own_nlb (Ne.symm ne412) (own_nlb (Ne.symm ne424) (own_nlb (Ne.symm ne412) (own_nlb (Ne.symm ne407) own_nl0)))))))
   have t434 := (own_exa t415 K430)
   have ne435 : b4 ≠ b11_0 := (Nat.ne_of_lt (Nat.lt_of_lt_of_le (Nat.lt_of_lt_of_le (Nat.lt_of_lt_of_le A4.lt K6.1) E9.1) r11_3))
   have t436 := (own_fld t416 K430 (own_nlb ne29 (own_nlb ne32 (own_nlb ne32 (own_nlb ne435 (own_nlb ne32 (own_nlb ne29 own_nl0)))))))
   have t437 := (own_exa (own_exa (own_exa (own_exa ((own_exa t42 K54).ext E57) K59) K61) K75) K430)
   have t438 := (own_fld (own_fld (own_fld (own_fld (r54_5.ext E57) K59 own_nl0) K61 own_nl0) K75 (own_nlb ne432 (own_nlb ne432 (own_nlb ne432 (own_nlb ne432 (own_nlb ne432 (own_nlb ne432 (own_nlb ne432 (own_nlb ne432 own_nl0))))))))) K430 (own_nlb (Ne.symm ne407) (own_nlb (Ne.symm ne412) (own_nlb (Ne.symm ne412) (own_nlb (Ne.symm ne424) (own_nlb (Ne.symm ne412) (own_nlb (Ne.symm ne407) own_nl0)))))))
   have t439 := (own_fld (own_fld (own_fld (own_fld (r54_6.ext E57) K59 own_nl0) K61 own_nl0) K75 (own_nlb ne432 (own_nlb ne432 (own_nlb ne432 (own_nlb ne432 (own_nlb ne432 (own_nlb ne432 (own_nlb ne432 (own_nlb ne432 own_nl0))))))))) K430 (own_nlb (Ne.symm ne407) (own_nlb (Ne.symm ne412) (own_nlb (Ne.symm ne412) (own_nlb (Ne.symm ne424) (own_nlb (Ne.symm ne412) (own_nlb (Ne.symm ne407) own_nl0)))))))
   have t440 := (own_fld t420 K430 (own_nlb ne29 (own_nlb ne32 (own_nlb ne32 (own_nlb ne435 (own_nlb ne32 (own_nlb ne29 own_nl0)))))))
   have t441 := (own_exa t411 K430)
   have t442 := (own_fld (own_fld (own_fld (own_fld (r54_0.ext E57) K59 own_nl0) K61 own_nl0) K75 (own_nlb ne432 (own_nlb ne432 (own_nlb ne432 (own_nlb ne432 (own_nlb ne432 (own_nlb ne432 (own_nlb ne432 (own_nlb ne432 own_nl0))))))))) K430 (own_nlb (Ne.symm ne407) (own_nlb (Ne.symm ne412) (own_nlb (Ne.symm ne412) (own_nlb (Ne.symm ne424) (own_nlb (Ne.symm ne412) (own_nlb (Ne.symm ne407) own_nl0)))))))
   have t443 := (own_fld t422 K430 (own_nls (sn2 hw) (own_nlb ne406 (own_nlb ne406 (own_nlb ne429 (own_nlb ne406 (own_nls (sn83 hw) own_nl0)))))))
   have t444 := (own_fld (own_fld (own_fld (own_fld ((own_fld (own_fld (own_fld i36_108 K38 own_nl0) K40 own_nl0) K54 (own_nls (sn69 hw) (own_nls (sn68 hw) (own_nls (sn67 hw) (own_nls (sn66 hw) (own_nls (sn65 hw) (own_nls (sn64 hw) (own_nls (sn63 hw) (own_nls (sn62 hw) own_nl0))))))))).ext E57) K59 own_nl0) K61 own_nl0) K75 (own_nlb ne432 (own_nlb ne432 (own_nlb ne432 (own_nlb ne432 (own_nlb ne432 (own_nlb ne432 (own_nlb ne432 (own_nlb ne432 own_nl0))))))))) K430 (own_nlb (Ne.symm ne407) (own_nlb (Ne.symm ne412) (own_nlb (Ne.symm ne412) (own_nlb (Ne.symm ne424) (own_nlb (Ne.symm ne412) (own_nlb (Ne.symm ne407) own_nl0)))))))
   have t445 := (own_fld (own_fld (own_fld (own_fld ((own_fld (own_fld (own_fld i36_110 K38 own_nl0) K40 own_nl0) K54 (own_nls (sn77 hw) (own_nls (sn76 hw) (own_nls (sn75 hw) (own_nls (sn74 hw) (own_nls (sn73 hw) (own_nls (sn72 hw) (own_nls (sn71 hw) (own_nls (sn70 hw) own_nl0))))))))).ext E57) K59 own_nl0) K61 own_nl0) K75 (own_nlb ne432 (own_nlb ne432 (own_nlb ne432 (own_nlb ne432 (own_nlb ne432 (own_nlb ne432 (own_nlb ne432 (own_nlb ne432 own_nl0))))))))) K430 (own_nlb (Ne.symm ne407) (own_nlb (Ne.symm ne412) (own_nlb (Ne.symm ne412) (own_nlb (Ne.symm ne424) (own_nlb (Ne.symm ne412) (own_nlb (Ne.symm ne407) own_nl0)))))))
   have t446 := (own_exa t417 K430)
   obtain ⟨cq447, kq447, q447a, q447b, q447c⟩ := isOf hZ rfl t441
   obtain ⟨_, _, ⟨T447, L447, kk447, nn447⟩, -, X447, ⟨Lc447, hQ447, l447, y447, z447⟩, st447⟩ := X430.virtualBack hx (y := ym19) (z := ym19) hown (mvT hZ (wk111 hw)) (mvT hZ (wk112 hw)) (notFace_of_selects (args := #[]) (mvT hZ (wk114 hw))) (mvT hZ (wk114 hw)) (mvT hZ (wk113 hw)) (by decide) (backOf (W := 0) (rm13_29 l Z a0 hw w hW [] b9 b36 p0 b4 (p1 &&& (9223372036854775807 : Int64)) b11_0 k11_0 b14 T430.heap n0 O431 r430_0 t433 t434 t436 (own_lf1 _) t437 t438 t439 t440 (own_max _) r430_1 t441 t442 (own_S1 _ _) t443 r430_5 (own_S2 _ _) (own_S3 _ _) t444 t445 t446 r430_3 r11_4 gg36 ne412 gg14 ne407 ne406 ggb11_0 ne424 ne423 ne429 gg9) hZ (wk115 hw) (wk36 hw) (by decide) (by decide)) q447a q447c (g := (mkF m 133 Lb405 [(.long p0), (.ref b36), (.ref b9)])) rfl (by rw [hml]; rfl) (Steps.refl _) (argsL := [(.ref b36), (.long p0)]) (rest := []) (lenOf pds_14 rfl) rfl (by show 2 * 0 + _ ≤ _; exact Nat.le_of_eq rfl) (hb hby at_133) (fun _ _ => ⟨rfl, rfl, (by decide : 10 + 0 ≤ _), (by decide : 513 + 0 ≤ _)⟩)
   dsimp only [Pt.U, Pt.locs, Pt.cells, Pt.slots] at X447 l447 y447 z447 st447 hQ447
   rw [l447, y447, z447] at X447
   obtain ⟨rfl, N447q, K447, r447_0, r447_1, r447_2, r447_3, r447_4, r447_5⟩ := hQ447
   have N447 := Fr.app N430 N447q
   have O448 := own_old O431 K447 (own_ngc gg36 (own_ngc gg36 (own_ngc gg14 (own_ngc ggb11_0 (own_ngc gg36 (own_ngc gg9 own_ng0))))))
   have t449 := (own_fld r430_4 K447 (own_nlb ne412 (own_nlb ne412 (own_nls (sn79 hw) (own_nlb (Ne.symm ne423) (own_nlb ne412 (own_nlb (Ne.symm ne406) own_nl0)))))))
   obtain ⟨T450, X450, e450, st450⟩ := getF X447 hx hZ hown (host := "") (Or.inl (wk93 hw)) Via.refl rfl t449 (g := (mkF m 152 Lb405 [(.ref b14)])) rfl rfl (hb hby at_152)
   let Lb451 : Array Slot := #[.val (.long p0), .second, .val (.long p1), .second, .val (.int p2), .val (.int p3), .val (.int (2 : Int32)), .val (.int ((p3 &&& (2147483647 : Int32)) % (3 : Int32))), .val (.long (p1 &&& (9223372036854775807 : Int64))), .second, .val (.ref b4), .val (.ref b9), .val (.ref b14), .val (.ref b36), .val (.ref b57), .val (.int (ownS (ownEnd p0 (p1 &&& (9223372036854775807 : Int64))) p0)), .unset, .unset, .unset, .unset]
   have pre452 : ∀ t, Steps p.tables e below (T450.setTop (mkF m 159 #[.val (.long p0), .second, .val (.long p1), .second, .val (.int p2), .val (.int p3), .val (.int (2 : Int32)), .val (.int ((p3 &&& (2147483647 : Int32)) % (3 : Int32))), .val (.long (p1 &&& (9223372036854775807 : Int64))), .second, .val (.ref b4), .val (.ref b9), .val (.ref b14), .val (.ref b36), .val (.ref b57), .val (.int (ownS (ownEnd p0 (p1 &&& (9223372036854775807 : Int64))) p0)), .unset, .unset, .unset, .unset] [(.int ((p3 &&& (2147483647 : Int32)) % (3 : Int32)))])) t → Steps p.tables e below (s₁.setTop (entryFrame m #[(.long p0), (.long p1), (.int p2), (.int p3)] maxLocals)) t := fun t k => pre78 t (by
    show Steps p.tables e below (T75.setTop (mkF m 111 Lb405 [(.int (1 : Int32)), (.int (2 : Int32))])) _
    refine sn X75 hx hby at_111 (by decide) ?_
    refine sa X75 hx hby at_114 rfl rfl ?_
    refine sa X75 hx hby at_116 rfl rfl ?_
    refine sL X75 hx hby at_118 rfl ?_
    refine st430.trans ?_
    refine si X430 hx hby at_122 rfl ?_
    refine sc X430 hx hby at_124 ?_
    refine sn X430 hx hby at_125 (by decide) ?_
    refine sa X430 hx hby at_128 rfl rfl ?_
    refine sa X430 hx hby at_130 rfl rfl ?_
    show Steps p.tables e below (T430.setTop (mkF m 132 Lb405 [(.ref b36), (.ref b9)])) _
    refine sL X430 hx hby at_132 rfl ?_
    refine st447.trans ?_
    refine si X447 hx hby at_136 rfl ?_
    refine sc X447 hx hby at_138 ?_
    refine XS.icmpYes X447.here hx rfl (pc0 := 139) (pc' := 150) rfl (hb hby at_139) rfl (by decide) (by decide) (by decide) ?_
    refine sa X447 hx hby at_150 rfl rfl ?_
    refine st450 _ ?_
    refine XS.istore X450.here hx rfl (hb hby at_155) rfl (l' := Lb451) rfl ?_
    refine si X450 hx hby at_157 rfl ?_
    exact k)
   rcases (own_rem3 p3) with hs453 | hs453 | hs453
   ·
    rw [hs453] at pre452
    let Lb454 : Array Slot := #[.val (.long p0), .second, .val (.long p1), .second, .val (.int p2), .val (.int p3), .val (.int (2 : Int32)), .val (.int (0 : Int32)), .val (.long (p1 &&& (9223372036854775807 : Int64))), .second, .val (.ref b4), .val (.ref b9), .val (.ref b14), .val (.ref b36), .val (.ref b57), .val (.int (ownS (ownEnd p0 (p1 &&& (9223372036854775807 : Int64))) p0)), .unset, .unset, .unset, .unset]
    let Lb455 : Array Slot := #[.val (.long p0), .second, .val (.long p1), .second, .val (.int p2), .val (.int p3), .val (.int (2 : Int32)), .val (.int (0 : Int32)), .val (.long (p1 &&& (9223372036854775807 : Int64))), .second, .val (.ref b4), .val (.ref b9), .val (.ref b14), .val (.ref b36), .val (.ref b57), .val (.int (ownS (ownEnd p0 (p1 &&& (9223372036854775807 : Int64))) p0)), .val (.ref b14), .unset, .unset, .unset]
    obtain ⟨T456, h456, k456, X456, e456, E456, A456, Ov456, st456⟩ := newR X450 hx hZ hown (wk48 hw) (wk45 hw) e450 (g := (mkF m 183 Lb455 [(.int (3 : Int32))])) rfl (hb hby at_183) rfl (by decide) (cap := 3) (by decide) (by decide) (by decide) (by decide)
    obtain ⟨b456, g456⟩ : ∃ z, z = T447.heap.size := ⟨_, rfl⟩
    rw [← g456] at A456 st456
    have gg456 : n0 ≤ b456 := by rw [← O448.1, g456]; exact O448.2.1
    have O457 := O448.ext E456
    have V456 : Arv Z h456 b456 k456 (.object cs0) (3 : Int32) [.null, .null, .null] .null := own_pad (dv := .null) (Arv.new A456 (by decide)) 3 _ rfl
    let Lb458 : Array Slot := #[.val (.long p0), .second, .val (.long p1), .second, .val (.int p2), .val (.int p3), .val (.int (2 : Int32)), .val (.int (0 : Int32)), .val (.long (p1 &&& (9223372036854775807 : Int64))), .second, .val (.ref b4), .val (.ref b9), .val (.ref b14), .val (.ref b36), .val (.ref b57), .val (.int (ownS (ownEnd p0 (p1 &&& (9223372036854775807 : Int64))) p0)), .val (.ref b14), .val (.ref b456), .unset, .unset]
    let Lb459 : Array Slot := #[.val (.long p0), .second, .val (.long p1), .second, .val (.int p2), .val (.int p3), .val (.int (2 : Int32)), .val (.int (0 : Int32)), .val (.long (p1 &&& (9223372036854775807 : Int64))), .second, .val (.ref b4), .val (.ref b9), .val (.ref b14), .val (.ref b36), .val (.ref b57), .val (.int (ownS (ownEnd p0 (p1 &&& (9223372036854775807 : Int64))) p0)), .val (.ref b14), .val (.ref b456), .val (.int (0 : Int32)), .unset]
    obtain ⟨cl460, Ar460, cw460, S460, Nn460, Hs460, G460⟩ := id (V456)
    have hin460 : ¬ ((0 : Int32) < 0 ∨ cl460.slots.size ≤ ((0 : Int32)).toNatClampNeg) := inb_of S460 ⟨by decide, by decide⟩
    have t461 := ((own_exa t437 K447).ext E456)
    obtain ⟨T460, h460, X460, e460, W460, st460⟩ := stR X456 hx hZ e456 Ar460 (j := (0 : Int32)) hin460 rfl (Sto.ofV Ar460 cw460 Ov456 (Ins.self t461)) (g := (mkF m 231 Lb459 [(.ref b36), (.int (0 : Int32)), (.ref b456)])) rfl rfl (hb hby at_231)
    have V460 : Arv Z h460 b456 k456 (.object cs0) (3 : Int32) [(.ref b36), .null, .null] .null := own_set Ar460 cw460 S460 Nn460 Hs460 G460 rfl W460 0 rfl (Nat.le_of_ble_eq_true rfl) (.ref b36) rfl _ rfl
    have N460 := Fr.snoc X460 N447 gg456
    have O462 := O457.wr W460 gg456
    let Lb463 : Array Slot := #[.val (.long p0), .second, .val (.long p1), .second, .val (.int p2), .val (.int p3), .val (.int (2 : Int32)), .val (.int (0 : Int32)), .val (.long (p1 &&& (9223372036854775807 : Int64))), .second, .val (.ref b4), .val (.ref b9), .val (.ref b14), .val (.ref b36), .val (.ref b57), .val (.int (ownS (ownEnd p0 (p1 &&& (9223372036854775807 : Int64))) p0)), .val (.ref b14), .val (.ref b456), .val (.int (1 : Int32)), .unset]
    have ne464 : b14 ≠ b456 := (Nat.ne_of_lt (Nat.lt_of_lt_of_le (Nat.lt_of_lt_of_le t446.lt K447.1) (Nat.le_of_eq g456.symm)))
    have t465 := ((t449.ext E456).other W460 (Or.inl ne464))
    have t466 := ((r447_5.ext E456).other W460 (Or.inl ne464))
    have t467 := (((own_fld r430_2 K447 (own_nlb ne412 (own_nlb ne412 (own_nls (sn78 hw) (own_nlb (Ne.symm ne423) (own_nlb ne412 (own_nlb (Ne.symm ne406) own_nl0))))))).ext E456).other W460 (Or.inl ne464))
    have t468 := (t461.wr W460)
    have ne469 : b36 ≠ b456 := (Nat.ne_of_lt (Nat.lt_of_lt_of_le (Nat.lt_of_lt_of_le t437.lt K447.1) (Nat.le_of_eq g456.symm)))
    have t470 := ((r447_4.ext E456).other W460 (Or.inl ne469))
    have t471 := (((own_exa t446 K447).ext E456).wr W460)
    have ne472 : b9 ≠ b456 := (Nat.ne_of_lt (Nat.lt_of_lt_of_le (Nat.lt_of_lt_of_le t441.lt K447.1) (Nat.le_of_eq g456.symm)))
    have t473 := ((r447_0.ext E456).other W460 (Or.inl ne472))
    have t474 := (((own_exa t441 K447).ext E456).wr W460)
    obtain ⟨cq475, kq475, q475a, q475b, q475c⟩ := isOf hZ e460 t474
    obtain ⟨_, _, ⟨T475, L475, kk475, nn475⟩, -, X475, ⟨Lc475, hQ475, l475, y475, z475⟩, st475⟩ := X460.virtualBack hx (y := ym9) (z := ym9) hown (mvT hZ (wk94 hw)) (mvT hZ (wk95 hw)) (notFace_of_selects (args := #[]) (mvT hZ (wk97 hw))) (mvT hZ (wk97 hw)) (mvT hZ (wk96 hw)) (by decide) (backOf (W := 0) (rm11_30 l Z a0 hw w hW [] b9 b14 (ownS (ownEnd p0 (p1 &&& (9223372036854775807 : Int64))) p0) b36 h460 n0 O462 t465 (own_S1 _ _) t466 t467 t468 t470 gg36 ne412 t471 gg14 t473 ne407 ne406 t474 gg9) hZ (wk98 hw) (wk36 hw) (by decide) (by decide)) q475a q475c (g := (mkF m 260 Lb463 [(.ref b14), (.ref b9)])) rfl (by rw [hml]; rfl) (Steps.refl _) (argsL := [(.ref b14)]) (rest := []) (lenOf pds_8 rfl) rfl (by show 2 * 0 + _ ≤ _; exact Nat.le_of_eq rfl) (hb hby at_260) (fun _ _ => ⟨rfl, e460, (by decide : 11 + 0 ≤ _), (by decide : 516 + 0 ≤ _)⟩)
    dsimp only [Pt.U, Pt.locs, Pt.cells, Pt.slots] at X475 l475 y475 z475 st475 hQ475
    rw [l475, y475, z475] at X475
    obtain ⟨rfl, N475q, K475, r475_0, r475_1, r475_2, r475_3, r475_4⟩ := hQ475
    have N475 := Fr.app N460 N475q
    have O476 := own_old O462 K475 (own_ngc gg36 (own_ngc gg14 (own_ngc gg14 (own_ngc gg14 (own_ngc gg9 own_ng0)))))
    have t478 := (own_exa t474 K475)
    obtain ⟨cq477, kq477, q477a, q477b, q477c⟩ := isOf hZ rfl t478
    obtain ⟨_, _, ⟨T477, L477, kk477, nn477⟩, -, X477, ⟨Lc477, hQ477, l477, y477, z477⟩, st477⟩ := X475.virtualBack hx (y := ym10) (z := ym10) hown (mvT hZ (wk100 hw)) (mvT hZ (wk101 hw)) (notFace_of_selects (args := #[]) (mvT hZ (wk103 hw))) (mvT hZ (wk103 hw)) (mvT hZ (wk102 hw)) (by decide) (backOf (W := 0) (rm12_27 l Z a0 hw w hW [] b9 T475.heap n0 O476 r475_4) hZ (wk104 hw) (wk36 hw) (by decide) (by decide)) q477a q477c (g := (mkF m 265 Lb463 [(.ref b9)])) rfl (by rw [hml]; rfl) (Steps.refl _) (argsL := []) (rest := []) (lenOf pds_9 rfl) rfl (by show 2 * 0 + _ ≤ _; exact Nat.le_of_eq rfl) (hb hby at_265) (fun _ _ => ⟨rfl, rfl, (by decide : 11 + 0 ≤ _), (by decide : 516 + 0 ≤ _)⟩)
    dsimp only [Pt.U, Pt.locs, Pt.cells, Pt.slots] at X477 l477 y477 z477 st477 hQ477
    rw [l477, y477, z477] at X477
    obtain ⟨rfl, N477q, e477⟩ := hQ477
    have N477 := Fr.app N475 N477q
    let Lb479 : Array Slot := #[.val (.long p0), .second, .val (.long p1), .second, .val (.int p2), .val (.int p3), .val (.int (2 : Int32)), .val (.int (0 : Int32)), .val (.long (p1 &&& (9223372036854775807 : Int64))), .second, .val (.ref b4), .val (.ref b9), .val (.ref b14), .val (.ref b36), .val (.ref b57), .val (.int (ownS (ownEnd p0 (p1 &&& (9223372036854775807 : Int64))) p0)), .val (.ref b14), .val (.ref b456), .val (.int (1 : Int32)), .val (.int (1 : Int32))]
    obtain ⟨T480, X480, e480, st480⟩ := getF X477 hx hZ hown (host := "") (Or.inl (wk93 hw)) Via.refl e477 r475_0 (g := (mkF m 289 Lb479 [(.ref b14)])) rfl rfl (hb hby at_289)
    obtain ⟨T481, X481, e481, st481⟩ := getF X480 hx hZ hown (host := "") (Or.inl (wk107 hw)) Via.refl e480 r475_1 (g := (mkF m 298 Lb479 [(.ref b14)])) rfl rfl (hb hby at_298)
    obtain ⟨T482, X482, e482, st482⟩ := getF X481 hx hZ hown (host := "") (Or.inl (wk109 hw)) Via.refl e481 r475_2 (g := (mkF m 306 Lb479 [(.ref b14)])) rfl rfl (hb hby at_306)
    have t483 := (own_arv V460 K475 (own_nbc ne469 (own_nbc ne464 (own_nbc ne464 (own_nbc ne464 (own_nbc ne472 own_nb0))))))
    obtain ⟨cl484, Ar484, cw484, S484, Nn484, Hs484, G484⟩ := id (t483)
    have hin484 : ¬ ((0 : Int32) < 0 ∨ cl484.slots.size ≤ ((0 : Int32)).toNatClampNeg) := inb_of S484 ⟨by decide, by decide⟩
    have t485 := (own_fld ((r447_3.ext E456).other W460 (Or.inl ne469)) K475 (own_nls (sn81 hw) (own_nlb (Ne.symm ne412) (own_nlb (Ne.symm ne412) (own_nlb (Ne.symm ne412) (own_nlb (Ne.symm ne407) own_nl0))))))
    obtain ⟨T486, X486, e486, st486⟩ := getF X482 hx hZ hown (host := "") (Or.inl (wk107 hw)) Via.refl e482 t485 (g := (mkF m 334 Lb479 [(.ref b36)])) rfl rfl (hb hby at_334)
    obtain ⟨cl487, Ar487, cw487, S487, Nn487, Hs487, G487⟩ := id (t483)
    have hin487 : ¬ ((0 : Int32) < 0 ∨ cl487.slots.size ≤ ((0 : Int32)).toNatClampNeg) := inb_of S487 ⟨by decide, by decide⟩
    obtain ⟨T488, X488, e488, st488⟩ := getF X486 hx hZ hown (host := "") (Or.inl (wk109 hw)) Via.refl e486 r475_3 (g := (mkF m 344 Lb479 [(.ref b36)])) rfl rfl (hb hby at_344)
    obtain ⟨cl489, Ar489, cw489, S489, Nn489, Hs489, G489⟩ := id (t483)
    have hin489 : ¬ ((1 : Int32) < 0 ∨ cl489.slots.size ≤ ((1 : Int32)).toNatClampNeg) := inb_of S489 ⟨by decide, by decide⟩
    obtain ⟨cl490, Ar490, cw490, S490, Nn490, Hs490, G490⟩ := id (t483)
    have hin490 : ¬ ((0 : Int32) < 0 ∨ cl490.slots.size ≤ ((0 : Int32)).toNatClampNeg) := inb_of S490 ⟨by decide, by decide⟩
    have t491 := (own_fld ((r447_1.ext E456).other W460 (Or.inl ne469)) K475 (own_nls (sn80 hw) (own_nlb (Ne.symm ne412) (own_nlb (Ne.symm ne412) (own_nlb (Ne.symm ne412) (own_nlb (Ne.symm ne407) own_nl0))))))
    obtain ⟨T492, X492, e492, st492⟩ := getF X488 hx hZ hown (host := "") (Or.inl (wk93 hw)) Via.refl e488 t491 (g := (mkF m 358 Lb479 [(.ref b36)])) rfl rfl (hb hby at_358)
    have t493 := (own_fld (((own_fld (own_fld t414 K430 (own_nlb (Ne.symm ne406) (own_nls (sn85 hw) (own_nls (sn84 hw) (own_nlb (Ne.symm ne423) (own_nls (sn30 hw) (own_nlb (Ne.symm ne406) own_nl0))))))) K447 (own_nlb ne412 (own_nlb ne412 (own_nls (sn85 hw) (own_nlb (Ne.symm ne423) (own_nlb ne412 (own_nlb (Ne.symm ne406) own_nl0))))))).ext E456).other W460 (Or.inl ne464)) K475 (own_nlb ne412 (own_nls (sn85 hw) (own_nls (sn84 hw) (own_nls (sn30 hw) (own_nlb (Ne.symm ne406) own_nl0))))))
    have t494 := (own_exa (((own_exa t434 K447).ext E456).wr W460) K475)
    have ne495 : b4 ≠ b456 := (Nat.ne_of_lt (Nat.lt_of_lt_of_le (Nat.lt_of_lt_of_le t434.lt K447.1) (Nat.le_of_eq g456.symm)))
    have t496 := (own_fld (((own_fld t436 K447 (own_nlb ne53 (own_nlb ne53 (own_nlb ne32 (own_nlb ne435 (own_nlb ne53 (own_nlb ne29 own_nl0))))))).ext E456).other W460 (Or.inl ne495)) K475 (own_nlb ne53 (own_nlb ne32 (own_nlb ne32 (own_nlb ne32 (own_nlb ne29 own_nl0))))))
    have t497 := (own_exa t471 K475)
    have t498 := (own_fld (((own_fld (own_fld t418 K430 (own_nlb (Ne.symm ne406) (own_nls (sn87 hw) (own_nls (sn86 hw) (own_nlb (Ne.symm ne423) (own_nls (sn33 hw) (own_nlb (Ne.symm ne406) own_nl0))))))) K447 (own_nlb ne412 (own_nlb ne412 (own_nls (sn87 hw) (own_nlb (Ne.symm ne423) (own_nlb ne412 (own_nlb (Ne.symm ne406) own_nl0))))))).ext E456).other W460 (Or.inl ne464)) K475 (own_nlb ne412 (own_nls (sn87 hw) (own_nls (sn86 hw) (own_nls (sn33 hw) (own_nlb (Ne.symm ne406) own_nl0))))))
    have t499 := (own_fld (((own_fld (own_fld t419 K430 (own_nlb (Ne.symm ne406) (own_nls (sn89 hw) (own_nls (sn88 hw) (own_nlb (Ne.symm ne423) (own_nls (sn36 hw) (own_nlb (Ne.symm ne406) own_nl0))))))) K447 (own_nlb ne412 (own_nlb ne412 (own_nls (sn89 hw) (own_nlb (Ne.symm ne423) (own_nlb ne412 (own_nlb (Ne.symm ne406) own_nl0))))))).ext E456).other W460 (Or.inl ne464)) K475 (own_nlb ne412 (own_nls (sn89 hw) (own_nls (sn88 hw) (own_nls (sn36 hw) (own_nlb (Ne.symm ne406) own_nl0))))))
    have t500 := (own_fld (((own_fld t440 K447 (own_nlb ne53 (own_nlb ne53 (own_nlb ne32 (own_nlb ne435 (own_nlb ne53 (own_nlb ne29 own_nl0))))))).ext E456).other W460 (Or.inl ne495)) K475 (own_nlb ne53 (own_nlb ne32 (own_nlb ne32 (own_nlb ne32 (own_nlb ne29 own_nl0))))))
    have t501 := (own_fld (((own_fld r430_1 K447 (own_nlb ne407 (own_nlb ne407 (own_nlb ne406 (own_nlb ne429 (own_nlb ne407 (own_nls (sn82 hw) own_nl0))))))).ext E456).other W460 (Or.inl ne472)) K475 (own_nlb ne407 (own_nlb ne406 (own_nlb ne406 (own_nlb ne406 (own_nls (sn82 hw) own_nl0))))))
    have t502 := (own_fld (((own_fld t443 K447 (own_nlb ne407 (own_nlb ne407 (own_nlb ne406 (own_nlb ne429 (own_nlb ne407 (own_nls (sn83 hw) own_nl0))))))).ext E456).other W460 (Or.inl ne472)) K475 (own_nlb ne407 (own_nlb ne406 (own_nlb ne406 (own_nlb ne406 (own_nls (sn83 hw) own_nl0))))))
    have ne503 : b11_0 ≠ b456 := (Nat.ne_of_lt (Nat.lt_of_lt_of_le r447_2.lt (Nat.le_of_eq g456.symm)))
    have t504 := (own_gk_kl (own_gk_oth (own_gk_ext r447_2 E456) W460 ne503) K475 (own_nbc (Ne.symm ne424) (own_nbc (Ne.symm ne423) (own_nbc (Ne.symm ne423) (own_nbc (Ne.symm ne423) (own_nbc ne429 own_nb0))))))
    have t505 := (own_exa t468 K475)
    obtain ⟨cq506, kq506, q506a, q506b, q506c⟩ := isOf hZ e492 t478
    obtain ⟨_, _, ⟨T506, L506, kk506, nn506⟩, -, X506, ⟨Lc506, hQ506, l506, y506, z506⟩, st506⟩ := X492.virtualBack hx (y := ym19) (z := ym19) hown (mvT hZ (wk111 hw)) (mvT hZ (wk112 hw)) (notFace_of_selects (args := #[]) (mvT hZ (wk114 hw))) (mvT hZ (wk114 hw)) (mvT hZ (wk113 hw)) (by decide) (backOf (W := 0) (rm13_29 l Z a0 hw w hW [] b9 b14 p0 b4 (p1 &&& (9223372036854775807 : Int64)) b11_0 k11_0 b36 T475.heap n0 O476 r475_4 t493 t494 t496 (own_lf1 _) t497 t498 t499 t500 (own_max _) t501 t478 r475_0 (own_S1 _ _) t502 t504 (own_S2 _ _) (own_S3 _ _) r475_1 r475_2 t505 t485 r11_4 gg14 (Ne.symm ne412) gg36 ne406 ne407 ggb11_0 ne423 ne424 ne429 gg9) hZ (wk115 hw) (wk36 hw) (by decide) (by decide)) q506a q506c (g := (mkF m 436 Lb479 [(.long p0), (.ref b14), (.ref b9)])) rfl (by rw [hml]; rfl) (Steps.refl _) (argsL := [(.ref b14), (.long p0)]) (rest := []) (lenOf pds_14 rfl) rfl (by show 2 * 0 + _ ≤ _; exact Nat.le_of_eq rfl) (hb hby at_436) (fun _ _ => ⟨rfl, e492, (by decide : 11 + 0 ≤ _), (by decide : 516 + 0 ≤ _)⟩)
    dsimp only [Pt.U, Pt.locs, Pt.cells, Pt.slots] at X506 l506 y506 z506 st506 hQ506
    rw [l506, y506, z506] at X506
    obtain ⟨rfl, N506q, K506, r506_0, r506_1, r506_2, r506_3, r506_4, r506_5⟩ := hQ506
    have N506 := Fr.app N477 N506q
    have O507 := own_old O476 K506 (own_ngc gg14 (own_ngc gg14 (own_ngc gg36 (own_ngc ggb11_0 (own_ngc gg14 (own_ngc gg9 own_ng0))))))
    obtain ⟨T508, X508, e508, st508⟩ := getF X506 hx hZ hown (host := "") (Or.inl (wk109 hw)) Via.refl rfl r506_4 (g := (mkF m 446 Lb479 [(.ref b14)])) rfl rfl (hb hby at_446)
    have t509 := (own_arv t483 K506 (own_nbc ne464 (own_nbc ne464 (own_nbc ne469 (own_nbc ne503 (own_nbc ne464 (own_nbc ne472 own_nb0)))))))
    obtain ⟨cl510, Ar510, cw510, S510, Nn510, Hs510, G510⟩ := id (t509)
    have hin510 : ¬ ((0 : Int32) < 0 ∨ cl510.slots.size ≤ ((0 : Int32)).toNatClampNeg) := inb_of S510 ⟨by decide, by decide⟩
    obtain ⟨T511, X511, e511, st511⟩ := getF X508 hx hZ hown (host := "") (Or.inl (wk107 hw)) Via.refl e508 r506_3 (g := (mkF m 458 Lb479 [(.ref b14)])) rfl rfl (hb hby at_458)
    have pre512 : ∀ t, Steps p.tables e below (T511.setTop (mkF m 477 Lb479 [])) t → Steps p.tables e below (s₁.setTop (entryFrame m #[(.long p0), (.long p1), (.int p2), (.int p3)] maxLocals)) t := fun t k => pre452 t (by
     show Steps p.tables e below (T450.setTop (mkF m 159 Lb454 [(.int (0 : Int32))])) _
     refine sN X450 hx hby at_159 (by decide) ?_
     refine sa X450 hx hby at_162 rfl rfl ?_
     refine sg (pc := 164) (pc' := 180) X450 hx hby at_164 (by decide) (by decide) ?_
     refine XS.astore X450.here hx rfl (hb hby at_180) rfl rfl (l' := Lb455) rfl ?_
     refine sc X450 hx hby at_182 ?_
     show Steps p.tables e below (T450.setTop (mkF m 183 Lb455 [(.int (3 : Int32))])) _
     refine st456 _ ?_
     refine XS.astore X456.here hx rfl (hb hby at_186) rfl rfl (l' := Lb458) rfl ?_
     refine sc X456 hx hby at_188 ?_
     refine XS.istore X456.here hx rfl (hb hby at_189) rfl (l' := Lb459) rfl ?_
     refine si X456 hx hby at_191 rfl ?_
     refine sc X456 hx hby at_193 ?_
     show Steps p.tables e below (T456.setTop (mkF m 194 Lb459 [(.int (3 : Int32)), (.int (2 : Int32))])) _
     refine XS.icmpYes X456.here hx rfl (pc0 := 194) (pc' := 213) rfl (hb hby at_194) rfl (by decide) (by decide) (by decide) ?_
     refine si X456 hx hby at_213 rfl ?_
     refine sc X456 hx hby at_215 ?_
     refine sn X456 hx hby at_216 (by decide) ?_
     refine si X456 hx hby at_219 rfl ?_
     show Steps p.tables e below (T456.setTop (mkF m 221 Lb459 [(.int (0 : Int32))])) _
     refine sc X456 hx hby at_221 ?_
     refine sn X456 hx hby at_222 (by decide) ?_
     refine sa X456 hx hby at_225 rfl rfl ?_
     refine si X456 hx hby at_227 rfl ?_
     refine sa X456 hx hby at_229 rfl rfl ?_
     show Steps p.tables e below (T456.setTop (mkF m 231 Lb459 [(.ref b36), (.int (0 : Int32)), (.ref b456)])) _
     refine st460 _ ?_
     refine XS.iinc X460.here hx rfl (hb hby at_232) rfl (l' := Lb463) rfl ?_
     refine si X460 hx hby at_235 rfl ?_
     refine sc X460 hx hby at_237 ?_
     refine sn X460 hx hby at_238 (by decide) ?_
     refine si X460 hx hby at_241 rfl ?_
     show Steps p.tables e below (T460.setTop (mkF m 243 Lb463 [(.int (0 : Int32))])) _
     refine XS.ifYes X460.here hx rfl (pc0 := 243) (pc' := 256) rfl (hb hby at_243) rfl (by decide) (by decide) (by decide) ?_
     refine sa X460 hx hby at_256 rfl rfl ?_
     refine sa X460 hx hby at_258 rfl rfl ?_
     refine st475.trans ?_
     refine sa X475 hx hby at_263 rfl rfl ?_
     refine st477.trans ?_
     refine si X477 hx hby at_268 rfl ?_
     refine XS.i2l X477.here hx rfl (hb hby at_270) rfl ?_
     refine XS.lcmp X477.here hx rfl (hb hby at_271) rfl ?_
     refine sN X477 hx hby at_272 (by decide) ?_
     refine sc X477 hx hby at_275 ?_
     show Steps p.tables e below (T477.setTop (mkF m 276 Lb463 [(.int (1 : Int32))])) _
     refine sg (pc := 276) (pc' := 280) X477 hx hby at_276 (by decide) (by decide) ?_
     refine XS.istore X477.here hx rfl (hb hby at_280) rfl (l' := Lb479) rfl ?_
     refine si X477 hx hby at_282 rfl ?_
     refine sN X477 hx hby at_284 (by decide) ?_
     refine sa X477 hx hby at_287 rfl rfl ?_
     show Steps p.tables e below (T477.setTop (mkF m 289 Lb479 [(.ref b14)])) _
     refine st480 _ ?_
     refine sc X480 hx hby at_292 ?_
     refine sn X480 hx hby at_293 (by decide) ?_
     refine sa X480 hx hby at_296 rfl rfl ?_
     refine st481 _ ?_
     refine XS.ifnonnullNo X481.here hx rfl (hb hby at_301) rfl ?_
     refine sa X481 hx hby at_304 rfl rfl ?_
     refine st482 _ ?_
     refine XS.ifnonnullNo X482.here hx rfl (hb hby at_309) rfl ?_
     refine sc X482 hx hby at_312 ?_
     refine sg (pc := 313) (pc' := 317) X482 hx hby at_313 (by decide) (by decide) ?_
     refine XS.istore X482.here hx rfl (hb hby at_317) rfl (l' := Lb479) rfl ?_
     refine si X482 hx hby at_319 rfl ?_
     show Steps p.tables e below (T482.setTop (mkF m 321 Lb479 [(.int (1 : Int32))])) _
     refine sc X482 hx hby at_321 ?_
     refine sn X482 hx hby at_322 (by decide) ?_
     refine si X482 hx hby at_325 rfl ?_
     refine sN X482 hx hby at_327 (by decide) ?_
     refine sa X482 hx hby at_330 rfl rfl ?_
     show Steps p.tables e below (T482.setTop (mkF m 332 Lb479 [(.ref b456)])) _
     refine sc X482 hx hby at_332 ?_
     refine X482.aaload hx (j := (0 : Int32)) (v := (.ref b36)) (by rw [e482]; exact Ar484.1) (State.isArrayOf_alike hZ.alike Ar484.2.1) rfl Ar484.2.2 hin484 (Hs484.at hin484 rfl) (g := (mkF m 333 Lb479 [(.int (0 : Int32)), (.ref b456)])) rfl rfl (hb hby at_333) _ ?_
     refine st486 _ ?_
     refine XS.ifnonnullNo X486.here hx rfl (hb hby at_337) rfl ?_
     refine sa X486 hx hby at_340 rfl rfl ?_
     refine sc X486 hx hby at_342 ?_
     refine X486.aaload hx (j := (0 : Int32)) (v := (.ref b36)) (by rw [e486]; exact Ar487.1) (State.isArrayOf_alike hZ.alike Ar487.2.1) rfl Ar487.2.2 hin487 (Hs487.at hin487 rfl) (g := (mkF m 343 Lb479 [(.int (0 : Int32)), (.ref b456)])) rfl rfl (hb hby at_343) _ ?_
     refine st488 _ ?_
     refine sa X488 hx hby at_347 rfl rfl ?_
     refine sc X488 hx hby at_349 ?_
     refine X488.aaload hx (j := (1 : Int32)) (v := .null) (by rw [e488]; exact Ar489.1) (State.isArrayOf_alike hZ.alike Ar489.2.1) rfl Ar489.2.2 hin489 (Hs489.at hin489 rfl) (g := (mkF m 350 Lb479 [(.int (1 : Int32)), (.ref b456), .null])) rfl rfl (hb hby at_350) _ ?_
     refine Jvm.RoadKit.acmp (g := (mkF m 351 Lb479 [.null, .null])) X488 hx rfl rfl rfl (pc0 := 351) (pc' := 354) (same := true) rfl (hb hby at_351) rfl (decide_eq_true rfl) (by decide) (by decide) ?_
     refine sa X488 hx hby at_354 rfl rfl ?_
     show Steps p.tables e below (T488.setTop (mkF m 356 Lb479 [(.ref b456)])) _
     refine sc X488 hx hby at_356 ?_
     refine X488.aaload hx (j := (0 : Int32)) (v := (.ref b36)) (by rw [e488]; exact Ar490.1) (State.isArrayOf_alike hZ.alike Ar490.2.1) rfl Ar490.2.2 hin490 (Hs490.at hin490 rfl) (g := (mkF m 357 Lb479 [(.int (0 : Int32)), (.ref b456)])) rfl rfl (hb hby at_357) _ ?_
     refine st492 _ ?_
     refine si X492 hx hby at_361 rfl ?_
     refine sn X492 hx hby at_363 (teq (rfl : (ownS (ownEnd p0 (p1 &&& (9223372036854775807 : Int64))) p0) = (ownS (ownEnd p0 (p1 &&& (9223372036854775807 : Int64))) p0))).2 ?_
     refine sc X492 hx hby at_366 ?_
     refine sg (pc := 367) (pc' := 371) X492 hx hby at_367 (by decide) (by decide) ?_
     refine XS.istore X492.here hx rfl (hb hby at_371) rfl (l' := Lb479) rfl ?_
     show Steps p.tables e below (T492.setTop (mkF m 373 Lb479 [])) _
     refine si X492 hx hby at_373 rfl ?_
     refine sc X492 hx hby at_375 ?_
     refine XS.icmpYes X492.here hx rfl (pc0 := 376) (pc' := 431) rfl (hb hby at_376) rfl (by decide) (by decide) (by decide) ?_
     refine sa X492 hx hby at_431 rfl rfl ?_
     refine sa X492 hx hby at_433 rfl rfl ?_
     show Steps p.tables e below (T492.setTop (mkF m 435 Lb479 [(.ref b14), (.ref b9)])) _
     refine sL X492 hx hby at_435 rfl ?_
     refine st506.trans ?_
     refine si X506 hx hby at_439 rfl ?_
     refine sN X506 hx hby at_441 (by decide) ?_
     refine sa X506 hx hby at_444 rfl rfl ?_
     refine st508 _ ?_
     refine sa X508 hx hby at_449 rfl rfl ?_
     refine sc X508 hx hby at_451 ?_
     refine X508.aaload hx (j := (0 : Int32)) (v := (.ref b36)) (by rw [e508]; exact Ar510.1) (State.isArrayOf_alike hZ.alike Ar510.2.1) rfl Ar510.2.2 hin510 (Hs510.at hin510 rfl) (g := (mkF m 452 Lb479 [(.int (0 : Int32)), (.ref b456), (.ref b36)])) rfl rfl (hb hby at_452) _ ?_
     refine Jvm.RoadKit.acmp (g := (mkF m 453 Lb479 [(.ref b36), (.ref b36)])) X508 hx rfl rfl rfl (pc0 := 453) (pc' := 456) (same := true) rfl (hb hby at_453) rfl (decide_eq_true rfl) (by decide) (by decide) ?_
     refine sa X508 hx hby at_456 rfl rfl ?_
     show Steps p.tables e below (T508.setTop (mkF m 458 Lb479 [(.ref b14)])) _
     refine st511 _ ?_
     refine XS.ifnonnullNo X511.here hx rfl (hb hby at_461) rfl ?_
     refine sc X511 hx hby at_464 ?_
     refine sg (pc := 465) (pc' := 469) X511 hx hby at_465 (by decide) (by decide) ?_
     refine XS.istore X511.here hx rfl (hb hby at_469) rfl (l' := Lb479) rfl ?_
     refine si X511 hx hby at_471 rfl ?_
     show Steps p.tables e below (T511.setTop (mkF m 473 Lb479 [(.int (1 : Int32))])) _
     refine sc X511 hx hby at_473 ?_
     refine sn X511 hx hby at_474 (by decide) ?_
     exact k)
    obtain ⟨cl513, Ar513, cw513, S513, Nn513, Hs513, G513⟩ := id (t509)
    have hin513 : ¬ ((0 : Int32) < 0 ∨ cl513.slots.size ≤ ((0 : Int32)).toNatClampNeg) := inb_of S513 ⟨by decide, by decide⟩
    obtain ⟨T514, X514, e514, st514⟩ := getF X511 hx hZ hown (host := "") (Or.inl (wk107 hw)) Via.refl e511 r506_5 (g := (mkF m 486 Lb479 [(.ref b36)])) rfl rfl (hb hby at_486)
    obtain ⟨fs, hr, hrun, hended, hREW⟩ := Stand.leaveW (s := s) (vm₁ := T6.vm) X514 hS6 (by rw [e514]; exact (Nat.le_trans (Nat.le_trans (Nat.le_trans (Nat.le_trans (Nat.le_trans (Nat.le_trans (Nat.le_trans (Nat.le_trans (Nat.le_trans (Nat.le_trans (Nat.le_trans (Nat.le_trans (Nat.le_trans (Nat.le_trans (Nat.le_trans (Nat.le_trans (Nat.le_trans (Nat.le_trans (Nat.le_trans (Nat.le_trans (Nat.le_refl _) E9.1) K11.1) E14.1) K16.1) K18.1) K33.1) E36.1) K38.1) K40.1) K54.1) E57.1) K59.1) K61.1) K75.1) K430.1) K447.1) E456.1) (Nat.le_of_eq W460.size.symm)) K475.1) K506.1)) (v := some (.int (1 : Int32))) (fun h => by rw [Bd.returns] at h; cases h)
    refine ⟨_, _, pre512 _ ?_, hrun, hended, _, _, rfl, ?_, hREW.1, hREW.2.1, hREW.2.2.1, hREW.2.2.2.mono (by decide) (by decide)⟩
    · show Steps p.tables e below (T511.setTop (mkF m 477 Lb479 [])) _
      refine si X511 hx hby at_477 rfl ?_
      refine sN X511 hx hby at_479 (by decide) ?_
      refine sa X511 hx hby at_482 rfl rfl ?_
      refine sc X511 hx hby at_484 ?_
      refine X511.aaload hx (j := (0 : Int32)) (v := (.ref b36)) (by rw [e511]; exact Ar513.1) (State.isArrayOf_alike hZ.alike Ar513.2.1) rfl Ar513.2.2 hin513 (Hs513.at hin513 rfl) (g := (mkF m 485 Lb479 [(.int (0 : Int32)), (.ref b456)])) rfl rfl (hb hby at_485) _ ?_
      show Steps p.tables e below (T511.setTop (mkF m 486 Lb479 [(.ref b36)])) _
      refine st514 _ ?_
      refine sa X514 hx hby at_489 rfl rfl ?_
      refine Jvm.RoadKit.acmp (g := (mkF m 491 Lb479 [(.ref b14), (.ref b14)])) X514 hx rfl rfl rfl (pc0 := 491) (pc' := 494) (same := true) rfl (hb hby at_491) rfl (decide_eq_true rfl) (by decide) (by decide) ?_
      refine sc X514 hx hby at_494 ?_
      refine sg (pc := 495) (pc' := 499) X514 hx hby at_495 (by decide) (by decide) ?_
      refine XS.istore X514.here hx rfl (hb hby at_499) rfl (l' := Lb479) rfl ?_
      show Steps p.tables e below (T514.setTop (mkF m 501 Lb479 [])) _
      refine si X514 hx hby at_501 rfl ?_
      exact retN X514 hx (t := .boolean) Bd.returns (by simp) (hb hby at_503) hr
    · show Q0 n0 _ T514.heap _
      rw [e514]
      exact ⟨rfl, N506⟩
   ·
    rw [hs453] at pre452
    let Lb515 : Array Slot := #[.val (.long p0), .second, .val (.long p1), .second, .val (.int p2), .val (.int p3), .val (.int (2 : Int32)), .val (.int (1 : Int32)), .val (.long (p1 &&& (9223372036854775807 : Int64))), .second, .val (.ref b4), .val (.ref b9), .val (.ref b14), .val (.ref b36), .val (.ref b57), .val (.int (ownS (ownEnd p0 (p1 &&& (9223372036854775807 : Int64))) p0)), .unset, .unset, .unset, .unset]
    let Lb516 : Array Slot := #[.val (.long p0), .second, .val (.long p1), .second, .val (.int p2), .val (.int p3), .val (.int (2 : Int32)), .val (.int (1 : Int32)), .val (.long (p1 &&& (9223372036854775807 : Int64))), .second, .val (.ref b4), .val (.ref b9), .val (.ref b14), .val (.ref b36), .val (.ref b57), .val (.int (ownS (ownEnd p0 (p1 &&& (9223372036854775807 : Int64))) p0)), .val (.ref b36), .unset, .unset, .unset]
    obtain ⟨T517, h517, k517, X517, e517, E517, A517, Ov517, st517⟩ := newR X450 hx hZ hown (wk48 hw) (wk45 hw) e450 (g := (mkF m 183 Lb516 [(.int (3 : Int32))])) rfl (hb hby at_183) rfl (by decide) (cap := 3) (by decide) (by decide) (by decide) (by decide)
    obtain ⟨b517, g517⟩ : ∃ z, z = T447.heap.size := ⟨_, rfl⟩
    rw [← g517] at A517 st517
    have gg517 : n0 ≤ b517 := by rw [← O448.1, g517]; exact O448.2.1
    have O518 := O448.ext E517
    have V517 : Arv Z h517 b517 k517 (.object cs0) (3 : Int32) [.null, .null, .null] .null := own_pad (dv := .null) (Arv.new A517 (by decide)) 3 _ rfl
    let Lb519 : Array Slot := #[.val (.long p0), .second, .val (.long p1), .second, .val (.int p2), .val (.int p3), .val (.int (2 : Int32)), .val (.int (1 : Int32)), .val (.long (p1 &&& (9223372036854775807 : Int64))), .second, .val (.ref b4), .val (.ref b9), .val (.ref b14), .val (.ref b36), .val (.ref b57), .val (.int (ownS (ownEnd p0 (p1 &&& (9223372036854775807 : Int64))) p0)), .val (.ref b36), .val (.ref b517), .unset, .unset]
    let Lb520 : Array Slot := #[.val (.long p0), .second, .val (.long p1), .second, .val (.int p2), .val (.int p3), .val (.int (2 : Int32)), .val (.int (1 : Int32)), .val (.long (p1 &&& (9223372036854775807 : Int64))), .second, .val (.ref b4), .val (.ref b9), .val (.ref b14), .val (.ref b36), .val (.ref b57), .val (.int (ownS (ownEnd p0 (p1 &&& (9223372036854775807 : Int64))) p0)), .val (.ref b36), .val (.ref b517), .val (.int (0 : Int32)), .unset]
    obtain ⟨cl521, Ar521, cw521, S521, Nn521, Hs521, G521⟩ := id (V517)
    have hin521 : ¬ ((0 : Int32) < 0 ∨ cl521.slots.size ≤ ((0 : Int32)).toNatClampNeg) := inb_of S521 ⟨by decide, by decide⟩
    have t522 := ((own_exa t446 K447).ext E517)
    obtain ⟨T521, h521, X521, e521, W521, st521⟩ := stR X517 hx hZ e517 Ar521 (j := (0 : Int32)) hin521 rfl (Sto.ofV Ar521 cw521 Ov517 (Ins.self t522)) (g := (mkF m 252 Lb520 [(.ref b14), (.int (0 : Int32)), (.ref b517)])) rfl rfl (hb hby at_252)
    have V521 : Arv Z h521 b517 k517 (.object cs0) (3 : Int32) [(.ref b14), .null, .null] .null := own_set Ar521 cw521 S521 Nn521 Hs521 G521 rfl W521 0 rfl (Nat.le_of_ble_eq_true rfl) (.ref b14) rfl _ rfl
    have N521 := Fr.snoc X521 N447 gg517
    have O523 := O518.wr W521 gg517
    let Lb524 : Array Slot := #[.val (.long p0), .second, .val (.long p1), .second, .val (.int p2), .val (.int p3), .val (.int (2 : Int32)), .val (.int (1 : Int32)), .val (.long (p1 &&& (9223372036854775807 : Int64))), .second, .val (.ref b4), .val (.ref b9), .val (.ref b14), .val (.ref b36), .val (.ref b57), .val (.int (ownS (ownEnd p0 (p1 &&& (9223372036854775807 : Int64))) p0)), .val (.ref b36), .val (.ref b517), .val (.int (1 : Int32)), .unset]
    have ne525 : b36 ≠ b517 := (Nat.ne_of_lt (Nat.lt_of_lt_of_le (Nat.lt_of_lt_of_le t437.lt K447.1) (Nat.le_of_eq g517.symm)))
    have t526 := ((r447_1.ext E517).other W521 (Or.inl ne525))
    have t527 := ((r447_3.ext E517).other W521 (Or.inl ne525))
    have ne528 : b9 ≠ b517 := (Nat.ne_of_lt (Nat.lt_of_lt_of_le (Nat.lt_of_lt_of_le t441.lt K447.1) (Nat.le_of_eq g517.symm)))
    have t529 := (((own_fld t443 K447 (own_nlb ne407 (own_nlb ne407 (own_nlb ne406 (own_nlb ne429 (own_nlb ne407 (own_nls (sn83 hw) own_nl0))))))).ext E517).other W521 (Or.inl ne528))
    have t530 := ((r447_4.ext E517).other W521 (Or.inl ne525))
    have ne531 : b11_0 ≠ b517 := (Nat.ne_of_lt (Nat.lt_of_lt_of_le r447_2.lt (Nat.le_of_eq g517.symm)))
    have t532 := (own_gk_oth (own_gk_ext r447_2 E517) W521 ne531)
    have t533 := (t522.wr W521)
    have ne534 : b14 ≠ b517 := (Nat.ne_of_lt (Nat.lt_of_lt_of_le (Nat.lt_of_lt_of_le t446.lt K447.1) (Nat.le_of_eq g517.symm)))
    have t535 := ((r447_5.ext E517).other W521 (Or.inl ne534))
    have t536 := (((own_exa t437 K447).ext E517).wr W521)
    have t537 := ((r447_0.ext E517).other W521 (Or.inl ne528))
    have t538 := (((own_exa t441 K447).ext E517).wr W521)
    obtain ⟨cq539, kq539, q539a, q539b, q539c⟩ := isOf hZ e521 t538
    obtain ⟨_, _, ⟨T539, L539, kk539, nn539⟩, -, X539, ⟨Lc539, hQ539, l539, y539, z539⟩, st539⟩ := X521.virtualBack hx (y := ym9) (z := ym9) hown (mvT hZ (wk94 hw)) (mvT hZ (wk95 hw)) (notFace_of_selects (args := #[]) (mvT hZ (wk97 hw))) (mvT hZ (wk97 hw)) (mvT hZ (wk96 hw)) (by decide) (backOf (W := 0) (rm11_31 l Z a0 hw w hW [] b9 b36 (ownS (ownEnd p0 (p1 &&& (9223372036854775807 : Int64))) p0) b11_0 b14 k11_0 h521 n0 O523 t526 (own_S1 _ _) t527 t529 t530 ggb11_0 t532 (own_S2 _ _) (own_S3 _ _) r11_4 t533 (Ne.symm ne424) t535 (Ne.symm ne423) gg14 t536 (Ne.symm ne412) gg36 t537 ne429 ne406 ne407 t538 gg9) hZ (wk98 hw) (wk36 hw) (by decide) (by decide)) q539a q539c (g := (mkF m 260 Lb524 [(.ref b36), (.ref b9)])) rfl (by rw [hml]; rfl) (Steps.refl _) (argsL := [(.ref b36)]) (rest := []) (lenOf pds_8 rfl) rfl (by show 2 * 0 + _ ≤ _; exact Nat.le_of_eq rfl) (hb hby at_260) (fun _ _ => ⟨rfl, e521, (by decide : 11 + 0 ≤ _), (by decide : 516 + 0 ≤ _)⟩)
    dsimp only [Pt.U, Pt.locs, Pt.cells, Pt.slots] at X539 l539 y539 z539 st539 hQ539
    rw [l539, y539, z539] at X539
    obtain ⟨rfl, N539q, K539, r539_0, r539_1, r539_2, r539_3, r539_4, r539_5⟩ := hQ539
    have N539 := Fr.app N521 N539q
    have O540 := own_old O523 K539 (own_ngc ggb11_0 (own_ngc gg14 (own_ngc gg36 (own_ngc gg36 (own_ngc gg36 (own_ngc gg9 own_ng0))))))
    have t542 := (own_exa t538 K539)
    obtain ⟨cq541, kq541, q541a, q541b, q541c⟩ := isOf hZ rfl t542
    obtain ⟨_, _, ⟨T541, L541, kk541, nn541⟩, -, X541, ⟨Lc541, hQ541, l541, y541, z541⟩, st541⟩ := X539.virtualBack hx (y := ym10) (z := ym10) hown (mvT hZ (wk100 hw)) (mvT hZ (wk101 hw)) (notFace_of_selects (args := #[]) (mvT hZ (wk103 hw))) (mvT hZ (wk103 hw)) (mvT hZ (wk102 hw)) (by decide) (backOf (W := 0) (rm12_27 l Z a0 hw w hW [] b9 T539.heap n0 O540 r539_5) hZ (wk104 hw) (wk36 hw) (by decide) (by decide)) q541a q541c (g := (mkF m 265 Lb524 [(.ref b9)])) rfl (by rw [hml]; rfl) (Steps.refl _) (argsL := []) (rest := []) (lenOf pds_9 rfl) rfl (by show 2 * 0 + _ ≤ _; exact Nat.le_of_eq rfl) (hb hby at_265) (fun _ _ => ⟨rfl, rfl, (by decide : 11 + 0 ≤ _), (by decide : 516 + 0 ≤ _)⟩)
    dsimp only [Pt.U, Pt.locs, Pt.cells, Pt.slots] at X541 l541 y541 z541 st541 hQ541
    rw [l541, y541, z541] at X541
    obtain ⟨rfl, N541q, e541⟩ := hQ541
    have N541 := Fr.app N539 N541q
    let Lb543 : Array Slot := #[.val (.long p0), .second, .val (.long p1), .second, .val (.int p2), .val (.int p3), .val (.int (2 : Int32)), .val (.int (1 : Int32)), .val (.long (p1 &&& (9223372036854775807 : Int64))), .second, .val (.ref b4), .val (.ref b9), .val (.ref b14), .val (.ref b36), .val (.ref b57), .val (.int (ownS (ownEnd p0 (p1 &&& (9223372036854775807 : Int64))) p0)), .val (.ref b36), .val (.ref b517), .val (.int (1 : Int32)), .val (.int (1 : Int32))]
    obtain ⟨T544, X544, e544, st544⟩ := getF X541 hx hZ hown (host := "") (Or.inl (wk93 hw)) Via.refl e541 r539_0 (g := (mkF m 289 Lb543 [(.ref b36)])) rfl rfl (hb hby at_289)
    obtain ⟨T545, X545, e545, st545⟩ := getF X544 hx hZ hown (host := "") (Or.inl (wk107 hw)) Via.refl e544 r539_1 (g := (mkF m 298 Lb543 [(.ref b36)])) rfl rfl (hb hby at_298)
    obtain ⟨T546, X546, e546, st546⟩ := getF X545 hx hZ hown (host := "") (Or.inl (wk109 hw)) Via.refl e545 r539_2 (g := (mkF m 306 Lb543 [(.ref b36)])) rfl rfl (hb hby at_306)
    have t547 := (own_arv V521 K539 (own_nbc ne531 (own_nbc ne534 (own_nbc ne525 (own_nbc ne525 (own_nbc ne525 (own_nbc ne528 own_nb0)))))))
    obtain ⟨cl548, Ar548, cw548, S548, Nn548, Hs548, G548⟩ := id (t547)
    have hin548 : ¬ ((0 : Int32) < 0 ∨ cl548.slots.size ≤ ((0 : Int32)).toNatClampNeg) := inb_of S548 ⟨by decide, by decide⟩
    obtain ⟨T549, X549, e549, st549⟩ := getF X546 hx hZ hown (host := "") (Or.inl (wk107 hw)) Via.refl e546 r539_4 (g := (mkF m 334 Lb543 [(.ref b14)])) rfl rfl (hb hby at_334)
    obtain ⟨cl550, Ar550, cw550, S550, Nn550, Hs550, G550⟩ := id (t547)
    have hin550 : ¬ ((0 : Int32) < 0 ∨ cl550.slots.size ≤ ((0 : Int32)).toNatClampNeg) := inb_of S550 ⟨by decide, by decide⟩
    have t551 := (own_fld (((own_fld r430_2 K447 (own_nlb ne412 (own_nlb ne412 (own_nls (sn78 hw) (own_nlb (Ne.symm ne423) (own_nlb ne412 (own_nlb (Ne.symm ne406) own_nl0))))))).ext E517).other W521 (Or.inl ne534)) K539 (own_nlb (Ne.symm ne423) (own_nls (sn78 hw) (own_nlb ne412 (own_nlb ne412 (own_nlb ne412 (own_nlb (Ne.symm ne406) own_nl0)))))))
    obtain ⟨T552, X552, e552, st552⟩ := getF X549 hx hZ hown (host := "") (Or.inl (wk109 hw)) Via.refl e549 t551 (g := (mkF m 344 Lb543 [(.ref b14)])) rfl rfl (hb hby at_344)
    obtain ⟨cl553, Ar553, cw553, S553, Nn553, Hs553, G553⟩ := id (t547)
    have hin553 : ¬ ((1 : Int32) < 0 ∨ cl553.slots.size ≤ ((1 : Int32)).toNatClampNeg) := inb_of S553 ⟨by decide, by decide⟩
    obtain ⟨cl554, Ar554, cw554, S554, Nn554, Hs554, G554⟩ := id (t547)
    have hin554 : ¬ ((0 : Int32) < 0 ∨ cl554.slots.size ≤ ((0 : Int32)).toNatClampNeg) := inb_of S554 ⟨by decide, by decide⟩
    have t555 := (own_fld ((t449.ext E517).other W521 (Or.inl ne534)) K539 (own_nlb (Ne.symm ne423) (own_nls (sn79 hw) (own_nlb ne412 (own_nlb ne412 (own_nlb ne412 (own_nlb (Ne.symm ne406) own_nl0)))))))
    obtain ⟨T556, X556, e556, st556⟩ := getF X552 hx hZ hown (host := "") (Or.inl (wk93 hw)) Via.refl e552 t555 (g := (mkF m 358 Lb543 [(.ref b14)])) rfl rfl (hb hby at_358)
    have t557 := (own_fld (((own_fld t433 K447 (own_nls (sn85 hw) (own_nls (sn84 hw) (own_nlb (Ne.symm ne412) (own_nlb (Ne.symm ne424) (own_nls (sn30 hw) (own_nlb (Ne.symm ne407) own_nl0))))))).ext E517).other W521 (Or.inl ne525)) K539 (own_nlb (Ne.symm ne424) (own_nlb (Ne.symm ne412) (own_nls (sn85 hw) (own_nls (sn84 hw) (own_nls (sn30 hw) (own_nlb (Ne.symm ne407) own_nl0)))))))
    have t558 := (own_exa (((own_exa t434 K447).ext E517).wr W521) K539)
    have ne559 : b4 ≠ b517 := (Nat.ne_of_lt (Nat.lt_of_lt_of_le (Nat.lt_of_lt_of_le t434.lt K447.1) (Nat.le_of_eq g517.symm)))
    have t560 := (own_fld (((own_fld t436 K447 (own_nlb ne53 (own_nlb ne53 (own_nlb ne32 (own_nlb ne435 (own_nlb ne53 (own_nlb ne29 own_nl0))))))).ext E517).other W521 (Or.inl ne559)) K539 (own_nlb ne435 (own_nlb ne32 (own_nlb ne53 (own_nlb ne53 (own_nlb ne53 (own_nlb ne29 own_nl0)))))))
    have t561 := (own_exa t536 K539)
    have t562 := (own_fld (((own_fld t438 K447 (own_nls (sn87 hw) (own_nls (sn86 hw) (own_nlb (Ne.symm ne412) (own_nlb (Ne.symm ne424) (own_nls (sn33 hw) (own_nlb (Ne.symm ne407) own_nl0))))))).ext E517).other W521 (Or.inl ne525)) K539 (own_nlb (Ne.symm ne424) (own_nlb (Ne.symm ne412) (own_nls (sn87 hw) (own_nls (sn86 hw) (own_nls (sn33 hw) (own_nlb (Ne.symm ne407) own_nl0)))))))
    have t563 := (own_fld (((own_fld t439 K447 (own_nls (sn89 hw) (own_nls (sn88 hw) (own_nlb (Ne.symm ne412) (own_nlb (Ne.symm ne424) (own_nls (sn36 hw) (own_nlb (Ne.symm ne407) own_nl0))))))).ext E517).other W521 (Or.inl ne525)) K539 (own_nlb (Ne.symm ne424) (own_nlb (Ne.symm ne412) (own_nls (sn89 hw) (own_nls (sn88 hw) (own_nls (sn36 hw) (own_nlb (Ne.symm ne407) own_nl0)))))))
    have t564 := (own_fld (((own_fld t440 K447 (own_nlb ne53 (own_nlb ne53 (own_nlb ne32 (own_nlb ne435 (own_nlb ne53 (own_nlb ne29 own_nl0))))))).ext E517).other W521 (Or.inl ne559)) K539 (own_nlb ne435 (own_nlb ne32 (own_nlb ne53 (own_nlb ne53 (own_nlb ne53 (own_nlb ne29 own_nl0)))))))
    have t565 := (own_fld (((own_fld r430_1 K447 (own_nlb ne407 (own_nlb ne407 (own_nlb ne406 (own_nlb ne429 (own_nlb ne407 (own_nls (sn82 hw) own_nl0))))))).ext E517).other W521 (Or.inl ne528)) K539 (own_nlb ne429 (own_nlb ne406 (own_nlb ne407 (own_nlb ne407 (own_nlb ne407 (own_nls (sn82 hw) own_nl0)))))))
    have t566 := (own_fld t529 K539 (own_nlb ne429 (own_nlb ne406 (own_nlb ne407 (own_nlb ne407 (own_nlb ne407 (own_nls (sn83 hw) own_nl0)))))))
    have t567 := (own_exa t533 K539)
    obtain ⟨cq568, kq568, q568a, q568b, q568c⟩ := isOf hZ e556 t542
    obtain ⟨_, _, ⟨T568, L568, kk568, nn568⟩, -, X568, ⟨Lc568, hQ568, l568, y568, z568⟩, st568⟩ := X556.virtualBack hx (y := ym19) (z := ym19) hown (mvT hZ (wk111 hw)) (mvT hZ (wk112 hw)) (notFace_of_selects (args := #[]) (mvT hZ (wk114 hw))) (mvT hZ (wk114 hw)) (mvT hZ (wk113 hw)) (by decide) (backOf (W := 0) (rm13_29 l Z a0 hw w hW [] b9 b36 p0 b4 (p1 &&& (9223372036854775807 : Int64)) b11_0 k11_0 b14 T539.heap n0 O540 r539_5 t557 t558 t560 (own_lf1 _) t561 t562 t563 t564 (own_max _) t565 t542 r539_0 (own_S1 _ _) t566 r539_3 (own_S2 _ _) (own_S3 _ _) r539_1 r539_2 t567 r539_4 r11_4 gg36 ne412 gg14 ne407 ne406 ggb11_0 ne424 ne423 ne429 gg9) hZ (wk115 hw) (wk36 hw) (by decide) (by decide)) q568a q568c (g := (mkF m 436 Lb543 [(.long p0), (.ref b36), (.ref b9)])) rfl (by rw [hml]; rfl) (Steps.refl _) (argsL := [(.ref b36), (.long p0)]) (rest := []) (lenOf pds_14 rfl) rfl (by show 2 * 0 + _ ≤ _; exact Nat.le_of_eq rfl) (hb hby at_436) (fun _ _ => ⟨rfl, e556, (by decide : 11 + 0 ≤ _), (by decide : 516 + 0 ≤ _)⟩)
    dsimp only [Pt.U, Pt.locs, Pt.cells, Pt.slots] at X568 l568 y568 z568 st568 hQ568
    rw [l568, y568, z568] at X568
    obtain ⟨rfl, N568q, K568, r568_0, r568_1, r568_2, r568_3, r568_4, r568_5⟩ := hQ568
    have N568 := Fr.app N541 N568q
    have O569 := own_old O540 K568 (own_ngc gg36 (own_ngc gg36 (own_ngc gg14 (own_ngc ggb11_0 (own_ngc gg36 (own_ngc gg9 own_ng0))))))
    obtain ⟨T570, X570, e570, st570⟩ := getF X568 hx hZ hown (host := "") (Or.inl (wk109 hw)) Via.refl rfl r568_4 (g := (mkF m 446 Lb543 [(.ref b36)])) rfl rfl (hb hby at_446)
    have t571 := (own_arv t547 K568 (own_nbc ne525 (own_nbc ne525 (own_nbc ne534 (own_nbc ne531 (own_nbc ne525 (own_nbc ne528 own_nb0)))))))
    obtain ⟨cl572, Ar572, cw572, S572, Nn572, Hs572, G572⟩ := id (t571)
    have hin572 : ¬ ((0 : Int32) < 0 ∨ cl572.slots.size ≤ ((0 : Int32)).toNatClampNeg) := inb_of S572 ⟨by decide, by decide⟩
    obtain ⟨T573, X573, e573, st573⟩ := getF X570 hx hZ hown (host := "") (Or.inl (wk107 hw)) Via.refl e570 r568_3 (g := (mkF m 458 Lb543 [(.ref b36)])) rfl rfl (hb hby at_458)
    have pre574 : ∀ t, Steps p.tables e below (T573.setTop (mkF m 473 Lb543 [(.int (1 : Int32))])) t → Steps p.tables e below (s₁.setTop (entryFrame m #[(.long p0), (.long p1), (.int p2), (.int p3)] maxLocals)) t := fun t k => pre452 t (by
     show Steps p.tables e below (T450.setTop (mkF m 159 Lb515 [(.int (1 : Int32))])) _
     refine XS.ifYes X450.here hx rfl (pc0 := 159) (pc' := 167) rfl (hb hby at_159) rfl (by decide) (by decide) (by decide) ?_
     refine si X450 hx hby at_167 rfl ?_
     refine sc X450 hx hby at_169 ?_
     refine sn X450 hx hby at_170 (by decide) ?_
     refine sa X450 hx hby at_173 rfl rfl ?_
     show Steps p.tables e below (T450.setTop (mkF m 175 Lb515 [(.ref b36)])) _
     refine sg (pc := 175) (pc' := 180) X450 hx hby at_175 (by decide) (by decide) ?_
     refine XS.astore X450.here hx rfl (hb hby at_180) rfl rfl (l' := Lb516) rfl ?_
     refine sc X450 hx hby at_182 ?_
     refine st517 _ ?_
     refine XS.astore X517.here hx rfl (hb hby at_186) rfl rfl (l' := Lb519) rfl ?_
     refine sc X517 hx hby at_188 ?_
     refine XS.istore X517.here hx rfl (hb hby at_189) rfl (l' := Lb520) rfl ?_
     refine si X517 hx hby at_191 rfl ?_
     refine sc X517 hx hby at_193 ?_
     show Steps p.tables e below (T517.setTop (mkF m 194 Lb520 [(.int (3 : Int32)), (.int (2 : Int32))])) _
     refine XS.icmpYes X517.here hx rfl (pc0 := 194) (pc' := 213) rfl (hb hby at_194) rfl (by decide) (by decide) (by decide) ?_
     refine si X517 hx hby at_213 rfl ?_
     refine sc X517 hx hby at_215 ?_
     refine sn X517 hx hby at_216 (by decide) ?_
     refine si X517 hx hby at_219 rfl ?_
     show Steps p.tables e below (T517.setTop (mkF m 221 Lb520 [(.int (1 : Int32))])) _
     refine sc X517 hx hby at_221 ?_
     refine XS.icmpYes X517.here hx rfl (pc0 := 222) (pc' := 235) rfl (hb hby at_222) rfl (by decide) (by decide) (by decide) ?_
     refine si X517 hx hby at_235 rfl ?_
     refine sc X517 hx hby at_237 ?_
     refine sn X517 hx hby at_238 (by decide) ?_
     show Steps p.tables e below (T517.setTop (mkF m 241 Lb520 [])) _
     refine si X517 hx hby at_241 rfl ?_
     refine sN X517 hx hby at_243 (by decide) ?_
     refine sa X517 hx hby at_246 rfl rfl ?_
     refine si X517 hx hby at_248 rfl ?_
     refine sa X517 hx hby at_250 rfl rfl ?_
     show Steps p.tables e below (T517.setTop (mkF m 252 Lb520 [(.ref b14), (.int (0 : Int32)), (.ref b517)])) _
     refine st521 _ ?_
     refine XS.iinc X521.here hx rfl (hb hby at_253) rfl (l' := Lb524) rfl ?_
     refine sa X521 hx hby at_256 rfl rfl ?_
     refine sa X521 hx hby at_258 rfl rfl ?_
     refine st539.trans ?_
     refine sa X539 hx hby at_263 rfl rfl ?_
     refine st541.trans ?_
     refine si X541 hx hby at_268 rfl ?_
     refine XS.i2l X541.here hx rfl (hb hby at_270) rfl ?_
     refine XS.lcmp X541.here hx rfl (hb hby at_271) rfl ?_
     refine sN X541 hx hby at_272 (by decide) ?_
     refine sc X541 hx hby at_275 ?_
     show Steps p.tables e below (T541.setTop (mkF m 276 Lb524 [(.int (1 : Int32))])) _
     refine sg (pc := 276) (pc' := 280) X541 hx hby at_276 (by decide) (by decide) ?_
     refine XS.istore X541.here hx rfl (hb hby at_280) rfl (l' := Lb543) rfl ?_
     refine si X541 hx hby at_282 rfl ?_
     refine sN X541 hx hby at_284 (by decide) ?_
     refine sa X541 hx hby at_287 rfl rfl ?_
     show Steps p.tables e below (T541.setTop (mkF m 289 Lb543 [(.ref b36)])) _
     refine st544 _ ?_
     refine sc X544 hx hby at_292 ?_
     refine sn X544 hx hby at_293 (by decide) ?_
     refine sa X544 hx hby at_296 rfl rfl ?_
     refine st545 _ ?_
     refine XS.ifnonnullNo X545.here hx rfl (hb hby at_301) rfl ?_
     refine sa X545 hx hby at_304 rfl rfl ?_
     refine st546 _ ?_
     refine XS.ifnonnullNo X546.here hx rfl (hb hby at_309) rfl ?_
     refine sc X546 hx hby at_312 ?_
     refine sg (pc := 313) (pc' := 317) X546 hx hby at_313 (by decide) (by decide) ?_
     refine XS.istore X546.here hx rfl (hb hby at_317) rfl (l' := Lb543) rfl ?_
     refine si X546 hx hby at_319 rfl ?_
     show Steps p.tables e below (T546.setTop (mkF m 321 Lb543 [(.int (1 : Int32))])) _
     refine sc X546 hx hby at_321 ?_
     refine sn X546 hx hby at_322 (by decide) ?_
     refine si X546 hx hby at_325 rfl ?_
     refine sN X546 hx hby at_327 (by decide) ?_
     refine sa X546 hx hby at_330 rfl rfl ?_
     show Steps p.tables e below (T546.setTop (mkF m 332 Lb543 [(.ref b517)])) _
     refine sc X546 hx hby at_332 ?_
     refine X546.aaload hx (j := (0 : Int32)) (v := (.ref b14)) (by rw [e546]; exact Ar548.1) (State.isArrayOf_alike hZ.alike Ar548.2.1) rfl Ar548.2.2 hin548 (Hs548.at hin548 rfl) (g := (mkF m 333 Lb543 [(.int (0 : Int32)), (.ref b517)])) rfl rfl (hb hby at_333) _ ?_
     refine st549 _ ?_
     refine XS.ifnonnullNo X549.here hx rfl (hb hby at_337) rfl ?_
     refine sa X549 hx hby at_340 rfl rfl ?_
     refine sc X549 hx hby at_342 ?_
     refine X549.aaload hx (j := (0 : Int32)) (v := (.ref b14)) (by rw [e549]; exact Ar550.1) (State.isArrayOf_alike hZ.alike Ar550.2.1) rfl Ar550.2.2 hin550 (Hs550.at hin550 rfl) (g := (mkF m 343 Lb543 [(.int (0 : Int32)), (.ref b517)])) rfl rfl (hb hby at_343) _ ?_
     refine st552 _ ?_
     refine sa X552 hx hby at_347 rfl rfl ?_
     refine sc X552 hx hby at_349 ?_
     refine X552.aaload hx (j := (1 : Int32)) (v := .null) (by rw [e552]; exact Ar553.1) (State.isArrayOf_alike hZ.alike Ar553.2.1) rfl Ar553.2.2 hin553 (Hs553.at hin553 rfl) (g := (mkF m 350 Lb543 [(.int (1 : Int32)), (.ref b517), .null])) rfl rfl (hb hby at_350) _ ?_
     refine Jvm.RoadKit.acmp (g := (mkF m 351 Lb543 [.null, .null])) X552 hx rfl rfl rfl (pc0 := 351) (pc' := 354) (same := true) rfl (hb hby at_351) rfl (decide_eq_true rfl) (by decide) (by decide) ?_
     refine sa X552 hx hby at_354 rfl rfl ?_
     show Steps p.tables e below (T552.setTop (mkF m 356 Lb543 [(.ref b517)])) _
     refine sc X552 hx hby at_356 ?_
     refine X552.aaload hx (j := (0 : Int32)) (v := (.ref b14)) (by rw [e552]; exact Ar554.1) (State.isArrayOf_alike hZ.alike Ar554.2.1) rfl Ar554.2.2 hin554 (Hs554.at hin554 rfl) (g := (mkF m 357 Lb543 [(.int (0 : Int32)), (.ref b517)])) rfl rfl (hb hby at_357) _ ?_
     refine st556 _ ?_
     refine si X556 hx hby at_361 rfl ?_
     refine sn X556 hx hby at_363 (teq (rfl : (ownS (ownEnd p0 (p1 &&& (9223372036854775807 : Int64))) p0) = (ownS (ownEnd p0 (p1 &&& (9223372036854775807 : Int64))) p0))).2 ?_
     refine sc X556 hx hby at_366 ?_
     refine sg (pc := 367) (pc' := 371) X556 hx hby at_367 (by decide) (by decide) ?_
     refine XS.istore X556.here hx rfl (hb hby at_371) rfl (l' := Lb543) rfl ?_
     show Steps p.tables e below (T556.setTop (mkF m 373 Lb543 [])) _
     refine si X556 hx hby at_373 rfl ?_
     refine sc X556 hx hby at_375 ?_
     refine XS.icmpYes X556.here hx rfl (pc0 := 376) (pc' := 431) rfl (hb hby at_376) rfl (by decide) (by decide) (by decide) ?_
     refine sa X556 hx hby at_431 rfl rfl ?_
     refine sa X556 hx hby at_433 rfl rfl ?_
     show Steps p.tables e below (T556.setTop (mkF m 435 Lb543 [(.ref b36), (.ref b9)])) _
     refine sL X556 hx hby at_435 rfl ?_
     refine st568.trans ?_
     refine si X568 hx hby at_439 rfl ?_
     refine sN X568 hx hby at_441 (by decide) ?_
     refine sa X568 hx hby at_444 rfl rfl ?_
     refine st570 _ ?_
     refine sa X570 hx hby at_449 rfl rfl ?_
     refine sc X570 hx hby at_451 ?_
     refine X570.aaload hx (j := (0 : Int32)) (v := (.ref b14)) (by rw [e570]; exact Ar572.1) (State.isArrayOf_alike hZ.alike Ar572.2.1) rfl Ar572.2.2 hin572 (Hs572.at hin572 rfl) (g := (mkF m 452 Lb543 [(.int (0 : Int32)), (.ref b517), (.ref b14)])) rfl rfl (hb hby at_452) _ ?_
     refine Jvm.RoadKit.acmp (g := (mkF m 453 Lb543 [(.ref b14), (.ref b14)])) X570 hx rfl rfl rfl (pc0 := 453) (pc' := 456) (same := true) rfl (hb hby at_453) rfl (decide_eq_true rfl) (by decide) (by decide) ?_
     refine sa X570 hx hby at_456 rfl rfl ?_
     show Steps p.tables e below (T570.setTop (mkF m 458 Lb543 [(.ref b36)])) _
     refine st573 _ ?_
     refine XS.ifnonnullNo X573.here hx rfl (hb hby at_461) rfl ?_
     refine sc X573 hx hby at_464 ?_
     refine sg (pc := 465) (pc' := 469) X573 hx hby at_465 (by decide) (by decide) ?_
     refine XS.istore X573.here hx rfl (hb hby at_469) rfl (l' := Lb543) rfl ?_
     refine si X573 hx hby at_471 rfl ?_
     exact k)
    obtain ⟨cl575, Ar575, cw575, S575, Nn575, Hs575, G575⟩ := id (t571)
    have hin575 : ¬ ((0 : Int32) < 0 ∨ cl575.slots.size ≤ ((0 : Int32)).toNatClampNeg) := inb_of S575 ⟨by decide, by decide⟩
    obtain ⟨T576, X576, e576, st576⟩ := getF X573 hx hZ hown (host := "") (Or.inl (wk107 hw)) Via.refl e573 r568_5 (g := (mkF m 486 Lb543 [(.ref b14)])) rfl rfl (hb hby at_486)
    obtain ⟨fs, hr, hrun, hended, hREW⟩ := Stand.leaveW (s := s) (vm₁ := T6.vm) X576 hS6 (by rw [e576]; exact (Nat.le_trans (Nat.le_trans (Nat.le_trans (Nat.le_trans (Nat.le_trans (Nat.le_trans (Nat.le_trans (Nat.le_trans (Nat.le_trans (Nat.le_trans (Nat.le_trans (Nat.le_trans (Nat.le_trans (Nat.le_trans (Nat.le_trans (Nat.le_trans (Nat.le_trans (Nat.le_trans (Nat.le_trans (Nat.le_trans (Nat.le_refl _) E9.1) K11.1) E14.1) K16.1) K18.1) K33.1) E36.1) K38.1) K40.1) K54.1) E57.1) K59.1) K61.1) K75.1) K430.1) K447.1) E517.1) (Nat.le_of_eq W521.size.symm)) K539.1) K568.1)) (v := some (.int (1 : Int32))) (fun h => by rw [Bd.returns] at h; cases h)
    refine ⟨_, _, pre574 _ ?_, hrun, hended, _, _, rfl, ?_, hREW.1, hREW.2.1, hREW.2.2.1, hREW.2.2.2.mono (by decide) (by decide)⟩
    · show Steps p.tables e below (T573.setTop (mkF m 473 Lb543 [(.int (1 : Int32))])) _
      refine sc X573 hx hby at_473 ?_
      refine sn X573 hx hby at_474 (by decide) ?_
      refine si X573 hx hby at_477 rfl ?_
      refine sN X573 hx hby at_479 (by decide) ?_
      refine sa X573 hx hby at_482 rfl rfl ?_
      show Steps p.tables e below (T573.setTop (mkF m 484 Lb543 [(.ref b517)])) _
      refine sc X573 hx hby at_484 ?_
      refine X573.aaload hx (j := (0 : Int32)) (v := (.ref b14)) (by rw [e573]; exact Ar575.1) (State.isArrayOf_alike hZ.alike Ar575.2.1) rfl Ar575.2.2 hin575 (Hs575.at hin575 rfl) (g := (mkF m 485 Lb543 [(.int (0 : Int32)), (.ref b517)])) rfl rfl (hb hby at_485) _ ?_
      refine st576 _ ?_
      refine sa X576 hx hby at_489 rfl rfl ?_
      refine Jvm.RoadKit.acmp (g := (mkF m 491 Lb543 [(.ref b36), (.ref b36)])) X576 hx rfl rfl rfl (pc0 := 491) (pc' := 494) (same := true) rfl (hb hby at_491) rfl (decide_eq_true rfl) (by decide) (by decide) ?_
      refine sc X576 hx hby at_494 ?_
      refine sg (pc := 495) (pc' := 499) X576 hx hby at_495 (by decide) (by decide) ?_
      refine XS.istore X576.here hx rfl (hb hby at_499) rfl (l' := Lb543) rfl ?_
      show Steps p.tables e below (T576.setTop (mkF m 501 Lb543 [])) _
      refine si X576 hx hby at_501 rfl ?_
      exact retN X576 hx (t := .boolean) Bd.returns (by simp) (hb hby at_503) hr
    · show Q0 n0 _ T576.heap _
      rw [e576]
      exact ⟨rfl, N568⟩
   ·
    rw [hs453] at pre452
    let Lb577 : Array Slot := #[.val (.long p0), .second, .val (.long p1), .second, .val (.int p2), .val (.int p3), .val (.int (2 : Int32)), .val (.int (2 : Int32)), .val (.long (p1 &&& (9223372036854775807 : Int64))), .second, .val (.ref b4), .val (.ref b9), .val (.ref b14), .val (.ref b36), .val (.ref b57), .val (.int (ownS (ownEnd p0 (p1 &&& (9223372036854775807 : Int64))) p0)), .unset, .unset, .unset, .unset]
    let Lb578 : Array Slot := #[.val (.long p0), .second, .val (.long p1), .second, .val (.int p2), .val (.int p3), .val (.int (2 : Int32)), .val (.int (2 : Int32)), .val (.long (p1 &&& (9223372036854775807 : Int64))), .second, .val (.ref b4), .val (.ref b9), .val (.ref b14), .val (.ref b36), .val (.ref b57), .val (.int (ownS (ownEnd p0 (p1 &&& (9223372036854775807 : Int64))) p0)), .val (.ref b57), .unset, .unset, .unset]
    obtain ⟨T579, h579, k579, X579, e579, E579, A579, Ov579, st579⟩ := newR X450 hx hZ hown (wk48 hw) (wk45 hw) e450 (g := (mkF m 183 Lb578 [(.int (3 : Int32))])) rfl (hb hby at_183) rfl (by decide) (cap := 3) (by decide) (by decide) (by decide) (by decide)
    obtain ⟨b579, g579⟩ : ∃ z, z = T447.heap.size := ⟨_, rfl⟩
    rw [← g579] at A579 st579
    have gg579 : n0 ≤ b579 := by rw [← O448.1, g579]; exact O448.2.1
    have O580 := O448.ext E579
    have V579 : Arv Z h579 b579 k579 (.object cs0) (3 : Int32) [.null, .null, .null] .null := own_pad (dv := .null) (Arv.new A579 (by decide)) 3 _ rfl
    let Lb581 : Array Slot := #[.val (.long p0), .second, .val (.long p1), .second, .val (.int p2), .val (.int p3), .val (.int (2 : Int32)), .val (.int (2 : Int32)), .val (.long (p1 &&& (9223372036854775807 : Int64))), .second, .val (.ref b4), .val (.ref b9), .val (.ref b14), .val (.ref b36), .val (.ref b57), .val (.int (ownS (ownEnd p0 (p1 &&& (9223372036854775807 : Int64))) p0)), .val (.ref b57), .val (.ref b579), .unset, .unset]
    let Lb582 : Array Slot := #[.val (.long p0), .second, .val (.long p1), .second, .val (.int p2), .val (.int p3), .val (.int (2 : Int32)), .val (.int (2 : Int32)), .val (.long (p1 &&& (9223372036854775807 : Int64))), .second, .val (.ref b4), .val (.ref b9), .val (.ref b14), .val (.ref b36), .val (.ref b57), .val (.int (ownS (ownEnd p0 (p1 &&& (9223372036854775807 : Int64))) p0)), .val (.ref b57), .val (.ref b579), .val (.int (0 : Int32)), .unset]
    obtain ⟨cl583, Ar583, cw583, S583, Nn583, Hs583, G583⟩ := id (V579)
    have hin583 : ¬ ((0 : Int32) < 0 ∨ cl583.slots.size ≤ ((0 : Int32)).toNatClampNeg) := inb_of S583 ⟨by decide, by decide⟩
    have t584 := ((own_exa t437 K447).ext E579)
    obtain ⟨T583, h583, X583, e583, W583, st583⟩ := stR X579 hx hZ e579 Ar583 (j := (0 : Int32)) hin583 rfl (Sto.ofV Ar583 cw583 Ov579 (Ins.self t584)) (g := (mkF m 231 Lb582 [(.ref b36), (.int (0 : Int32)), (.ref b579)])) rfl rfl (hb hby at_231)
    have V583 : Arv Z h583 b579 k579 (.object cs0) (3 : Int32) [(.ref b36), .null, .null] .null := own_set Ar583 cw583 S583 Nn583 Hs583 G583 rfl W583 0 rfl (Nat.le_of_ble_eq_true rfl) (.ref b36) rfl _ rfl
    have N583 := Fr.snoc X583 N447 gg579
    have O585 := O580.wr W583 gg579
    let Lb586 : Array Slot := #[.val (.long p0), .second, .val (.long p1), .second, .val (.int p2), .val (.int p3), .val (.int (2 : Int32)), .val (.int (2 : Int32)), .val (.long (p1 &&& (9223372036854775807 : Int64))), .second, .val (.ref b4), .val (.ref b9), .val (.ref b14), .val (.ref b36), .val (.ref b57), .val (.int (ownS (ownEnd p0 (p1 &&& (9223372036854775807 : Int64))) p0)), .val (.ref b57), .val (.ref b579), .val (.int (1 : Int32)), .unset]
    obtain ⟨cl587, Ar587, cw587, S587, Nn587, Hs587, G587⟩ := id (V583)
    have hin587 : ¬ ((1 : Int32) < 0 ∨ cl587.slots.size ≤ ((1 : Int32)).toNatClampNeg) := inb_of S587 ⟨by decide, by decide⟩
    have t588 := (((own_exa t446 K447).ext E579).wr W583)
    obtain ⟨T587, h587, X587, e587, W587, st587⟩ := stR X583 hx hZ e583 Ar587 (j := (1 : Int32)) hin587 rfl (Sto.ofV Ar587 cw587 Ov579 (Ins.self t588)) (g := (mkF m 252 Lb586 [(.ref b14), (.int (1 : Int32)), (.ref b579)])) rfl rfl (hb hby at_252)
    have V587 : Arv Z h587 b579 k579 (.object cs0) (3 : Int32) [(.ref b36), (.ref b14), .null] .null := own_set Ar587 cw587 S587 Nn587 Hs587 G587 rfl W587 1 rfl (Nat.le_of_ble_eq_true rfl) (.ref b14) rfl _ rfl
    have N587 := Fr.snoc X587 N583 gg579
    have O589 := O585.wr W587 gg579
    let Lb590 : Array Slot := #[.val (.long p0), .second, .val (.long p1), .second, .val (.int p2), .val (.int p3), .val (.int (2 : Int32)), .val (.int (2 : Int32)), .val (.long (p1 &&& (9223372036854775807 : Int64))), .second, .val (.ref b4), .val (.ref b9), .val (.ref b14), .val (.ref b36), .val (.ref b57), .val (.int (ownS (ownEnd p0 (p1 &&& (9223372036854775807 : Int64))) p0)), .val (.ref b57), .val (.ref b579), .val (.int (2 : Int32)), .unset]
    have ne591 : b57 ≠ b579 := (Nat.ne_of_lt (Nat.lt_of_lt_of_le (Nat.lt_of_lt_of_le (Nat.lt_of_lt_of_le (Nat.lt_of_lt_of_le t63.lt K75.1) K430.1) K447.1) (Nat.le_of_eq g579.symm)))
    have t592 := ((((own_fld (own_fld r75_0 K430 (own_nlb (Ne.symm ne408) (own_nlb (Ne.symm ne413) (own_nlb (Ne.symm ne413) (own_nlb (Ne.symm ne425) (own_nlb (Ne.symm ne413) (own_nlb (Ne.symm ne408) own_nl0))))))) K447 (own_nlb (Ne.symm ne432) (own_nlb (Ne.symm ne432) (own_nlb (Ne.symm ne413) (own_nlb (Ne.symm ne425) (own_nlb (Ne.symm ne432) (own_nlb (Ne.symm ne408) own_nl0))))))).ext E579).other W583 (Or.inl ne591)).other W587 (Or.inl ne591))
    have t594 := ((((own_exa t441 K447).ext E579).wr W583).wr W587)
    obtain ⟨cq593, kq593, q593a, q593b, q593c⟩ := isOf hZ e587 t594
    obtain ⟨_, _, ⟨T593, L593, kk593, nn593⟩, -, X593, ⟨Lc593, hQ593, l593, y593, z593⟩, st593⟩ := X587.virtualBack hx (y := ym9) (z := ym9) hown (mvT hZ (wk94 hw)) (mvT hZ (wk95 hw)) (notFace_of_selects (args := #[]) (mvT hZ (wk97 hw))) (mvT hZ (wk97 hw)) (mvT hZ (wk96 hw)) (by decide) (backOf (W := 0) (rm11_12 l Z a0 hw w hW [] b9 b57 h587 n0 O589 t592) hZ (wk98 hw) (wk36 hw) (by decide) (by decide)) q593a q593c (g := (mkF m 260 Lb590 [(.ref b57), (.ref b9)])) rfl (by rw [hml]; rfl) (Steps.refl _) (argsL := [(.ref b57)]) (rest := []) (lenOf pds_8 rfl) rfl (by show 2 * 0 + _ ≤ _; exact Nat.le_of_eq rfl) (hb hby at_260) (fun _ _ => ⟨rfl, e587, (by decide : 11 + 0 ≤ _), (by decide : 516 + 0 ≤ _)⟩)
    dsimp only [Pt.U, Pt.locs, Pt.cells, Pt.slots] at X593 l593 y593 z593 st593 hQ593
    rw [l593, y593, z593] at X593
    obtain ⟨rfl, N593q, e593⟩ := hQ593
    have N593 := Fr.app N587 N593q
    have ne595 : b9 ≠ b579 := (Nat.ne_of_lt (Nat.lt_of_lt_of_le (Nat.lt_of_lt_of_le t441.lt K447.1) (Nat.le_of_eq g579.symm)))
    have t596 := (((r447_0.ext E579).other W583 (Or.inl ne595)).other W587 (Or.inl ne595))
    obtain ⟨cq597, kq597, q597a, q597b, q597c⟩ := isOf hZ e593 t594
    obtain ⟨_, _, ⟨T597, L597, kk597, nn597⟩, -, X597, ⟨Lc597, hQ597, l597, y597, z597⟩, st597⟩ := X593.virtualBack hx (y := ym10) (z := ym10) hown (mvT hZ (wk100 hw)) (mvT hZ (wk101 hw)) (notFace_of_selects (args := #[]) (mvT hZ (wk103 hw))) (mvT hZ (wk103 hw)) (mvT hZ (wk102 hw)) (by decide) (backOf (W := 0) (rm12_32 l Z a0 hw w hW [] b9 h587 n0 O589 t596) hZ (wk104 hw) (wk36 hw) (by decide) (by decide)) q597a q597c (g := (mkF m 265 Lb590 [(.ref b9)])) rfl (by rw [hml]; rfl) (Steps.refl _) (argsL := []) (rest := []) (lenOf pds_9 rfl) rfl (by show 2 * 0 + _ ≤ _; exact Nat.le_of_eq rfl) (hb hby at_265) (fun _ _ => ⟨rfl, e593, (by decide : 11 + 0 ≤ _), (by decide : 516 + 0 ≤ _)⟩)
    dsimp only [Pt.U, Pt.locs, Pt.cells, Pt.slots] at X597 l597 y597 z597 st597 hQ597
    rw [l597, y597, z597] at X597
    obtain ⟨rfl, N597q, e597⟩ := hQ597
    have N597 := Fr.app N593 N597q
    let Lb598 : Array Slot := #[.val (.long p0), .second, .val (.long p1), .second, .val (.int p2), .val (.int p3), .val (.int (2 : Int32)), .val (.int (2 : Int32)), .val (.long (p1 &&& (9223372036854775807 : Int64))), .second, .val (.ref b4), .val (.ref b9), .val (.ref b14), .val (.ref b36), .val (.ref b57), .val (.int (ownS (ownEnd p0 (p1 &&& (9223372036854775807 : Int64))) p0)), .val (.ref b57), .val (.ref b579), .val (.int (2 : Int32)), .val (.int (1 : Int32))]
    obtain ⟨T599, X599, e599, st599⟩ := getF X597 hx hZ hown (host := "") (Or.inl (wk93 hw)) Via.refl e597 t592 (g := (mkF m 289 Lb598 [(.ref b57)])) rfl rfl (hb hby at_289)
    have t600 := ((((own_fld (own_fld (own_fld (own_fld (own_fld i57_108 K59 own_nl0) K61 own_nl0) K75 (own_nls (sn69 hw) (own_nls (sn68 hw) (own_nls (sn67 hw) (own_nls (sn66 hw) (own_nls (sn65 hw) (own_nls (sn64 hw) (own_nls (sn63 hw) (own_nls (sn62 hw) own_nl0))))))))) K430 (own_nlb (Ne.symm ne408) (own_nlb (Ne.symm ne413) (own_nlb (Ne.symm ne413) (own_nlb (Ne.symm ne425) (own_nlb (Ne.symm ne413) (own_nlb (Ne.symm ne408) own_nl0))))))) K447 (own_nlb (Ne.symm ne432) (own_nlb (Ne.symm ne432) (own_nlb (Ne.symm ne413) (own_nlb (Ne.symm ne425) (own_nlb (Ne.symm ne432) (own_nlb (Ne.symm ne408) own_nl0))))))).ext E579).other W583 (Or.inl ne591)).other W587 (Or.inl ne591))
    obtain ⟨T601, X601, e601, st601⟩ := getF X599 hx hZ hown (host := "") (Or.inl (wk107 hw)) Via.refl e599 t600 (g := (mkF m 298 Lb598 [(.ref b57)])) rfl rfl (hb hby at_298)
    have t602 := ((((own_fld (own_fld (own_fld (own_fld (own_fld i57_110 K59 own_nl0) K61 own_nl0) K75 (own_nls (sn77 hw) (own_nls (sn76 hw) (own_nls (sn75 hw) (own_nls (sn74 hw) (own_nls (sn73 hw) (own_nls (sn72 hw) (own_nls (sn71 hw) (own_nls (sn70 hw) own_nl0))))))))) K430 (own_nlb (Ne.symm ne408) (own_nlb (Ne.symm ne413) (own_nlb (Ne.symm ne413) (own_nlb (Ne.symm ne425) (own_nlb (Ne.symm ne413) (own_nlb (Ne.symm ne408) own_nl0))))))) K447 (own_nlb (Ne.symm ne432) (own_nlb (Ne.symm ne432) (own_nlb (Ne.symm ne413) (own_nlb (Ne.symm ne425) (own_nlb (Ne.symm ne432) (own_nlb (Ne.symm ne408) own_nl0))))))).ext E579).other W583 (Or.inl ne591)).other W587 (Or.inl ne591))
    obtain ⟨T603, X603, e603, st603⟩ := getF X601 hx hZ hown (host := "") (Or.inl (wk109 hw)) Via.refl e601 t602 (g := (mkF m 306 Lb598 [(.ref b57)])) rfl rfl (hb hby at_306)
    obtain ⟨cl604, Ar604, cw604, S604, Nn604, Hs604, G604⟩ := id (V587)
    have hin604 : ¬ ((0 : Int32) < 0 ∨ cl604.slots.size ≤ ((0 : Int32)).toNatClampNeg) := inb_of S604 ⟨by decide, by decide⟩
    have ne605 : b36 ≠ b579 := (Nat.ne_of_lt (Nat.lt_of_lt_of_le (Nat.lt_of_lt_of_le t437.lt K447.1) (Nat.le_of_eq g579.symm)))
    have t606 := (((r447_3.ext E579).other W583 (Or.inl ne605)).other W587 (Or.inl ne605))
    obtain ⟨T607, X607, e607, st607⟩ := getF X603 hx hZ hown (host := "") (Or.inl (wk107 hw)) Via.refl e603 t606 (g := (mkF m 334 Lb598 [(.ref b36)])) rfl rfl (hb hby at_334)
    obtain ⟨cl608, Ar608, cw608, S608, Nn608, Hs608, G608⟩ := id (V587)
    have hin608 : ¬ ((0 : Int32) < 0 ∨ cl608.slots.size ≤ ((0 : Int32)).toNatClampNeg) := inb_of S608 ⟨by decide, by decide⟩
    have t609 := (((r447_4.ext E579).other W583 (Or.inl ne605)).other W587 (Or.inl ne605))
    obtain ⟨T610, X610, e610, st610⟩ := getF X607 hx hZ hown (host := "") (Or.inl (wk109 hw)) Via.refl e607 t609 (g := (mkF m 344 Lb598 [(.ref b36)])) rfl rfl (hb hby at_344)
    obtain ⟨cl611, Ar611, cw611, S611, Nn611, Hs611, G611⟩ := id (V587)
    have hin611 : ¬ ((1 : Int32) < 0 ∨ cl611.slots.size ≤ ((1 : Int32)).toNatClampNeg) := inb_of S611 ⟨by decide, by decide⟩
    obtain ⟨cl612, Ar612, cw612, S612, Nn612, Hs612, G612⟩ := id (V587)
    have hin612 : ¬ ((0 : Int32) < 0 ∨ cl612.slots.size ≤ ((0 : Int32)).toNatClampNeg) := inb_of S612 ⟨by decide, by decide⟩
    have t613 := (((r447_1.ext E579).other W583 (Or.inl ne605)).other W587 (Or.inl ne605))
    obtain ⟨T614, X614, e614, st614⟩ := getF X610 hx hZ hown (host := "") (Or.inl (wk93 hw)) Via.refl e610 t613 (g := (mkF m 358 Lb598 [(.ref b36)])) rfl rfl (hb hby at_358)
    obtain ⟨cl615, Ar615, cw615, S615, Nn615, Hs615, G615⟩ := id (V587)
    have hin615 : ¬ ((1 : Int32) < 0 ∨ cl615.slots.size ≤ ((1 : Int32)).toNatClampNeg) := inb_of S615 ⟨by decide, by decide⟩
    have ne616 : b14 ≠ b579 := (Nat.ne_of_lt (Nat.lt_of_lt_of_le (Nat.lt_of_lt_of_le t446.lt K447.1) (Nat.le_of_eq g579.symm)))
    have t617 := (((r447_5.ext E579).other W583 (Or.inl ne616)).other W587 (Or.inl ne616))
    obtain ⟨T618, X618, e618, st618⟩ := getF X614 hx hZ hown (host := "") (Or.inl (wk107 hw)) Via.refl e614 t617 (g := (mkF m 388 Lb598 [(.ref b14)])) rfl rfl (hb hby at_388)
    obtain ⟨cl619, Ar619, cw619, S619, Nn619, Hs619, G619⟩ := id (V587)
    have hin619 : ¬ ((0 : Int32) < 0 ∨ cl619.slots.size ≤ ((0 : Int32)).toNatClampNeg) := inb_of S619 ⟨by decide, by decide⟩
    obtain ⟨cl620, Ar620, cw620, S620, Nn620, Hs620, G620⟩ := id (V587)
    have hin620 : ¬ ((1 : Int32) < 0 ∨ cl620.slots.size ≤ ((1 : Int32)).toNatClampNeg) := inb_of S620 ⟨by decide, by decide⟩
    have t621 := ((((own_fld r430_2 K447 (own_nlb ne412 (own_nlb ne412 (own_nls (sn78 hw) (own_nlb (Ne.symm ne423) (own_nlb ne412 (own_nlb (Ne.symm ne406) own_nl0))))))).ext E579).other W583 (Or.inl ne616)).other W587 (Or.inl ne616))
    obtain ⟨T622, X622, e622, st622⟩ := getF X618 hx hZ hown (host := "") (Or.inl (wk109 hw)) Via.refl e618 t621 (g := (mkF m 402 Lb598 [(.ref b14)])) rfl rfl (hb hby at_402)
    have pre623 : ∀ t, Steps p.tables e below (T622.setTop (mkF m 407 Lb598 [(.ref b579), .null])) t → Steps p.tables e below (s₁.setTop (entryFrame m #[(.long p0), (.long p1), (.int p2), (.int p3)] maxLocals)) t := fun t k => pre452 t (by
     show Steps p.tables e below (T450.setTop (mkF m 159 Lb577 [(.int (2 : Int32))])) _
     refine XS.ifYes X450.here hx rfl (pc0 := 159) (pc' := 167) rfl (hb hby at_159) rfl (by decide) (by decide) (by decide) ?_
     refine si X450 hx hby at_167 rfl ?_
     refine sc X450 hx hby at_169 ?_
     refine XS.icmpYes X450.here hx rfl (pc0 := 170) (pc' := 178) rfl (hb hby at_170) rfl (by decide) (by decide) (by decide) ?_
     refine sa X450 hx hby at_178 rfl rfl ?_
     show Steps p.tables e below (T450.setTop (mkF m 180 Lb577 [(.ref b57)])) _
     refine XS.astore X450.here hx rfl (hb hby at_180) rfl rfl (l' := Lb578) rfl ?_
     refine sc X450 hx hby at_182 ?_
     refine st579 _ ?_
     refine XS.astore X579.here hx rfl (hb hby at_186) rfl rfl (l' := Lb581) rfl ?_
     refine sc X579 hx hby at_188 ?_
     refine XS.istore X579.here hx rfl (hb hby at_189) rfl (l' := Lb582) rfl ?_
     refine si X579 hx hby at_191 rfl ?_
     refine sc X579 hx hby at_193 ?_
     show Steps p.tables e below (T579.setTop (mkF m 194 Lb582 [(.int (3 : Int32)), (.int (2 : Int32))])) _
     refine XS.icmpYes X579.here hx rfl (pc0 := 194) (pc' := 213) rfl (hb hby at_194) rfl (by decide) (by decide) (by decide) ?_
     refine si X579 hx hby at_213 rfl ?_
     refine sc X579 hx hby at_215 ?_
     refine sn X579 hx hby at_216 (by decide) ?_
     refine si X579 hx hby at_219 rfl ?_
     show Steps p.tables e below (T579.setTop (mkF m 221 Lb582 [(.int (2 : Int32))])) _
     refine sc X579 hx hby at_221 ?_
     refine sn X579 hx hby at_222 (by decide) ?_
     refine sa X579 hx hby at_225 rfl rfl ?_
     refine si X579 hx hby at_227 rfl ?_
     refine sa X579 hx hby at_229 rfl rfl ?_
     show Steps p.tables e below (T579.setTop (mkF m 231 Lb582 [(.ref b36), (.int (0 : Int32)), (.ref b579)])) _
     refine st583 _ ?_
     refine XS.iinc X583.here hx rfl (hb hby at_232) rfl (l' := Lb586) rfl ?_
     refine si X583 hx hby at_235 rfl ?_
     refine sc X583 hx hby at_237 ?_
     refine sn X583 hx hby at_238 (by decide) ?_
     refine si X583 hx hby at_241 rfl ?_
     show Steps p.tables e below (T583.setTop (mkF m 243 Lb586 [(.int (2 : Int32))])) _
     refine sN X583 hx hby at_243 (by decide) ?_
     refine sa X583 hx hby at_246 rfl rfl ?_
     refine si X583 hx hby at_248 rfl ?_
     refine sa X583 hx hby at_250 rfl rfl ?_
     refine st587 _ ?_
     refine XS.iinc X587.here hx rfl (hb hby at_253) rfl (l' := Lb590) rfl ?_
     refine sa X587 hx hby at_256 rfl rfl ?_
     refine sa X587 hx hby at_258 rfl rfl ?_
     refine st593.trans ?_
     refine sa X593 hx hby at_263 rfl rfl ?_
     refine st597.trans ?_
     refine si X597 hx hby at_268 rfl ?_
     refine XS.i2l X597.here hx rfl (hb hby at_270) rfl ?_
     refine XS.lcmp X597.here hx rfl (hb hby at_271) rfl ?_
     refine sN X597 hx hby at_272 (by decide) ?_
     refine sc X597 hx hby at_275 ?_
     show Steps p.tables e below (T597.setTop (mkF m 276 Lb590 [(.int (1 : Int32))])) _
     refine sg (pc := 276) (pc' := 280) X597 hx hby at_276 (by decide) (by decide) ?_
     refine XS.istore X597.here hx rfl (hb hby at_280) rfl (l' := Lb598) rfl ?_
     refine si X597 hx hby at_282 rfl ?_
     refine sN X597 hx hby at_284 (by decide) ?_
     refine sa X597 hx hby at_287 rfl rfl ?_
     show Steps p.tables e below (T597.setTop (mkF m 289 Lb598 [(.ref b57)])) _
     refine st599 _ ?_
     refine sc X599 hx hby at_292 ?_
     refine sn X599 hx hby at_293 (by decide) ?_
     refine sa X599 hx hby at_296 rfl rfl ?_
     refine st601 _ ?_
     refine XS.ifnonnullNo X601.here hx rfl (hb hby at_301) rfl ?_
     refine sa X601 hx hby at_304 rfl rfl ?_
     refine st603 _ ?_
     refine XS.ifnonnullNo X603.here hx rfl (hb hby at_309) rfl ?_
     refine sc X603 hx hby at_312 ?_
     refine sg (pc := 313) (pc' := 317) X603 hx hby at_313 (by decide) (by decide) ?_
     refine XS.istore X603.here hx rfl (hb hby at_317) rfl (l' := Lb598) rfl ?_
     refine si X603 hx hby at_319 rfl ?_
     show Steps p.tables e below (T603.setTop (mkF m 321 Lb598 [(.int (2 : Int32))])) _
     refine sc X603 hx hby at_321 ?_
     refine sn X603 hx hby at_322 (by decide) ?_
     refine si X603 hx hby at_325 rfl ?_
     refine sN X603 hx hby at_327 (by decide) ?_
     refine sa X603 hx hby at_330 rfl rfl ?_
     show Steps p.tables e below (T603.setTop (mkF m 332 Lb598 [(.ref b579)])) _
     refine sc X603 hx hby at_332 ?_
     refine X603.aaload hx (j := (0 : Int32)) (v := (.ref b36)) (by rw [e603]; exact Ar604.1) (State.isArrayOf_alike hZ.alike Ar604.2.1) rfl Ar604.2.2 hin604 (Hs604.at hin604 rfl) (g := (mkF m 333 Lb598 [(.int (0 : Int32)), (.ref b579)])) rfl rfl (hb hby at_333) _ ?_
     refine st607 _ ?_
     refine XS.ifnonnullNo X607.here hx rfl (hb hby at_337) rfl ?_
     refine sa X607 hx hby at_340 rfl rfl ?_
     refine sc X607 hx hby at_342 ?_
     refine X607.aaload hx (j := (0 : Int32)) (v := (.ref b36)) (by rw [e607]; exact Ar608.1) (State.isArrayOf_alike hZ.alike Ar608.2.1) rfl Ar608.2.2 hin608 (Hs608.at hin608 rfl) (g := (mkF m 343 Lb598 [(.int (0 : Int32)), (.ref b579)])) rfl rfl (hb hby at_343) _ ?_
     refine st610 _ ?_
     refine sa X610 hx hby at_347 rfl rfl ?_
     refine sc X610 hx hby at_349 ?_
     refine X610.aaload hx (j := (1 : Int32)) (v := (.ref b14)) (by rw [e610]; exact Ar611.1) (State.isArrayOf_alike hZ.alike Ar611.2.1) rfl Ar611.2.2 hin611 (Hs611.at hin611 rfl) (g := (mkF m 350 Lb598 [(.int (1 : Int32)), (.ref b579), (.ref b14)])) rfl rfl (hb hby at_350) _ ?_
     refine Jvm.RoadKit.acmp (g := (mkF m 351 Lb598 [(.ref b14), (.ref b14)])) X610 hx rfl rfl rfl (pc0 := 351) (pc' := 354) (same := true) rfl (hb hby at_351) rfl (decide_eq_true rfl) (by decide) (by decide) ?_
     refine sa X610 hx hby at_354 rfl rfl ?_
     show Steps p.tables e below (T610.setTop (mkF m 356 Lb598 [(.ref b579)])) _
     refine sc X610 hx hby at_356 ?_
     refine X610.aaload hx (j := (0 : Int32)) (v := (.ref b36)) (by rw [e610]; exact Ar612.1) (State.isArrayOf_alike hZ.alike Ar612.2.1) rfl Ar612.2.2 hin612 (Hs612.at hin612 rfl) (g := (mkF m 357 Lb598 [(.int (0 : Int32)), (.ref b579)])) rfl rfl (hb hby at_357) _ ?_
     refine st614 _ ?_
     refine si X614 hx hby at_361 rfl ?_
     refine sn X614 hx hby at_363 (teq (rfl : (ownS (ownEnd p0 (p1 &&& (9223372036854775807 : Int64))) p0) = (ownS (ownEnd p0 (p1 &&& (9223372036854775807 : Int64))) p0))).2 ?_
     refine sc X614 hx hby at_366 ?_
     refine sg (pc := 367) (pc' := 371) X614 hx hby at_367 (by decide) (by decide) ?_
     refine XS.istore X614.here hx rfl (hb hby at_371) rfl (l' := Lb598) rfl ?_
     show Steps p.tables e below (T614.setTop (mkF m 373 Lb598 [])) _
     refine si X614 hx hby at_373 rfl ?_
     refine sc X614 hx hby at_375 ?_
     refine sn X614 hx hby at_376 (by decide) ?_
     refine si X614 hx hby at_379 rfl ?_
     refine sN X614 hx hby at_381 (by decide) ?_
     show Steps p.tables e below (T614.setTop (mkF m 384 Lb598 [])) _
     refine sa X614 hx hby at_384 rfl rfl ?_
     refine sc X614 hx hby at_386 ?_
     refine X614.aaload hx (j := (1 : Int32)) (v := (.ref b14)) (by rw [e614]; exact Ar615.1) (State.isArrayOf_alike hZ.alike Ar615.2.1) rfl Ar615.2.2 hin615 (Hs615.at hin615 rfl) (g := (mkF m 387 Lb598 [(.int (1 : Int32)), (.ref b579)])) rfl rfl (hb hby at_387) _ ?_
     refine st618 _ ?_
     refine sa X618 hx hby at_391 rfl rfl ?_
     refine sc X618 hx hby at_393 ?_
     refine X618.aaload hx (j := (0 : Int32)) (v := (.ref b36)) (by rw [e618]; exact Ar619.1) (State.isArrayOf_alike hZ.alike Ar619.2.1) rfl Ar619.2.2 hin619 (Hs619.at hin619 rfl) (g := (mkF m 394 Lb598 [(.int (0 : Int32)), (.ref b579), (.ref b36)])) rfl rfl (hb hby at_394) _ ?_
     refine Jvm.RoadKit.acmp (g := (mkF m 395 Lb598 [(.ref b36), (.ref b36)])) X618 hx rfl rfl rfl (pc0 := 395) (pc' := 398) (same := true) rfl (hb hby at_395) rfl (decide_eq_true rfl) (by decide) (by decide) ?_
     refine sa X618 hx hby at_398 rfl rfl ?_
     show Steps p.tables e below (T618.setTop (mkF m 400 Lb598 [(.ref b579)])) _
     refine sc X618 hx hby at_400 ?_
     refine X618.aaload hx (j := (1 : Int32)) (v := (.ref b14)) (by rw [e618]; exact Ar620.1) (State.isArrayOf_alike hZ.alike Ar620.2.1) rfl Ar620.2.2 hin620 (Hs620.at hin620 rfl) (g := (mkF m 401 Lb598 [(.int (1 : Int32)), (.ref b579)])) rfl rfl (hb hby at_401) _ ?_
     refine st622 _ ?_
     refine sa X622 hx hby at_405 rfl rfl ?_
     exact k)
    obtain ⟨cl624, Ar624, cw624, S624, Nn624, Hs624, G624⟩ := id (V587)
    have hin624 : ¬ ((2 : Int32) < 0 ∨ cl624.slots.size ≤ ((2 : Int32)).toNatClampNeg) := inb_of S624 ⟨by decide, by decide⟩
    obtain ⟨cl625, Ar625, cw625, S625, Nn625, Hs625, G625⟩ := id (V587)
    have hin625 : ¬ ((1 : Int32) < 0 ∨ cl625.slots.size ≤ ((1 : Int32)).toNatClampNeg) := inb_of S625 ⟨by decide, by decide⟩
    have t626 := (((t449.ext E579).other W583 (Or.inl ne616)).other W587 (Or.inl ne616))
    obtain ⟨T627, X627, e627, st627⟩ := getF X622 hx hZ hown (host := "") (Or.inl (wk93 hw)) Via.refl e622 t626 (g := (mkF m 416 Lb598 [(.ref b14)])) rfl rfl (hb hby at_416)
    have t628 := ((((own_fld (own_fld r75_4 K430 (own_nlb (Ne.symm ne408) (own_nlb (Ne.symm ne413) (own_nlb (Ne.symm ne413) (own_nlb (Ne.symm ne425) (own_nlb (Ne.symm ne413) (own_nlb (Ne.symm ne408) own_nl0))))))) K447 (own_nlb (Ne.symm ne432) (own_nlb (Ne.symm ne432) (own_nlb (Ne.symm ne413) (own_nlb (Ne.symm ne425) (own_nlb (Ne.symm ne432) (own_nlb (Ne.symm ne408) own_nl0))))))).ext E579).other W583 (Or.inl ne591)).other W587 (Or.inl ne591))
    have t629 := ((((own_exa t434 K447).ext E579).wr W583).wr W587)
    have ne630 : b4 ≠ b579 := (Nat.ne_of_lt (Nat.lt_of_lt_of_le (Nat.lt_of_lt_of_le t434.lt K447.1) (Nat.le_of_eq g579.symm)))
    have t631 := ((((own_fld t436 K447 (own_nlb ne53 (own_nlb ne53 (own_nlb ne32 (own_nlb ne435 (own_nlb ne53 (own_nlb ne29 own_nl0))))))).ext E579).other W583 (Or.inl ne630)).other W587 (Or.inl ne630))
    have t632 := ((((own_exa (own_exa (own_exa t63 K75) K430) K447).ext E579).wr W583).wr W587)
    have t633 := ((((own_fld (own_fld r75_5 K430 (own_nlb (Ne.symm ne408) (own_nlb (Ne.symm ne413) (own_nlb (Ne.symm ne413) (own_nlb (Ne.symm ne425) (own_nlb (Ne.symm ne413) (own_nlb (Ne.symm ne408) own_nl0))))))) K447 (own_nlb (Ne.symm ne432) (own_nlb (Ne.symm ne432) (own_nlb (Ne.symm ne413) (own_nlb (Ne.symm ne425) (own_nlb (Ne.symm ne432) (own_nlb (Ne.symm ne408) own_nl0))))))).ext E579).other W583 (Or.inl ne591)).other W587 (Or.inl ne591))
    have t634 := ((((own_fld (own_fld r75_6 K430 (own_nlb (Ne.symm ne408) (own_nlb (Ne.symm ne413) (own_nlb (Ne.symm ne413) (own_nlb (Ne.symm ne425) (own_nlb (Ne.symm ne413) (own_nlb (Ne.symm ne408) own_nl0))))))) K447 (own_nlb (Ne.symm ne432) (own_nlb (Ne.symm ne432) (own_nlb (Ne.symm ne413) (own_nlb (Ne.symm ne425) (own_nlb (Ne.symm ne432) (own_nlb (Ne.symm ne408) own_nl0))))))).ext E579).other W583 (Or.inl ne591)).other W587 (Or.inl ne591))
    have t635 := ((((own_fld t440 K447 (own_nlb ne53 (own_nlb ne53 (own_nlb ne32 (own_nlb ne435 (own_nlb ne53 (own_nlb ne29 own_nl0))))))).ext E579).other W583 (Or.inl ne630)).other W587 (Or.inl ne630))
    have t636 := ((((own_fld r430_1 K447 (own_nlb ne407 (own_nlb ne407 (own_nlb ne406 (own_nlb ne429 (own_nlb ne407 (own_nls (sn82 hw) own_nl0))))))).ext E579).other W583 (Or.inl ne595)).other W587 (Or.inl ne595))
    have t637 := ((((own_fld t443 K447 (own_nlb ne407 (own_nlb ne407 (own_nlb ne406 (own_nlb ne429 (own_nlb ne407 (own_nls (sn83 hw) own_nl0))))))).ext E579).other W583 (Or.inl ne595)).other W587 (Or.inl ne595))
    have ne638 : b11_0 ≠ b579 := (Nat.ne_of_lt (Nat.lt_of_lt_of_le r447_2.lt (Nat.le_of_eq g579.symm)))
    have t639 := (own_gk_oth (own_gk_oth (own_gk_ext r447_2 E579) W583 ne638) W587 ne638)
    have t640 := ((t584.wr W583).wr W587)
    obtain ⟨cq641, kq641, q641a, q641b, q641c⟩ := isOf hZ e627 t594
    obtain ⟨_, _, ⟨T641, L641, kk641, nn641⟩, -, X641, ⟨Lc641, hQ641, l641, y641, z641⟩, st641⟩ := X627.virtualBack hx (y := ym19) (z := ym19) hown (mvT hZ (wk111 hw)) (mvT hZ (wk112 hw)) (notFace_of_selects (args := #[]) (mvT hZ (wk114 hw))) (mvT hZ (wk114 hw)) (mvT hZ (wk113 hw)) (by decide) (backOf (W := 0) (rm13_33 l Z a0 hw w hW [] b9 b57 p0 b4 (p1 &&& (9223372036854775807 : Int64)) b11_0 k11_0 b36 h587 n0 O589 t596 t628 t629 t631 (own_lf1 _) t632 t633 t634 t635 (own_max _) t636 t594 t592 (own_S1 _ _) t637 t639 (own_S2 _ _) (own_S3 _ _) t600 t602 t640 t606 gg57 ne432 gg36 ne408 ne407 ggb11_0 ne425 ne424 r11_4 ne429 gg9) hZ (wk115 hw) (wk36 hw) (by decide) (by decide)) q641a q641c (g := (mkF m 436 Lb598 [(.long p0), (.ref b57), (.ref b9)])) rfl (by rw [hml]; rfl) (Steps.refl _) (argsL := [(.ref b57), (.long p0)]) (rest := []) (lenOf pds_14 rfl) rfl (by show 2 * 0 + _ ≤ _; exact Nat.le_of_eq rfl) (hb hby at_436) (fun _ _ => ⟨rfl, e627, (by decide : 11 + 0 ≤ _), (by decide : 516 + 0 ≤ _)⟩)
    dsimp only [Pt.U, Pt.locs, Pt.cells, Pt.slots] at X641 l641 y641 z641 st641 hQ641
    rw [l641, y641, z641] at X641
    obtain ⟨rfl, N641q, K641, r641_0, r641_1, r641_2, r641_3, r641_4, r641_5⟩ := hQ641
    have N641 := Fr.app N597 N641q
    have O642 := own_old O589 K641 (own_ngc gg57 (own_ngc gg57 (own_ngc gg36 (own_ngc ggb11_0 (own_ngc gg57 (own_ngc gg9 own_ng0))))))
    obtain ⟨T643, X643, e643, st643⟩ := getF X641 hx hZ hown (host := "") (Or.inl (wk109 hw)) Via.refl rfl r641_4 (g := (mkF m 446 Lb598 [(.ref b57)])) rfl rfl (hb hby at_446)
    have t644 := (own_arv V587 K641 (own_nbc ne591 (own_nbc ne591 (own_nbc ne605 (own_nbc ne638 (own_nbc ne591 (own_nbc ne595 own_nb0)))))))
    obtain ⟨cl645, Ar645, cw645, S645, Nn645, Hs645, G645⟩ := id (t644)
    have hin645 : ¬ ((0 : Int32) < 0 ∨ cl645.slots.size ≤ ((0 : Int32)).toNatClampNeg) := inb_of S645 ⟨by decide, by decide⟩
    obtain ⟨T646, X646, e646, st646⟩ := getF X643 hx hZ hown (host := "") (Or.inl (wk107 hw)) Via.refl e643 r641_3 (g := (mkF m 458 Lb598 [(.ref b57)])) rfl rfl (hb hby at_458)
    obtain ⟨cl647, Ar647, cw647, S647, Nn647, Hs647, G647⟩ := id (t644)
    have hin647 : ¬ ((0 : Int32) < 0 ∨ cl647.slots.size ≤ ((0 : Int32)).toNatClampNeg) := inb_of S647 ⟨by decide, by decide⟩
    obtain ⟨T648, X648, e648, st648⟩ := getF X646 hx hZ hown (host := "") (Or.inl (wk107 hw)) Via.refl e646 r641_5 (g := (mkF m 486 Lb598 [(.ref b36)])) rfl rfl (hb hby at_486)
    obtain ⟨fs, hr, hrun, hended, hREW⟩ := Stand.leaveW (s := s) (vm₁ := T6.vm) X648 hS6 (by rw [e648]; exact (Nat.le_trans (Nat.le_trans (Nat.le_trans (Nat.le_trans (Nat.le_trans (Nat.le_trans (Nat.le_trans (Nat.le_trans (Nat.le_trans (Nat.le_trans (Nat.le_trans (Nat.le_trans (Nat.le_trans (Nat.le_trans (Nat.le_trans (Nat.le_trans (Nat.le_trans (Nat.le_trans (Nat.le_trans (Nat.le_trans (Nat.le_refl _) E9.1) K11.1) E14.1) K16.1) K18.1) K33.1) E36.1) K38.1) K40.1) K54.1) E57.1) K59.1) K61.1) K75.1) K430.1) K447.1) E579.1) (Nat.le_of_eq W583.size.symm)) (Nat.le_of_eq W587.size.symm)) K641.1)) (v := some (.int (1 : Int32))) (fun h => by rw [Bd.returns] at h; cases h)
    refine ⟨_, _, pre623 _ ?_, hrun, hended, _, _, rfl, ?_, hREW.1, hREW.2.1, hREW.2.2.1, hREW.2.2.2.mono (by decide) (by decide)⟩
    · show Steps p.tables e below (T622.setTop (mkF m 407 Lb598 [(.ref b579), .null])) _
      refine sc X622 hx hby at_407 ?_
      refine X622.aaload hx (j := (2 : Int32)) (v := .null) (by rw [e622]; exact Ar624.1) (State.isArrayOf_alike hZ.alike Ar624.2.1) rfl Ar624.2.2 hin624 (Hs624.at hin624 rfl) (g := (mkF m 408 Lb598 [(.int (2 : Int32)), (.ref b579), .null])) rfl rfl (hb hby at_408) _ ?_
      refine Jvm.RoadKit.acmp (g := (mkF m 409 Lb598 [.null, .null])) X622 hx rfl rfl rfl (pc0 := 409) (pc' := 412) (same := true) rfl (hb hby at_409) rfl (decide_eq_true rfl) (by decide) (by decide) ?_
      refine sa X622 hx hby at_412 rfl rfl ?_
      refine sc X622 hx hby at_414 ?_
      show Steps p.tables e below (T622.setTop (mkF m 415 Lb598 [(.int (1 : Int32)), (.ref b579)])) _
      refine X622.aaload hx (j := (1 : Int32)) (v := (.ref b14)) (by rw [e622]; exact Ar625.1) (State.isArrayOf_alike hZ.alike Ar625.2.1) rfl Ar625.2.2 hin625 (Hs625.at hin625 rfl) (g := (mkF m 415 Lb598 [(.int (1 : Int32)), (.ref b579)])) rfl rfl (hb hby at_415) _ ?_
      refine st627 _ ?_
      refine si X627 hx hby at_419 rfl ?_
      refine sn X627 hx hby at_421 (teq (rfl : (ownS (ownEnd p0 (p1 &&& (9223372036854775807 : Int64))) p0) = (ownS (ownEnd p0 (p1 &&& (9223372036854775807 : Int64))) p0))).2 ?_
      refine sc X627 hx hby at_424 ?_
      refine sg (pc := 425) (pc' := 429) X627 hx hby at_425 (by decide) (by decide) ?_
      refine XS.istore X627.here hx rfl (hb hby at_429) rfl (l' := Lb598) rfl ?_
      show Steps p.tables e below (T627.setTop (mkF m 431 Lb598 [])) _
      refine sa X627 hx hby at_431 rfl rfl ?_
      refine sa X627 hx hby at_433 rfl rfl ?_
      refine sL X627 hx hby at_435 rfl ?_
      refine st641.trans ?_
      refine si X641 hx hby at_439 rfl ?_
      refine sN X641 hx hby at_441 (by decide) ?_
      refine sa X641 hx hby at_444 rfl rfl ?_
      refine st643 _ ?_
      refine sa X643 hx hby at_449 rfl rfl ?_
      refine sc X643 hx hby at_451 ?_
      refine X643.aaload hx (j := (0 : Int32)) (v := (.ref b36)) (by rw [e643]; exact Ar645.1) (State.isArrayOf_alike hZ.alike Ar645.2.1) rfl Ar645.2.2 hin645 (Hs645.at hin645 rfl) (g := (mkF m 452 Lb598 [(.int (0 : Int32)), (.ref b579), (.ref b36)])) rfl rfl (hb hby at_452) _ ?_
      refine Jvm.RoadKit.acmp (g := (mkF m 453 Lb598 [(.ref b36), (.ref b36)])) X643 hx rfl rfl rfl (pc0 := 453) (pc' := 456) (same := true) rfl (hb hby at_453) rfl (decide_eq_true rfl) (by decide) (by decide) ?_
      refine sa X643 hx hby at_456 rfl rfl ?_
      show Steps p.tables e below (T643.setTop (mkF m 458 Lb598 [(.ref b57)])) _
      refine st646 _ ?_
      refine XS.ifnonnullNo X646.here hx rfl (hb hby at_461) rfl ?_
      refine sc X646 hx hby at_464 ?_
      refine sg (pc := 465) (pc' := 469) X646 hx hby at_465 (by decide) (by decide) ?_
      refine XS.istore X646.here hx rfl (hb hby at_469) rfl (l' := Lb598) rfl ?_
      refine si X646 hx hby at_471 rfl ?_
      show Steps p.tables e below (T646.setTop (mkF m 473 Lb598 [(.int (2 : Int32))])) _
      refine sc X646 hx hby at_473 ?_
      refine sn X646 hx hby at_474 (by decide) ?_
      refine si X646 hx hby at_477 rfl ?_
      refine sN X646 hx hby at_479 (by decide) ?_
      refine sa X646 hx hby at_482 rfl rfl ?_
      show Steps p.tables e below (T646.setTop (mkF m 484 Lb598 [(.ref b579)])) _
      refine sc X646 hx hby at_484 ?_
      refine X646.aaload hx (j := (0 : Int32)) (v := (.ref b36)) (by rw [e646]; exact Ar647.1) (State.isArrayOf_alike hZ.alike Ar647.2.1) rfl Ar647.2.2 hin647 (Hs647.at hin647 rfl) (g := (mkF m 485 Lb598 [(.int (0 : Int32)), (.ref b579)])) rfl rfl (hb hby at_485) _ ?_
      refine st648 _ ?_
      refine sa X648 hx hby at_489 rfl rfl ?_
      refine Jvm.RoadKit.acmp (g := (mkF m 491 Lb598 [(.ref b57), (.ref b57)])) X648 hx rfl rfl rfl (pc0 := 491) (pc' := 494) (same := true) rfl (hb hby at_491) rfl (decide_eq_true rfl) (by decide) (by decide) ?_
      refine sc X648 hx hby at_494 ?_
      refine sg (pc := 495) (pc' := 499) X648 hx hby at_495 (by decide) (by decide) ?_
      refine XS.istore X648.here hx rfl (hb hby at_499) rfl (l' := Lb598) rfl ?_
      show Steps p.tables e below (T648.setTop (mkF m 501 Lb598 [])) _
      refine si X648 hx hby at_501 rfl ?_
      exact retN X648 hx (t := .boolean) Bd.returns (by simp) (hb hby at_503) hr
    · show Q0 n0 _ T648.heap _
      rw [e648]
      exact ⟨rfl, N641⟩
  ·
   rw [hs79] at pre78
   let Lb649 : Array Slot := #[.val (.long p0), .second, .val (.long p1), .second, .val (.int p2), .val (.int p3), .val (.int (3 : Int32)), .val (.int ((p3 &&& (2147483647 : Int32)) % (3 : Int32))), .val (.long (p1 &&& (9223372036854775807 : Int64))), .second, .val (.ref b4), .val (.ref b9), .val (.ref b14), .val (.ref b36), .val (.ref b57), .unset, .unset, .unset, .unset, .unset]
   have ne650 : b9 ≠ b14 := (Nat.ne_of_lt (Nat.lt_of_lt_of_le (Nat.lt_of_lt_of_le A9.lt K11.1) (Nat.le_of_eq g14.symm)))
   have ne651 : b9 ≠ b36 := (Nat.ne_of_lt (Nat.lt_of_lt_of_le (Nat.lt_of_lt_of_le (Nat.lt_of_lt_of_le (Nat.lt_of_lt_of_le (Nat.lt_of_lt_of_le (Nat.lt_of_lt_of_le A9.lt K11.1) E14.1) K16.1) K18.1) K33.1) (Nat.le_of_eq g36.symm)))
   have ne652 : b9 ≠ b57 := (Nat.ne_of_lt (Nat.lt_of_lt_of_le (Nat.lt_of_lt_of_le (Nat.lt_of_lt_of_le (Nat.lt_of_lt_of_le (Nat.lt_of_lt_of_le (Nat.lt_of_lt_of_le (Nat.lt_of_lt_of_le (Nat.lt_of_lt_of_le (Nat.lt_of_lt_of_le (Nat.lt_of_lt_of_le A9.lt K11.1) E14.1) K16.1) K18.1) K33.1) E36.1) K38.1) K40.1) K54.1) (Nat.le_of_eq g57.symm)))
   have t653 := (own_fld (own_fld (own_fld ((own_fld (own_fld (own_fld ((own_fld (own_fld (own_fld ((own_fld i9_106 K11 (own_nls (sn61 hw) (own_nls (sn60 hw) own_nl0))).ext E14) K16 own_nl0) K18 own_nl0) K33 (own_nlb ne650 (own_nlb ne650 (own_nlb ne650 (own_nlb ne650 (own_nlb ne650 (own_nlb ne650 (own_nlb ne650 (own_nlb ne650 own_nl0))))))))).ext E36) K38 own_nl0) K40 own_nl0) K54 (own_nlb ne651 (own_nlb ne651 (own_nlb ne651 (own_nlb ne651 (own_nlb ne651 (own_nlb ne651 (own_nlb ne651 (own_nlb ne651 own_nl0))))))))).ext E57) K59 own_nl0) K61 own_nl0) K75 (own_nlb ne652 (own_nlb ne652 (own_nlb ne652 (own_nlb ne652 (own_nlb ne652 (own_nlb ne652 (own_nlb ne652 (own_nlb ne652 own_nl0)))))))))
   have t654 := (own_fld (own_fld (own_fld ((own_fld (own_fld (own_fld ((own_fld (own_fld (own_fld (r11_0.ext E14) K16 own_nl0) K18 own_nl0) K33 (own_nlb ne650 (own_nlb ne650 (own_nlb ne650 (own_nlb ne650 (own_nlb ne650 (own_nlb ne650 (own_nlb ne650 (own_nlb ne650 own_nl0))))))))).ext E36) K38 own_nl0) K40 own_nl0) K54 (own_nlb ne651 (own_nlb ne651 (own_nlb ne651 (own_nlb ne651 (own_nlb ne651 (own_nlb ne651 (own_nlb ne651 (own_nlb ne651 own_nl0))))))))).ext E57) K59 own_nl0) K61 own_nl0) K75 (own_nlb ne652 (own_nlb ne652 (own_nlb ne652 (own_nlb ne652 (own_nlb ne652 (own_nlb ne652 (own_nlb ne652 (own_nlb ne652 own_nl0)))))))))
   have t655 := (own_exa (own_exa (own_exa ((own_exa (own_exa (own_exa ((own_exa (own_exa (own_exa ((own_exa A9 K11).ext E14) K16) K18) K33).ext E36) K38) K40) K54).ext E57) K59) K61) K75)
   have ne656 : b14 ≠ b36 := (Nat.ne_of_lt (Nat.lt_of_lt_of_le (Nat.lt_of_lt_of_le t20.lt K33.1) (Nat.le_of_eq g36.symm)))
   have ne657 : b14 ≠ b57 := (Nat.ne_of_lt (Nat.lt_of_lt_of_le (Nat.lt_of_lt_of_le (Nat.lt_of_lt_of_le (Nat.lt_of_lt_of_le (Nat.lt_of_lt_of_le (Nat.lt_of_lt_of_le t20.lt K33.1) E36.1) K38.1) K40.1) K54.1) (Nat.le_of_eq g57.symm)))
   have t658 := (own_fld (own_fld (own_fld ((own_fld (own_fld (own_fld (r33_4.ext E36) K38 own_nl0) K40 own_nl0) K54 (own_nlb ne656 (own_nlb ne656 (own_nlb ne656 (own_nlb ne656 (own_nlb ne656 (own_nlb ne656 (own_nlb ne656 (own_nlb ne656 own_nl0))))))))).ext E57) K59 own_nl0) K61 own_nl0) K75 (own_nlb ne657 (own_nlb ne657 (own_nlb ne657 (own_nlb ne657 (own_nlb ne657 (own_nlb ne657 (own_nlb ne657 (own_nlb ne657 own_nl0)))))))))
   have t659 := (own_exa t71 K75)
   have t660 := (own_fld t72 K75 (own_nlb ne74 (own_nlb ne74 (own_nlb ne74 (own_nlb ne74 (own_nlb ne74 (own_nlb ne74 (own_nlb ne74 (own_nlb ne74 own_nl0)))))))))
   have t661 := (own_exa (own_exa (own_exa ((own_exa (own_exa (own_exa ((own_exa t20 K33).ext E36) K38) K40) K54).ext E57) K59) K61) K75)
   have t662 := (own_fld (own_fld (own_fld ((own_fld (own_fld (own_fld (r33_5.ext E36) K38 own_nl0) K40 own_nl0) K54 (own_nlb ne656 (own_nlb ne656 (own_nlb ne656 (own_nlb ne656 (own_nlb ne656 (own_nlb ne656 (own_nlb ne656 (own_nlb ne656 own_nl0))))))))).ext E57) K59 own_nl0) K61 own_nl0) K75 (own_nlb ne657 (own_nlb ne657 (own_nlb ne657 (own_nlb ne657 (own_nlb ne657 (own_nlb ne657 (own_nlb ne657 (own_nlb ne657 own_nl0)))))))))
   have t663 := (own_fld (own_fld (own_fld ((own_fld (own_fld (own_fld (r33_6.ext E36) K38 own_nl0) K40 own_nl0) K54 (own_nlb ne656 (own_nlb ne656 (own_nlb ne656 (own_nlb ne656 (own_nlb ne656 (own_nlb ne656 (own_nlb ne656 (own_nlb ne656 own_nl0))))))))).ext E57) K59 own_nl0) K61 own_nl0) K75 (own_nlb ne657 (own_nlb ne657 (own_nlb ne657 (own_nlb ne657 (own_nlb ne657 (own_nlb ne657 (own_nlb ne657 (own_nlb ne657 own_nl0)))))))))
   have t664 := (own_fld (own_fld (own_fld ((own_fld (own_fld (own_fld ((own_fld (own_fld (own_fld ((own_fld (r6_1.ext E9) K11 (own_nlb ne29 (own_nlb ne29 own_nl0))).ext E14) K16 own_nl0) K18 own_nl0) K33 (own_nlb ne32 (own_nlb ne32 (own_nlb ne32 (own_nlb ne32 (own_nlb ne32 (own_nlb ne32 (own_nlb ne32 (own_nlb ne32 own_nl0))))))))).ext E36) K38 own_nl0) K40 own_nl0) K54 (own_nlb ne53 (own_nlb ne53 (own_nlb ne53 (own_nlb ne53 (own_nlb ne53 (own_nlb ne53 (own_nlb ne53 (own_nlb ne53 own_nl0))))))))).ext E57) K59 own_nl0) K61 own_nl0) K75 (own_nlb ne74 (own_nlb ne74 (own_nlb ne74 (own_nlb ne74 (own_nlb ne74 (own_nlb ne74 (own_nlb ne74 (own_nlb ne74 own_nl0)))))))))
   have t665 := (own_fld (own_fld (own_fld ((own_fld (own_fld (own_fld (r33_0.ext E36) K38 own_nl0) K40 own_nl0) K54 (own_nlb ne656 (own_nlb ne656 (own_nlb ne656 (own_nlb ne656 (own_nlb ne656 (own_nlb ne656 (own_nlb ne656 (own_nlb ne656 own_nl0))))))))).ext E57) K59 own_nl0) K61 own_nl0) K75 (own_nlb ne657 (own_nlb ne657 (own_nlb ne657 (own_nlb ne657 (own_nlb ne657 (own_nlb ne657 (own_nlb ne657 (own_nlb ne657 own_nl0)))))))))
   have t666 := (own_fld (own_fld (own_fld ((own_fld (own_fld (own_fld ((own_fld (own_fld (own_fld (r11_2.ext E14) K16 own_nl0) K18 own_nl0) K33 (own_nlb ne650 (own_nlb ne650 (own_nlb ne650 (own_nlb ne650 (own_nlb ne650 (own_nlb ne650 (own_nlb ne650 (own_nlb ne650 own_nl0))))))))).ext E36) K38 own_nl0) K40 own_nl0) K54 (own_nlb ne651 (own_nlb ne651 (own_nlb ne651 (own_nlb ne651 (own_nlb ne651 (own_nlb ne651 (own_nlb ne651 (own_nlb ne651 own_nl0))))))))).ext E57) K59 own_nl0) K61 own_nl0) K75 (own_nlb ne652 (own_nlb ne652 (own_nlb ne652 (own_nlb ne652 (own_nlb ne652 (own_nlb ne652 (own_nlb ne652 (own_nlb ne652 own_nl0)))))))))
   have ne667 : b11_0 ≠ b14 := (Nat.ne_of_lt (Nat.lt_of_lt_of_le r11_1.lt (Nat.le_of_eq g14.symm)))
   have ne668 : b11_0 ≠ b36 := (Nat.ne_of_lt (Nat.lt_of_lt_of_le (Nat.lt_of_lt_of_le (Nat.lt_of_lt_of_le (Nat.lt_of_lt_of_le (Nat.lt_of_lt_of_le r11_1.lt E14.1) K16.1) K18.1) K33.1) (Nat.le_of_eq g36.symm)))
   have ne669 : b11_0 ≠ b57 := (Nat.ne_of_lt (Nat.lt_of_lt_of_le (Nat.lt_of_lt_of_le (Nat.lt_of_lt_of_le (Nat.lt_of_lt_of_le (Nat.lt_of_lt_of_le (Nat.lt_of_lt_of_le (Nat.lt_of_lt_of_le (Nat.lt_of_lt_of_le (Nat.lt_of_lt_of_le r11_1.lt E14.1) K16.1) K18.1) K33.1) E36.1) K38.1) K40.1) K54.1) (Nat.le_of_eq g57.symm)))
   have t670 := (own_arv (own_arv (own_arv ((own_arv (own_arv (own_arv ((own_arv (own_arv (own_arv (r11_1.ext E14) K16 own_nb0) K18 own_nb0) K33 (own_nbc (Ne.symm ne667) (own_nbc (Ne.symm ne667) (own_nbc (Ne.symm ne667) (own_nbc (Ne.symm ne667) (own_nbc (Ne.symm ne667) (own_nbc (Ne.symm ne667) (own_nbc (Ne.symm ne667) (own_nbc (Ne.symm ne667) own_nb0))))))))).ext E36) K38 own_nb0) K40 own_nb0) K54 (own_nbc (Ne.symm ne668) (own_nbc (Ne.symm ne668) (own_nbc (Ne.symm ne668) (own_nbc (Ne.symm ne668) (own_nbc (Ne.symm ne668) (own_nbc (Ne.symm ne668) (own_nbc (Ne.symm ne668) (own_nbc (Ne.symm ne668) own_nb0))))))))).ext E57) K59 own_nb0) K61 own_nb0) K75 (own_nbc (Ne.symm ne669) (own_nbc (Ne.symm ne669) (own_nbc (Ne.symm ne669) (own_nbc (Ne.symm ne669) (own_nbc (Ne.symm ne669) (own_nbc (Ne.symm ne669) (own_nbc (Ne.symm ne669) (own_nbc (Ne.symm ne669) own_nb0)))))))))
   have t671 := (own_fld (own_fld (own_fld ((own_fld (own_fld (own_fld ((own_fld (own_fld (own_fld i14_108 K16 own_nl0) K18 own_nl0) K33 (own_nls (sn69 hw) (own_nls (sn68 hw) (own_nls (sn67 hw) (own_nls (sn66 hw) (own_nls (sn65 hw) (own_nls (sn64 hw) (own_nls (sn63 hw) (own_nls (sn62 hw) own_nl0))))))))).ext E36) K38 own_nl0) K40 own_nl0) K54 (own_nlb ne656 (own_nlb ne656 (own_nlb ne656 (own_nlb ne656 (own_nlb ne656 (own_nlb ne656 (own_nlb ne656 (own_nlb ne656 own_nl0))))))))).ext E57) K59 own_nl0) K61 own_nl0) K75 (own_nlb ne657 (own_nlb ne657 (own_nlb ne657 (own_nlb ne657 (own_nlb ne657 (own_nlb ne657 (own_nlb ne657 (own_nlb ne657 own_nl0)))))))))
   have t672 := (own_fld (own_fld (own_fld ((own_fld (own_fld (own_fld ((own_fld (own_fld (own_fld i14_110 K16 own_nl0) K18 own_nl0) K33 (own_nls (sn77 hw) (own_nls (sn76 hw) (own_nls (sn75 hw) (own_nls (sn74 hw) (own_nls (sn73 hw) (own_nls (sn72 hw) (own_nls (sn71 hw) (own_nls (sn70 hw) own_nl0))))))))).ext E36) K38 own_nl0) K40 own_nl0) K54 (own_nlb ne656 (own_nlb ne656 (own_nlb ne656 (own_nlb ne656 (own_nlb ne656 (own_nlb ne656 (own_nlb ne656 (own_nlb ne656 own_nl0))))))))).ext E57) K59 own_nl0) K61 own_nl0) K75 (own_nlb ne657 (own_nlb ne657 (own_nlb ne657 (own_nlb ne657 (own_nlb ne657 (own_nlb ne657 (own_nlb ne657 (own_nlb ne657 own_nl0)))))))))
   have ne673 : b9 ≠ b11_0 := (Nat.ne_of_lt (Nat.lt_of_lt_of_le A9.lt r11_3))
   obtain ⟨cq674, kq674, q674a, q674b, q674c⟩ := isOf hZ rfl t655
   obtain ⟨_, _, ⟨T674, L674, kk674, nn674⟩, -, X674, ⟨Lc674, hQ674, l674, y674, z674⟩, st674⟩ := X75.virtualBack hx (y := ym19) (z := ym19) hown (mvT hZ (wk111 hw)) (mvT hZ (wk112 hw)) (notFace_of_selects (args := #[]) (mvT hZ (wk114 hw))) (mvT hZ (wk114 hw)) (mvT hZ (wk113 hw)) (by decide) (backOf (W := 0) (rm13_23 l Z a0 hw w hW [] b9 b14 p0 b4 (p1 &&& (9223372036854775807 : Int64)) b11_0 k11_0 T75.heap n0 O76 t653 t654 t655 gg9 t658 (Ne.symm ne650) t659 t660 (own_lf1 _) ne29 t661 t662 t663 t664 (own_max _) t665 (own_S1 _ _) t666 t670 (own_S2 _ _) (own_S3 _ _) t671 t672 (Ne.symm ne673) gg14 ggb11_0 ne667 r11_4) hZ (wk115 hw) (wk36 hw) (by decide) (by decide)) q674a q674c (g := (mkF m 119 Lb649 [(.long p0), (.ref b14), (.ref b9)])) rfl (by rw [hml]; rfl) (Steps.refl _) (argsL := [(.ref b14), (.long p0)]) (rest := []) (lenOf pds_14 rfl) rfl (by show 2 * 0 + _ ≤ _; exact Nat.le_of_eq rfl) (hb hby at_119) (fun _ _ => ⟨rfl, rfl, (by decide : 10 + 0 ≤ _), (by decide : 513 + 0 ≤ _)⟩)
   dsimp only [Pt.U, Pt.locs, Pt.cells, Pt.slots] at X674 l674 y674 z674 st674 hQ674
   rw [l674, y674, z674] at X674
   obtain ⟨rfl, N674q, K674, r674_0, r674_1, r674_2, r674_3, r674_4, r674_5⟩ := hQ674
   have N674 := Fr.app N75 N674q
   have O675 := own_old O76 K674 (own_ngc gg9 (own_ngc gg14 (own_ngc gg14 (own_ngc ggb11_0 (own_ngc gg14 (own_ngc gg9 own_ng0))))))
   have ne676 : b36 ≠ b57 := (Nat.ne_of_lt (Nat.lt_of_lt_of_le (Nat.lt_of_lt_of_le t42.lt K54.1) (Nat.le_of_eq g57.symm)))
   have t677 := (own_fld (own_fld (own_fld (own_fld (r54_4.ext E57) K59 own_nl0) K61 own_nl0) K75 (own_nlb ne676 (own_nlb ne676 (own_nlb ne676 (own_nlb ne676 (own_nlb ne676 (own_nlb ne676 (own_nlb ne676 (own_nlb ne676 own_nl0))))))))) K674 (own_nlb (Ne.symm ne651) (own_nlb (Ne.symm ne656) (own_nlb (Ne.symm ne656) (own_nlb (Ne.symm ne668) (own_nlb (Ne.symm ne656) (own_nlb (Ne.symm ne651) own_nl0)))))))
   have t678 := (own_exa t659 K674)
   have ne679 : b4 ≠ b11_0 := (Nat.ne_of_lt (Nat.lt_of_lt_of_le (Nat.lt_of_lt_of_le (Nat.lt_of_lt_of_le A4.lt K6.1) E9.1) r11_3))
   have t680 := (own_fld t660 K674 (own_nlb ne29 (own_nlb ne32 (own_nlb ne32 (own_nlb ne679 (own_nlb ne32 (own_nlb ne29 own_nl0)))))))
   have t681 := (own_exa (own_exa (own_exa (own_exa ((own_exa t42 K54).ext E57) K59) K61) K75) K674)
   have t682 := (own_fld (own_fld (own_fld (own_fld (r54_5.ext E57) K59 own_nl0) K61 own_nl0) K75 (own_nlb ne676 (own_nlb ne676 (own_nlb ne676 (own_nlb ne676 (own_nlb ne676 (own_nlb ne676 (own_nlb ne676 (own_nlb ne676 own_nl0))))))))) K674 (own_nlb (Ne.symm ne651) (own_nlb (Ne.symm ne656) (own_nlb (Ne.symm ne656) (own_nlb (Ne.symm ne668) (own_nlb (Ne.symm ne656) (own_nlb (Ne.symm ne651) own_nl0)))))))
   have t683 := (own_fld (own_fld (own_fld (own_fld (r54_6.ext E57) K59 own_nl0) K61 own_nl0) K75 (own_nlb ne676 (own_nlb ne676 (own_nlb ne676 (own_nlb ne676 (own_nlb ne676 (own_nlb ne676 (own_nlb ne676 (own_nlb ne676 own_nl0))))))))) K674 (own_nlb (Ne.symm ne651) (own_nlb (Ne.symm ne656) (own_nlb (Ne.symm ne656) (own_nlb (Ne.symm ne668) (own_nlb (Ne.symm ne656) (own_nlb (Ne.symm ne651) own_nl0)))))))
   have t684 := (own_fld t664 K674 (own_nlb ne29 (own_nlb ne32 (own_nlb ne32 (own_nlb ne679 (own_nlb ne32 (own_nlb ne29 own_nl0)))))))
   have t685 := (own_exa t655 K674)
   have t686 := (own_fld (own_fld (own_fld (own_fld (r54_0.ext E57) K59 own_nl0) K61 own_nl0) K75 (own_nlb ne676 (own_nlb ne676 (own_nlb ne676 (own_nlb ne676 (own_nlb ne676 (own_nlb ne676 (own_nlb ne676 (own_nlb ne676 own_nl0))))))))) K674 (own_nlb (Ne.symm ne651) (own_nlb (Ne.symm ne656) (own_nlb (Ne.symm ne656) (own_nlb (Ne.symm ne668) (own_nlb (Ne.symm ne656) (own_nlb (Ne.symm ne651) own_nl0)))))))
   have t687 := (own_fld t666 K674 (own_nls (sn2 hw) (own_nlb ne650 (own_nlb ne650 (own_nlb ne673 (own_nlb ne650 (own_nls (sn83 hw) own_nl0)))))))
   have t688 := (own_fld (own_fld (own_fld (own_fld ((own_fld (own_fld (own_fld i36_108 K38 own_nl0) K40 own_nl0) K54 (own_nls (sn69 hw) (own_nls (sn68 hw) (own_nls (sn67 hw) (own_nls (sn66 hw) (own_nls (sn65 hw) (own_nls (sn64 hw) (own_nls (sn63 hw) (own_nls (sn62 hw) own_nl0))))))))).ext E57) K59 own_nl0) K61 own_nl0) K75 (own_nlb ne676 (own_nlb ne676 (own_nlb ne676 (own_nlb ne676 (own_nlb ne676 (own_nlb ne676 (own_nlb ne676 (own_nlb ne676 own_nl0))))))))) K674 (own_nlb (Ne.symm ne651) (own_nlb (Ne.symm ne656) (own_nlb (Ne.symm ne656) (own_nlb (Ne.symm ne668) (own_nlb (Ne.symm ne656) (own_nlb (Ne.symm ne651) own_nl0)))))))
   have t689 := (own_fld (own_fld (own_fld (own_fld ((own_fld (own_fld (own_fld i36_110 K38 own_nl0) K40 own_nl0) K54 (own_nls (sn77 hw) (own_nls (sn76 hw) (own_nls (sn75 hw) (own_nls (sn74 hw) (own_nls (sn73 hw) (own_nls (sn72 hw) (own_nls (sn71 hw) (own_nls (sn70 hw) own_nl0))))))))).ext E57) K59 own_nl0) K61 own_nl0) K75 (own_nlb ne676 (own_nlb ne676 (own_nlb ne676 (own_nlb ne676 (own_nlb ne676 (own_nlb ne676 (own_nlb ne676 (own_nlb ne676 own_nl0))))))))) K674 (own_nlb (Ne.symm ne651) (own_nlb (Ne.symm ne656) (own_nlb (Ne.symm ne656) (own_nlb (Ne.symm ne668) (own_nlb (Ne.symm ne656) (own_nlb (Ne.symm ne651) own_nl0)))))))
   have t690 := (own_exa t661 K674)
   obtain ⟨cq691, kq691, q691a, q691b, q691c⟩ := isOf hZ rfl t685
   obtain ⟨_, _, ⟨T691, L691, kk691, nn691⟩, -, X691, ⟨Lc691, hQ691, l691, y691, z691⟩, st691⟩ := X674.virtualBack hx (y := ym19) (z := ym19) hown (mvT hZ (wk111 hw)) (mvT hZ (wk112 hw)) (notFace_of_selects (args := #[]) (mvT hZ (wk114 hw))) (mvT hZ (wk114 hw)) (mvT hZ (wk113 hw)) (by decide) (backOf (W := 0) (rm13_29 l Z a0 hw w hW [] b9 b36 p0 b4 (p1 &&& (9223372036854775807 : Int64)) b11_0 k11_0 b14 T674.heap n0 O675 r674_0 t677 t678 t680 (own_lf1 _) t681 t682 t683 t684 (own_max _) r674_1 t685 t686 (own_S1 _ _) t687 r674_5 (own_S2 _ _) (own_S3 _ _) t688 t689 t690 r674_3 r11_4 gg36 ne656 gg14 ne651 ne650 ggb11_0 ne668 ne667 ne673 gg9) hZ (wk115 hw) (wk36 hw) (by decide) (by decide)) q691a q691c (g := (mkF m 133 Lb649 [(.long p0), (.ref b36), (.ref b9)])) rfl (by rw [hml]; rfl) (Steps.refl _) (argsL := [(.ref b36), (.long p0)]) (rest := []) (lenOf pds_14 rfl) rfl (by show 2 * 0 + _ ≤ _; exact Nat.le_of_eq rfl) (hb hby at_133) (fun _ _ => ⟨rfl, rfl, (by decide : 10 + 0 ≤ _), (by decide : 513 + 0 ≤ _)⟩)
   dsimp only [Pt.U, Pt.locs, Pt.cells, Pt.slots] at X691 l691 y691 z691 st691 hQ691
   rw [l691, y691, z691] at X691
   obtain ⟨rfl, N691q, K691, r691_0, r691_1, r691_2, r691_3, r691_4, r691_5⟩ := hQ691
   have N691 := Fr.app N674 N691q
   have O692 := own_old O675 K691 (own_ngc gg36 (own_ngc gg36 (own_ngc gg14 (own_ngc ggb11_0 (own_ngc gg36 (own_ngc gg9 own_ng0))))))
   have t693 := (own_fld (own_fld r75_4 K674 (own_nlb (Ne.symm ne652) (own_nlb (Ne.symm ne657) (own_nlb (Ne.symm ne657) (own_nlb (Ne.symm ne669) (own_nlb (Ne.symm ne657) (own_nlb (Ne.symm ne652) own_nl0))))))) K691 (own_nlb (Ne.symm ne676) (own_nlb (Ne.symm ne676) (own_nlb (Ne.symm ne657) (own_nlb (Ne.symm ne669) (own_nlb (Ne.symm ne676) (own_nlb (Ne.symm ne652) own_nl0)))))))
   have t694 := (own_exa t678 K691)
   have t695 := (own_fld t680 K691 (own_nlb ne53 (own_nlb ne53 (own_nlb ne32 (own_nlb ne679 (own_nlb ne53 (own_nlb ne29 own_nl0)))))))
   have t696 := (own_exa (own_exa (own_exa t63 K75) K674) K691)
   have t697 := (own_fld (own_fld r75_5 K674 (own_nlb (Ne.symm ne652) (own_nlb (Ne.symm ne657) (own_nlb (Ne.symm ne657) (own_nlb (Ne.symm ne669) (own_nlb (Ne.symm ne657) (own_nlb (Ne.symm ne652) own_nl0))))))) K691 (own_nlb (Ne.symm ne676) (own_nlb (Ne.symm ne676) (own_nlb (Ne.symm ne657) (own_nlb (Ne.symm ne669) (own_nlb (Ne.symm ne676) (own_nlb (Ne.symm ne652) own_nl0)))))))
   have t698 := (own_fld (own_fld r75_6 K674 (own_nlb (Ne.symm ne652) (own_nlb (Ne.symm ne657) (own_nlb (Ne.symm ne657) (own_nlb (Ne.symm ne669) (own_nlb (Ne.symm ne657) (own_nlb (Ne.symm ne652) own_nl0))))))) K691 (own_nlb (Ne.symm ne676) (own_nlb (Ne.symm ne676) (own_nlb (Ne.symm ne657) (own_nlb (Ne.symm ne669) (own_nlb (Ne.symm ne676) (own_nlb (Ne.symm ne652) own_nl0)))))))
   have t699 := (own_fld t684 K691 (own_nlb ne53 (own_nlb ne53 (own_nlb ne32 (own_nlb ne679 (own_nlb ne53 (own_nlb ne29 own_nl0)))))))
   have t700 := (own_fld r674_1 K691 (own_nlb ne651 (own_nlb ne651 (own_nlb ne650 (own_nlb ne673 (own_nlb ne651 (own_nls (sn82 hw) own_nl0)))))))
   have t701 := (own_exa t685 K691)
   have t702 := (own_fld (own_fld r75_0 K674 (own_nlb (Ne.symm ne652) (own_nlb (Ne.symm ne657) (own_nlb (Ne.symm ne657) (own_nlb (Ne.symm ne669) (own_nlb (Ne.symm ne657) (own_nlb (Ne.symm ne652) own_nl0))))))) K691 (own_nlb (Ne.symm ne676) (own_nlb (Ne.symm ne676) (own_nlb (Ne.symm ne657) (own_nlb (Ne.symm ne669) (own_nlb (Ne.symm ne676) (own_nlb (Ne.symm ne652) own_nl0)))))))
   have t703 := (own_fld t687 K691 (own_nlb ne651 (own_nlb ne651 (own_nlb ne650 (own_nlb ne673 (own_nlb ne651 (own_nls (sn83 hw) own_nl0)))))))
   have t704 := (own_fld (own_fld (own_fld (own_fld (own_fld i57_108 K59 own_nl0) K61 own_nl0) K75 (own_nls (sn69 hw) (own_nls (sn68 hw) (own_nls (sn67 hw) (own_nls (sn66 hw) (own_nls (sn65 hw) (own_nls (sn64 hw) (own_nls (sn63 hw) (own_nls (sn62 hw) own_nl0))))))))) K674 (own_nlb (Ne.symm ne652) (own_nlb (Ne.symm ne657) (own_nlb (Ne.symm ne657) (own_nlb (Ne.symm ne669) (own_nlb (Ne.symm ne657) (own_nlb (Ne.symm ne652) own_nl0))))))) K691 (own_nlb (Ne.symm ne676) (own_nlb (Ne.symm ne676) (own_nlb (Ne.symm ne657) (own_nlb (Ne.symm ne669) (own_nlb (Ne.symm ne676) (own_nlb (Ne.symm ne652) own_nl0)))))))
   have t705 := (own_fld (own_fld (own_fld (own_fld (own_fld i57_110 K59 own_nl0) K61 own_nl0) K75 (own_nls (sn77 hw) (own_nls (sn76 hw) (own_nls (sn75 hw) (own_nls (sn74 hw) (own_nls (sn73 hw) (own_nls (sn72 hw) (own_nls (sn71 hw) (own_nls (sn70 hw) own_nl0))))))))) K674 (own_nlb (Ne.symm ne652) (own_nlb (Ne.symm ne657) (own_nlb (Ne.symm ne657) (own_nlb (Ne.symm ne669) (own_nlb (Ne.symm ne657) (own_nlb (Ne.symm ne652) own_nl0))))))) K691 (own_nlb (Ne.symm ne676) (own_nlb (Ne.symm ne676) (own_nlb (Ne.symm ne657) (own_nlb (Ne.symm ne669) (own_nlb (Ne.symm ne676) (own_nlb (Ne.symm ne652) own_nl0)))))))
   have t706 := (own_exa t681 K691)
   obtain ⟨cq707, kq707, q707a, q707b, q707c⟩ := isOf hZ rfl t701
   obtain ⟨_, _, ⟨T707, L707, kk707, nn707⟩, -, X707, ⟨Lc707, hQ707, l707, y707, z707⟩, st707⟩ := X691.virtualBack hx (y := ym19) (z := ym19) hown (mvT hZ (wk111 hw)) (mvT hZ (wk112 hw)) (notFace_of_selects (args := #[]) (mvT hZ (wk114 hw))) (mvT hZ (wk114 hw)) (mvT hZ (wk113 hw)) (by decide) (backOf (W := 0) (rm13_33 l Z a0 hw w hW [] b9 b57 p0 b4 (p1 &&& (9223372036854775807 : Int64)) b11_0 k11_0 b36 T691.heap n0 O692 r691_0 t693 t694 t695 (own_lf1 _) t696 t697 t698 t699 (own_max _) t700 t701 t702 (own_S1 _ _) t703 r691_2 (own_S2 _ _) (own_S3 _ _) t704 t705 t706 r691_3 gg57 ne676 gg36 ne652 ne651 ggb11_0 ne669 ne668 r11_4 ne673 gg9) hZ (wk115 hw) (wk36 hw) (by decide) (by decide)) q707a q707c (g := (mkF m 147 Lb649 [(.long p0), (.ref b57), (.ref b9)])) rfl (by rw [hml]; rfl) (Steps.refl _) (argsL := [(.ref b57), (.long p0)]) (rest := []) (lenOf pds_14 rfl) rfl (by show 2 * 0 + _ ≤ _; exact Nat.le_of_eq rfl) (hb hby at_147) (fun _ _ => ⟨rfl, rfl, (by decide : 10 + 0 ≤ _), (by decide : 513 + 0 ≤ _)⟩)
   dsimp only [Pt.U, Pt.locs, Pt.cells, Pt.slots] at X707 l707 y707 z707 st707 hQ707
   rw [l707, y707, z707] at X707
   obtain ⟨rfl, N707q, K707, r707_0, r707_1, r707_2, r707_3, r707_4, r707_5⟩ := hQ707
   have N707 := Fr.app N691 N707q
   have O708 := own_old O692 K707 (own_ngc gg57 (own_ngc gg57 (own_ngc gg36 (own_ngc ggb11_0 (own_ngc gg57 (own_ngc gg9 own_ng0))))))
   have t709 := (own_fld (own_fld r674_4 K691 (own_nlb ne656 (own_nlb ne656 (own_nls (sn79 hw) (own_nlb (Ne.symm ne667) (own_nlb ne656 (own_nlb (Ne.symm ne650) own_nl0))))))) K707 (own_nlb ne657 (own_nlb ne657 (own_nlb ne656 (own_nlb (Ne.symm ne667) (own_nlb ne657 (own_nlb (Ne.symm ne650) own_nl0)))))))
   obtain ⟨T710, X710, e710, st710⟩ := getF X707 hx hZ hown (host := "") (Or.inl (wk93 hw)) Via.refl rfl t709 (g := (mkF m 152 Lb649 [(.ref b14)])) rfl rfl (hb hby at_152)
   let Lb711 : Array Slot := #[.val (.long p0), .second, .val (.long p1), .second, .val (.int p2), .val (.int p3), .val (.int (3 : Int32)), .val (.int ((p3 &&& (2147483647 : Int32)) % (3 : Int32))), .val (.long (p1 &&& (9223372036854775807 : Int64))), .second, .val (.ref b4), .val (.ref b9), .val (.ref b14), .val (.ref b36), .val (.ref b57), .val (.int (ownS (ownEnd p0 (p1 &&& (9223372036854775807 : Int64))) p0)), .unset, .unset, .unset, .unset]
   have pre712 : ∀ t, Steps p.tables e below (T710.setTop (mkF m 159 #[.val (.long p0), .second, .val (.long p1), .second, .val (.int p2), .val (.int p3), .val (.int (3 : Int32)), .val (.int ((p3 &&& (2147483647 : Int32)) % (3 : Int32))), .val (.long (p1 &&& (9223372036854775807 : Int64))), .second, .val (.ref b4), .val (.ref b9), .val (.ref b14), .val (.ref b36), .val (.ref b57), .val (.int (ownS (ownEnd p0 (p1 &&& (9223372036854775807 : Int64))) p0)), .unset, .unset, .unset, .unset] [(.int ((p3 &&& (2147483647 : Int32)) % (3 : Int32)))])) t → Steps p.tables e below (s₁.setTop (entryFrame m #[(.long p0), (.long p1), (.int p2), (.int p3)] maxLocals)) t := fun t k => pre78 t (by
    show Steps p.tables e below (T75.setTop (mkF m 111 Lb649 [(.int (1 : Int32)), (.int (3 : Int32))])) _
    refine sn X75 hx hby at_111 (by decide) ?_
    refine sa X75 hx hby at_114 rfl rfl ?_
    refine sa X75 hx hby at_116 rfl rfl ?_
    refine sL X75 hx hby at_118 rfl ?_
    refine st674.trans ?_
    refine si X674 hx hby at_122 rfl ?_
    refine sc X674 hx hby at_124 ?_
    refine sn X674 hx hby at_125 (by decide) ?_
    refine sa X674 hx hby at_128 rfl rfl ?_
    refine sa X674 hx hby at_130 rfl rfl ?_
    show Steps p.tables e below (T674.setTop (mkF m 132 Lb649 [(.ref b36), (.ref b9)])) _
    refine sL X674 hx hby at_132 rfl ?_
    refine st691.trans ?_
    refine si X691 hx hby at_136 rfl ?_
    refine sc X691 hx hby at_138 ?_
    refine sn X691 hx hby at_139 (by decide) ?_
    refine sa X691 hx hby at_142 rfl rfl ?_
    refine sa X691 hx hby at_144 rfl rfl ?_
    show Steps p.tables e below (T691.setTop (mkF m 146 Lb649 [(.ref b57), (.ref b9)])) _
    refine sL X691 hx hby at_146 rfl ?_
    refine st707.trans ?_
    refine sa X707 hx hby at_150 rfl rfl ?_
    refine st710 _ ?_
    refine XS.istore X710.here hx rfl (hb hby at_155) rfl (l' := Lb711) rfl ?_
    refine si X710 hx hby at_157 rfl ?_
    exact k)
   rcases (own_rem3 p3) with hs713 | hs713 | hs713
   ·
    rw [hs713] at pre712
    let Lb714 : Array Slot := #[.val (.long p0), .second, .val (.long p1), .second, .val (.int p2), .val (.int p3), .val (.int (3 : Int32)), .val (.int (0 : Int32)), .val (.long (p1 &&& (9223372036854775807 : Int64))), .second, .val (.ref b4), .val (.ref b9), .val (.ref b14), .val (.ref b36), .val (.ref b57), .val (.int (ownS (ownEnd p0 (p1 &&& (9223372036854775807 : Int64))) p0)), .unset, .unset, .unset, .unset]
    let Lb715 : Array Slot := #[.val (.long p0), .second, .val (.long p1), .second, .val (.int p2), .val (.int p3), .val (.int (3 : Int32)), .val (.int (0 : Int32)), .val (.long (p1 &&& (9223372036854775807 : Int64))), .second, .val (.ref b4), .val (.ref b9), .val (.ref b14), .val (.ref b36), .val (.ref b57), .val (.int (ownS (ownEnd p0 (p1 &&& (9223372036854775807 : Int64))) p0)), .val (.ref b14), .unset, .unset, .unset]
    obtain ⟨T716, h716, k716, X716, e716, E716, A716, Ov716, st716⟩ := newR X710 hx hZ hown (wk48 hw) (wk45 hw) e710 (g := (mkF m 183 Lb715 [(.int (3 : Int32))])) rfl (hb hby at_183) rfl (by decide) (cap := 3) (by decide) (by decide) (by decide) (by decide)
    obtain ⟨b716, g716⟩ : ∃ z, z = T707.heap.size := ⟨_, rfl⟩
    rw [← g716] at A716 st716
    have gg716 : n0 ≤ b716 := by rw [← O708.1, g716]; exact O708.2.1
    have O717 := O708.ext E716
    have V716 : Arv Z h716 b716 k716 (.object cs0) (3 : Int32) [.null, .null, .null] .null := own_pad (dv := .null) (Arv.new A716 (by decide)) 3 _ rfl
    let Lb718 : Array Slot := #[.val (.long p0), .second, .val (.long p1), .second, .val (.int p2), .val (.int p3), .val (.int (3 : Int32)), .val (.int (0 : Int32)), .val (.long (p1 &&& (9223372036854775807 : Int64))), .second, .val (.ref b4), .val (.ref b9), .val (.ref b14), .val (.ref b36), .val (.ref b57), .val (.int (ownS (ownEnd p0 (p1 &&& (9223372036854775807 : Int64))) p0)), .val (.ref b14), .val (.ref b716), .unset, .unset]
    let Lb719 : Array Slot := #[.val (.long p0), .second, .val (.long p1), .second, .val (.int p2), .val (.int p3), .val (.int (3 : Int32)), .val (.int (0 : Int32)), .val (.long (p1 &&& (9223372036854775807 : Int64))), .second, .val (.ref b4), .val (.ref b9), .val (.ref b14), .val (.ref b36), .val (.ref b57), .val (.int (ownS (ownEnd p0 (p1 &&& (9223372036854775807 : Int64))) p0)), .val (.ref b14), .val (.ref b716), .val (.int (0 : Int32)), .unset]
    obtain ⟨cl720, Ar720, cw720, S720, Nn720, Hs720, G720⟩ := id (V716)
    have hin720 : ¬ ((0 : Int32) < 0 ∨ cl720.slots.size ≤ ((0 : Int32)).toNatClampNeg) := inb_of S720 ⟨by decide, by decide⟩
    have t721 := ((own_exa t696 K707).ext E716)
    obtain ⟨T720, h720, X720, e720, W720, st720⟩ := stR X716 hx hZ e716 Ar720 (j := (0 : Int32)) hin720 rfl (Sto.ofV Ar720 cw720 Ov716 (Ins.self t721)) (g := (mkF m 209 Lb719 [(.ref b57), (.int (0 : Int32)), (.ref b716)])) rfl rfl (hb hby at_209)
    have V720 : Arv Z h720 b716 k716 (.object cs0) (3 : Int32) [(.ref b57), .null, .null] .null := own_set Ar720 cw720 S720 Nn720 Hs720 G720 rfl W720 0 rfl (Nat.le_of_ble_eq_true rfl) (.ref b57) rfl _ rfl
    have N720 := Fr.snoc X720 N707 gg716
    have O722 := O717.wr W720 gg716
    let Lb723 : Array Slot := #[.val (.long p0), .second, .val (.long p1), .second, .val (.int p2), .val (.int p3), .val (.int (3 : Int32)), .val (.int (0 : Int32)), .val (.long (p1 &&& (9223372036854775807 : Int64))), .second, .val (.ref b4), .val (.ref b9), .val (.ref b14), .val (.ref b36), .val (.ref b57), .val (.int (ownS (ownEnd p0 (p1 &&& (9223372036854775807 : Int64))) p0)), .val (.ref b14), .val (.ref b716), .val (.int (1 : Int32)), .unset]
    obtain ⟨cl724, Ar724, cw724, S724, Nn724, Hs724, G724⟩ := id (V720)
    have hin724 : ¬ ((1 : Int32) < 0 ∨ cl724.slots.size ≤ ((1 : Int32)).toNatClampNeg) := inb_of S724 ⟨by decide, by decide⟩
    have t725 := (((own_exa t706 K707).ext E716).wr W720)
    obtain ⟨T724, h724, X724, e724, W724, st724⟩ := stR X720 hx hZ e720 Ar724 (j := (1 : Int32)) hin724 rfl (Sto.ofV Ar724 cw724 Ov716 (Ins.self t725)) (g := (mkF m 231 Lb723 [(.ref b36), (.int (1 : Int32)), (.ref b716)])) rfl rfl (hb hby at_231)
    have V724 : Arv Z h724 b716 k716 (.object cs0) (3 : Int32) [(.ref b57), (.ref b36), .null] .null := own_set Ar724 cw724 S724 Nn724 Hs724 G724 rfl W724 1 rfl (Nat.le_of_ble_eq_true rfl) (.ref b36) rfl _ rfl
    have N724 := Fr.snoc X724 N720 gg716
    have O726 := O722.wr W724 gg716
    let Lb727 : Array Slot := #[.val (.long p0), .second, .val (.long p1), .second, .val (.int p2), .val (.int p3), .val (.int (3 : Int32)), .val (.int (0 : Int32)), .val (.long (p1 &&& (9223372036854775807 : Int64))), .second, .val (.ref b4), .val (.ref b9), .val (.ref b14), .val (.ref b36), .val (.ref b57), .val (.int (ownS (ownEnd p0 (p1 &&& (9223372036854775807 : Int64))) p0)), .val (.ref b14), .val (.ref b716), .val (.int (2 : Int32)), .unset]
    have ne728 : b14 ≠ b716 := (Nat.ne_of_lt (Nat.lt_of_lt_of_le (Nat.lt_of_lt_of_le (Nat.lt_of_lt_of_le t690.lt K691.1) K707.1) (Nat.le_of_eq g716.symm)))
    have t729 := (((t709.ext E716).other W720 (Or.inl ne728)).other W724 (Or.inl ne728))
    have t730 := ((((own_fld r691_5 K707 (own_nlb ne657 (own_nlb ne657 (own_nlb ne656 (own_nlb (Ne.symm ne667) (own_nlb ne657 (own_nlb (Ne.symm ne650) own_nl0))))))).ext E716).other W720 (Or.inl ne728)).other W724 (Or.inl ne728))
    have t731 := ((((own_fld (own_fld r674_2 K691 (own_nlb ne656 (own_nlb ne656 (own_nls (sn78 hw) (own_nlb (Ne.symm ne667) (own_nlb ne656 (own_nlb (Ne.symm ne650) own_nl0))))))) K707 (own_nlb ne657 (own_nlb ne657 (own_nlb ne656 (own_nlb (Ne.symm ne667) (own_nlb ne657 (own_nlb (Ne.symm ne650) own_nl0))))))).ext E716).other W720 (Or.inl ne728)).other W724 (Or.inl ne728))
    have t732 := (t725.wr W724)
    have ne733 : b36 ≠ b716 := (Nat.ne_of_lt (Nat.lt_of_lt_of_le (Nat.lt_of_lt_of_le t706.lt K707.1) (Nat.le_of_eq g716.symm)))
    have t734 := ((((own_fld r691_4 K707 (own_nlb ne676 (own_nlb ne676 (own_nls (sn78 hw) (own_nlb (Ne.symm ne668) (own_nlb ne676 (own_nlb (Ne.symm ne651) own_nl0))))))).ext E716).other W720 (Or.inl ne733)).other W724 (Or.inl ne733))
    have t735 := ((((own_exa (own_exa t690 K691) K707).ext E716).wr W720).wr W724)
    have ne736 : b9 ≠ b716 := (Nat.ne_of_lt (Nat.lt_of_lt_of_le (Nat.lt_of_lt_of_le t701.lt K707.1) (Nat.le_of_eq g716.symm)))
    have t737 := (((r707_0.ext E716).other W720 (Or.inl ne736)).other W724 (Or.inl ne736))
    have t738 := ((((own_exa t701 K707).ext E716).wr W720).wr W724)
    obtain ⟨cq739, kq739, q739a, q739b, q739c⟩ := isOf hZ e724 t738
    obtain ⟨_, _, ⟨T739, L739, kk739, nn739⟩, -, X739, ⟨Lc739, hQ739, l739, y739, z739⟩, st739⟩ := X724.virtualBack hx (y := ym9) (z := ym9) hown (mvT hZ (wk94 hw)) (mvT hZ (wk95 hw)) (notFace_of_selects (args := #[]) (mvT hZ (wk97 hw))) (mvT hZ (wk97 hw)) (mvT hZ (wk96 hw)) (by decide) (backOf (W := 0) (rm11_34 l Z a0 hw w hW [] b9 b14 (ownS (ownEnd p0 (p1 &&& (9223372036854775807 : Int64))) p0) b36 h724 n0 O726 t729 (own_S1 _ _) t730 t731 t732 t734 gg36 ne656 t735 gg14 t737 ne651 ne650 t738 gg9) hZ (wk98 hw) (wk36 hw) (by decide) (by decide)) q739a q739c (g := (mkF m 260 Lb727 [(.ref b14), (.ref b9)])) rfl (by rw [hml]; rfl) (Steps.refl _) (argsL := [(.ref b14)]) (rest := []) (lenOf pds_8 rfl) rfl (by show 2 * 0 + _ ≤ _; exact Nat.le_of_eq rfl) (hb hby at_260) (fun _ _ => ⟨rfl, e724, (by decide : 11 + 0 ≤ _), (by decide : 516 + 0 ≤ _)⟩)
    dsimp only [Pt.U, Pt.locs, Pt.cells, Pt.slots] at X739 l739 y739 z739 st739 hQ739
    rw [l739, y739, z739] at X739
    obtain ⟨rfl, N739q, K739, r739_0, r739_1, r739_2, r739_3, r739_4⟩ := hQ739
    have N739 := Fr.app N724 N739q
    have O740 := own_old O726 K739 (own_ngc gg36 (own_ngc gg14 (own_ngc gg14 (own_ngc gg14 (own_ngc gg9 own_ng0)))))
    have t742 := (own_exa t738 K739)
    obtain ⟨cq741, kq741, q741a, q741b, q741c⟩ := isOf hZ rfl t742
    obtain ⟨_, _, ⟨T741, L741, kk741, nn741⟩, -, X741, ⟨Lc741, hQ741, l741, y741, z741⟩, st741⟩ := X739.virtualBack hx (y := ym10) (z := ym10) hown (mvT hZ (wk100 hw)) (mvT hZ (wk101 hw)) (notFace_of_selects (args := #[]) (mvT hZ (wk103 hw))) (mvT hZ (wk103 hw)) (mvT hZ (wk102 hw)) (by decide) (backOf (W := 0) (rm12_32 l Z a0 hw w hW [] b9 T739.heap n0 O740 r739_4) hZ (wk104 hw) (wk36 hw) (by decide) (by decide)) q741a q741c (g := (mkF m 265 Lb727 [(.ref b9)])) rfl (by rw [hml]; rfl) (Steps.refl _) (argsL := []) (rest := []) (lenOf pds_9 rfl) rfl (by show 2 * 0 + _ ≤ _; exact Nat.le_of_eq rfl) (hb hby at_265) (fun _ _ => ⟨rfl, rfl, (by decide : 11 + 0 ≤ _), (by decide : 516 + 0 ≤ _)⟩)
    dsimp only [Pt.U, Pt.locs, Pt.cells, Pt.slots] at X741 l741 y741 z741 st741 hQ741
    rw [l741, y741, z741] at X741
    obtain ⟨rfl, N741q, e741⟩ := hQ741
    have N741 := Fr.app N739 N741q
    let Lb743 : Array Slot := #[.val (.long p0), .second, .val (.long p1), .second, .val (.int p2), .val (.int p3), .val (.int (3 : Int32)), .val (.int (0 : Int32)), .val (.long (p1 &&& (9223372036854775807 : Int64))), .second, .val (.ref b4), .val (.ref b9), .val (.ref b14), .val (.ref b36), .val (.ref b57), .val (.int (ownS (ownEnd p0 (p1 &&& (9223372036854775807 : Int64))) p0)), .val (.ref b14), .val (.ref b716), .val (.int (2 : Int32)), .val (.int (1 : Int32))]
    obtain ⟨T744, X744, e744, st744⟩ := getF X741 hx hZ hown (host := "") (Or.inl (wk93 hw)) Via.refl e741 r739_0 (g := (mkF m 289 Lb743 [(.ref b14)])) rfl rfl (hb hby at_289)
    obtain ⟨T745, X745, e745, st745⟩ := getF X744 hx hZ hown (host := "") (Or.inl (wk107 hw)) Via.refl e744 r739_1 (g := (mkF m 298 Lb743 [(.ref b14)])) rfl rfl (hb hby at_298)
    obtain ⟨T746, X746, e746, st746⟩ := getF X745 hx hZ hown (host := "") (Or.inl (wk109 hw)) Via.refl e745 r739_2 (g := (mkF m 306 Lb743 [(.ref b14)])) rfl rfl (hb hby at_306)
    have t747 := (own_arv V724 K739 (own_nbc ne733 (own_nbc ne728 (own_nbc ne728 (own_nbc ne728 (own_nbc ne736 own_nb0))))))
    obtain ⟨cl748, Ar748, cw748, S748, Nn748, Hs748, G748⟩ := id (t747)
    have hin748 : ¬ ((0 : Int32) < 0 ∨ cl748.slots.size ≤ ((0 : Int32)).toNatClampNeg) := inb_of S748 ⟨by decide, by decide⟩
    have ne749 : b57 ≠ b716 := (Nat.ne_of_lt (Nat.lt_of_lt_of_le (Nat.lt_of_lt_of_le t696.lt K707.1) (Nat.le_of_eq g716.symm)))
    have t750 := (own_fld (((r707_3.ext E716).other W720 (Or.inl ne749)).other W724 (Or.inl ne749)) K739 (own_nlb (Ne.symm ne676) (own_nlb (Ne.symm ne657) (own_nlb (Ne.symm ne657) (own_nlb (Ne.symm ne657) (own_nlb (Ne.symm ne652) own_nl0))))))
    obtain ⟨T751, X751, e751, st751⟩ := getF X746 hx hZ hown (host := "") (Or.inl (wk107 hw)) Via.refl e746 t750 (g := (mkF m 334 Lb743 [(.ref b57)])) rfl rfl (hb hby at_334)
    obtain ⟨cl752, Ar752, cw752, S752, Nn752, Hs752, G752⟩ := id (t747)
    have hin752 : ¬ ((0 : Int32) < 0 ∨ cl752.slots.size ≤ ((0 : Int32)).toNatClampNeg) := inb_of S752 ⟨by decide, by decide⟩
    have t753 := (own_fld (((r707_4.ext E716).other W720 (Or.inl ne749)).other W724 (Or.inl ne749)) K739 (own_nlb (Ne.symm ne676) (own_nlb (Ne.symm ne657) (own_nlb (Ne.symm ne657) (own_nlb (Ne.symm ne657) (own_nlb (Ne.symm ne652) own_nl0))))))
    obtain ⟨T754, X754, e754, st754⟩ := getF X751 hx hZ hown (host := "") (Or.inl (wk109 hw)) Via.refl e751 t753 (g := (mkF m 344 Lb743 [(.ref b57)])) rfl rfl (hb hby at_344)
    obtain ⟨cl755, Ar755, cw755, S755, Nn755, Hs755, G755⟩ := id (t747)
    have hin755 : ¬ ((1 : Int32) < 0 ∨ cl755.slots.size ≤ ((1 : Int32)).toNatClampNeg) := inb_of S755 ⟨by decide, by decide⟩
    obtain ⟨cl756, Ar756, cw756, S756, Nn756, Hs756, G756⟩ := id (t747)
    have hin756 : ¬ ((0 : Int32) < 0 ∨ cl756.slots.size ≤ ((0 : Int32)).toNatClampNeg) := inb_of S756 ⟨by decide, by decide⟩
    have t757 := (own_fld (((r707_1.ext E716).other W720 (Or.inl ne749)).other W724 (Or.inl ne749)) K739 (own_nlb (Ne.symm ne676) (own_nlb (Ne.symm ne657) (own_nlb (Ne.symm ne657) (own_nlb (Ne.symm ne657) (own_nlb (Ne.symm ne652) own_nl0))))))
    obtain ⟨T758, X758, e758, st758⟩ := getF X754 hx hZ hown (host := "") (Or.inl (wk93 hw)) Via.refl e754 t757 (g := (mkF m 358 Lb743 [(.ref b57)])) rfl rfl (hb hby at_358)
    obtain ⟨cl759, Ar759, cw759, S759, Nn759, Hs759, G759⟩ := id (t747)
    have hin759 : ¬ ((1 : Int32) < 0 ∨ cl759.slots.size ≤ ((1 : Int32)).toNatClampNeg) := inb_of S759 ⟨by decide, by decide⟩
    have t760 := (own_fld (((r707_5.ext E716).other W720 (Or.inl ne733)).other W724 (Or.inl ne733)) K739 (own_nls (sn81 hw) (own_nlb (Ne.symm ne656) (own_nlb (Ne.symm ne656) (own_nlb (Ne.symm ne656) (own_nlb (Ne.symm ne651) own_nl0))))))
    obtain ⟨T761, X761, e761, st761⟩ := getF X758 hx hZ hown (host := "") (Or.inl (wk107 hw)) Via.refl e758 t760 (g := (mkF m 388 Lb743 [(.ref b36)])) rfl rfl (hb hby at_388)
    obtain ⟨cl762, Ar762, cw762, S762, Nn762, Hs762, G762⟩ := id (t747)
    have hin762 : ¬ ((0 : Int32) < 0 ∨ cl762.slots.size ≤ ((0 : Int32)).toNatClampNeg) := inb_of S762 ⟨by decide, by decide⟩
    obtain ⟨cl763, Ar763, cw763, S763, Nn763, Hs763, G763⟩ := id (t747)
    have hin763 : ¬ ((1 : Int32) < 0 ∨ cl763.slots.size ≤ ((1 : Int32)).toNatClampNeg) := inb_of S763 ⟨by decide, by decide⟩
    have pre764 : ∀ t, Steps p.tables e below (T761.setTop (mkF m 402 Lb743 [(.ref b36)])) t → Steps p.tables e below (s₁.setTop (entryFrame m #[(.long p0), (.long p1), (.int p2), (.int p3)] maxLocals)) t := fun t k => pre712 t (by
     show Steps p.tables e below (T710.setTop (mkF m 159 Lb714 [(.int (0 : Int32))])) _
     refine sN X710 hx hby at_159 (by decide) ?_
     refine sa X710 hx hby at_162 rfl rfl ?_
     refine sg (pc := 164) (pc' := 180) X710 hx hby at_164 (by decide) (by decide) ?_
     refine XS.astore X710.here hx rfl (hb hby at_180) rfl rfl (l' := Lb715) rfl ?_
     refine sc X710 hx hby at_182 ?_
     show Steps p.tables e below (T710.setTop (mkF m 183 Lb715 [(.int (3 : Int32))])) _
     refine st716 _ ?_
     refine XS.astore X716.here hx rfl (hb hby at_186) rfl rfl (l' := Lb718) rfl ?_
     refine sc X716 hx hby at_188 ?_
     refine XS.istore X716.here hx rfl (hb hby at_189) rfl (l' := Lb719) rfl ?_
     refine si X716 hx hby at_191 rfl ?_
     refine sc X716 hx hby at_193 ?_
     show Steps p.tables e below (T716.setTop (mkF m 194 Lb719 [(.int (3 : Int32)), (.int (3 : Int32))])) _
     refine sn X716 hx hby at_194 (by decide) ?_
     refine si X716 hx hby at_197 rfl ?_
     refine sc X716 hx hby at_199 ?_
     refine sn X716 hx hby at_200 (by decide) ?_
     refine sa X716 hx hby at_203 rfl rfl ?_
     show Steps p.tables e below (T716.setTop (mkF m 205 Lb719 [(.ref b716)])) _
     refine si X716 hx hby at_205 rfl ?_
     refine sa X716 hx hby at_207 rfl rfl ?_
     refine st720 _ ?_
     refine XS.iinc X720.here hx rfl (hb hby at_210) rfl (l' := Lb723) rfl ?_
     refine si X720 hx hby at_213 rfl ?_
     refine sc X720 hx hby at_215 ?_
     refine sn X720 hx hby at_216 (by decide) ?_
     refine si X720 hx hby at_219 rfl ?_
     show Steps p.tables e below (T720.setTop (mkF m 221 Lb723 [(.int (0 : Int32))])) _
     refine sc X720 hx hby at_221 ?_
     refine sn X720 hx hby at_222 (by decide) ?_
     refine sa X720 hx hby at_225 rfl rfl ?_
     refine si X720 hx hby at_227 rfl ?_
     refine sa X720 hx hby at_229 rfl rfl ?_
     show Steps p.tables e below (T720.setTop (mkF m 231 Lb723 [(.ref b36), (.int (1 : Int32)), (.ref b716)])) _
     refine st724 _ ?_
     refine XS.iinc X724.here hx rfl (hb hby at_232) rfl (l' := Lb727) rfl ?_
     refine si X724 hx hby at_235 rfl ?_
     refine sc X724 hx hby at_237 ?_
     refine sn X724 hx hby at_238 (by decide) ?_
     refine si X724 hx hby at_241 rfl ?_
     show Steps p.tables e below (T724.setTop (mkF m 243 Lb727 [(.int (0 : Int32))])) _
     refine XS.ifYes X724.here hx rfl (pc0 := 243) (pc' := 256) rfl (hb hby at_243) rfl (by decide) (by decide) (by decide) ?_
     refine sa X724 hx hby at_256 rfl rfl ?_
     refine sa X724 hx hby at_258 rfl rfl ?_
     refine st739.trans ?_
     refine sa X739 hx hby at_263 rfl rfl ?_
     refine st741.trans ?_
     refine si X741 hx hby at_268 rfl ?_
     refine XS.i2l X741.here hx rfl (hb hby at_270) rfl ?_
     refine XS.lcmp X741.here hx rfl (hb hby at_271) rfl ?_
     refine sN X741 hx hby at_272 (by decide) ?_
     refine sc X741 hx hby at_275 ?_
     show Steps p.tables e below (T741.setTop (mkF m 276 Lb727 [(.int (1 : Int32))])) _
     refine sg (pc := 276) (pc' := 280) X741 hx hby at_276 (by decide) (by decide) ?_
     refine XS.istore X741.here hx rfl (hb hby at_280) rfl (l' := Lb743) rfl ?_
     refine si X741 hx hby at_282 rfl ?_
     refine sN X741 hx hby at_284 (by decide) ?_
     refine sa X741 hx hby at_287 rfl rfl ?_
     show Steps p.tables e below (T741.setTop (mkF m 289 Lb743 [(.ref b14)])) _
     refine st744 _ ?_
     refine sc X744 hx hby at_292 ?_
     refine sn X744 hx hby at_293 (by decide) ?_
     refine sa X744 hx hby at_296 rfl rfl ?_
     refine st745 _ ?_
     refine XS.ifnonnullNo X745.here hx rfl (hb hby at_301) rfl ?_
     refine sa X745 hx hby at_304 rfl rfl ?_
     refine st746 _ ?_
     refine XS.ifnonnullNo X746.here hx rfl (hb hby at_309) rfl ?_
     refine sc X746 hx hby at_312 ?_
     refine sg (pc := 313) (pc' := 317) X746 hx hby at_313 (by decide) (by decide) ?_
     refine XS.istore X746.here hx rfl (hb hby at_317) rfl (l' := Lb743) rfl ?_
     refine si X746 hx hby at_319 rfl ?_
     show Steps p.tables e below (T746.setTop (mkF m 321 Lb743 [(.int (2 : Int32))])) _
     refine sc X746 hx hby at_321 ?_
     refine sn X746 hx hby at_322 (by decide) ?_
     refine si X746 hx hby at_325 rfl ?_
     refine sN X746 hx hby at_327 (by decide) ?_
     refine sa X746 hx hby at_330 rfl rfl ?_
     show Steps p.tables e below (T746.setTop (mkF m 332 Lb743 [(.ref b716)])) _
     refine sc X746 hx hby at_332 ?_
     refine X746.aaload hx (j := (0 : Int32)) (v := (.ref b57)) (by rw [e746]; exact Ar748.1) (State.isArrayOf_alike hZ.alike Ar748.2.1) rfl Ar748.2.2 hin748 (Hs748.at hin748 rfl) (g := (mkF m 333 Lb743 [(.int (0 : Int32)), (.ref b716)])) rfl rfl (hb hby at_333) _ ?_
     refine st751 _ ?_
     refine XS.ifnonnullNo X751.here hx rfl (hb hby at_337) rfl ?_
     refine sa X751 hx hby at_340 rfl rfl ?_
     refine sc X751 hx hby at_342 ?_
     refine X751.aaload hx (j := (0 : Int32)) (v := (.ref b57)) (by rw [e751]; exact Ar752.1) (State.isArrayOf_alike hZ.alike Ar752.2.1) rfl Ar752.2.2 hin752 (Hs752.at hin752 rfl) (g := (mkF m 343 Lb743 [(.int (0 : Int32)), (.ref b716)])) rfl rfl (hb hby at_343) _ ?_
     refine st754 _ ?_
     refine sa X754 hx hby at_347 rfl rfl ?_
     refine sc X754 hx hby at_349 ?_
     refine X754.aaload hx (j := (1 : Int32)) (v := (.ref b36)) (by rw [e754]; exact Ar755.1) (State.isArrayOf_alike hZ.alike Ar755.2.1) rfl Ar755.2.2 hin755 (Hs755.at hin755 rfl) (g := (mkF m 350 Lb743 [(.int (1 : Int32)), (.ref b716), (.ref b36)])) rfl rfl (hb hby at_350) _ ?_
     refine Jvm.RoadKit.acmp (g := (mkF m 351 Lb743 [(.ref b36), (.ref b36)])) X754 hx rfl rfl rfl (pc0 := 351) (pc' := 354) (same := true) rfl (hb hby at_351) rfl (decide_eq_true rfl) (by decide) (by decide) ?_
     refine sa X754 hx hby at_354 rfl rfl ?_
     show Steps p.tables e below (T754.setTop (mkF m 356 Lb743 [(.ref b716)])) _
     refine sc X754 hx hby at_356 ?_
     refine X754.aaload hx (j := (0 : Int32)) (v := (.ref b57)) (by rw [e754]; exact Ar756.1) (State.isArrayOf_alike hZ.alike Ar756.2.1) rfl Ar756.2.2 hin756 (Hs756.at hin756 rfl) (g := (mkF m 357 Lb743 [(.int (0 : Int32)), (.ref b716)])) rfl rfl (hb hby at_357) _ ?_
     refine st758 _ ?_
     refine si X758 hx hby at_361 rfl ?_
     refine sn X758 hx hby at_363 (teq (rfl : (ownS (ownEnd p0 (p1 &&& (9223372036854775807 : Int64))) p0) = (ownS (ownEnd p0 (p1 &&& (9223372036854775807 : Int64))) p0))).2 ?_
     refine sc X758 hx hby at_366 ?_
     refine sg (pc := 367) (pc' := 371) X758 hx hby at_367 (by decide) (by decide) ?_
     refine XS.istore X758.here hx rfl (hb hby at_371) rfl (l' := Lb743) rfl ?_
     show Steps p.tables e below (T758.setTop (mkF m 373 Lb743 [])) _
     refine si X758 hx hby at_373 rfl ?_
     refine sc X758 hx hby at_375 ?_
     refine sn X758 hx hby at_376 (by decide) ?_
     refine si X758 hx hby at_379 rfl ?_
     refine sN X758 hx hby at_381 (by decide) ?_
     show Steps p.tables e below (T758.setTop (mkF m 384 Lb743 [])) _
     refine sa X758 hx hby at_384 rfl rfl ?_
     refine sc X758 hx hby at_386 ?_
     refine X758.aaload hx (j := (1 : Int32)) (v := (.ref b36)) (by rw [e758]; exact Ar759.1) (State.isArrayOf_alike hZ.alike Ar759.2.1) rfl Ar759.2.2 hin759 (Hs759.at hin759 rfl) (g := (mkF m 387 Lb743 [(.int (1 : Int32)), (.ref b716)])) rfl rfl (hb hby at_387) _ ?_
     refine st761 _ ?_
     refine sa X761 hx hby at_391 rfl rfl ?_
     refine sc X761 hx hby at_393 ?_
     refine X761.aaload hx (j := (0 : Int32)) (v := (.ref b57)) (by rw [e761]; exact Ar762.1) (State.isArrayOf_alike hZ.alike Ar762.2.1) rfl Ar762.2.2 hin762 (Hs762.at hin762 rfl) (g := (mkF m 394 Lb743 [(.int (0 : Int32)), (.ref b716), (.ref b57)])) rfl rfl (hb hby at_394) _ ?_
     refine Jvm.RoadKit.acmp (g := (mkF m 395 Lb743 [(.ref b57), (.ref b57)])) X761 hx rfl rfl rfl (pc0 := 395) (pc' := 398) (same := true) rfl (hb hby at_395) rfl (decide_eq_true rfl) (by decide) (by decide) ?_
     refine sa X761 hx hby at_398 rfl rfl ?_
     show Steps p.tables e below (T761.setTop (mkF m 400 Lb743 [(.ref b716)])) _
     refine sc X761 hx hby at_400 ?_
     refine X761.aaload hx (j := (1 : Int32)) (v := (.ref b36)) (by rw [e761]; exact Ar763.1) (State.isArrayOf_alike hZ.alike Ar763.2.1) rfl Ar763.2.2 hin763 (Hs763.at hin763 rfl) (g := (mkF m 401 Lb743 [(.int (1 : Int32)), (.ref b716)])) rfl rfl (hb hby at_401) _ ?_
     exact k)
    obtain ⟨T765, X765, e765, st765⟩ := getF X761 hx hZ hown (host := "") (Or.inl (wk109 hw)) Via.refl e761 r739_3 (g := (mkF m 402 Lb743 [(.ref b36)])) rfl rfl (hb hby at_402)
    obtain ⟨cl766, Ar766, cw766, S766, Nn766, Hs766, G766⟩ := id (t747)
    have hin766 : ¬ ((2 : Int32) < 0 ∨ cl766.slots.size ≤ ((2 : Int32)).toNatClampNeg) := inb_of S766 ⟨by decide, by decide⟩
    obtain ⟨cl767, Ar767, cw767, S767, Nn767, Hs767, G767⟩ := id (t747)
    have hin767 : ¬ ((1 : Int32) < 0 ∨ cl767.slots.size ≤ ((1 : Int32)).toNatClampNeg) := inb_of S767 ⟨by decide, by decide⟩
    have t768 := (own_fld ((((own_fld r691_1 K707 (own_nlb ne676 (own_nlb ne676 (own_nls (sn79 hw) (own_nlb (Ne.symm ne668) (own_nlb ne676 (own_nlb (Ne.symm ne651) own_nl0))))))).ext E716).other W720 (Or.inl ne733)).other W724 (Or.inl ne733)) K739 (own_nls (sn80 hw) (own_nlb (Ne.symm ne656) (own_nlb (Ne.symm ne656) (own_nlb (Ne.symm ne656) (own_nlb (Ne.symm ne651) own_nl0))))))
    obtain ⟨T769, X769, e769, st769⟩ := getF X765 hx hZ hown (host := "") (Or.inl (wk93 hw)) Via.refl e765 t768 (g := (mkF m 416 Lb743 [(.ref b36)])) rfl rfl (hb hby at_416)
    have t770 := (own_fld ((((own_fld (own_fld (own_fld t658 K674 (own_nlb (Ne.symm ne650) (own_nls (sn85 hw) (own_nls (sn84 hw) (own_nlb (Ne.symm ne667) (own_nls (sn30 hw) (own_nlb (Ne.symm ne650) own_nl0))))))) K691 (own_nlb ne656 (own_nlb ne656 (own_nls (sn85 hw) (own_nlb (Ne.symm ne667) (own_nlb ne656 (own_nlb (Ne.symm ne650) own_nl0))))))) K707 (own_nlb ne657 (own_nlb ne657 (own_nlb ne656 (own_nlb (Ne.symm ne667) (own_nlb ne657 (own_nlb (Ne.symm ne650) own_nl0))))))).ext E716).other W720 (Or.inl ne728)).other W724 (Or.inl ne728)) K739 (own_nlb ne656 (own_nls (sn85 hw) (own_nls (sn84 hw) (own_nls (sn30 hw) (own_nlb (Ne.symm ne650) own_nl0))))))
    have t771 := (own_exa ((((own_exa t694 K707).ext E716).wr W720).wr W724) K739)
    have ne772 : b4 ≠ b716 := (Nat.ne_of_lt (Nat.lt_of_lt_of_le (Nat.lt_of_lt_of_le t694.lt K707.1) (Nat.le_of_eq g716.symm)))
    have t773 := (own_fld ((((own_fld t695 K707 (own_nlb ne74 (own_nlb ne74 (own_nlb ne53 (own_nlb ne679 (own_nlb ne74 (own_nlb ne29 own_nl0))))))).ext E716).other W720 (Or.inl ne772)).other W724 (Or.inl ne772)) K739 (own_nlb ne53 (own_nlb ne32 (own_nlb ne32 (own_nlb ne32 (own_nlb ne29 own_nl0))))))
    have t774 := (own_exa t735 K739)
    have t775 := (own_fld ((((own_fld (own_fld (own_fld t662 K674 (own_nlb (Ne.symm ne650) (own_nls (sn87 hw) (own_nls (sn86 hw) (own_nlb (Ne.symm ne667) (own_nls (sn33 hw) (own_nlb (Ne.symm ne650) own_nl0))))))) K691 (own_nlb ne656 (own_nlb ne656 (own_nls (sn87 hw) (own_nlb (Ne.symm ne667) (own_nlb ne656 (own_nlb (Ne.symm ne650) own_nl0))))))) K707 (own_nlb ne657 (own_nlb ne657 (own_nlb ne656 (own_nlb (Ne.symm ne667) (own_nlb ne657 (own_nlb (Ne.symm ne650) own_nl0))))))).ext E716).other W720 (Or.inl ne728)).other W724 (Or.inl ne728)) K739 (own_nlb ne656 (own_nls (sn87 hw) (own_nls (sn86 hw) (own_nls (sn33 hw) (own_nlb (Ne.symm ne650) own_nl0))))))
    have t776 := (own_fld ((((own_fld (own_fld (own_fld t663 K674 (own_nlb (Ne.symm ne650) (own_nls (sn89 hw) (own_nls (sn88 hw) (own_nlb (Ne.symm ne667) (own_nls (sn36 hw) (own_nlb (Ne.symm ne650) own_nl0))))))) K691 (own_nlb ne656 (own_nlb ne656 (own_nls (sn89 hw) (own_nlb (Ne.symm ne667) (own_nlb ne656 (own_nlb (Ne.symm ne650) own_nl0))))))) K707 (own_nlb ne657 (own_nlb ne657 (own_nlb ne656 (own_nlb (Ne.symm ne667) (own_nlb ne657 (own_nlb (Ne.symm ne650) own_nl0))))))).ext E716).other W720 (Or.inl ne728)).other W724 (Or.inl ne728)) K739 (own_nlb ne656 (own_nls (sn89 hw) (own_nls (sn88 hw) (own_nls (sn36 hw) (own_nlb (Ne.symm ne650) own_nl0))))))
    have t777 := (own_fld ((((own_fld t699 K707 (own_nlb ne74 (own_nlb ne74 (own_nlb ne53 (own_nlb ne679 (own_nlb ne74 (own_nlb ne29 own_nl0))))))).ext E716).other W720 (Or.inl ne772)).other W724 (Or.inl ne772)) K739 (own_nlb ne53 (own_nlb ne32 (own_nlb ne32 (own_nlb ne32 (own_nlb ne29 own_nl0))))))
    have t778 := (own_fld ((((own_fld t700 K707 (own_nlb ne652 (own_nlb ne652 (own_nlb ne651 (own_nlb ne673 (own_nlb ne652 (own_nls (sn82 hw) own_nl0))))))).ext E716).other W720 (Or.inl ne736)).other W724 (Or.inl ne736)) K739 (own_nlb ne651 (own_nlb ne650 (own_nlb ne650 (own_nlb ne650 (own_nls (sn82 hw) own_nl0))))))
    have t779 := (own_fld ((((own_fld t703 K707 (own_nlb ne652 (own_nlb ne652 (own_nlb ne651 (own_nlb ne673 (own_nlb ne652 (own_nls (sn83 hw) own_nl0))))))).ext E716).other W720 (Or.inl ne736)).other W724 (Or.inl ne736)) K739 (own_nlb ne651 (own_nlb ne650 (own_nlb ne650 (own_nlb ne650 (own_nls (sn83 hw) own_nl0))))))
    have ne780 : b11_0 ≠ b716 := (Nat.ne_of_lt (Nat.lt_of_lt_of_le r707_2.lt (Nat.le_of_eq g716.symm)))
    have t781 := (own_gk_kl (own_gk_oth (own_gk_oth (own_gk_ext r707_2 E716) W720 ne780) W724 ne780) K739 (own_nbc (Ne.symm ne668) (own_nbc (Ne.symm ne667) (own_nbc (Ne.symm ne667) (own_nbc (Ne.symm ne667) (own_nbc ne673 own_nb0))))))
    have t782 := (own_exa ((t721.wr W720).wr W724) K739)
    obtain ⟨cq783, kq783, q783a, q783b, q783c⟩ := isOf hZ e769 t742
    obtain ⟨_, _, ⟨T783, L783, kk783, nn783⟩, -, X783, ⟨Lc783, hQ783, l783, y783, z783⟩, st783⟩ := X769.virtualBack hx (y := ym19) (z := ym19) hown (mvT hZ (wk111 hw)) (mvT hZ (wk112 hw)) (notFace_of_selects (args := #[]) (mvT hZ (wk114 hw))) (mvT hZ (wk114 hw)) (mvT hZ (wk113 hw)) (by decide) (backOf (W := 0) (rm13_33 l Z a0 hw w hW [] b9 b14 p0 b4 (p1 &&& (9223372036854775807 : Int64)) b11_0 k11_0 b57 T739.heap n0 O740 r739_4 t770 t771 t773 (own_lf1 _) t774 t775 t776 t777 (own_max _) t778 t742 r739_0 (own_S1 _ _) t779 t781 (own_S2 _ _) (own_S3 _ _) r739_1 r739_2 t782 t750 gg14 (Ne.symm ne657) gg57 ne650 ne652 ggb11_0 ne667 ne669 r11_4 ne673 gg9) hZ (wk115 hw) (wk36 hw) (by decide) (by decide)) q783a q783c (g := (mkF m 436 Lb743 [(.long p0), (.ref b14), (.ref b9)])) rfl (by rw [hml]; rfl) (Steps.refl _) (argsL := [(.ref b14), (.long p0)]) (rest := []) (lenOf pds_14 rfl) rfl (by show 2 * 0 + _ ≤ _; exact Nat.le_of_eq rfl) (hb hby at_436) (fun _ _ => ⟨rfl, e769, (by decide : 11 + 0 ≤ _), (by decide : 516 + 0 ≤ _)⟩)
    dsimp only [Pt.U, Pt.locs, Pt.cells, Pt.slots] at X783 l783 y783 z783 st783 hQ783
    rw [l783, y783, z783] at X783
    obtain ⟨rfl, N783q, K783, r783_0, r783_1, r783_2, r783_3, r783_4, r783_5⟩ := hQ783
    have N783 := Fr.app N741 N783q
    have O784 := own_old O740 K783 (own_ngc gg14 (own_ngc gg14 (own_ngc gg57 (own_ngc ggb11_0 (own_ngc gg14 (own_ngc gg9 own_ng0))))))
    obtain ⟨T785, X785, e785, st785⟩ := getF X783 hx hZ hown (host := "") (Or.inl (wk109 hw)) Via.refl rfl r783_4 (g := (mkF m 446 Lb743 [(.ref b14)])) rfl rfl (hb hby at_446)
    have t786 := (own_arv t747 K783 (own_nbc ne728 (own_nbc ne728 (own_nbc ne749 (own_nbc ne780 (own_nbc ne728 (own_nbc ne736 own_nb0)))))))
    obtain ⟨cl787, Ar787, cw787, S787, Nn787, Hs787, G787⟩ := id (t786)
    have hin787 : ¬ ((0 : Int32) < 0 ∨ cl787.slots.size ≤ ((0 : Int32)).toNatClampNeg) := inb_of S787 ⟨by decide, by decide⟩
    obtain ⟨T788, X788, e788, st788⟩ := getF X785 hx hZ hown (host := "") (Or.inl (wk107 hw)) Via.refl e785 r783_3 (g := (mkF m 458 Lb743 [(.ref b14)])) rfl rfl (hb hby at_458)
    obtain ⟨cl789, Ar789, cw789, S789, Nn789, Hs789, G789⟩ := id (t786)
    have hin789 : ¬ ((0 : Int32) < 0 ∨ cl789.slots.size ≤ ((0 : Int32)).toNatClampNeg) := inb_of S789 ⟨by decide, by decide⟩
    obtain ⟨T790, X790, e790, st790⟩ := getF X788 hx hZ hown (host := "") (Or.inl (wk107 hw)) Via.refl e788 r783_5 (g := (mkF m 486 Lb743 [(.ref b57)])) rfl rfl (hb hby at_486)
    obtain ⟨fs, hr, hrun, hended, hREW⟩ := Stand.leaveW (s := s) (vm₁ := T6.vm) X790 hS6 (by rw [e790]; exact (Nat.le_trans (Nat.le_trans (Nat.le_trans (Nat.le_trans (Nat.le_trans (Nat.le_trans (Nat.le_trans (Nat.le_trans (Nat.le_trans (Nat.le_trans (Nat.le_trans (Nat.le_trans (Nat.le_trans (Nat.le_trans (Nat.le_trans (Nat.le_trans (Nat.le_trans (Nat.le_trans (Nat.le_trans (Nat.le_trans (Nat.le_trans (Nat.le_trans (Nat.le_refl _) E9.1) K11.1) E14.1) K16.1) K18.1) K33.1) E36.1) K38.1) K40.1) K54.1) E57.1) K59.1) K61.1) K75.1) K674.1) K691.1) K707.1) E716.1) (Nat.le_of_eq W720.size.symm)) (Nat.le_of_eq W724.size.symm)) K739.1) K783.1)) (v := some (.int (1 : Int32))) (fun h => by rw [Bd.returns] at h; cases h)
    refine ⟨_, _, pre764 _ ?_, hrun, hended, _, _, rfl, ?_, hREW.1, hREW.2.1, hREW.2.2.1, hREW.2.2.2.mono (by decide) (by decide)⟩
    · show Steps p.tables e below (T761.setTop (mkF m 402 Lb743 [(.ref b36)])) _
      refine st765 _ ?_
      refine sa X765 hx hby at_405 rfl rfl ?_
      refine sc X765 hx hby at_407 ?_
      refine X765.aaload hx (j := (2 : Int32)) (v := .null) (by rw [e765]; exact Ar766.1) (State.isArrayOf_alike hZ.alike Ar766.2.1) rfl Ar766.2.2 hin766 (Hs766.at hin766 rfl) (g := (mkF m 408 Lb743 [(.int (2 : Int32)), (.ref b716), .null])) rfl rfl (hb hby at_408) _ ?_
      refine Jvm.RoadKit.acmp (g := (mkF m 409 Lb743 [.null, .null])) X765 hx rfl rfl rfl (pc0 := 409) (pc' := 412) (same := true) rfl (hb hby at_409) rfl (decide_eq_true rfl) (by decide) (by decide) ?_
      refine sa X765 hx hby at_412 rfl rfl ?_
      show Steps p.tables e below (T765.setTop (mkF m 414 Lb743 [(.ref b716)])) _
      refine sc X765 hx hby at_414 ?_
      refine X765.aaload hx (j := (1 : Int32)) (v := (.ref b36)) (by rw [e765]; exact Ar767.1) (State.isArrayOf_alike hZ.alike Ar767.2.1) rfl Ar767.2.2 hin767 (Hs767.at hin767 rfl) (g := (mkF m 415 Lb743 [(.int (1 : Int32)), (.ref b716)])) rfl rfl (hb hby at_415) _ ?_
      refine st769 _ ?_
      refine si X769 hx hby at_419 rfl ?_
      refine sn X769 hx hby at_421 (teq (rfl : (ownS (ownEnd p0 (p1 &&& (9223372036854775807 : Int64))) p0) = (ownS (ownEnd p0 (p1 &&& (9223372036854775807 : Int64))) p0))).2 ?_
      refine sc X769 hx hby at_424 ?_
      refine sg (pc := 425) (pc' := 429) X769 hx hby at_425 (by decide) (by decide) ?_
      refine XS.istore X769.here hx rfl (hb hby at_429) rfl (l' := Lb743) rfl ?_
      show Steps p.tables e below (T769.setTop (mkF m 431 Lb743 [])) _
      refine sa X769 hx hby at_431 rfl rfl ?_
      refine sa X769 hx hby at_433 rfl rfl ?_
      refine sL X769 hx hby at_435 rfl ?_
      refine st783.trans ?_
      refine si X783 hx hby at_439 rfl ?_
      refine sN X783 hx hby at_441 (by decide) ?_
      refine sa X783 hx hby at_444 rfl rfl ?_
      refine st785 _ ?_
      refine sa X785 hx hby at_449 rfl rfl ?_
      refine sc X785 hx hby at_451 ?_
      refine X785.aaload hx (j := (0 : Int32)) (v := (.ref b57)) (by rw [e785]; exact Ar787.1) (State.isArrayOf_alike hZ.alike Ar787.2.1) rfl Ar787.2.2 hin787 (Hs787.at hin787 rfl) (g := (mkF m 452 Lb743 [(.int (0 : Int32)), (.ref b716), (.ref b57)])) rfl rfl (hb hby at_452) _ ?_
      refine Jvm.RoadKit.acmp (g := (mkF m 453 Lb743 [(.ref b57), (.ref b57)])) X785 hx rfl rfl rfl (pc0 := 453) (pc' := 456) (same := true) rfl (hb hby at_453) rfl (decide_eq_true rfl) (by decide) (by decide) ?_
      refine sa X785 hx hby at_456 rfl rfl ?_
      show Steps p.tables e below (T785.setTop (mkF m 458 Lb743 [(.ref b14)])) _
      refine st788 _ ?_
      refine XS.ifnonnullNo X788.here hx rfl (hb hby at_461) rfl ?_
      refine sc X788 hx hby at_464 ?_
      refine sg (pc := 465) (pc' := 469) X788 hx hby at_465 (by decide) (by decide) ?_
      refine XS.istore X788.here hx rfl (hb hby at_469) rfl (l' := Lb743) rfl ?_
      refine si X788 hx hby at_471 rfl ?_
      show Steps p.tables e below (T788.setTop (mkF m 473 Lb743 [(.int (2 : Int32))])) _
      refine sc X788 hx hby at_473 ?_
      refine sn X788 hx hby at_474 (by decide) ?_
      refine si X788 hx hby at_477 rfl ?_
      refine sN X788 hx hby at_479 (by decide) ?_
      refine sa X788 hx hby at_482 rfl rfl ?_
      show Steps p.tables e below (T788.setTop (mkF m 484 Lb743 [(.ref b716)])) _
      refine sc X788 hx hby at_484 ?_
      refine X788.aaload hx (j := (0 : Int32)) (v := (.ref b57)) (by rw [e788]; exact Ar789.1) (State.isArrayOf_alike hZ.alike Ar789.2.1) rfl Ar789.2.2 hin789 (Hs789.at hin789 rfl) (g := (mkF m 485 Lb743 [(.int (0 : Int32)), (.ref b716)])) rfl rfl (hb hby at_485) _ ?_
      refine st790 _ ?_
      refine sa X790 hx hby at_489 rfl rfl ?_
      refine Jvm.RoadKit.acmp (g := (mkF m 491 Lb743 [(.ref b14), (.ref b14)])) X790 hx rfl rfl rfl (pc0 := 491) (pc' := 494) (same := true) rfl (hb hby at_491) rfl (decide_eq_true rfl) (by decide) (by decide) ?_
      refine sc X790 hx hby at_494 ?_
      refine sg (pc := 495) (pc' := 499) X790 hx hby at_495 (by decide) (by decide) ?_
      refine XS.istore X790.here hx rfl (hb hby at_499) rfl (l' := Lb743) rfl ?_
      show Steps p.tables e below (T790.setTop (mkF m 501 Lb743 [])) _
      refine si X790 hx hby at_501 rfl ?_
      exact retN X790 hx (t := .boolean) Bd.returns (by simp) (hb hby at_503) hr
    · show Q0 n0 _ T790.heap _
      rw [e790]
      exact ⟨rfl, N783⟩
   ·
    rw [hs713] at pre712
    let Lb791 : Array Slot := #[.val (.long p0), .second, .val (.long p1), .second, .val (.int p2), .val (.int p3), .val (.int (3 : Int32)), .val (.int (1 : Int32)), .val (.long (p1 &&& (9223372036854775807 : Int64))), .second, .val (.ref b4), .val (.ref b9), .val (.ref b14), .val (.ref b36), .val (.ref b57), .val (.int (ownS (ownEnd p0 (p1 &&& (9223372036854775807 : Int64))) p0)), .unset, .unset, .unset, .unset]
    let Lb792 : Array Slot := #[.val (.long p0), .second, .val (.long p1), .second, .val (.int p2), .val (.int p3), .val (.int (3 : Int32)), .val (.int (1 : Int32)), .val (.long (p1 &&& (9223372036854775807 : Int64))), .second, .val (.ref b4), .val (.ref b9), .val (.ref b14), .val (.ref b36), .val (.ref b57), .val (.int (ownS (ownEnd p0 (p1 &&& (9223372036854775807 : Int64))) p0)), .val (.ref b36), .unset, .unset, .unset]
    obtain ⟨T793, h793, k793, X793, e793, E793, A793, Ov793, st793⟩ := newR X710 hx hZ hown (wk48 hw) (wk45 hw) e710 (g := (mkF m 183 Lb792 [(.int (3 : Int32))])) rfl (hb hby at_183) rfl (by decide) (cap := 3) (by decide) (by decide) (by decide) (by decide)
    obtain ⟨b793, g793⟩ : ∃ z, z = T707.heap.size := ⟨_, rfl⟩
    rw [← g793] at A793 st793
    have gg793 : n0 ≤ b793 := by rw [← O708.1, g793]; exact O708.2.1
    have O794 := O708.ext E793
    have V793 : Arv Z h793 b793 k793 (.object cs0) (3 : Int32) [.null, .null, .null] .null := own_pad (dv := .null) (Arv.new A793 (by decide)) 3 _ rfl
    let Lb795 : Array Slot := #[.val (.long p0), .second, .val (.long p1), .second, .val (.int p2), .val (.int p3), .val (.int (3 : Int32)), .val (.int (1 : Int32)), .val (.long (p1 &&& (9223372036854775807 : Int64))), .second, .val (.ref b4), .val (.ref b9), .val (.ref b14), .val (.ref b36), .val (.ref b57), .val (.int (ownS (ownEnd p0 (p1 &&& (9223372036854775807 : Int64))) p0)), .val (.ref b36), .val (.ref b793), .unset, .unset]
    let Lb796 : Array Slot := #[.val (.long p0), .second, .val (.long p1), .second, .val (.int p2), .val (.int p3), .val (.int (3 : Int32)), .val (.int (1 : Int32)), .val (.long (p1 &&& (9223372036854775807 : Int64))), .second, .val (.ref b4), .val (.ref b9), .val (.ref b14), .val (.ref b36), .val (.ref b57), .val (.int (ownS (ownEnd p0 (p1 &&& (9223372036854775807 : Int64))) p0)), .val (.ref b36), .val (.ref b793), .val (.int (0 : Int32)), .unset]
    obtain ⟨cl797, Ar797, cw797, S797, Nn797, Hs797, G797⟩ := id (V793)
    have hin797 : ¬ ((0 : Int32) < 0 ∨ cl797.slots.size ≤ ((0 : Int32)).toNatClampNeg) := inb_of S797 ⟨by decide, by decide⟩
    have t798 := ((own_exa t696 K707).ext E793)
    obtain ⟨T797, h797, X797, e797, W797, st797⟩ := stR X793 hx hZ e793 Ar797 (j := (0 : Int32)) hin797 rfl (Sto.ofV Ar797 cw797 Ov793 (Ins.self t798)) (g := (mkF m 209 Lb796 [(.ref b57), (.int (0 : Int32)), (.ref b793)])) rfl rfl (hb hby at_209)
    have V797 : Arv Z h797 b793 k793 (.object cs0) (3 : Int32) [(.ref b57), .null, .null] .null := own_set Ar797 cw797 S797 Nn797 Hs797 G797 rfl W797 0 rfl (Nat.le_of_ble_eq_true rfl) (.ref b57) rfl _ rfl
    have N797 := Fr.snoc X797 N707 gg793
    have O799 := O794.wr W797 gg793
    let Lb800 : Array Slot := #[.val (.long p0), .second, .val (.long p1), .second, .val (.int p2), .val (.int p3), .val (.int (3 : Int32)), .val (.int (1 : Int32)), .val (.long (p1 &&& (9223372036854775807 : Int64))), .second, .val (.ref b4), .val (.ref b9), .val (.ref b14), .val (.ref b36), .val (.ref b57), .val (.int (ownS (ownEnd p0 (p1 &&& (9223372036854775807 : Int64))) p0)), .val (.ref b36), .val (.ref b793), .val (.int (1 : Int32)), .unset]
    obtain ⟨cl801, Ar801, cw801, S801, Nn801, Hs801, G801⟩ := id (V797)
    have hin801 : ¬ ((1 : Int32) < 0 ∨ cl801.slots.size ≤ ((1 : Int32)).toNatClampNeg) := inb_of S801 ⟨by decide, by decide⟩
    have t802 := (((own_exa (own_exa t690 K691) K707).ext E793).wr W797)
    obtain ⟨T801, h801, X801, e801, W801, st801⟩ := stR X797 hx hZ e797 Ar801 (j := (1 : Int32)) hin801 rfl (Sto.ofV Ar801 cw801 Ov793 (Ins.self t802)) (g := (mkF m 252 Lb800 [(.ref b14), (.int (1 : Int32)), (.ref b793)])) rfl rfl (hb hby at_252)
    have V801 : Arv Z h801 b793 k793 (.object cs0) (3 : Int32) [(.ref b57), (.ref b14), .null] .null := own_set Ar801 cw801 S801 Nn801 Hs801 G801 rfl W801 1 rfl (Nat.le_of_ble_eq_true rfl) (.ref b14) rfl _ rfl
    have N801 := Fr.snoc X801 N797 gg793
    have O803 := O799.wr W801 gg793
    let Lb804 : Array Slot := #[.val (.long p0), .second, .val (.long p1), .second, .val (.int p2), .val (.int p3), .val (.int (3 : Int32)), .val (.int (1 : Int32)), .val (.long (p1 &&& (9223372036854775807 : Int64))), .second, .val (.ref b4), .val (.ref b9), .val (.ref b14), .val (.ref b36), .val (.ref b57), .val (.int (ownS (ownEnd p0 (p1 &&& (9223372036854775807 : Int64))) p0)), .val (.ref b36), .val (.ref b793), .val (.int (2 : Int32)), .unset]
    have ne805 : b36 ≠ b793 := (Nat.ne_of_lt (Nat.lt_of_lt_of_le (Nat.lt_of_lt_of_le t706.lt K707.1) (Nat.le_of_eq g793.symm)))
    have t806 := ((((own_fld r691_1 K707 (own_nlb ne676 (own_nlb ne676 (own_nls (sn79 hw) (own_nlb (Ne.symm ne668) (own_nlb ne676 (own_nlb (Ne.symm ne651) own_nl0))))))).ext E793).other W797 (Or.inl ne805)).other W801 (Or.inl ne805))
    have t807 := (((r707_5.ext E793).other W797 (Or.inl ne805)).other W801 (Or.inl ne805))
    have t808 := ((((own_fld r691_4 K707 (own_nlb ne676 (own_nlb ne676 (own_nls (sn78 hw) (own_nlb (Ne.symm ne668) (own_nlb ne676 (own_nlb (Ne.symm ne651) own_nl0))))))).ext E793).other W797 (Or.inl ne805)).other W801 (Or.inl ne805))
    have t809 := ((t798.wr W797).wr W801)
    have ne810 : b57 ≠ b793 := (Nat.ne_of_lt (Nat.lt_of_lt_of_le (Nat.lt_of_lt_of_le t696.lt K707.1) (Nat.le_of_eq g793.symm)))
    have t811 := (((r707_4.ext E793).other W797 (Or.inl ne810)).other W801 (Or.inl ne810))
    have t812 := (t802.wr W801)
    have ne813 : b14 ≠ b793 := (Nat.ne_of_lt (Nat.lt_of_lt_of_le (Nat.lt_of_lt_of_le (Nat.lt_of_lt_of_le t690.lt K691.1) K707.1) (Nat.le_of_eq g793.symm)))
    have t814 := ((((own_fld r691_5 K707 (own_nlb ne657 (own_nlb ne657 (own_nlb ne656 (own_nlb (Ne.symm ne667) (own_nlb ne657 (own_nlb (Ne.symm ne650) own_nl0))))))).ext E793).other W797 (Or.inl ne813)).other W801 (Or.inl ne813))
    have t815 := ((((own_exa t706 K707).ext E793).wr W797).wr W801)
    have ne816 : b9 ≠ b793 := (Nat.ne_of_lt (Nat.lt_of_lt_of_le (Nat.lt_of_lt_of_le t701.lt K707.1) (Nat.le_of_eq g793.symm)))
    have t817 := (((r707_0.ext E793).other W797 (Or.inl ne816)).other W801 (Or.inl ne816))
    have t818 := ((((own_exa t701 K707).ext E793).wr W797).wr W801)
    obtain ⟨cq819, kq819, q819a, q819b, q819c⟩ := isOf hZ e801 t818
    obtain ⟨_, _, ⟨T819, L819, kk819, nn819⟩, -, X819, ⟨Lc819, hQ819, l819, y819, z819⟩, st819⟩ := X801.virtualBack hx (y := ym9) (z := ym9) hown (mvT hZ (wk94 hw)) (mvT hZ (wk95 hw)) (notFace_of_selects (args := #[]) (mvT hZ (wk97 hw))) (mvT hZ (wk97 hw)) (mvT hZ (wk96 hw)) (by decide) (backOf (W := 0) (rm11_35 l Z a0 hw w hW [] b9 b36 (ownS (ownEnd p0 (p1 &&& (9223372036854775807 : Int64))) p0) b57 b14 h801 n0 O803 t806 (own_S1 _ _) t807 t808 t809 t811 gg57 ne676 t812 t814 ne657 gg14 t815 (Ne.symm ne656) gg36 t817 ne652 ne650 ne651 t818 gg9) hZ (wk98 hw) (wk36 hw) (by decide) (by decide)) q819a q819c (g := (mkF m 260 Lb804 [(.ref b36), (.ref b9)])) rfl (by rw [hml]; rfl) (Steps.refl _) (argsL := [(.ref b36)]) (rest := []) (lenOf pds_8 rfl) rfl (by show 2 * 0 + _ ≤ _; exact Nat.le_of_eq rfl) (hb hby at_260) (fun _ _ => ⟨rfl, e801, (by decide : 11 + 0 ≤ _), (by decide : 516 + 0 ≤ _)⟩)
    dsimp only [Pt.U, Pt.locs, Pt.cells, Pt.slots] at X819 l819 y819 z819 st819 hQ819
    rw [l819, y819, z819] at X819
    obtain ⟨rfl, N819q, K819, r819_0, r819_1, r819_2, r819_3, r819_4, r819_5⟩ := hQ819
    have N819 := Fr.app N801 N819q
    have O820 := own_old O803 K819 (own_ngc gg57 (own_ngc gg14 (own_ngc gg36 (own_ngc gg36 (own_ngc gg36 (own_ngc gg9 own_ng0))))))
    have t822 := (own_exa t818 K819)
    obtain ⟨cq821, kq821, q821a, q821b, q821c⟩ := isOf hZ rfl t822
    obtain ⟨_, _, ⟨T821, L821, kk821, nn821⟩, -, X821, ⟨Lc821, hQ821, l821, y821, z821⟩, st821⟩ := X819.virtualBack hx (y := ym10) (z := ym10) hown (mvT hZ (wk100 hw)) (mvT hZ (wk101 hw)) (notFace_of_selects (args := #[]) (mvT hZ (wk103 hw))) (mvT hZ (wk103 hw)) (mvT hZ (wk102 hw)) (by decide) (backOf (W := 0) (rm12_32 l Z a0 hw w hW [] b9 T819.heap n0 O820 r819_5) hZ (wk104 hw) (wk36 hw) (by decide) (by decide)) q821a q821c (g := (mkF m 265 Lb804 [(.ref b9)])) rfl (by rw [hml]; rfl) (Steps.refl _) (argsL := []) (rest := []) (lenOf pds_9 rfl) rfl (by show 2 * 0 + _ ≤ _; exact Nat.le_of_eq rfl) (hb hby at_265) (fun _ _ => ⟨rfl, rfl, (by decide : 11 + 0 ≤ _), (by decide : 516 + 0 ≤ _)⟩)
    dsimp only [Pt.U, Pt.locs, Pt.cells, Pt.slots] at X821 l821 y821 z821 st821 hQ821
    rw [l821, y821, z821] at X821
    obtain ⟨rfl, N821q, e821⟩ := hQ821
    have N821 := Fr.app N819 N821q
    let Lb823 : Array Slot := #[.val (.long p0), .second, .val (.long p1), .second, .val (.int p2), .val (.int p3), .val (.int (3 : Int32)), .val (.int (1 : Int32)), .val (.long (p1 &&& (9223372036854775807 : Int64))), .second, .val (.ref b4), .val (.ref b9), .val (.ref b14), .val (.ref b36), .val (.ref b57), .val (.int (ownS (ownEnd p0 (p1 &&& (9223372036854775807 : Int64))) p0)), .val (.ref b36), .val (.ref b793), .val (.int (2 : Int32)), .val (.int (1 : Int32))]
    obtain ⟨T824, X824, e824, st824⟩ := getF X821 hx hZ hown (host := "") (Or.inl (wk93 hw)) Via.refl e821 r819_0 (g := (mkF m 289 Lb823 [(.ref b36)])) rfl rfl (hb hby at_289)
    obtain ⟨T825, X825, e825, st825⟩ := getF X824 hx hZ hown (host := "") (Or.inl (wk107 hw)) Via.refl e824 r819_1 (g := (mkF m 298 Lb823 [(.ref b36)])) rfl rfl (hb hby at_298)
    obtain ⟨T826, X826, e826, st826⟩ := getF X825 hx hZ hown (host := "") (Or.inl (wk109 hw)) Via.refl e825 r819_2 (g := (mkF m 306 Lb823 [(.ref b36)])) rfl rfl (hb hby at_306)
    have t827 := (own_arv V801 K819 (own_nbc ne810 (own_nbc ne813 (own_nbc ne805 (own_nbc ne805 (own_nbc ne805 (own_nbc ne816 own_nb0)))))))
    obtain ⟨cl828, Ar828, cw828, S828, Nn828, Hs828, G828⟩ := id (t827)
    have hin828 : ¬ ((0 : Int32) < 0 ∨ cl828.slots.size ≤ ((0 : Int32)).toNatClampNeg) := inb_of S828 ⟨by decide, by decide⟩
    have t829 := (own_fld (((r707_3.ext E793).other W797 (Or.inl ne810)).other W801 (Or.inl ne810)) K819 (own_nls (sn81 hw) (own_nlb (Ne.symm ne657) (own_nlb (Ne.symm ne676) (own_nlb (Ne.symm ne676) (own_nlb (Ne.symm ne676) (own_nlb (Ne.symm ne652) own_nl0)))))))
    obtain ⟨T830, X830, e830, st830⟩ := getF X826 hx hZ hown (host := "") (Or.inl (wk107 hw)) Via.refl e826 t829 (g := (mkF m 334 Lb823 [(.ref b57)])) rfl rfl (hb hby at_334)
    obtain ⟨cl831, Ar831, cw831, S831, Nn831, Hs831, G831⟩ := id (t827)
    have hin831 : ¬ ((0 : Int32) < 0 ∨ cl831.slots.size ≤ ((0 : Int32)).toNatClampNeg) := inb_of S831 ⟨by decide, by decide⟩
    obtain ⟨T832, X832, e832, st832⟩ := getF X830 hx hZ hown (host := "") (Or.inl (wk109 hw)) Via.refl e830 r819_3 (g := (mkF m 344 Lb823 [(.ref b57)])) rfl rfl (hb hby at_344)
    obtain ⟨cl833, Ar833, cw833, S833, Nn833, Hs833, G833⟩ := id (t827)
    have hin833 : ¬ ((1 : Int32) < 0 ∨ cl833.slots.size ≤ ((1 : Int32)).toNatClampNeg) := inb_of S833 ⟨by decide, by decide⟩
    obtain ⟨cl834, Ar834, cw834, S834, Nn834, Hs834, G834⟩ := id (t827)
    have hin834 : ¬ ((0 : Int32) < 0 ∨ cl834.slots.size ≤ ((0 : Int32)).toNatClampNeg) := inb_of S834 ⟨by decide, by decide⟩
    have t835 := (own_fld (((r707_1.ext E793).other W797 (Or.inl ne810)).other W801 (Or.inl ne810)) K819 (own_nls (sn80 hw) (own_nlb (Ne.symm ne657) (own_nlb (Ne.symm ne676) (own_nlb (Ne.symm ne676) (own_nlb (Ne.symm ne676) (own_nlb (Ne.symm ne652) own_nl0)))))))
    obtain ⟨T836, X836, e836, st836⟩ := getF X832 hx hZ hown (host := "") (Or.inl (wk93 hw)) Via.refl e832 t835 (g := (mkF m 358 Lb823 [(.ref b57)])) rfl rfl (hb hby at_358)
    obtain ⟨cl837, Ar837, cw837, S837, Nn837, Hs837, G837⟩ := id (t827)
    have hin837 : ¬ ((1 : Int32) < 0 ∨ cl837.slots.size ≤ ((1 : Int32)).toNatClampNeg) := inb_of S837 ⟨by decide, by decide⟩
    obtain ⟨T838, X838, e838, st838⟩ := getF X836 hx hZ hown (host := "") (Or.inl (wk107 hw)) Via.refl e836 r819_4 (g := (mkF m 388 Lb823 [(.ref b14)])) rfl rfl (hb hby at_388)
    obtain ⟨cl839, Ar839, cw839, S839, Nn839, Hs839, G839⟩ := id (t827)
    have hin839 : ¬ ((0 : Int32) < 0 ∨ cl839.slots.size ≤ ((0 : Int32)).toNatClampNeg) := inb_of S839 ⟨by decide, by decide⟩
    have pre840 : ∀ t, Steps p.tables e below (T838.setTop (mkF m 400 Lb823 [(.ref b793)])) t → Steps p.tables e below (s₁.setTop (entryFrame m #[(.long p0), (.long p1), (.int p2), (.int p3)] maxLocals)) t := fun t k => pre712 t (by
     show Steps p.tables e below (T710.setTop (mkF m 159 Lb791 [(.int (1 : Int32))])) _
     refine XS.ifYes X710.here hx rfl (pc0 := 159) (pc' := 167) rfl (hb hby at_159) rfl (by decide) (by decide) (by decide) ?_
     refine si X710 hx hby at_167 rfl ?_
     refine sc X710 hx hby at_169 ?_
     refine sn X710 hx hby at_170 (by decide) ?_
     refine sa X710 hx hby at_173 rfl rfl ?_
     show Steps p.tables e below (T710.setTop (mkF m 175 Lb791 [(.ref b36)])) _
     refine sg (pc := 175) (pc' := 180) X710 hx hby at_175 (by decide) (by decide) ?_
     refine XS.astore X710.here hx rfl (hb hby at_180) rfl rfl (l' := Lb792) rfl ?_
     refine sc X710 hx hby at_182 ?_
     refine st793 _ ?_
     refine XS.astore X793.here hx rfl (hb hby at_186) rfl rfl (l' := Lb795) rfl ?_
     refine sc X793 hx hby at_188 ?_
     refine XS.istore X793.here hx rfl (hb hby at_189) rfl (l' := Lb796) rfl ?_
     refine si X793 hx hby at_191 rfl ?_
     refine sc X793 hx hby at_193 ?_
     show Steps p.tables e below (T793.setTop (mkF m 194 Lb796 [(.int (3 : Int32)), (.int (3 : Int32))])) _
     refine sn X793 hx hby at_194 (by decide) ?_
     refine si X793 hx hby at_197 rfl ?_
     refine sc X793 hx hby at_199 ?_
     refine sn X793 hx hby at_200 (by decide) ?_
     refine sa X793 hx hby at_203 rfl rfl ?_
     show Steps p.tables e below (T793.setTop (mkF m 205 Lb796 [(.ref b793)])) _
     refine si X793 hx hby at_205 rfl ?_
     refine sa X793 hx hby at_207 rfl rfl ?_
     refine st797 _ ?_
     refine XS.iinc X797.here hx rfl (hb hby at_210) rfl (l' := Lb800) rfl ?_
     refine si X797 hx hby at_213 rfl ?_
     refine sc X797 hx hby at_215 ?_
     refine sn X797 hx hby at_216 (by decide) ?_
     refine si X797 hx hby at_219 rfl ?_
     show Steps p.tables e below (T797.setTop (mkF m 221 Lb800 [(.int (1 : Int32))])) _
     refine sc X797 hx hby at_221 ?_
     refine XS.icmpYes X797.here hx rfl (pc0 := 222) (pc' := 235) rfl (hb hby at_222) rfl (by decide) (by decide) (by decide) ?_
     refine si X797 hx hby at_235 rfl ?_
     refine sc X797 hx hby at_237 ?_
     refine sn X797 hx hby at_238 (by decide) ?_
     show Steps p.tables e below (T797.setTop (mkF m 241 Lb800 [])) _
     refine si X797 hx hby at_241 rfl ?_
     refine sN X797 hx hby at_243 (by decide) ?_
     refine sa X797 hx hby at_246 rfl rfl ?_
     refine si X797 hx hby at_248 rfl ?_
     refine sa X797 hx hby at_250 rfl rfl ?_
     show Steps p.tables e below (T797.setTop (mkF m 252 Lb800 [(.ref b14), (.int (1 : Int32)), (.ref b793)])) _
     refine st801 _ ?_
     refine XS.iinc X801.here hx rfl (hb hby at_253) rfl (l' := Lb804) rfl ?_
     refine sa X801 hx hby at_256 rfl rfl ?_
     refine sa X801 hx hby at_258 rfl rfl ?_
     refine st819.trans ?_
     refine sa X819 hx hby at_263 rfl rfl ?_
     refine st821.trans ?_
     refine si X821 hx hby at_268 rfl ?_
     refine XS.i2l X821.here hx rfl (hb hby at_270) rfl ?_
     refine XS.lcmp X821.here hx rfl (hb hby at_271) rfl ?_
     refine sN X821 hx hby at_272 (by decide) ?_
     refine sc X821 hx hby at_275 ?_
     show Steps p.tables e below (T821.setTop (mkF m 276 Lb804 [(.int (1 : Int32))])) _
     refine sg (pc := 276) (pc' := 280) X821 hx hby at_276 (by decide) (by decide) ?_
     refine XS.istore X821.here hx rfl (hb hby at_280) rfl (l' := Lb823) rfl ?_
     refine si X821 hx hby at_282 rfl ?_
     refine sN X821 hx hby at_284 (by decide) ?_
     refine sa X821 hx hby at_287 rfl rfl ?_
     show Steps p.tables e below (T821.setTop (mkF m 289 Lb823 [(.ref b36)])) _
     refine st824 _ ?_
     refine sc X824 hx hby at_292 ?_
     refine sn X824 hx hby at_293 (by decide) ?_
     refine sa X824 hx hby at_296 rfl rfl ?_
     refine st825 _ ?_
     refine XS.ifnonnullNo X825.here hx rfl (hb hby at_301) rfl ?_
     refine sa X825 hx hby at_304 rfl rfl ?_
     refine st826 _ ?_
     refine XS.ifnonnullNo X826.here hx rfl (hb hby at_309) rfl ?_
     refine sc X826 hx hby at_312 ?_
     refine sg (pc := 313) (pc' := 317) X826 hx hby at_313 (by decide) (by decide) ?_
     refine XS.istore X826.here hx rfl (hb hby at_317) rfl (l' := Lb823) rfl ?_
     refine si X826 hx hby at_319 rfl ?_
     show Steps p.tables e below (T826.setTop (mkF m 321 Lb823 [(.int (2 : Int32))])) _
     refine sc X826 hx hby at_321 ?_
     refine sn X826 hx hby at_322 (by decide) ?_
     refine si X826 hx hby at_325 rfl ?_
     refine sN X826 hx hby at_327 (by decide) ?_
     refine sa X826 hx hby at_330 rfl rfl ?_
     show Steps p.tables e below (T826.setTop (mkF m 332 Lb823 [(.ref b793)])) _
     refine sc X826 hx hby at_332 ?_
     refine X826.aaload hx (j := (0 : Int32)) (v := (.ref b57)) (by rw [e826]; exact Ar828.1) (State.isArrayOf_alike hZ.alike Ar828.2.1) rfl Ar828.2.2 hin828 (Hs828.at hin828 rfl) (g := (mkF m 333 Lb823 [(.int (0 : Int32)), (.ref b793)])) rfl rfl (hb hby at_333) _ ?_
     refine st830 _ ?_
     refine XS.ifnonnullNo X830.here hx rfl (hb hby at_337) rfl ?_
     refine sa X830 hx hby at_340 rfl rfl ?_
     refine sc X830 hx hby at_342 ?_
     refine X830.aaload hx (j := (0 : Int32)) (v := (.ref b57)) (by rw [e830]; exact Ar831.1) (State.isArrayOf_alike hZ.alike Ar831.2.1) rfl Ar831.2.2 hin831 (Hs831.at hin831 rfl) (g := (mkF m 343 Lb823 [(.int (0 : Int32)), (.ref b793)])) rfl rfl (hb hby at_343) _ ?_
     refine st832 _ ?_
     refine sa X832 hx hby at_347 rfl rfl ?_
     refine sc X832 hx hby at_349 ?_
     refine X832.aaload hx (j := (1 : Int32)) (v := (.ref b14)) (by rw [e832]; exact Ar833.1) (State.isArrayOf_alike hZ.alike Ar833.2.1) rfl Ar833.2.2 hin833 (Hs833.at hin833 rfl) (g := (mkF m 350 Lb823 [(.int (1 : Int32)), (.ref b793), (.ref b14)])) rfl rfl (hb hby at_350) _ ?_
     refine Jvm.RoadKit.acmp (g := (mkF m 351 Lb823 [(.ref b14), (.ref b14)])) X832 hx rfl rfl rfl (pc0 := 351) (pc' := 354) (same := true) rfl (hb hby at_351) rfl (decide_eq_true rfl) (by decide) (by decide) ?_
     refine sa X832 hx hby at_354 rfl rfl ?_
     show Steps p.tables e below (T832.setTop (mkF m 356 Lb823 [(.ref b793)])) _
     refine sc X832 hx hby at_356 ?_
     refine X832.aaload hx (j := (0 : Int32)) (v := (.ref b57)) (by rw [e832]; exact Ar834.1) (State.isArrayOf_alike hZ.alike Ar834.2.1) rfl Ar834.2.2 hin834 (Hs834.at hin834 rfl) (g := (mkF m 357 Lb823 [(.int (0 : Int32)), (.ref b793)])) rfl rfl (hb hby at_357) _ ?_
     refine st836 _ ?_
     refine si X836 hx hby at_361 rfl ?_
     refine sn X836 hx hby at_363 (teq (rfl : (ownS (ownEnd p0 (p1 &&& (9223372036854775807 : Int64))) p0) = (ownS (ownEnd p0 (p1 &&& (9223372036854775807 : Int64))) p0))).2 ?_
     refine sc X836 hx hby at_366 ?_
     refine sg (pc := 367) (pc' := 371) X836 hx hby at_367 (by decide) (by decide) ?_
     refine XS.istore X836.here hx rfl (hb hby at_371) rfl (l' := Lb823) rfl ?_
     show Steps p.tables e below (T836.setTop (mkF m 373 Lb823 [])) _
     refine si X836 hx hby at_373 rfl ?_
     refine sc X836 hx hby at_375 ?_
     refine sn X836 hx hby at_376 (by decide) ?_
     refine si X836 hx hby at_379 rfl ?_
     refine sN X836 hx hby at_381 (by decide) ?_
     show Steps p.tables e below (T836.setTop (mkF m 384 Lb823 [])) _
     refine sa X836 hx hby at_384 rfl rfl ?_
     refine sc X836 hx hby at_386 ?_
     refine X836.aaload hx (j := (1 : Int32)) (v := (.ref b14)) (by rw [e836]; exact Ar837.1) (State.isArrayOf_alike hZ.alike Ar837.2.1) rfl Ar837.2.2 hin837 (Hs837.at hin837 rfl) (g := (mkF m 387 Lb823 [(.int (1 : Int32)), (.ref b793)])) rfl rfl (hb hby at_387) _ ?_
     refine st838 _ ?_
     refine sa X838 hx hby at_391 rfl rfl ?_
     refine sc X838 hx hby at_393 ?_
     refine X838.aaload hx (j := (0 : Int32)) (v := (.ref b57)) (by rw [e838]; exact Ar839.1) (State.isArrayOf_alike hZ.alike Ar839.2.1) rfl Ar839.2.2 hin839 (Hs839.at hin839 rfl) (g := (mkF m 394 Lb823 [(.int (0 : Int32)), (.ref b793), (.ref b57)])) rfl rfl (hb hby at_394) _ ?_
     refine Jvm.RoadKit.acmp (g := (mkF m 395 Lb823 [(.ref b57), (.ref b57)])) X838 hx rfl rfl rfl (pc0 := 395) (pc' := 398) (same := true) rfl (hb hby at_395) rfl (decide_eq_true rfl) (by decide) (by decide) ?_
     refine sa X838 hx hby at_398 rfl rfl ?_
     exact k)
    obtain ⟨cl841, Ar841, cw841, S841, Nn841, Hs841, G841⟩ := id (t827)
    have hin841 : ¬ ((1 : Int32) < 0 ∨ cl841.slots.size ≤ ((1 : Int32)).toNatClampNeg) := inb_of S841 ⟨by decide, by decide⟩
    have t842 := (own_fld ((((own_fld (own_fld r674_2 K691 (own_nlb ne656 (own_nlb ne656 (own_nls (sn78 hw) (own_nlb (Ne.symm ne667) (own_nlb ne656 (own_nlb (Ne.symm ne650) own_nl0))))))) K707 (own_nlb ne657 (own_nlb ne657 (own_nlb ne656 (own_nlb (Ne.symm ne667) (own_nlb ne657 (own_nlb (Ne.symm ne650) own_nl0))))))).ext E793).other W797 (Or.inl ne813)).other W801 (Or.inl ne813)) K819 (own_nlb ne657 (own_nls (sn78 hw) (own_nlb ne656 (own_nlb ne656 (own_nlb ne656 (own_nlb (Ne.symm ne650) own_nl0)))))))
    obtain ⟨T843, X843, e843, st843⟩ := getF X838 hx hZ hown (host := "") (Or.inl (wk109 hw)) Via.refl e838 t842 (g := (mkF m 402 Lb823 [(.ref b14)])) rfl rfl (hb hby at_402)
    obtain ⟨cl844, Ar844, cw844, S844, Nn844, Hs844, G844⟩ := id (t827)
    have hin844 : ¬ ((2 : Int32) < 0 ∨ cl844.slots.size ≤ ((2 : Int32)).toNatClampNeg) := inb_of S844 ⟨by decide, by decide⟩
    obtain ⟨cl845, Ar845, cw845, S845, Nn845, Hs845, G845⟩ := id (t827)
    have hin845 : ¬ ((1 : Int32) < 0 ∨ cl845.slots.size ≤ ((1 : Int32)).toNatClampNeg) := inb_of S845 ⟨by decide, by decide⟩
    have t846 := (own_fld (((t709.ext E793).other W797 (Or.inl ne813)).other W801 (Or.inl ne813)) K819 (own_nlb ne657 (own_nls (sn79 hw) (own_nlb ne656 (own_nlb ne656 (own_nlb ne656 (own_nlb (Ne.symm ne650) own_nl0)))))))
    obtain ⟨T847, X847, e847, st847⟩ := getF X843 hx hZ hown (host := "") (Or.inl (wk93 hw)) Via.refl e843 t846 (g := (mkF m 416 Lb823 [(.ref b14)])) rfl rfl (hb hby at_416)
    have t848 := (own_fld ((((own_fld (own_fld t677 K691 (own_nls (sn85 hw) (own_nls (sn84 hw) (own_nlb (Ne.symm ne656) (own_nlb (Ne.symm ne668) (own_nls (sn30 hw) (own_nlb (Ne.symm ne651) own_nl0))))))) K707 (own_nlb ne676 (own_nlb ne676 (own_nls (sn85 hw) (own_nlb (Ne.symm ne668) (own_nlb ne676 (own_nlb (Ne.symm ne651) own_nl0))))))).ext E793).other W797 (Or.inl ne805)).other W801 (Or.inl ne805)) K819 (own_nlb ne676 (own_nlb (Ne.symm ne656) (own_nls (sn85 hw) (own_nls (sn84 hw) (own_nls (sn30 hw) (own_nlb (Ne.symm ne651) own_nl0)))))))
    have t849 := (own_exa ((((own_exa t694 K707).ext E793).wr W797).wr W801) K819)
    have ne850 : b4 ≠ b793 := (Nat.ne_of_lt (Nat.lt_of_lt_of_le (Nat.lt_of_lt_of_le t694.lt K707.1) (Nat.le_of_eq g793.symm)))
    have t851 := (own_fld ((((own_fld t695 K707 (own_nlb ne74 (own_nlb ne74 (own_nlb ne53 (own_nlb ne679 (own_nlb ne74 (own_nlb ne29 own_nl0))))))).ext E793).other W797 (Or.inl ne850)).other W801 (Or.inl ne850)) K819 (own_nlb ne74 (own_nlb ne32 (own_nlb ne53 (own_nlb ne53 (own_nlb ne53 (own_nlb ne29 own_nl0)))))))
    have t852 := (own_exa t815 K819)
    have t853 := (own_fld ((((own_fld (own_fld t682 K691 (own_nls (sn87 hw) (own_nls (sn86 hw) (own_nlb (Ne.symm ne656) (own_nlb (Ne.symm ne668) (own_nls (sn33 hw) (own_nlb (Ne.symm ne651) own_nl0))))))) K707 (own_nlb ne676 (own_nlb ne676 (own_nls (sn87 hw) (own_nlb (Ne.symm ne668) (own_nlb ne676 (own_nlb (Ne.symm ne651) own_nl0))))))).ext E793).other W797 (Or.inl ne805)).other W801 (Or.inl ne805)) K819 (own_nlb ne676 (own_nlb (Ne.symm ne656) (own_nls (sn87 hw) (own_nls (sn86 hw) (own_nls (sn33 hw) (own_nlb (Ne.symm ne651) own_nl0)))))))
    have t854 := (own_fld ((((own_fld (own_fld t683 K691 (own_nls (sn89 hw) (own_nls (sn88 hw) (own_nlb (Ne.symm ne656) (own_nlb (Ne.symm ne668) (own_nls (sn36 hw) (own_nlb (Ne.symm ne651) own_nl0))))))) K707 (own_nlb ne676 (own_nlb ne676 (own_nls (sn89 hw) (own_nlb (Ne.symm ne668) (own_nlb ne676 (own_nlb (Ne.symm ne651) own_nl0))))))).ext E793).other W797 (Or.inl ne805)).other W801 (Or.inl ne805)) K819 (own_nlb ne676 (own_nlb (Ne.symm ne656) (own_nls (sn89 hw) (own_nls (sn88 hw) (own_nls (sn36 hw) (own_nlb (Ne.symm ne651) own_nl0)))))))
    have t855 := (own_fld ((((own_fld t699 K707 (own_nlb ne74 (own_nlb ne74 (own_nlb ne53 (own_nlb ne679 (own_nlb ne74 (own_nlb ne29 own_nl0))))))).ext E793).other W797 (Or.inl ne850)).other W801 (Or.inl ne850)) K819 (own_nlb ne74 (own_nlb ne32 (own_nlb ne53 (own_nlb ne53 (own_nlb ne53 (own_nlb ne29 own_nl0)))))))
    have t856 := (own_fld ((((own_fld t700 K707 (own_nlb ne652 (own_nlb ne652 (own_nlb ne651 (own_nlb ne673 (own_nlb ne652 (own_nls (sn82 hw) own_nl0))))))).ext E793).other W797 (Or.inl ne816)).other W801 (Or.inl ne816)) K819 (own_nlb ne652 (own_nlb ne650 (own_nlb ne651 (own_nlb ne651 (own_nlb ne651 (own_nls (sn82 hw) own_nl0)))))))
    have t857 := (own_fld ((((own_fld t703 K707 (own_nlb ne652 (own_nlb ne652 (own_nlb ne651 (own_nlb ne673 (own_nlb ne652 (own_nls (sn83 hw) own_nl0))))))).ext E793).other W797 (Or.inl ne816)).other W801 (Or.inl ne816)) K819 (own_nlb ne652 (own_nlb ne650 (own_nlb ne651 (own_nlb ne651 (own_nlb ne651 (own_nls (sn83 hw) own_nl0)))))))
    have ne858 : b11_0 ≠ b793 := (Nat.ne_of_lt (Nat.lt_of_lt_of_le r707_2.lt (Nat.le_of_eq g793.symm)))
    have t859 := (own_gk_kl (own_gk_oth (own_gk_oth (own_gk_ext r707_2 E793) W797 ne858) W801 ne858) K819 (own_nbc (Ne.symm ne669) (own_nbc (Ne.symm ne667) (own_nbc (Ne.symm ne668) (own_nbc (Ne.symm ne668) (own_nbc (Ne.symm ne668) (own_nbc ne673 own_nb0)))))))
    have t860 := (own_exa t809 K819)
    obtain ⟨cq861, kq861, q861a, q861b, q861c⟩ := isOf hZ e847 t822
    obtain ⟨_, _, ⟨T861, L861, kk861, nn861⟩, -, X861, ⟨Lc861, hQ861, l861, y861, z861⟩, st861⟩ := X847.virtualBack hx (y := ym19) (z := ym19) hown (mvT hZ (wk111 hw)) (mvT hZ (wk112 hw)) (notFace_of_selects (args := #[]) (mvT hZ (wk114 hw))) (mvT hZ (wk114 hw)) (mvT hZ (wk113 hw)) (by decide) (backOf (W := 0) (rm13_33 l Z a0 hw w hW [] b9 b36 p0 b4 (p1 &&& (9223372036854775807 : Int64)) b11_0 k11_0 b57 T819.heap n0 O820 r819_5 t848 t849 t851 (own_lf1 _) t852 t853 t854 t855 (own_max _) t856 t822 r819_0 (own_S1 _ _) t857 t859 (own_S2 _ _) (own_S3 _ _) r819_1 r819_2 t860 t829 gg36 (Ne.symm ne676) gg57 ne651 ne652 ggb11_0 ne668 ne669 r11_4 ne673 gg9) hZ (wk115 hw) (wk36 hw) (by decide) (by decide)) q861a q861c (g := (mkF m 436 Lb823 [(.long p0), (.ref b36), (.ref b9)])) rfl (by rw [hml]; rfl) (Steps.refl _) (argsL := [(.ref b36), (.long p0)]) (rest := []) (lenOf pds_14 rfl) rfl (by show 2 * 0 + _ ≤ _; exact Nat.le_of_eq rfl) (hb hby at_436) (fun _ _ => ⟨rfl, e847, (by decide : 11 + 0 ≤ _), (by decide : 516 + 0 ≤ _)⟩)
    dsimp only [Pt.U, Pt.locs, Pt.cells, Pt.slots] at X861 l861 y861 z861 st861 hQ861
    rw [l861, y861, z861] at X861
    obtain ⟨rfl, N861q, K861, r861_0, r861_1, r861_2, r861_3, r861_4, r861_5⟩ := hQ861
    have N861 := Fr.app N821 N861q
    have O862 := own_old O820 K861 (own_ngc gg36 (own_ngc gg36 (own_ngc gg57 (own_ngc ggb11_0 (own_ngc gg36 (own_ngc gg9 own_ng0))))))
    obtain ⟨T863, X863, e863, st863⟩ := getF X861 hx hZ hown (host := "") (Or.inl (wk109 hw)) Via.refl rfl r861_4 (g := (mkF m 446 Lb823 [(.ref b36)])) rfl rfl (hb hby at_446)
    have t864 := (own_arv t827 K861 (own_nbc ne805 (own_nbc ne805 (own_nbc ne810 (own_nbc ne858 (own_nbc ne805 (own_nbc ne816 own_nb0)))))))
    obtain ⟨cl865, Ar865, cw865, S865, Nn865, Hs865, G865⟩ := id (t864)
    have hin865 : ¬ ((0 : Int32) < 0 ∨ cl865.slots.size ≤ ((0 : Int32)).toNatClampNeg) := inb_of S865 ⟨by decide, by decide⟩
    obtain ⟨T866, X866, e866, st866⟩ := getF X863 hx hZ hown (host := "") (Or.inl (wk107 hw)) Via.refl e863 r861_3 (g := (mkF m 458 Lb823 [(.ref b36)])) rfl rfl (hb hby at_458)
    obtain ⟨cl867, Ar867, cw867, S867, Nn867, Hs867, G867⟩ := id (t864)
    have hin867 : ¬ ((0 : Int32) < 0 ∨ cl867.slots.size ≤ ((0 : Int32)).toNatClampNeg) := inb_of S867 ⟨by decide, by decide⟩
    obtain ⟨T868, X868, e868, st868⟩ := getF X866 hx hZ hown (host := "") (Or.inl (wk107 hw)) Via.refl e866 r861_5 (g := (mkF m 486 Lb823 [(.ref b57)])) rfl rfl (hb hby at_486)
    obtain ⟨fs, hr, hrun, hended, hREW⟩ := Stand.leaveW (s := s) (vm₁ := T6.vm) X868 hS6 (by rw [e868]; exact (Nat.le_trans (Nat.le_trans (Nat.le_trans (Nat.le_trans (Nat.le_trans (Nat.le_trans (Nat.le_trans (Nat.le_trans (Nat.le_trans (Nat.le_trans (Nat.le_trans (Nat.le_trans (Nat.le_trans (Nat.le_trans (Nat.le_trans (Nat.le_trans (Nat.le_trans (Nat.le_trans (Nat.le_trans (Nat.le_trans (Nat.le_trans (Nat.le_trans (Nat.le_refl _) E9.1) K11.1) E14.1) K16.1) K18.1) K33.1) E36.1) K38.1) K40.1) K54.1) E57.1) K59.1) K61.1) K75.1) K674.1) K691.1) K707.1) E793.1) (Nat.le_of_eq W797.size.symm)) (Nat.le_of_eq W801.size.symm)) K819.1) K861.1)) (v := some (.int (1 : Int32))) (fun h => by rw [Bd.returns] at h; cases h)
    refine ⟨_, _, pre840 _ ?_, hrun, hended, _, _, rfl, ?_, hREW.1, hREW.2.1, hREW.2.2.1, hREW.2.2.2.mono (by decide) (by decide)⟩
    · show Steps p.tables e below (T838.setTop (mkF m 400 Lb823 [(.ref b793)])) _
      refine sc X838 hx hby at_400 ?_
      refine X838.aaload hx (j := (1 : Int32)) (v := (.ref b14)) (by rw [e838]; exact Ar841.1) (State.isArrayOf_alike hZ.alike Ar841.2.1) rfl Ar841.2.2 hin841 (Hs841.at hin841 rfl) (g := (mkF m 401 Lb823 [(.int (1 : Int32)), (.ref b793)])) rfl rfl (hb hby at_401) _ ?_
      refine st843 _ ?_
      refine sa X843 hx hby at_405 rfl rfl ?_
      refine sc X843 hx hby at_407 ?_
      refine X843.aaload hx (j := (2 : Int32)) (v := .null) (by rw [e843]; exact Ar844.1) (State.isArrayOf_alike hZ.alike Ar844.2.1) rfl Ar844.2.2 hin844 (Hs844.at hin844 rfl) (g := (mkF m 408 Lb823 [(.int (2 : Int32)), (.ref b793), .null])) rfl rfl (hb hby at_408) _ ?_
      refine Jvm.RoadKit.acmp (g := (mkF m 409 Lb823 [.null, .null])) X843 hx rfl rfl rfl (pc0 := 409) (pc' := 412) (same := true) rfl (hb hby at_409) rfl (decide_eq_true rfl) (by decide) (by decide) ?_
      refine sa X843 hx hby at_412 rfl rfl ?_
      show Steps p.tables e below (T843.setTop (mkF m 414 Lb823 [(.ref b793)])) _
      refine sc X843 hx hby at_414 ?_
      refine X843.aaload hx (j := (1 : Int32)) (v := (.ref b14)) (by rw [e843]; exact Ar845.1) (State.isArrayOf_alike hZ.alike Ar845.2.1) rfl Ar845.2.2 hin845 (Hs845.at hin845 rfl) (g := (mkF m 415 Lb823 [(.int (1 : Int32)), (.ref b793)])) rfl rfl (hb hby at_415) _ ?_
      refine st847 _ ?_
      refine si X847 hx hby at_419 rfl ?_
      refine sn X847 hx hby at_421 (teq (rfl : (ownS (ownEnd p0 (p1 &&& (9223372036854775807 : Int64))) p0) = (ownS (ownEnd p0 (p1 &&& (9223372036854775807 : Int64))) p0))).2 ?_
      refine sc X847 hx hby at_424 ?_
      refine sg (pc := 425) (pc' := 429) X847 hx hby at_425 (by decide) (by decide) ?_
      refine XS.istore X847.here hx rfl (hb hby at_429) rfl (l' := Lb823) rfl ?_
      show Steps p.tables e below (T847.setTop (mkF m 431 Lb823 [])) _
      refine sa X847 hx hby at_431 rfl rfl ?_
      refine sa X847 hx hby at_433 rfl rfl ?_
      refine sL X847 hx hby at_435 rfl ?_
      refine st861.trans ?_
      refine si X861 hx hby at_439 rfl ?_
      refine sN X861 hx hby at_441 (by decide) ?_
      refine sa X861 hx hby at_444 rfl rfl ?_
      refine st863 _ ?_
      refine sa X863 hx hby at_449 rfl rfl ?_
      refine sc X863 hx hby at_451 ?_
      refine X863.aaload hx (j := (0 : Int32)) (v := (.ref b57)) (by rw [e863]; exact Ar865.1) (State.isArrayOf_alike hZ.alike Ar865.2.1) rfl Ar865.2.2 hin865 (Hs865.at hin865 rfl) (g := (mkF m 452 Lb823 [(.int (0 : Int32)), (.ref b793), (.ref b57)])) rfl rfl (hb hby at_452) _ ?_
      refine Jvm.RoadKit.acmp (g := (mkF m 453 Lb823 [(.ref b57), (.ref b57)])) X863 hx rfl rfl rfl (pc0 := 453) (pc' := 456) (same := true) rfl (hb hby at_453) rfl (decide_eq_true rfl) (by decide) (by decide) ?_
      refine sa X863 hx hby at_456 rfl rfl ?_
      show Steps p.tables e below (T863.setTop (mkF m 458 Lb823 [(.ref b36)])) _
      refine st866 _ ?_
      refine XS.ifnonnullNo X866.here hx rfl (hb hby at_461) rfl ?_
      refine sc X866 hx hby at_464 ?_
      refine sg (pc := 465) (pc' := 469) X866 hx hby at_465 (by decide) (by decide) ?_
      refine XS.istore X866.here hx rfl (hb hby at_469) rfl (l' := Lb823) rfl ?_
      refine si X866 hx hby at_471 rfl ?_
      show Steps p.tables e below (T866.setTop (mkF m 473 Lb823 [(.int (2 : Int32))])) _
      refine sc X866 hx hby at_473 ?_
      refine sn X866 hx hby at_474 (by decide) ?_
      refine si X866 hx hby at_477 rfl ?_
      refine sN X866 hx hby at_479 (by decide) ?_
      refine sa X866 hx hby at_482 rfl rfl ?_
      show Steps p.tables e below (T866.setTop (mkF m 484 Lb823 [(.ref b793)])) _
      refine sc X866 hx hby at_484 ?_
      refine X866.aaload hx (j := (0 : Int32)) (v := (.ref b57)) (by rw [e866]; exact Ar867.1) (State.isArrayOf_alike hZ.alike Ar867.2.1) rfl Ar867.2.2 hin867 (Hs867.at hin867 rfl) (g := (mkF m 485 Lb823 [(.int (0 : Int32)), (.ref b793)])) rfl rfl (hb hby at_485) _ ?_
      refine st868 _ ?_
      refine sa X868 hx hby at_489 rfl rfl ?_
      refine Jvm.RoadKit.acmp (g := (mkF m 491 Lb823 [(.ref b36), (.ref b36)])) X868 hx rfl rfl rfl (pc0 := 491) (pc' := 494) (same := true) rfl (hb hby at_491) rfl (decide_eq_true rfl) (by decide) (by decide) ?_
      refine sc X868 hx hby at_494 ?_
      refine sg (pc := 495) (pc' := 499) X868 hx hby at_495 (by decide) (by decide) ?_
      refine XS.istore X868.here hx rfl (hb hby at_499) rfl (l' := Lb823) rfl ?_
      show Steps p.tables e below (T868.setTop (mkF m 501 Lb823 [])) _
      refine si X868 hx hby at_501 rfl ?_
      exact retN X868 hx (t := .boolean) Bd.returns (by simp) (hb hby at_503) hr
    · show Q0 n0 _ T868.heap _
      rw [e868]
      exact ⟨rfl, N861⟩
   ·
    rw [hs713] at pre712
    let Lb869 : Array Slot := #[.val (.long p0), .second, .val (.long p1), .second, .val (.int p2), .val (.int p3), .val (.int (3 : Int32)), .val (.int (2 : Int32)), .val (.long (p1 &&& (9223372036854775807 : Int64))), .second, .val (.ref b4), .val (.ref b9), .val (.ref b14), .val (.ref b36), .val (.ref b57), .val (.int (ownS (ownEnd p0 (p1 &&& (9223372036854775807 : Int64))) p0)), .unset, .unset, .unset, .unset]
    let Lb870 : Array Slot := #[.val (.long p0), .second, .val (.long p1), .second, .val (.int p2), .val (.int p3), .val (.int (3 : Int32)), .val (.int (2 : Int32)), .val (.long (p1 &&& (9223372036854775807 : Int64))), .second, .val (.ref b4), .val (.ref b9), .val (.ref b14), .val (.ref b36), .val (.ref b57), .val (.int (ownS (ownEnd p0 (p1 &&& (9223372036854775807 : Int64))) p0)), .val (.ref b57), .unset, .unset, .unset]
    obtain ⟨T871, h871, k871, X871, e871, E871, A871, Ov871, st871⟩ := newR X710 hx hZ hown (wk48 hw) (wk45 hw) e710 (g := (mkF m 183 Lb870 [(.int (3 : Int32))])) rfl (hb hby at_183) rfl (by decide) (cap := 3) (by decide) (by decide) (by decide) (by decide)
    obtain ⟨b871, g871⟩ : ∃ z, z = T707.heap.size := ⟨_, rfl⟩
    rw [← g871] at A871 st871
    have gg871 : n0 ≤ b871 := by rw [← O708.1, g871]; exact O708.2.1
    have O872 := O708.ext E871
    have V871 : Arv Z h871 b871 k871 (.object cs0) (3 : Int32) [.null, .null, .null] .null := own_pad (dv := .null) (Arv.new A871 (by decide)) 3 _ rfl
    let Lb873 : Array Slot := #[.val (.long p0), .second, .val (.long p1), .second, .val (.int p2), .val (.int p3), .val (.int (3 : Int32)), .val (.int (2 : Int32)), .val (.long (p1 &&& (9223372036854775807 : Int64))), .second, .val (.ref b4), .val (.ref b9), .val (.ref b14), .val (.ref b36), .val (.ref b57), .val (.int (ownS (ownEnd p0 (p1 &&& (9223372036854775807 : Int64))) p0)), .val (.ref b57), .val (.ref b871), .unset, .unset]
    let Lb874 : Array Slot := #[.val (.long p0), .second, .val (.long p1), .second, .val (.int p2), .val (.int p3), .val (.int (3 : Int32)), .val (.int (2 : Int32)), .val (.long (p1 &&& (9223372036854775807 : Int64))), .second, .val (.ref b4), .val (.ref b9), .val (.ref b14), .val (.ref b36), .val (.ref b57), .val (.int (ownS (ownEnd p0 (p1 &&& (9223372036854775807 : Int64))) p0)), .val (.ref b57), .val (.ref b871), .val (.int (0 : Int32)), .unset]
    obtain ⟨cl875, Ar875, cw875, S875, Nn875, Hs875, G875⟩ := id (V871)
    have hin875 : ¬ ((0 : Int32) < 0 ∨ cl875.slots.size ≤ ((0 : Int32)).toNatClampNeg) := inb_of S875 ⟨by decide, by decide⟩
    have t876 := ((own_exa t706 K707).ext E871)
    obtain ⟨T875, h875, X875, e875, W875, st875⟩ := stR X871 hx hZ e871 Ar875 (j := (0 : Int32)) hin875 rfl (Sto.ofV Ar875 cw875 Ov871 (Ins.self t876)) (g := (mkF m 231 Lb874 [(.ref b36), (.int (0 : Int32)), (.ref b871)])) rfl rfl (hb hby at_231)
    have V875 : Arv Z h875 b871 k871 (.object cs0) (3 : Int32) [(.ref b36), .null, .null] .null := own_set Ar875 cw875 S875 Nn875 Hs875 G875 rfl W875 0 rfl (Nat.le_of_ble_eq_true rfl) (.ref b36) rfl _ rfl
    have N875 := Fr.snoc X875 N707 gg871
    have O877 := O872.wr W875 gg871
    let Lb878 : Array Slot := #[.val (.long p0), .second, .val (.long p1), .second, .val (.int p2), .val (.int p3), .val (.int (3 : Int32)), .val (.int (2 : Int32)), .val (.long (p1 &&& (9223372036854775807 : Int64))), .second, .val (.ref b4), .val (.ref b9), .val (.ref b14), .val (.ref b36), .val (.ref b57), .val (.int (ownS (ownEnd p0 (p1 &&& (9223372036854775807 : Int64))) p0)), .val (.ref b57), .val (.ref b871), .val (.int (1 : Int32)), .unset]
    obtain ⟨cl879, Ar879, cw879, S879, Nn879, Hs879, G879⟩ := id (V875)
    have hin879 : ¬ ((1 : Int32) < 0 ∨ cl879.slots.size ≤ ((1 : Int32)).toNatClampNeg) := inb_of S879 ⟨by decide, by decide⟩
    have t880 := (((own_exa (own_exa t690 K691) K707).ext E871).wr W875)
    obtain ⟨T879, h879, X879, e879, W879, st879⟩ := stR X875 hx hZ e875 Ar879 (j := (1 : Int32)) hin879 rfl (Sto.ofV Ar879 cw879 Ov871 (Ins.self t880)) (g := (mkF m 252 Lb878 [(.ref b14), (.int (1 : Int32)), (.ref b871)])) rfl rfl (hb hby at_252)
    have V879 : Arv Z h879 b871 k871 (.object cs0) (3 : Int32) [(.ref b36), (.ref b14), .null] .null := own_set Ar879 cw879 S879 Nn879 Hs879 G879 rfl W879 1 rfl (Nat.le_of_ble_eq_true rfl) (.ref b14) rfl _ rfl
    have N879 := Fr.snoc X879 N875 gg871
    have O881 := O877.wr W879 gg871
    let Lb882 : Array Slot := #[.val (.long p0), .second, .val (.long p1), .second, .val (.int p2), .val (.int p3), .val (.int (3 : Int32)), .val (.int (2 : Int32)), .val (.long (p1 &&& (9223372036854775807 : Int64))), .second, .val (.ref b4), .val (.ref b9), .val (.ref b14), .val (.ref b36), .val (.ref b57), .val (.int (ownS (ownEnd p0 (p1 &&& (9223372036854775807 : Int64))) p0)), .val (.ref b57), .val (.ref b871), .val (.int (2 : Int32)), .unset]
    have ne883 : b57 ≠ b871 := (Nat.ne_of_lt (Nat.lt_of_lt_of_le (Nat.lt_of_lt_of_le t696.lt K707.1) (Nat.le_of_eq g871.symm)))
    have t884 := (((r707_1.ext E871).other W875 (Or.inl ne883)).other W879 (Or.inl ne883))
    have t885 := (((r707_3.ext E871).other W875 (Or.inl ne883)).other W879 (Or.inl ne883))
    have ne886 : b9 ≠ b871 := (Nat.ne_of_lt (Nat.lt_of_lt_of_le (Nat.lt_of_lt_of_le t701.lt K707.1) (Nat.le_of_eq g871.symm)))
    have t887 := ((((own_fld t703 K707 (own_nlb ne652 (own_nlb ne652 (own_nlb ne651 (own_nlb ne673 (own_nlb ne652 (own_nls (sn83 hw) own_nl0))))))).ext E871).other W875 (Or.inl ne886)).other W879 (Or.inl ne886))
    have t888 := (((r707_4.ext E871).other W875 (Or.inl ne883)).other W879 (Or.inl ne883))
    have ne889 : b11_0 ≠ b871 := (Nat.ne_of_lt (Nat.lt_of_lt_of_le r707_2.lt (Nat.le_of_eq g871.symm)))
    have t890 := (own_gk_oth (own_gk_oth (own_gk_ext r707_2 E871) W875 ne889) W879 ne889)
    have t891 := ((t876.wr W875).wr W879)
    have ne892 : b36 ≠ b871 := (Nat.ne_of_lt (Nat.lt_of_lt_of_le (Nat.lt_of_lt_of_le t706.lt K707.1) (Nat.le_of_eq g871.symm)))
    have t893 := (((r707_5.ext E871).other W875 (Or.inl ne892)).other W879 (Or.inl ne892))
    have t894 := ((((own_exa t696 K707).ext E871).wr W875).wr W879)
    have t895 := (((r707_0.ext E871).other W875 (Or.inl ne886)).other W879 (Or.inl ne886))
    have t896 := ((((own_exa t701 K707).ext E871).wr W875).wr W879)
    obtain ⟨cq897, kq897, q897a, q897b, q897c⟩ := isOf hZ e879 t896
    obtain ⟨_, _, ⟨T897, L897, kk897, nn897⟩, -, X897, ⟨Lc897, hQ897, l897, y897, z897⟩, st897⟩ := X879.virtualBack hx (y := ym9) (z := ym9) hown (mvT hZ (wk94 hw)) (mvT hZ (wk95 hw)) (notFace_of_selects (args := #[]) (mvT hZ (wk97 hw))) (mvT hZ (wk97 hw)) (mvT hZ (wk96 hw)) (by decide) (backOf (W := 0) (rm11_36 l Z a0 hw w hW [] b9 b57 (ownS (ownEnd p0 (p1 &&& (9223372036854775807 : Int64))) p0) b11_0 b36 k11_0 h879 n0 O881 t884 (own_S1 _ _) t885 t887 t888 ggb11_0 t890 (own_S2 _ _) (own_S3 _ _) r11_4 t891 (Ne.symm ne669) t893 (Ne.symm ne668) gg36 t894 (Ne.symm ne676) gg57 t895 ne673 ne651 ne652 t896 gg9) hZ (wk98 hw) (wk36 hw) (by decide) (by decide)) q897a q897c (g := (mkF m 260 Lb882 [(.ref b57), (.ref b9)])) rfl (by rw [hml]; rfl) (Steps.refl _) (argsL := [(.ref b57)]) (rest := []) (lenOf pds_8 rfl) rfl (by show 2 * 0 + _ ≤ _; exact Nat.le_of_eq rfl) (hb hby at_260) (fun _ _ => ⟨rfl, e879, (by decide : 11 + 0 ≤ _), (by decide : 516 + 0 ≤ _)⟩)
    dsimp only [Pt.U, Pt.locs, Pt.cells, Pt.slots] at X897 l897 y897 z897 st897 hQ897
    rw [l897, y897, z897] at X897
    obtain ⟨rfl, N897q, K897, r897_0, r897_1, r897_2, r897_3, r897_4, r897_5⟩ := hQ897
    have N897 := Fr.app N879 N897q
    have O898 := own_old O881 K897 (own_ngc ggb11_0 (own_ngc gg36 (own_ngc gg57 (own_ngc gg57 (own_ngc gg57 (own_ngc gg9 own_ng0))))))
    have t900 := (own_exa t896 K897)
    obtain ⟨cq899, kq899, q899a, q899b, q899c⟩ := isOf hZ rfl t900
    obtain ⟨_, _, ⟨T899, L899, kk899, nn899⟩, -, X899, ⟨Lc899, hQ899, l899, y899, z899⟩, st899⟩ := X897.virtualBack hx (y := ym10) (z := ym10) hown (mvT hZ (wk100 hw)) (mvT hZ (wk101 hw)) (notFace_of_selects (args := #[]) (mvT hZ (wk103 hw))) (mvT hZ (wk103 hw)) (mvT hZ (wk102 hw)) (by decide) (backOf (W := 0) (rm12_32 l Z a0 hw w hW [] b9 T897.heap n0 O898 r897_5) hZ (wk104 hw) (wk36 hw) (by decide) (by decide)) q899a q899c (g := (mkF m 265 Lb882 [(.ref b9)])) rfl (by rw [hml]; rfl) (Steps.refl _) (argsL := []) (rest := []) (lenOf pds_9 rfl) rfl (by show 2 * 0 + _ ≤ _; exact Nat.le_of_eq rfl) (hb hby at_265) (fun _ _ => ⟨rfl, rfl, (by decide : 11 + 0 ≤ _), (by decide : 516 + 0 ≤ _)⟩)
    dsimp only [Pt.U, Pt.locs, Pt.cells, Pt.slots] at X899 l899 y899 z899 st899 hQ899
    rw [l899, y899, z899] at X899
    obtain ⟨rfl, N899q, e899⟩ := hQ899
    have N899 := Fr.app N897 N899q
    let Lb901 : Array Slot := #[.val (.long p0), .second, .val (.long p1), .second, .val (.int p2), .val (.int p3), .val (.int (3 : Int32)), .val (.int (2 : Int32)), .val (.long (p1 &&& (9223372036854775807 : Int64))), .second, .val (.ref b4), .val (.ref b9), .val (.ref b14), .val (.ref b36), .val (.ref b57), .val (.int (ownS (ownEnd p0 (p1 &&& (9223372036854775807 : Int64))) p0)), .val (.ref b57), .val (.ref b871), .val (.int (2 : Int32)), .val (.int (1 : Int32))]
    obtain ⟨T902, X902, e902, st902⟩ := getF X899 hx hZ hown (host := "") (Or.inl (wk93 hw)) Via.refl e899 r897_0 (g := (mkF m 289 Lb901 [(.ref b57)])) rfl rfl (hb hby at_289)
    obtain ⟨T903, X903, e903, st903⟩ := getF X902 hx hZ hown (host := "") (Or.inl (wk107 hw)) Via.refl e902 r897_1 (g := (mkF m 298 Lb901 [(.ref b57)])) rfl rfl (hb hby at_298)
    obtain ⟨T904, X904, e904, st904⟩ := getF X903 hx hZ hown (host := "") (Or.inl (wk109 hw)) Via.refl e903 r897_2 (g := (mkF m 306 Lb901 [(.ref b57)])) rfl rfl (hb hby at_306)
    have t905 := (own_arv V879 K897 (own_nbc ne889 (own_nbc ne892 (own_nbc ne883 (own_nbc ne883 (own_nbc ne883 (own_nbc ne886 own_nb0)))))))
    obtain ⟨cl906, Ar906, cw906, S906, Nn906, Hs906, G906⟩ := id (t905)
    have hin906 : ¬ ((0 : Int32) < 0 ∨ cl906.slots.size ≤ ((0 : Int32)).toNatClampNeg) := inb_of S906 ⟨by decide, by decide⟩
    obtain ⟨T907, X907, e907, st907⟩ := getF X904 hx hZ hown (host := "") (Or.inl (wk107 hw)) Via.refl e904 r897_4 (g := (mkF m 334 Lb901 [(.ref b36)])) rfl rfl (hb hby at_334)
    obtain ⟨cl908, Ar908, cw908, S908, Nn908, Hs908, G908⟩ := id (t905)
    have hin908 : ¬ ((0 : Int32) < 0 ∨ cl908.slots.size ≤ ((0 : Int32)).toNatClampNeg) := inb_of S908 ⟨by decide, by decide⟩
    have t909 := (own_fld ((((own_fld r691_4 K707 (own_nlb ne676 (own_nlb ne676 (own_nls (sn78 hw) (own_nlb (Ne.symm ne668) (own_nlb ne676 (own_nlb (Ne.symm ne651) own_nl0))))))).ext E871).other W875 (Or.inl ne892)).other W879 (Or.inl ne892)) K897 (own_nlb (Ne.symm ne668) (own_nls (sn78 hw) (own_nlb ne676 (own_nlb ne676 (own_nlb ne676 (own_nlb (Ne.symm ne651) own_nl0)))))))
    obtain ⟨T910, X910, e910, st910⟩ := getF X907 hx hZ hown (host := "") (Or.inl (wk109 hw)) Via.refl e907 t909 (g := (mkF m 344 Lb901 [(.ref b36)])) rfl rfl (hb hby at_344)
    obtain ⟨cl911, Ar911, cw911, S911, Nn911, Hs911, G911⟩ := id (t905)
    have hin911 : ¬ ((1 : Int32) < 0 ∨ cl911.slots.size ≤ ((1 : Int32)).toNatClampNeg) := inb_of S911 ⟨by decide, by decide⟩
    obtain ⟨cl912, Ar912, cw912, S912, Nn912, Hs912, G912⟩ := id (t905)
    have hin912 : ¬ ((0 : Int32) < 0 ∨ cl912.slots.size ≤ ((0 : Int32)).toNatClampNeg) := inb_of S912 ⟨by decide, by decide⟩
    have t913 := (own_fld ((((own_fld r691_1 K707 (own_nlb ne676 (own_nlb ne676 (own_nls (sn79 hw) (own_nlb (Ne.symm ne668) (own_nlb ne676 (own_nlb (Ne.symm ne651) own_nl0))))))).ext E871).other W875 (Or.inl ne892)).other W879 (Or.inl ne892)) K897 (own_nlb (Ne.symm ne668) (own_nls (sn79 hw) (own_nlb ne676 (own_nlb ne676 (own_nlb ne676 (own_nlb (Ne.symm ne651) own_nl0)))))))
    obtain ⟨T914, X914, e914, st914⟩ := getF X910 hx hZ hown (host := "") (Or.inl (wk93 hw)) Via.refl e910 t913 (g := (mkF m 358 Lb901 [(.ref b36)])) rfl rfl (hb hby at_358)
    obtain ⟨cl915, Ar915, cw915, S915, Nn915, Hs915, G915⟩ := id (t905)
    have hin915 : ¬ ((1 : Int32) < 0 ∨ cl915.slots.size ≤ ((1 : Int32)).toNatClampNeg) := inb_of S915 ⟨by decide, by decide⟩
    have ne916 : b14 ≠ b871 := (Nat.ne_of_lt (Nat.lt_of_lt_of_le (Nat.lt_of_lt_of_le (Nat.lt_of_lt_of_le t690.lt K691.1) K707.1) (Nat.le_of_eq g871.symm)))
    have t917 := (own_fld ((((own_fld r691_5 K707 (own_nlb ne657 (own_nlb ne657 (own_nlb ne656 (own_nlb (Ne.symm ne667) (own_nlb ne657 (own_nlb (Ne.symm ne650) own_nl0))))))).ext E871).other W875 (Or.inl ne916)).other W879 (Or.inl ne916)) K897 (own_nlb (Ne.symm ne667) (own_nlb ne656 (own_nlb ne657 (own_nlb ne657 (own_nlb ne657 (own_nlb (Ne.symm ne650) own_nl0)))))))
    obtain ⟨T918, X918, e918, st918⟩ := getF X914 hx hZ hown (host := "") (Or.inl (wk107 hw)) Via.refl e914 t917 (g := (mkF m 388 Lb901 [(.ref b14)])) rfl rfl (hb hby at_388)
    obtain ⟨cl919, Ar919, cw919, S919, Nn919, Hs919, G919⟩ := id (t905)
    have hin919 : ¬ ((0 : Int32) < 0 ∨ cl919.slots.size ≤ ((0 : Int32)).toNatClampNeg) := inb_of S919 ⟨by decide, by decide⟩
    have pre920 : ∀ t, Steps p.tables e below (T918.setTop (mkF m 401 Lb901 [(.int (1 : Int32)), (.ref b871)])) t → Steps p.tables e below (s₁.setTop (entryFrame m #[(.long p0), (.long p1), (.int p2), (.int p3)] maxLocals)) t := fun t k => pre712 t (by
     show Steps p.tables e below (T710.setTop (mkF m 159 Lb869 [(.int (2 : Int32))])) _
     refine XS.ifYes X710.here hx rfl (pc0 := 159) (pc' := 167) rfl (hb hby at_159) rfl (by decide) (by decide) (by decide) ?_
     refine si X710 hx hby at_167 rfl ?_
     refine sc X710 hx hby at_169 ?_
     refine XS.icmpYes X710.here hx rfl (pc0 := 170) (pc' := 178) rfl (hb hby at_170) rfl (by decide) (by decide) (by decide) ?_
     refine sa X710 hx hby at_178 rfl rfl ?_
     show Steps p.tables e below (T710.setTop (mkF m 180 Lb869 [(.ref b57)])) _
     refine XS.astore X710.here hx rfl (hb hby at_180) rfl rfl (l' := Lb870) rfl ?_
     refine sc X710 hx hby at_182 ?_
     refine st871 _ ?_
     refine XS.astore X871.here hx rfl (hb hby at_186) rfl rfl (l' := Lb873) rfl ?_
     refine sc X871 hx hby at_188 ?_
     refine XS.istore X871.here hx rfl (hb hby at_189) rfl (l' := Lb874) rfl ?_
     refine si X871 hx hby at_191 rfl ?_
     refine sc X871 hx hby at_193 ?_
     show Steps p.tables e below (T871.setTop (mkF m 194 Lb874 [(.int (3 : Int32)), (.int (3 : Int32))])) _
     refine sn X871 hx hby at_194 (by decide) ?_
     refine si X871 hx hby at_197 rfl ?_
     refine sc X871 hx hby at_199 ?_
     refine XS.icmpYes X871.here hx rfl (pc0 := 200) (pc' := 213) rfl (hb hby at_200) rfl (by decide) (by decide) (by decide) ?_
     refine si X871 hx hby at_213 rfl ?_
     show Steps p.tables e below (T871.setTop (mkF m 215 Lb874 [(.int (3 : Int32))])) _
     refine sc X871 hx hby at_215 ?_
     refine sn X871 hx hby at_216 (by decide) ?_
     refine si X871 hx hby at_219 rfl ?_
     refine sc X871 hx hby at_221 ?_
     refine sn X871 hx hby at_222 (by decide) ?_
     show Steps p.tables e below (T871.setTop (mkF m 225 Lb874 [])) _
     refine sa X871 hx hby at_225 rfl rfl ?_
     refine si X871 hx hby at_227 rfl ?_
     refine sa X871 hx hby at_229 rfl rfl ?_
     refine st875 _ ?_
     refine XS.iinc X875.here hx rfl (hb hby at_232) rfl (l' := Lb878) rfl ?_
     refine si X875 hx hby at_235 rfl ?_
     refine sc X875 hx hby at_237 ?_
     refine sn X875 hx hby at_238 (by decide) ?_
     refine si X875 hx hby at_241 rfl ?_
     show Steps p.tables e below (T875.setTop (mkF m 243 Lb878 [(.int (2 : Int32))])) _
     refine sN X875 hx hby at_243 (by decide) ?_
     refine sa X875 hx hby at_246 rfl rfl ?_
     refine si X875 hx hby at_248 rfl ?_
     refine sa X875 hx hby at_250 rfl rfl ?_
     refine st879 _ ?_
     refine XS.iinc X879.here hx rfl (hb hby at_253) rfl (l' := Lb882) rfl ?_
     refine sa X879 hx hby at_256 rfl rfl ?_
     refine sa X879 hx hby at_258 rfl rfl ?_
     refine st897.trans ?_
     refine sa X897 hx hby at_263 rfl rfl ?_
     refine st899.trans ?_
     refine si X899 hx hby at_268 rfl ?_
     refine XS.i2l X899.here hx rfl (hb hby at_270) rfl ?_
     refine XS.lcmp X899.here hx rfl (hb hby at_271) rfl ?_
     refine sN X899 hx hby at_272 (by decide) ?_
     refine sc X899 hx hby at_275 ?_
     show Steps p.tables e below (T899.setTop (mkF m 276 Lb882 [(.int (1 : Int32))])) _
     refine sg (pc := 276) (pc' := 280) X899 hx hby at_276 (by decide) (by decide) ?_
     refine XS.istore X899.here hx rfl (hb hby at_280) rfl (l' := Lb901) rfl ?_
     refine si X899 hx hby at_282 rfl ?_
     refine sN X899 hx hby at_284 (by decide) ?_
     refine sa X899 hx hby at_287 rfl rfl ?_
     show Steps p.tables e below (T899.setTop (mkF m 289 Lb901 [(.ref b57)])) _
     refine st902 _ ?_
     refine sc X902 hx hby at_292 ?_
     refine sn X902 hx hby at_293 (by decide) ?_
     refine sa X902 hx hby at_296 rfl rfl ?_
     refine st903 _ ?_
     refine XS.ifnonnullNo X903.here hx rfl (hb hby at_301) rfl ?_
     refine sa X903 hx hby at_304 rfl rfl ?_
     refine st904 _ ?_
     refine XS.ifnonnullNo X904.here hx rfl (hb hby at_309) rfl ?_
     refine sc X904 hx hby at_312 ?_
     refine sg (pc := 313) (pc' := 317) X904 hx hby at_313 (by decide) (by decide) ?_
     refine XS.istore X904.here hx rfl (hb hby at_317) rfl (l' := Lb901) rfl ?_
     refine si X904 hx hby at_319 rfl ?_
     show Steps p.tables e below (T904.setTop (mkF m 321 Lb901 [(.int (2 : Int32))])) _
     refine sc X904 hx hby at_321 ?_
     refine sn X904 hx hby at_322 (by decide) ?_
     refine si X904 hx hby at_325 rfl ?_
     refine sN X904 hx hby at_327 (by decide) ?_
     refine sa X904 hx hby at_330 rfl rfl ?_
     show Steps p.tables e below (T904.setTop (mkF m 332 Lb901 [(.ref b871)])) _
     refine sc X904 hx hby at_332 ?_
     refine X904.aaload hx (j := (0 : Int32)) (v := (.ref b36)) (by rw [e904]; exact Ar906.1) (State.isArrayOf_alike hZ.alike Ar906.2.1) rfl Ar906.2.2 hin906 (Hs906.at hin906 rfl) (g := (mkF m 333 Lb901 [(.int (0 : Int32)), (.ref b871)])) rfl rfl (hb hby at_333) _ ?_
     refine st907 _ ?_
     refine XS.ifnonnullNo X907.here hx rfl (hb hby at_337) rfl ?_
     refine sa X907 hx hby at_340 rfl rfl ?_
     refine sc X907 hx hby at_342 ?_
     refine X907.aaload hx (j := (0 : Int32)) (v := (.ref b36)) (by rw [e907]; exact Ar908.1) (State.isArrayOf_alike hZ.alike Ar908.2.1) rfl Ar908.2.2 hin908 (Hs908.at hin908 rfl) (g := (mkF m 343 Lb901 [(.int (0 : Int32)), (.ref b871)])) rfl rfl (hb hby at_343) _ ?_
     refine st910 _ ?_
     refine sa X910 hx hby at_347 rfl rfl ?_
     refine sc X910 hx hby at_349 ?_
     refine X910.aaload hx (j := (1 : Int32)) (v := (.ref b14)) (by rw [e910]; exact Ar911.1) (State.isArrayOf_alike hZ.alike Ar911.2.1) rfl Ar911.2.2 hin911 (Hs911.at hin911 rfl) (g := (mkF m 350 Lb901 [(.int (1 : Int32)), (.ref b871), (.ref b14)])) rfl rfl (hb hby at_350) _ ?_
     refine Jvm.RoadKit.acmp (g := (mkF m 351 Lb901 [(.ref b14), (.ref b14)])) X910 hx rfl rfl rfl (pc0 := 351) (pc' := 354) (same := true) rfl (hb hby at_351) rfl (decide_eq_true rfl) (by decide) (by decide) ?_
     refine sa X910 hx hby at_354 rfl rfl ?_
     show Steps p.tables e below (T910.setTop (mkF m 356 Lb901 [(.ref b871)])) _
     refine sc X910 hx hby at_356 ?_
     refine X910.aaload hx (j := (0 : Int32)) (v := (.ref b36)) (by rw [e910]; exact Ar912.1) (State.isArrayOf_alike hZ.alike Ar912.2.1) rfl Ar912.2.2 hin912 (Hs912.at hin912 rfl) (g := (mkF m 357 Lb901 [(.int (0 : Int32)), (.ref b871)])) rfl rfl (hb hby at_357) _ ?_
     refine st914 _ ?_
     refine si X914 hx hby at_361 rfl ?_
     refine sn X914 hx hby at_363 (teq (rfl : (ownS (ownEnd p0 (p1 &&& (9223372036854775807 : Int64))) p0) = (ownS (ownEnd p0 (p1 &&& (9223372036854775807 : Int64))) p0))).2 ?_
     refine sc X914 hx hby at_366 ?_
     refine sg (pc := 367) (pc' := 371) X914 hx hby at_367 (by decide) (by decide) ?_
     refine XS.istore X914.here hx rfl (hb hby at_371) rfl (l' := Lb901) rfl ?_
     show Steps p.tables e below (T914.setTop (mkF m 373 Lb901 [])) _
     refine si X914 hx hby at_373 rfl ?_
     refine sc X914 hx hby at_375 ?_
     refine sn X914 hx hby at_376 (by decide) ?_
     refine si X914 hx hby at_379 rfl ?_
     refine sN X914 hx hby at_381 (by decide) ?_
     show Steps p.tables e below (T914.setTop (mkF m 384 Lb901 [])) _
     refine sa X914 hx hby at_384 rfl rfl ?_
     refine sc X914 hx hby at_386 ?_
     refine X914.aaload hx (j := (1 : Int32)) (v := (.ref b14)) (by rw [e914]; exact Ar915.1) (State.isArrayOf_alike hZ.alike Ar915.2.1) rfl Ar915.2.2 hin915 (Hs915.at hin915 rfl) (g := (mkF m 387 Lb901 [(.int (1 : Int32)), (.ref b871)])) rfl rfl (hb hby at_387) _ ?_
     refine st918 _ ?_
     refine sa X918 hx hby at_391 rfl rfl ?_
     refine sc X918 hx hby at_393 ?_
     refine X918.aaload hx (j := (0 : Int32)) (v := (.ref b36)) (by rw [e918]; exact Ar919.1) (State.isArrayOf_alike hZ.alike Ar919.2.1) rfl Ar919.2.2 hin919 (Hs919.at hin919 rfl) (g := (mkF m 394 Lb901 [(.int (0 : Int32)), (.ref b871), (.ref b36)])) rfl rfl (hb hby at_394) _ ?_
     refine Jvm.RoadKit.acmp (g := (mkF m 395 Lb901 [(.ref b36), (.ref b36)])) X918 hx rfl rfl rfl (pc0 := 395) (pc' := 398) (same := true) rfl (hb hby at_395) rfl (decide_eq_true rfl) (by decide) (by decide) ?_
     refine sa X918 hx hby at_398 rfl rfl ?_
     show Steps p.tables e below (T918.setTop (mkF m 400 Lb901 [(.ref b871)])) _
     refine sc X918 hx hby at_400 ?_
     exact k)
    obtain ⟨cl921, Ar921, cw921, S921, Nn921, Hs921, G921⟩ := id (t905)
    have hin921 : ¬ ((1 : Int32) < 0 ∨ cl921.slots.size ≤ ((1 : Int32)).toNatClampNeg) := inb_of S921 ⟨by decide, by decide⟩
    have t922 := (own_fld ((((own_fld (own_fld r674_2 K691 (own_nlb ne656 (own_nlb ne656 (own_nls (sn78 hw) (own_nlb (Ne.symm ne667) (own_nlb ne656 (own_nlb (Ne.symm ne650) own_nl0))))))) K707 (own_nlb ne657 (own_nlb ne657 (own_nlb ne656 (own_nlb (Ne.symm ne667) (own_nlb ne657 (own_nlb (Ne.symm ne650) own_nl0))))))).ext E871).other W875 (Or.inl ne916)).other W879 (Or.inl ne916)) K897 (own_nlb (Ne.symm ne667) (own_nlb ne656 (own_nlb ne657 (own_nlb ne657 (own_nlb ne657 (own_nlb (Ne.symm ne650) own_nl0)))))))
    obtain ⟨T923, X923, e923, st923⟩ := getF X918 hx hZ hown (host := "") (Or.inl (wk109 hw)) Via.refl e918 t922 (g := (mkF m 402 Lb901 [(.ref b14)])) rfl rfl (hb hby at_402)
    obtain ⟨cl924, Ar924, cw924, S924, Nn924, Hs924, G924⟩ := id (t905)
    have hin924 : ¬ ((2 : Int32) < 0 ∨ cl924.slots.size ≤ ((2 : Int32)).toNatClampNeg) := inb_of S924 ⟨by decide, by decide⟩
    obtain ⟨cl925, Ar925, cw925, S925, Nn925, Hs925, G925⟩ := id (t905)
    have hin925 : ¬ ((1 : Int32) < 0 ∨ cl925.slots.size ≤ ((1 : Int32)).toNatClampNeg) := inb_of S925 ⟨by decide, by decide⟩
    have t926 := (own_fld (((t709.ext E871).other W875 (Or.inl ne916)).other W879 (Or.inl ne916)) K897 (own_nlb (Ne.symm ne667) (own_nlb ne656 (own_nlb ne657 (own_nlb ne657 (own_nlb ne657 (own_nlb (Ne.symm ne650) own_nl0)))))))
    obtain ⟨T927, X927, e927, st927⟩ := getF X923 hx hZ hown (host := "") (Or.inl (wk93 hw)) Via.refl e923 t926 (g := (mkF m 416 Lb901 [(.ref b14)])) rfl rfl (hb hby at_416)
    have t928 := (own_fld ((((own_fld t693 K707 (own_nls (sn85 hw) (own_nls (sn84 hw) (own_nlb (Ne.symm ne676) (own_nlb (Ne.symm ne669) (own_nls (sn30 hw) (own_nlb (Ne.symm ne652) own_nl0))))))).ext E871).other W875 (Or.inl ne883)).other W879 (Or.inl ne883)) K897 (own_nlb (Ne.symm ne669) (own_nlb (Ne.symm ne676) (own_nls (sn85 hw) (own_nls (sn84 hw) (own_nls (sn30 hw) (own_nlb (Ne.symm ne652) own_nl0)))))))
    have t929 := (own_exa ((((own_exa t694 K707).ext E871).wr W875).wr W879) K897)
    have ne930 : b4 ≠ b871 := (Nat.ne_of_lt (Nat.lt_of_lt_of_le (Nat.lt_of_lt_of_le t694.lt K707.1) (Nat.le_of_eq g871.symm)))
    have t931 := (own_fld ((((own_fld t695 K707 (own_nlb ne74 (own_nlb ne74 (own_nlb ne53 (own_nlb ne679 (own_nlb ne74 (own_nlb ne29 own_nl0))))))).ext E871).other W875 (Or.inl ne930)).other W879 (Or.inl ne930)) K897 (own_nlb ne679 (own_nlb ne53 (own_nlb ne74 (own_nlb ne74 (own_nlb ne74 (own_nlb ne29 own_nl0)))))))
    have t932 := (own_exa t894 K897)
    have t933 := (own_fld ((((own_fld t697 K707 (own_nls (sn87 hw) (own_nls (sn86 hw) (own_nlb (Ne.symm ne676) (own_nlb (Ne.symm ne669) (own_nls (sn33 hw) (own_nlb (Ne.symm ne652) own_nl0))))))).ext E871).other W875 (Or.inl ne883)).other W879 (Or.inl ne883)) K897 (own_nlb (Ne.symm ne669) (own_nlb (Ne.symm ne676) (own_nls (sn87 hw) (own_nls (sn86 hw) (own_nls (sn33 hw) (own_nlb (Ne.symm ne652) own_nl0)))))))
    have t934 := (own_fld ((((own_fld t698 K707 (own_nls (sn89 hw) (own_nls (sn88 hw) (own_nlb (Ne.symm ne676) (own_nlb (Ne.symm ne669) (own_nls (sn36 hw) (own_nlb (Ne.symm ne652) own_nl0))))))).ext E871).other W875 (Or.inl ne883)).other W879 (Or.inl ne883)) K897 (own_nlb (Ne.symm ne669) (own_nlb (Ne.symm ne676) (own_nls (sn89 hw) (own_nls (sn88 hw) (own_nls (sn36 hw) (own_nlb (Ne.symm ne652) own_nl0)))))))
    have t935 := (own_fld ((((own_fld t699 K707 (own_nlb ne74 (own_nlb ne74 (own_nlb ne53 (own_nlb ne679 (own_nlb ne74 (own_nlb ne29 own_nl0))))))).ext E871).other W875 (Or.inl ne930)).other W879 (Or.inl ne930)) K897 (own_nlb ne679 (own_nlb ne53 (own_nlb ne74 (own_nlb ne74 (own_nlb ne74 (own_nlb ne29 own_nl0)))))))
    have t936 := (own_fld ((((own_fld t700 K707 (own_nlb ne652 (own_nlb ne652 (own_nlb ne651 (own_nlb ne673 (own_nlb ne652 (own_nls (sn82 hw) own_nl0))))))).ext E871).other W875 (Or.inl ne886)).other W879 (Or.inl ne886)) K897 (own_nlb ne673 (own_nlb ne651 (own_nlb ne652 (own_nlb ne652 (own_nlb ne652 (own_nls (sn82 hw) own_nl0)))))))
    have t937 := (own_fld t887 K897 (own_nlb ne673 (own_nlb ne651 (own_nlb ne652 (own_nlb ne652 (own_nlb ne652 (own_nls (sn83 hw) own_nl0)))))))
    have t938 := (own_exa t891 K897)
    obtain ⟨cq939, kq939, q939a, q939b, q939c⟩ := isOf hZ e927 t900
    obtain ⟨_, _, ⟨T939, L939, kk939, nn939⟩, -, X939, ⟨Lc939, hQ939, l939, y939, z939⟩, st939⟩ := X927.virtualBack hx (y := ym19) (z := ym19) hown (mvT hZ (wk111 hw)) (mvT hZ (wk112 hw)) (notFace_of_selects (args := #[]) (mvT hZ (wk114 hw))) (mvT hZ (wk114 hw)) (mvT hZ (wk113 hw)) (by decide) (backOf (W := 0) (rm13_33 l Z a0 hw w hW [] b9 b57 p0 b4 (p1 &&& (9223372036854775807 : Int64)) b11_0 k11_0 b36 T897.heap n0 O898 r897_5 t928 t929 t931 (own_lf1 _) t932 t933 t934 t935 (own_max _) t936 t900 r897_0 (own_S1 _ _) t937 r897_3 (own_S2 _ _) (own_S3 _ _) r897_1 r897_2 t938 r897_4 gg57 ne676 gg36 ne652 ne651 ggb11_0 ne669 ne668 r11_4 ne673 gg9) hZ (wk115 hw) (wk36 hw) (by decide) (by decide)) q939a q939c (g := (mkF m 436 Lb901 [(.long p0), (.ref b57), (.ref b9)])) rfl (by rw [hml]; rfl) (Steps.refl _) (argsL := [(.ref b57), (.long p0)]) (rest := []) (lenOf pds_14 rfl) rfl (by show 2 * 0 + _ ≤ _; exact Nat.le_of_eq rfl) (hb hby at_436) (fun _ _ => ⟨rfl, e927, (by decide : 11 + 0 ≤ _), (by decide : 516 + 0 ≤ _)⟩)
    dsimp only [Pt.U, Pt.locs, Pt.cells, Pt.slots] at X939 l939 y939 z939 st939 hQ939
    rw [l939, y939, z939] at X939
    obtain ⟨rfl, N939q, K939, r939_0, r939_1, r939_2, r939_3, r939_4, r939_5⟩ := hQ939
    have N939 := Fr.app N899 N939q
    have O940 := own_old O898 K939 (own_ngc gg57 (own_ngc gg57 (own_ngc gg36 (own_ngc ggb11_0 (own_ngc gg57 (own_ngc gg9 own_ng0))))))
    obtain ⟨T941, X941, e941, st941⟩ := getF X939 hx hZ hown (host := "") (Or.inl (wk109 hw)) Via.refl rfl r939_4 (g := (mkF m 446 Lb901 [(.ref b57)])) rfl rfl (hb hby at_446)
    have t942 := (own_arv t905 K939 (own_nbc ne883 (own_nbc ne883 (own_nbc ne892 (own_nbc ne889 (own_nbc ne883 (own_nbc ne886 own_nb0)))))))
    obtain ⟨cl943, Ar943, cw943, S943, Nn943, Hs943, G943⟩ := id (t942)
    have hin943 : ¬ ((0 : Int32) < 0 ∨ cl943.slots.size ≤ ((0 : Int32)).toNatClampNeg) := inb_of S943 ⟨by decide, by decide⟩
    obtain ⟨T944, X944, e944, st944⟩ := getF X941 hx hZ hown (host := "") (Or.inl (wk107 hw)) Via.refl e941 r939_3 (g := (mkF m 458 Lb901 [(.ref b57)])) rfl rfl (hb hby at_458)
    obtain ⟨cl945, Ar945, cw945, S945, Nn945, Hs945, G945⟩ := id (t942)
    have hin945 : ¬ ((0 : Int32) < 0 ∨ cl945.slots.size ≤ ((0 : Int32)).toNatClampNeg) := inb_of S945 ⟨by decide, by decide⟩
    obtain ⟨T946, X946, e946, st946⟩ := getF X944 hx hZ hown (host := "") (Or.inl (wk107 hw)) Via.refl e944 r939_5 (g := (mkF m 486 Lb901 [(.ref b36)])) rfl rfl (hb hby at_486)
    obtain ⟨fs, hr, hrun, hended, hREW⟩ := Stand.leaveW (s := s) (vm₁ := T6.vm) X946 hS6 (by rw [e946]; exact (Nat.le_trans (Nat.le_trans (Nat.le_trans (Nat.le_trans (Nat.le_trans (Nat.le_trans (Nat.le_trans (Nat.le_trans (Nat.le_trans (Nat.le_trans (Nat.le_trans (Nat.le_trans (Nat.le_trans (Nat.le_trans (Nat.le_trans (Nat.le_trans (Nat.le_trans (Nat.le_trans (Nat.le_trans (Nat.le_trans (Nat.le_trans (Nat.le_trans (Nat.le_refl _) E9.1) K11.1) E14.1) K16.1) K18.1) K33.1) E36.1) K38.1) K40.1) K54.1) E57.1) K59.1) K61.1) K75.1) K674.1) K691.1) K707.1) E871.1) (Nat.le_of_eq W875.size.symm)) (Nat.le_of_eq W879.size.symm)) K897.1) K939.1)) (v := some (.int (1 : Int32))) (fun h => by rw [Bd.returns] at h; cases h)
    refine ⟨_, _, pre920 _ ?_, hrun, hended, _, _, rfl, ?_, hREW.1, hREW.2.1, hREW.2.2.1, hREW.2.2.2.mono (by decide) (by decide)⟩
    · show Steps p.tables e below (T918.setTop (mkF m 401 Lb901 [(.int (1 : Int32)), (.ref b871)])) _
      refine X918.aaload hx (j := (1 : Int32)) (v := (.ref b14)) (by rw [e918]; exact Ar921.1) (State.isArrayOf_alike hZ.alike Ar921.2.1) rfl Ar921.2.2 hin921 (Hs921.at hin921 rfl) (g := (mkF m 401 Lb901 [(.int (1 : Int32)), (.ref b871)])) rfl rfl (hb hby at_401) _ ?_
      refine st923 _ ?_
      refine sa X923 hx hby at_405 rfl rfl ?_
      refine sc X923 hx hby at_407 ?_
      refine X923.aaload hx (j := (2 : Int32)) (v := .null) (by rw [e923]; exact Ar924.1) (State.isArrayOf_alike hZ.alike Ar924.2.1) rfl Ar924.2.2 hin924 (Hs924.at hin924 rfl) (g := (mkF m 408 Lb901 [(.int (2 : Int32)), (.ref b871), .null])) rfl rfl (hb hby at_408) _ ?_
      refine Jvm.RoadKit.acmp (g := (mkF m 409 Lb901 [.null, .null])) X923 hx rfl rfl rfl (pc0 := 409) (pc' := 412) (same := true) rfl (hb hby at_409) rfl (decide_eq_true rfl) (by decide) (by decide) ?_
      refine sa X923 hx hby at_412 rfl rfl ?_
      show Steps p.tables e below (T923.setTop (mkF m 414 Lb901 [(.ref b871)])) _
      refine sc X923 hx hby at_414 ?_
      refine X923.aaload hx (j := (1 : Int32)) (v := (.ref b14)) (by rw [e923]; exact Ar925.1) (State.isArrayOf_alike hZ.alike Ar925.2.1) rfl Ar925.2.2 hin925 (Hs925.at hin925 rfl) (g := (mkF m 415 Lb901 [(.int (1 : Int32)), (.ref b871)])) rfl rfl (hb hby at_415) _ ?_
      refine st927 _ ?_
      refine si X927 hx hby at_419 rfl ?_
      refine sn X927 hx hby at_421 (teq (rfl : (ownS (ownEnd p0 (p1 &&& (9223372036854775807 : Int64))) p0) = (ownS (ownEnd p0 (p1 &&& (9223372036854775807 : Int64))) p0))).2 ?_
      refine sc X927 hx hby at_424 ?_
      refine sg (pc := 425) (pc' := 429) X927 hx hby at_425 (by decide) (by decide) ?_
      refine XS.istore X927.here hx rfl (hb hby at_429) rfl (l' := Lb901) rfl ?_
      show Steps p.tables e below (T927.setTop (mkF m 431 Lb901 [])) _
      refine sa X927 hx hby at_431 rfl rfl ?_
      refine sa X927 hx hby at_433 rfl rfl ?_
      refine sL X927 hx hby at_435 rfl ?_
      refine st939.trans ?_
      refine si X939 hx hby at_439 rfl ?_
      refine sN X939 hx hby at_441 (by decide) ?_
      refine sa X939 hx hby at_444 rfl rfl ?_
      refine st941 _ ?_
      refine sa X941 hx hby at_449 rfl rfl ?_
      refine sc X941 hx hby at_451 ?_
      refine X941.aaload hx (j := (0 : Int32)) (v := (.ref b36)) (by rw [e941]; exact Ar943.1) (State.isArrayOf_alike hZ.alike Ar943.2.1) rfl Ar943.2.2 hin943 (Hs943.at hin943 rfl) (g := (mkF m 452 Lb901 [(.int (0 : Int32)), (.ref b871), (.ref b36)])) rfl rfl (hb hby at_452) _ ?_
      refine Jvm.RoadKit.acmp (g := (mkF m 453 Lb901 [(.ref b36), (.ref b36)])) X941 hx rfl rfl rfl (pc0 := 453) (pc' := 456) (same := true) rfl (hb hby at_453) rfl (decide_eq_true rfl) (by decide) (by decide) ?_
      refine sa X941 hx hby at_456 rfl rfl ?_
      show Steps p.tables e below (T941.setTop (mkF m 458 Lb901 [(.ref b57)])) _
      refine st944 _ ?_
      refine XS.ifnonnullNo X944.here hx rfl (hb hby at_461) rfl ?_
      refine sc X944 hx hby at_464 ?_
      refine sg (pc := 465) (pc' := 469) X944 hx hby at_465 (by decide) (by decide) ?_
      refine XS.istore X944.here hx rfl (hb hby at_469) rfl (l' := Lb901) rfl ?_
      refine si X944 hx hby at_471 rfl ?_
      show Steps p.tables e below (T944.setTop (mkF m 473 Lb901 [(.int (2 : Int32))])) _
      refine sc X944 hx hby at_473 ?_
      refine sn X944 hx hby at_474 (by decide) ?_
      refine si X944 hx hby at_477 rfl ?_
      refine sN X944 hx hby at_479 (by decide) ?_
      refine sa X944 hx hby at_482 rfl rfl ?_
      show Steps p.tables e below (T944.setTop (mkF m 484 Lb901 [(.ref b871)])) _
      refine sc X944 hx hby at_484 ?_
      refine X944.aaload hx (j := (0 : Int32)) (v := (.ref b36)) (by rw [e944]; exact Ar945.1) (State.isArrayOf_alike hZ.alike Ar945.2.1) rfl Ar945.2.2 hin945 (Hs945.at hin945 rfl) (g := (mkF m 485 Lb901 [(.int (0 : Int32)), (.ref b871)])) rfl rfl (hb hby at_485) _ ?_
      refine st946 _ ?_
      refine sa X946 hx hby at_489 rfl rfl ?_
      refine Jvm.RoadKit.acmp (g := (mkF m 491 Lb901 [(.ref b57), (.ref b57)])) X946 hx rfl rfl rfl (pc0 := 491) (pc' := 494) (same := true) rfl (hb hby at_491) rfl (decide_eq_true rfl) (by decide) (by decide) ?_
      refine sc X946 hx hby at_494 ?_
      refine sg (pc := 495) (pc' := 499) X946 hx hby at_495 (by decide) (by decide) ?_
      refine XS.istore X946.here hx rfl (hb hby at_499) rfl (l' := Lb901) rfl ?_
      show Steps p.tables e below (T946.setTop (mkF m 501 Lb901 [])) _
      refine si X946 hx hby at_501 rfl ?_
      exact retN X946 hx (t := .boolean) Bd.returns (by simp) (hb hby at_503) hr
    · show Q0 n0 _ T946.heap _
      rw [e946]
      exact ⟨rfl, N939⟩
set_option maxRecDepth 65536 in
set_option maxHeartbeats 400000000 in
theorem comes_1 {Post : Tables → Env → Array Value → State → Outcome → State → Prop} (hpost : ∀ tb e args s v u, (limb_1_1.after args s (.returned v) u = true ∧ limb_1_2.after args s (.returned v) u = true ∧ True) → ReturnedEndW s (.returned v) u (Jvm.fieldLocs frame_1_writes args s ++ Jvm.arrayLocs frame_1_arrays args s ++ Jvm.staticLocs frame_1_statics s) 32 3072 → Post tb e args s (.returned v) u) :
    ArmFor flags0 classFile x code maxLocals ret World_1 tables_1 room_1 Calls_1 rest_1 Pre_1 Post := by
  intro l hfl _ _ p e ha hc hk s m args below hf hA hF happ hP
  obtain ⟨hcalls, hrest, hpre⟩ := hP
  obtain ⟨-, -, -, hnamed, -, -, -, hat⟩ := (Spec.applies_iff hf).mp happ
  obtain ⟨hg, hn⟩ := and_e (Cond.before_iff.mp (show (Jvm.Cond.and given_1 narrow_1).before args s = true from hpre))
  obtain ⟨ga4, gb4⟩ := and_e hg
  obtain ⟨ga5, gb5⟩ := and_e gb4
  obtain ⟨ga6, gb6⟩ := and_e gb5
  obtain ⟨ga7, gb7⟩ := and_e gb6
  obtain ⟨v0, v1, v2, v3, rfl⟩ : ∃ v0 v1 v2 v3 : Value, args = #[v0, v1, v2, v3] := by
    have hs : args.size = 4 := by simpa [Cond.value, given_1] using ga4
    obtain ⟨L⟩ := args
    match L, hs with
    | [v0, v1, v2, v3], _ => exact ⟨v0, v1, v2, v3, rfl⟩
  have hw := fun d (hd : d ∈ tables_1) => atoms_spec (ws := Jvm.Cond.code x code maxLocals ret :: tables_1) hat d (List.mem_cons_of_mem _ hd)
  have hfit : Fit s := fun {y c} hc i hi => by
    obtain ⟨ha, rfl⟩ := Array.getElem?_eq_some_iff.mp hc
    have q := List.all_eq_true.mp ((Array.all_eq_true_iff_forall_mem.mp hF) _ (Array.getElem_mem ha)) i (List.mem_range.mpr hi)
    simpa [Array.getElem?_eq_getElem hi] using q
  obtain ⟨hsets, hown0⟩ := atoms_of _ (rest_1_c_eq ▸ (show rest_1_c.before _ s = true from hrest))
  obtain ⟨i0, ei0⟩ := isL_v ga5
  obtain rfl : v0 = (.long i0) := Option.some.inj ei0
  obtain ⟨i1, ei1⟩ := isL_v ga6
  obtain rfl : v1 = (.long i1) := Option.some.inj ei1
  obtain ⟨i2, ei2⟩ := is_v ga7
  obtain rfl : v2 = (.int i2) := Option.some.inj ei2
  obtain ⟨i3, ei3⟩ := is_v gb7
  obtain rfl : v3 = (.int i3) := Option.some.inj ei3
  obtain ⟨x0, ev0⟩ := arr_v (Cond.before_iff.mp (hsets _ (List.mem_of_getElem? (i := 4) rfl)))
  obtain ⟨cl0, A0⟩ := Arr.start ev0 (Cond.before_iff.mp (hsets _ (List.mem_of_getElem? (i := 4) rfl)))
  have len0 := own_len ev0 A0 (Cond.before_iff.mp (hsets _ (List.mem_of_getElem? (i := 6) rfl)))
  have B0 := own_boxI (fun _ => ev0) A0 len0 (by decide) (Cond.before_iff.mp (hsets _ (List.mem_of_getElem? (i := 7) rfl)))
  have hW : Wd s (fun i => ([x0] : List Addr).getD i 0) := ⟨(Sta.start (own_staI (Cond.before_iff.mp (hsets _ (List.mem_of_getElem? (i := 3) rfl)))) (Or.inr ⟨(wk56 hw), (hsets _ (List.mem_of_getElem? (i := 0) rfl))⟩)), (Sta.start ev0 (Or.inr ⟨(wk56 hw), (hsets _ (List.mem_of_getElem? (i := 2) rfl))⟩)), (Exa.start ev0 (Cond.before_iff.mp (hsets _ (List.mem_of_getElem? (i := 5) rfl)))), ⟨_, B0⟩, trivial⟩
  obtain ⟨n, o, h1, h2, h3, _, L, rfl, ⟨rfl, N⟩, hq⟩ := rm0 l s _ hw _ hW tables_1 i0 i1 i2 i3 s.heap s.heap.size (Old.start s) p e ha hc hk s m _ below hf ((Spec.applies_iff_loose hf).mp happ).1 ⟨rfl, State.Warmed39.refl s, rfl⟩ trivial
  refine ⟨n, _, h1, h2, h3, hpost _ _ _ _ _ _ ⟨Cond.after_iff.mpr rfl, Cond.after_iff.mpr (eq_i res_at (Term.int_eval (1)) rfl), trivial⟩ ⟨hq.1, hq.2.1, hq.2.2.1, (hq.2.2.2.sift fun y hy => Or.inr (N y hy)).mono (by decide) (by decide)⟩⟩
theorem main_1_1 : Claimed_1_1 := comes_1 fun _ _ _ _ _ _ h hF => ⟨h.1, hF⟩
theorem main_1_2 : Claimed_1_2 := comes_1 fun _ _ _ _ _ _ h hF => ⟨h.2.1, hF⟩
end Jvm.Pilot.@@N@@
namespace Jvm.Pilot.@@N@@
open Jvm Jvm.ClassFile Sem Op Lib Jvm.Free Jvm.Stand Jvm.Pilot.@@N@@.Jvm.D
/-! MADE BY PROGRAM (witnessworld.py) out of the Statement's table words and the real class files: 24 classes; the members and pool entries that the words name. The judged class is class 1, her method 1. -/
namespace start1
open Jvm.ClassFile
def u (s : String) : CpInfo := .utf8 (stringToUtf16 s)
/-- a pool by its gaps: so many unusable entries, then the entry; so many at the end -/
def gap : Nat → List CpInfo → List CpInfo
  | 0, r => r
  | n + 1, r => .unusable :: gap n r
def poolList (es : List (Nat × CpInfo)) (last : Nat) : List CpInfo := es.foldr (fun e r => gap e.1 (e.2 :: r)) (gap last [])
def pool (es : List (Nat × CpInfo)) (last : Nat) : Array CpInfo := ⟨poolList es last⟩
def fileOf (pool : Array CpInfo) (this : Nat) (attrs : Array Attribute := #[]) (ms : Array MethodInfo := #[]) (fl : Nat := 33) (sup : Nat := 0) (ifs : Array Nat := #[]) (fds : Array FieldInfo := #[]) : ClassFile where
  minorVersion := 0
  majorVersion := 65
  constantPool := pool
  accessFlags := fl
  thisClass := this
  superClass := sup
  interfaces := ifs
  fields := fds
  methods := ms
  attributes := attrs
def plain (name : String) (sup : Option ClassId) : Class where
  name := name
  kind := .ordinary
  loader := none
  accessFlags := 33
  super := sup
  interfaces := #[]
  cf := none
  fields := #[]
  methods := #[]
  instanceTypes := #[]
  staticTypes := #[]
  resolved := #[]
  callSites := []
  init := .initialized
  statics := none
  mirror := none

def pool0 : Array CpInfo := pool [(5, u "<init>"), (0, u "()V"), (1, .class_ 10), (1, u "java/lang/Object")] 113

def k0c0 : Code := { maxStack := 0, maxLocals := 1, code := object_method_1_code, exceptionTable := #[], attributes := #[] }
def k0m0 : Method := { name := "<init>", desc := "()V", sig := { parameters := [], returnType := none }, accessFlags := 1, code := some k0c0 }
/-- java/lang/Object -/
def k0 : Class := { plain "java/lang/Object" none with
  accessFlags := 33
  interfaces := #[]
  cf := some (fileOf pool0 8 #[] #[{ accessFlags := 1, nameIndex := 5, descriptorIndex := 6, attributes := #[] }] 33 0 #[] #[])
  fields := #[]
  methods := #[k0m0]
  instanceTypes := #[]
  staticTypes := #[]
  resolved := Array.replicate 124 none
  statics := none }

def pool1 : Array CpInfo := pool [(2, .class_ 4), (0, .nameAndType 5 6), (0, u "java/lang/Object"), (0, u "<init>"), (0, u "()V"), (0, .integer 2147483647), (2, .long 9223372036854775807), (1, .class_ 13), (0, u "com/example/tidemark/tidemark/Expiry"), (0, .long 18446744073709551615), (1, .methodref 12 17), (0, .nameAndType 5 18), (0, u "(JJ)V"), (0, .class_ 20), (0, u "com/example/tidemark/tidemark/Deadlines"), (0, .methodref 19 3), (0, .class_ 23), (0, u "com/example/tidemark/tidemark/MemoryEntry"), (0, .methodref 25 26), (0, .class_ 27), (0, .nameAndType 28 29), (0, u "java/lang/Integer"), (0, u "valueOf"), (0, u "(I)Ljava/lang/Integer;"), (0, .methodref 22 31), (0, .nameAndType 5 32), (0, u "(Ljava/lang/Object;Ljava/lang/Object;Lcom/example/tidemark/tidemark/Expiry;JJ)V"), (0, .methodref 19 34), (0, .nameAndType 35 36), (0, u "refile"), (0, u "(Lcom/example/tidemark/tidemark/MemoryEntry;J)V"), (0, .fieldref 22 38), (0, .nameAndType 39 40), (0, u "slot"), (0, u "I"), (0, .methodref 19 42), (0, .nameAndType 43 44), (0, u "unfile"), (0, u "(Lcom/example/tidemark/tidemark/MemoryEntry;)V"), (0, .methodref 19 46), (0, .nameAndType 47 48), (0, u "size"), (0, u "()J"), (0, .fieldref 22 50), (0, .nameAndType 51 52), (0, u "filedBefore"), (0, u "Lcom/example/tidemark/tidemark/MemoryEntry;"), (0, .fieldref 22 54), (0, .nameAndType 55 52), (0, u "filedAfter"), (0, .class_ 57), (0, u "com/example/tidemark/tidemark/DeadlinesUnfilePinLaw"), (2, u "law"), (0, u "(JJII)Z")] 5

def k1m0 : Method := { name := "<init>", desc := "()V", sig := { parameters := [], returnType := none }, accessFlags := 1, code := none }
def k1c1 : Code := { maxStack := 9, maxLocals := 20, code := code, exceptionTable := #[], attributes := #[] }
def k1m1 : Method := { name := "law", desc := "(JJII)Z", sig := { parameters := [.long, .long, .int, .int], returnType := some .boolean }, accessFlags := 9, code := some k1c1 }
/-- com/example/tidemark/tidemark/DeadlinesUnfilePinLaw -/
def k1 : Class := { plain "com/example/tidemark/tidemark/DeadlinesUnfilePinLaw" (some 0) with
  accessFlags := 49
  interfaces := #[]
  cf := some (fileOf pool1 56 #[] #[{ accessFlags := 1, nameIndex := 5, descriptorIndex := 6, attributes := #[] }, { accessFlags := 9, nameIndex := 60, descriptorIndex := 61, attributes := #[] }] 49 2 #[] #[])
  fields := #[]
  methods := #[k1m0, k1m1]
  instanceTypes := #[]
  staticTypes := #[]
  resolved := Array.replicate 67 none
  statics := none }

def pool2 : Array CpInfo := pool [(1, .methodref 2 3), (0, .class_ 4), (0, .nameAndType 5 6), (0, u "java/lang/Object"), (0, u "<init>"), (0, u "()V"), (0, .class_ 8), (0, u "java/lang/Record")] 13

def k2c0 : Code := { maxStack := 1, maxLocals := 1, code := jdk_30_method_1_code, exceptionTable := #[], attributes := #[] }
def k2m0 : Method := { name := "<init>", desc := "()V", sig := { parameters := [], returnType := none }, accessFlags := 4, code := some k2c0 }
/-- java/lang/Record -/
def k2 : Class := { plain "java/lang/Record" (some 0) with
  accessFlags := 1057
  interfaces := #[]
  cf := some (fileOf pool2 7 #[] #[{ accessFlags := 4, nameIndex := 5, descriptorIndex := 6, attributes := #[] }] 1057 2 #[] #[])
  fields := #[]
  methods := #[k2m0]
  instanceTypes := #[]
  staticTypes := #[]
  resolved := Array.replicate 22 none
  statics := none }

def pool3 : Array CpInfo := pool [(1, .methodref 2 3), (0, .class_ 4), (0, .nameAndType 5 6), (0, u "java/lang/Record"), (0, u "<init>"), (0, u "()V"), (0, .string 8), (0, u "lifespan"), (0, .methodref 10 11), (0, .class_ 12), (0, .nameAndType 13 14), (0, u "com/example/tidemark/tidemark/Expiry"), (0, u "requireLimit"), (0, u "(Ljava/lang/String;J)V"), (0, .string 16), (0, u "maxIdle"), (0, .fieldref 10 18), (0, .nameAndType 8 19), (0, u "J"), (0, .fieldref 10 21), (0, .nameAndType 16 19), (2, u "(JJ)V"), (4, .long 18446744073709551615), (1, .methodref 10 32), (0, .nameAndType 33 34), (0, u "end"), (0, u "(JJ)J"), (0, .methodref 36 37), (0, .class_ 38), (0, .nameAndType 39 34), (0, u "java/lang/Math"), (0, u "min"), (2, .long 9223372036854775807), (24, u "NEVER"), (0, u "Lcom/example/tidemark/tidemark/Expiry;"), (0, u "NO_LIMIT"), (9, u "canExpire"), (0, u "()Z"), (0, u "deadline")] 34

def k3c0 : Code := { maxStack := 3, maxLocals := 5, code := prog_22_method_1_code, exceptionTable := #[], attributes := #[] }
def k3m0 : Method := { name := "<init>", desc := "(JJ)V", sig := { parameters := [.long, .long], returnType := none }, accessFlags := 1, code := some k3c0 }
def k3c1 : Code := { maxStack := 4, maxLocals := 1, code := prog_22_method_5_code, exceptionTable := #[], attributes := #[] }
def k3m1 : Method := { name := "canExpire", desc := "()Z", sig := { parameters := [], returnType := some .boolean }, accessFlags := 0, code := some k3c1 }
def k3c2 : Code := { maxStack := 6, maxLocals := 5, code := prog_22_method_6_code, exceptionTable := #[], attributes := #[] }
def k3m2 : Method := { name := "deadline", desc := "(JJ)J", sig := { parameters := [.long, .long], returnType := some .long }, accessFlags := 0, code := some k3c2 }
def k3c3 : Code := { maxStack := 6, maxLocals := 4, code := prog_22_method_7_code, exceptionTable := #[], attributes := #[] }
def k3m3 : Method := { name := "end", desc := "(JJ)J", sig := { parameters := [.long, .long], returnType := some .long }, accessFlags := 8, code := some k3c3 }
def k3c4 : Code := { maxStack := 5, maxLocals := 3, code := prog_22_method_9_code, exceptionTable := #[], attributes := #[] }
def k3m4 : Method := { name := "requireLimit", desc := "(Ljava/lang/String;J)V", sig := { parameters := [(.object "java/lang/String"), .long], returnType := none }, accessFlags := 10, code := some k3c4 }
/-- com/example/tidemark/tidemark/Expiry -/
def k3 : Class := { plain "com/example/tidemark/tidemark/Expiry" (some 2) with
  accessFlags := 49
  interfaces := #[]
  cf := some (fileOf pool3 10 #[] #[{ accessFlags := 1, nameIndex := 5, descriptorIndex := 24, attributes := #[] }, { accessFlags := 0, nameIndex := 79, descriptorIndex := 80, attributes := #[] }, { accessFlags := 0, nameIndex := 81, descriptorIndex := 34, attributes := #[] }, { accessFlags := 8, nameIndex := 33, descriptorIndex := 34, attributes := #[] }, { accessFlags := 10, nameIndex := 13, descriptorIndex := 14, attributes := #[] }] 49 2 #[] #[{ accessFlags := 18, nameIndex := 8, descriptorIndex := 19, attributes := #[] }, { accessFlags := 18, nameIndex := 16, descriptorIndex := 19, attributes := #[] }, { accessFlags := 25, nameIndex := 69, descriptorIndex := 19, attributes := #[] }, { accessFlags := 25, nameIndex := 67, descriptorIndex := 68, attributes := #[] }])
  fields := #[{ name := "lifespan", type := .long, accessFlags := 18, slot := 0, constantValue := 0 }, { name := "maxIdle", type := .long, accessFlags := 18, slot := 1, constantValue := 0 }, { name := "NO_LIMIT", type := .long, accessFlags := 25, slot := 0, constantValue := 0 }, { name := "NEVER", type := (.object "com/example/tidemark/tidemark/Expiry"), accessFlags := 25, slot := 1, constantValue := 0 }]
  methods := #[k3m0, k3m1, k3m2, k3m3, k3m4]
  instanceTypes := #[.long, .long]
  staticTypes := #[.long, (.object "com/example/tidemark/tidemark/Expiry")]
  resolved := Array.replicate 116 none
  statics := none }

def pool4 : Array CpInfo := pool [(1, .class_ 2), (0, u "java/io/Serializable"), (0, .class_ 4), (0, u "java/lang/Object")] 2

/-- java/io/Serializable -/
def k4 : Class := { plain "java/io/Serializable" (some 0) with
  accessFlags := 1537
  interfaces := #[]
  cf := some (fileOf pool4 1 #[] #[] 1537 3 #[] #[])
  fields := #[]
  methods := #[]
  instanceTypes := #[]
  staticTypes := #[]
  resolved := Array.replicate 7 none
  statics := none }

def pool5 : Array CpInfo := pool [(1, .class_ 2), (0, u "java/lang/Comparable"), (0, .class_ 4), (0, u "java/lang/Object")] 7

/-- java/lang/Comparable -/
def k5 : Class := { plain "java/lang/Comparable" (some 0) with
  accessFlags := 1537
  interfaces := #[]
  cf := some (fileOf pool5 1 #[] #[] 1537 3 #[] #[])
  fields := #[]
  methods := #[]
  instanceTypes := #[]
  staticTypes := #[]
  resolved := Array.replicate 12 none
  statics := none }

def pool6 : Array CpInfo := pool [(2, .class_ 4), (1, u "java/lang/CharSequence"), (42, .class_ 48), (0, u "java/lang/CharSequence$1CodePointIterator"), (10, .class_ 60), (0, u "java/lang/CharSequence$1CharIterator"), (5, .class_ 67), (0, u "java/lang/Object")] 63

/-- java/lang/CharSequence -/
def k6 : Class := { plain "java/lang/CharSequence" (some 0) with
  accessFlags := 1537
  interfaces := #[]
  cf := some (fileOf pool6 2 #[.nestMembers #[47, 59]] #[] 1537 66 #[] #[])
  fields := #[]
  methods := #[]
  instanceTypes := #[]
  staticTypes := #[]
  resolved := Array.replicate 131 none
  statics := none }

def pool7 : Array CpInfo := pool [(1, .class_ 2), (0, u "java/lang/constant/Constable"), (0, .class_ 4), (0, u "java/lang/Object")] 6

/-- java/lang/constant/Constable -/
def k7 : Class := { plain "java/lang/constant/Constable" (some 0) with
  accessFlags := 1537
  interfaces := #[]
  cf := some (fileOf pool7 1 #[] #[] 1537 3 #[] #[])
  fields := #[]
  methods := #[]
  instanceTypes := #[]
  staticTypes := #[]
  resolved := Array.replicate 11 none
  statics := none }

def pool8 : Array CpInfo := pool [(1, .class_ 2), (0, u "java/lang/constant/ConstantDesc"), (0, .class_ 4), (0, u "java/lang/Object")] 32

/-- java/lang/constant/ConstantDesc -/
def k8 : Class := { plain "java/lang/constant/ConstantDesc" (some 0) with
  accessFlags := 1537
  interfaces := #[]
  cf := some (fileOf pool8 1 #[] #[] 1537 3 #[] #[])
  fields := #[]
  methods := #[]
  instanceTypes := #[]
  staticTypes := #[]
  resolved := Array.replicate 37 none
  statics := none }

def pool9 : Array CpInfo := pool [(2, .class_ 4), (1, u "java/lang/Object"), (0, u "<init>"), (0, u "()V"), (3, .class_ 12), (1, u "java/lang/String"), (0, u "value"), (0, u "[B"), (2, u "coder"), (0, u "B"), (2, u "hash"), (0, u "I"), (2, u "hashIsZero"), (0, u "Z"), (13, u "COMPACT_STRINGS"), (534, .class_ 576), (0, u "java/lang/CharSequence"), (22, u "CASE_INSENSITIVE_ORDER"), (0, u "Ljava/util/Comparator;"), (500, u "serialPersistentFields"), (0, u "[Ljava/io/ObjectStreamField;"), (0, .class_ 1104), (0, u "java/lang/String$CaseInsensitiveComparator"), (1, .class_ 1107), (0, u "java/io/Serializable"), (0, .class_ 1109), (0, u "java/lang/Comparable"), (0, .class_ 1111), (0, u "java/lang/constant/Constable"), (0, .class_ 1113), (0, u "java/lang/constant/ConstantDesc"), (2, u "serialVersionUID"), (0, u "J"), (3, u "REPL"), (0, u "C"), (2, u "LATIN1"), (1, u "UTF16")] 323

def k9m0 : Method := { name := "<init>", desc := "()V", sig := { parameters := [], returnType := none }, accessFlags := 1, code := none }
/-- java/lang/String -/
def k9 : Class := { plain "java/lang/String" (some 0) with
  accessFlags := 49
  interfaces := #[4, 5, 6, 7, 8]
  cf := some (fileOf pool9 10 #[.nestMembers #[1103]] #[{ accessFlags := 1, nameIndex := 5, descriptorIndex := 6, attributes := #[] }] 49 2 #[1106, 1108, 575, 1110, 1112] #[{ accessFlags := 18, nameIndex := 13, descriptorIndex := 14, attributes := #[] }, { accessFlags := 18, nameIndex := 17, descriptorIndex := 18, attributes := #[] }, { accessFlags := 2, nameIndex := 21, descriptorIndex := 22, attributes := #[] }, { accessFlags := 2, nameIndex := 25, descriptorIndex := 26, attributes := #[] }, { accessFlags := 26, nameIndex := 1116, descriptorIndex := 1117, attributes := #[] }, { accessFlags := 24, nameIndex := 40, descriptorIndex := 26, attributes := #[] }, { accessFlags := 26, nameIndex := 1101, descriptorIndex := 1102, attributes := #[] }, { accessFlags := 26, nameIndex := 1121, descriptorIndex := 1122, attributes := #[] }, { accessFlags := 25, nameIndex := 599, descriptorIndex := 600, attributes := #[] }, { accessFlags := 24, nameIndex := 1125, descriptorIndex := 18, attributes := #[] }, { accessFlags := 24, nameIndex := 1127, descriptorIndex := 18, attributes := #[] }])
  fields := #[{ name := "value", type := (.array .byte), accessFlags := 18, slot := 0, constantValue := 0 }, { name := "coder", type := .byte, accessFlags := 18, slot := 1, constantValue := 0 }, { name := "hash", type := .int, accessFlags := 2, slot := 2, constantValue := 0 }, { name := "hashIsZero", type := .boolean, accessFlags := 2, slot := 3, constantValue := 0 }, { name := "serialVersionUID", type := .long, accessFlags := 26, slot := 0, constantValue := 0 }, { name := "COMPACT_STRINGS", type := .boolean, accessFlags := 24, slot := 1, constantValue := 0 }, { name := "serialPersistentFields", type := (.array (.object "java/io/ObjectStreamField")), accessFlags := 26, slot := 2, constantValue := 0 }, { name := "REPL", type := .char, accessFlags := 26, slot := 3, constantValue := 0 }, { name := "CASE_INSENSITIVE_ORDER", type := (.object "java/util/Comparator"), accessFlags := 25, slot := 4, constantValue := 0 }, { name := "LATIN1", type := .byte, accessFlags := 24, slot := 5, constantValue := 0 }, { name := "UTF16", type := .byte, accessFlags := 24, slot := 6, constantValue := 0 }]
  methods := #[k9m0]
  instanceTypes := #[(.array .byte), .byte, .int, .boolean]
  staticTypes := #[.long, .boolean, (.array (.object "java/io/ObjectStreamField")), .char, (.object "java/util/Comparator"), .byte, .byte]
  resolved := Array.replicate 1451 none
  statics := none }

def pool10 : Array CpInfo := pool [(1, .class_ 2), (0, u "com/example/tidemark/tidemark/Deadlines"), (0, .methodref 4 5), (0, .class_ 6), (0, .nameAndType 7 8), (0, u "java/lang/Object"), (0, u "<init>"), (0, u "()V"), (0, .class_ 10), (0, u "java/lang/Long"), (0, .long 9223372036854775808), (1, .fieldref 1 14), (0, .nameAndType 15 16), (0, u "time"), (0, u "J"), (0, .class_ 18), (0, u "com/example/tidemark/tidemark/MemoryEntry"), (0, .fieldref 1 20), (0, .nameAndType 21 22), (0, u "firsts"), (0, u "[Lcom/example/tidemark/tidemark/MemoryEntry;"), (0, .fieldref 1 24), (0, .nameAndType 25 16), (0, u "size"), (0, .fieldref 17 27), (0, .nameAndType 28 29), (0, u "expiry"), (0, u "Lcom/example/tidemark/tidemark/Expiry;"), (0, .methodref 31 32), (0, .class_ 33), (0, .nameAndType 34 35), (0, u "com/example/tidemark/tidemark/Expiry"), (0, u "canExpire"), (0, u "()Z"), (0, .methodref 17 37), (0, .nameAndType 38 39), (0, u "deadline"), (0, u "()J"), (0, .methodref 1 41), (0, .nameAndType 42 43), (0, u "slotOf"), (0, u "(J)I"), (0, .fieldref 17 45), (0, .nameAndType 46 47), (0, u "slot"), (0, u "I"), (0, .methodref 1 49), (0, .nameAndType 50 51), (0, u "unfile"), (0, u "(Lcom/example/tidemark/tidemark/MemoryEntry;)V"), (0, .methodref 1 53), (0, .nameAndType 54 55), (0, u "link"), (0, u "(Lcom/example/tidemark/tidemark/MemoryEntry;I)V"), (0, .fieldref 17 57), (0, .nameAndType 58 59), (0, u "filedBefore"), (0, u "Lcom/example/tidemark/tidemark/MemoryEntry;"), (0, .fieldref 17 61), (0, .nameAndType 62 59), (0, u "filedAfter"), (2, .long 63), (5, .methodref 9 72), (0, .nameAndType 73 43), (0, u "numberOfLeadingZeros"), (0, u "NOT_FILED"), (2, u "SLOT_BITS"), (1, u "SLOTS"), (1, u "LEVELS"), (0, u "DUE"), (1, u "FAR"), (5, u "refile"), (0, u "(Lcom/example/tidemark/tidemark/MemoryEntry;J)V")] 12

def k10c0 : Code := { maxStack := 3, maxLocals := 2, code := prog_14_method_1_code, exceptionTable := #[], attributes := #[] }
def k10m0 : Method := { name := "<init>", desc := "()V", sig := { parameters := [], returnType := none }, accessFlags := 0, code := some k10c0 }
def k10c1 : Code := { maxStack := 2, maxLocals := 1, code := prog_14_method_2_code, exceptionTable := #[], attributes := #[] }
def k10m1 : Method := { name := "size", desc := "()J", sig := { parameters := [], returnType := some .long }, accessFlags := 0, code := some k10c1 }
def k10c2 : Code := { maxStack := 5, maxLocals := 5, code := prog_14_method_3_code, exceptionTable := #[], attributes := #[] }
def k10m2 : Method := { name := "refile", desc := "(Lcom/example/tidemark/tidemark/MemoryEntry;J)V", sig := { parameters := [(.object "com/example/tidemark/tidemark/MemoryEntry"), .long], returnType := none }, accessFlags := 0, code := some k10c2 }
def k10c3 : Code := { maxStack := 5, maxLocals := 2, code := prog_14_method_4_code, exceptionTable := #[], attributes := #[] }
def k10m3 : Method := { name := "unfile", desc := "(Lcom/example/tidemark/tidemark/MemoryEntry;)V", sig := { parameters := [(.object "com/example/tidemark/tidemark/MemoryEntry")], returnType := none }, accessFlags := 0, code := some k10c3 }
def k10c4 : Code := { maxStack := 5, maxLocals := 5, code := prog_14_method_7_code, exceptionTable := #[], attributes := #[] }
def k10m4 : Method := { name := "slotOf", desc := "(J)I", sig := { parameters := [.long], returnType := some .int }, accessFlags := 2, code := some k10c4 }
def k10c5 : Code := { maxStack := 3, maxLocals := 4, code := prog_14_method_9_code, exceptionTable := #[], attributes := #[] }
def k10m5 : Method := { name := "link", desc := "(Lcom/example/tidemark/tidemark/MemoryEntry;I)V", sig := { parameters := [(.object "com/example/tidemark/tidemark/MemoryEntry"), .int], returnType := none }, accessFlags := 2, code := some k10c5 }
/-- com/example/tidemark/tidemark/Deadlines -/
def k10 : Class := { plain "com/example/tidemark/tidemark/Deadlines" (some 0) with
  accessFlags := 48
  interfaces := #[]
  cf := some (fileOf pool10 1 #[] #[{ accessFlags := 0, nameIndex := 7, descriptorIndex := 8, attributes := #[] }, { accessFlags := 0, nameIndex := 25, descriptorIndex := 39, attributes := #[] }, { accessFlags := 0, nameIndex := 90, descriptorIndex := 91, attributes := #[] }, { accessFlags := 0, nameIndex := 50, descriptorIndex := 51, attributes := #[] }, { accessFlags := 2, nameIndex := 42, descriptorIndex := 43, attributes := #[] }, { accessFlags := 2, nameIndex := 54, descriptorIndex := 55, attributes := #[] }] 48 4 #[] #[{ accessFlags := 24, nameIndex := 74, descriptorIndex := 47, attributes := #[] }, { accessFlags := 26, nameIndex := 77, descriptorIndex := 47, attributes := #[] }, { accessFlags := 26, nameIndex := 79, descriptorIndex := 47, attributes := #[] }, { accessFlags := 26, nameIndex := 81, descriptorIndex := 47, attributes := #[] }, { accessFlags := 26, nameIndex := 82, descriptorIndex := 47, attributes := #[] }, { accessFlags := 26, nameIndex := 84, descriptorIndex := 47, attributes := #[] }, { accessFlags := 18, nameIndex := 21, descriptorIndex := 22, attributes := #[] }, { accessFlags := 2, nameIndex := 15, descriptorIndex := 16, attributes := #[] }, { accessFlags := 2, nameIndex := 25, descriptorIndex := 16, attributes := #[] }])
  fields := #[{ name := "NOT_FILED", type := .int, accessFlags := 24, slot := 0, constantValue := 0 }, { name := "SLOT_BITS", type := .int, accessFlags := 26, slot := 1, constantValue := 0 }, { name := "SLOTS", type := .int, accessFlags := 26, slot := 2, constantValue := 0 }, { name := "LEVELS", type := .int, accessFlags := 26, slot := 3, constantValue := 0 }, { name := "DUE", type := .int, accessFlags := 26, slot := 4, constantValue := 0 }, { name := "FAR", type := .int, accessFlags := 26, slot := 5, constantValue := 0 }, { name := "firsts", type := (.array (.object "com/example/tidemark/tidemark/MemoryEntry")), accessFlags := 18, slot := 0, constantValue := 0 }, { name := "time", type := .long, accessFlags := 2, slot := 1, constantValue := 0 }, { name := "size", type := .long, accessFlags := 2, slot := 2, constantValue := 0 }]
  methods := #[k10m0, k10m1, k10m2, k10m3, k10m4, k10m5]
  instanceTypes := #[(.array (.object "com/example/tidemark/tidemark/MemoryEntry")), .long, .long]
  staticTypes := #[.int, .int, .int, .int, .int, .int]
  resolved := Array.replicate 104 none
  statics := none }

def pool11 : Array CpInfo := pool [(1, .methodref 2 3), (0, .class_ 4), (0, .nameAndType 5 6), (0, u "java/lang/Object"), (0, u "<init>"), (0, u "()V"), (2, .fieldref 10 11), (0, .class_ 12), (0, .nameAndType 13 14), (0, u "com/example/tidemark/tidemark/MemoryEntry"), (0, u "slot"), (0, u "I"), (0, .fieldref 10 16), (0, .nameAndType 17 18), (0, u "key"), (0, u "Ljava/lang/Object;"), (0, .fieldref 10 20), (0, .nameAndType 21 22), (0, u "charge"), (0, u "J"), (0, .methodref 10 24), (0, .nameAndType 25 26), (0, u "write"), (0, u "(Ljava/lang/Object;Lcom/example/tidemark/tidemark/Expiry;J)V"), (0, .fieldref 10 28), (0, .nameAndType 29 18), (0, u "value"), (0, .fieldref 10 31), (0, .nameAndType 32 22), (0, u "lastUsed"), (0, .fieldref 10 34), (0, .nameAndType 35 36), (0, u "expiry"), (0, u "Lcom/example/tidemark/tidemark/Expiry;"), (0, .methodref 10 38), (0, .nameAndType 39 40), (0, u "restart"), (0, u "(J)V"), (0, .methodref 42 43), (0, .class_ 44), (0, .nameAndType 45 46), (0, u "com/example/tidemark/tidemark/Expiry"), (0, u "canExpire"), (0, u "()Z"), (0, .fieldref 10 48), (0, .nameAndType 49 18), (0, u "lockFreeValue"), (2, u "LOCK_FREE_VALUE"), (0, u "Ljava/lang/invoke/VarHandle;"), (13, .fieldref 10 68), (0, .nameAndType 69 22), (0, u "created"), (4, .methodref 42 75), (0, .nameAndType 76 77), (0, u "deadline"), (0, u "(JJ)J"), (23, u "pending"), (0, u "Z"), (0, u "list"), (0, u "Lcom/example/tidemark/tidemark/RecencyList;"), (1, u "older"), (0, u "Lcom/example/tidemark/tidemark/MemoryEntry;"), (1, u "newer"), (0, u "stamp"), (0, u "usedInWindow"), (0, u "arrivedBefore"), (0, u "arrivedAfter"), (0, u "filedBefore"), (0, u "filedAfter"), (0, u "(Ljava/lang/Object;Ljava/lang/Object;Lcom/example/tidemark/tidemark/Expiry;JJ)V"), (13, u "()J")] 6

def k11c0 : Code := { maxStack := 5, maxLocals := 8, code := prog_41_method_1_code, exceptionTable := #[], attributes := #[] }
def k11m0 : Method := { name := "<init>", desc := "(Ljava/lang/Object;Ljava/lang/Object;Lcom/example/tidemark/tidemark/Expiry;JJ)V", sig := { parameters := [(.object "java/lang/Object"), (.object "java/lang/Object"), (.object "com/example/tidemark/tidemark/Expiry"), .long, .long], returnType := none }, accessFlags := 0, code := some k11c0 }
def k11c1 : Code := { maxStack := 3, maxLocals := 5, code := prog_41_method_2_code, exceptionTable := #[], attributes := #[] }
def k11m1 : Method := { name := "write", desc := "(Ljava/lang/Object;Lcom/example/tidemark/tidemark/Expiry;J)V", sig := { parameters := [(.object "java/lang/Object"), (.object "com/example/tidemark/tidemark/Expiry"), .long], returnType := none }, accessFlags := 0, code := some k11c1 }
def k11c2 : Code := { maxStack := 3, maxLocals := 3, code := prog_41_method_6_code, exceptionTable := #[], attributes := #[] }
def k11m2 : Method := { name := "restart", desc := "(J)V", sig := { parameters := [.long], returnType := none }, accessFlags := 0, code := some k11c2 }
def k11c3 : Code := { maxStack := 5, maxLocals := 1, code := prog_41_method_9_code, exceptionTable := #[], attributes := #[] }
def k11m3 : Method := { name := "deadline", desc := "()J", sig := { parameters := [], returnType := some .long }, accessFlags := 0, code := some k11c3 }
/-- com/example/tidemark/tidemark/MemoryEntry -/
def k11 : Class := { plain "com/example/tidemark/tidemark/MemoryEntry" (some 0) with
  accessFlags := 48
  interfaces := #[]
  cf := some (fileOf pool11 10 #[] #[{ accessFlags := 0, nameIndex := 5, descriptorIndex := 116, attributes := #[] }, { accessFlags := 0, nameIndex := 25, descriptorIndex := 26, attributes := #[] }, { accessFlags := 0, nameIndex := 39, descriptorIndex := 40, attributes := #[] }, { accessFlags := 0, nameIndex := 76, descriptorIndex := 130, attributes := #[] }] 48 2 #[] #[{ accessFlags := 26, nameIndex := 52, descriptorIndex := 53, attributes := #[] }, { accessFlags := 16, nameIndex := 17, descriptorIndex := 18, attributes := #[] }, { accessFlags := 2, nameIndex := 29, descriptorIndex := 18, attributes := #[] }, { accessFlags := 0, nameIndex := 35, descriptorIndex := 36, attributes := #[] }, { accessFlags := 64, nameIndex := 49, descriptorIndex := 18, attributes := #[] }, { accessFlags := 0, nameIndex := 101, descriptorIndex := 102, attributes := #[] }, { accessFlags := 0, nameIndex := 69, descriptorIndex := 22, attributes := #[] }, { accessFlags := 0, nameIndex := 32, descriptorIndex := 22, attributes := #[] }, { accessFlags := 0, nameIndex := 21, descriptorIndex := 22, attributes := #[] }, { accessFlags := 0, nameIndex := 103, descriptorIndex := 104, attributes := #[] }, { accessFlags := 0, nameIndex := 106, descriptorIndex := 107, attributes := #[] }, { accessFlags := 0, nameIndex := 109, descriptorIndex := 107, attributes := #[] }, { accessFlags := 0, nameIndex := 110, descriptorIndex := 22, attributes := #[] }, { accessFlags := 0, nameIndex := 111, descriptorIndex := 102, attributes := #[] }, { accessFlags := 0, nameIndex := 112, descriptorIndex := 107, attributes := #[] }, { accessFlags := 0, nameIndex := 113, descriptorIndex := 107, attributes := #[] }, { accessFlags := 0, nameIndex := 13, descriptorIndex := 14, attributes := #[] }, { accessFlags := 0, nameIndex := 114, descriptorIndex := 107, attributes := #[] }, { accessFlags := 0, nameIndex := 115, descriptorIndex := 107, attributes := #[] }])
  fields := #[{ name := "LOCK_FREE_VALUE", type := (.object "java/lang/invoke/VarHandle"), accessFlags := 26, slot := 0, constantValue := 0 }, { name := "key", type := (.object "java/lang/Object"), accessFlags := 16, slot := 0, constantValue := 0 }, { name := "value", type := (.object "java/lang/Object"), accessFlags := 2, slot := 1, constantValue := 0 }, { name := "expiry", type := (.object "com/example/tidemark/tidemark/Expiry"), accessFlags := 0, slot := 2, constantValue := 0 }, { name := "lockFreeValue", type := (.object "java/lang/Object"), accessFlags := 64, slot := 3, constantValue := 0 }, { name := "pending", type := .boolean, accessFlags := 0, slot := 4, constantValue := 0 }, { name := "created", type := .long, accessFlags := 0, slot := 5, constantValue := 0 }, { name := "lastUsed", type := .long, accessFlags := 0, slot := 6, constantValue := 0 }, { name := "charge", type := .long, accessFlags := 0, slot := 7, constantValue := 0 }, { name := "list", type := (.object "com/example/tidemark/tidemark/RecencyList"), accessFlags := 0, slot := 8, constantValue := 0 }, { name := "older", type := (.object "com/example/tidemark/tidemark/MemoryEntry"), accessFlags := 0, slot := 9, constantValue := 0 }, { name := "newer", type := (.object "com/example/tidemark/tidemark/MemoryEntry"), accessFlags := 0, slot := 10, constantValue := 0 }, { name := "stamp", type := .long, accessFlags := 0, slot := 11, constantValue := 0 }, { name := "usedInWindow", type := .boolean, accessFlags := 0, slot := 12, constantValue := 0 }, { name := "arrivedBefore", type := (.object "com/example/tidemark/tidemark/MemoryEntry"), accessFlags := 0, slot := 13, constantValue := 0 }, { name := "arrivedAfter", type := (.object "com/example/tidemark/tidemark/MemoryEntry"), accessFlags := 0, slot := 14, constantValue := 0 }, { name := "slot", type := .int, accessFlags := 0, slot := 15, constantValue := 0 }, { name := "filedBefore", type := (.object "com/example/tidemark/tidemark/MemoryEntry"), accessFlags := 0, slot := 16, constantValue := 0 }, { name := "filedAfter", type := (.object "com/example/tidemark/tidemark/MemoryEntry"), accessFlags := 0, slot := 17, constantValue := 0 }]
  methods := #[k11m0, k11m1, k11m2, k11m3]
  instanceTypes := #[(.object "java/lang/Object"), (.object "java/lang/Object"), (.object "com/example/tidemark/tidemark/Expiry"), (.object "java/lang/Object"), .boolean, .long, .long, .long, (.object "com/example/tidemark/tidemark/RecencyList"), (.object "com/example/tidemark/tidemark/MemoryEntry"), (.object "com/example/tidemark/tidemark/MemoryEntry"), .long, .boolean, (.object "com/example/tidemark/tidemark/MemoryEntry"), (.object "com/example/tidemark/tidemark/MemoryEntry"), .int, (.object "com/example/tidemark/tidemark/MemoryEntry"), (.object "com/example/tidemark/tidemark/MemoryEntry")]
  staticTypes := #[(.object "java/lang/invoke/VarHandle")]
  resolved := Array.replicate 137 none
  statics := none }

def pool12 : Array CpInfo := pool [(2, .class_ 4), (1, u "java/lang/Object"), (0, u "<init>"), (0, u "()V"), (1, .class_ 10), (1, u "java/lang/Number"), (2, .class_ 14), (0, u "java/io/Serializable"), (0, u "serialVersionUID"), (0, u "J")] 20

def k12m0 : Method := { name := "<init>", desc := "()V", sig := { parameters := [], returnType := none }, accessFlags := 1, code := none }
/-- java/lang/Number -/
def k12 : Class := { plain "java/lang/Number" (some 0) with
  accessFlags := 1057
  interfaces := #[4]
  cf := some (fileOf pool12 8 #[] #[{ accessFlags := 1, nameIndex := 5, descriptorIndex := 6, attributes := #[] }] 1057 2 #[13] #[{ accessFlags := 26, nameIndex := 15, descriptorIndex := 16, attributes := #[] }])
  fields := #[{ name := "serialVersionUID", type := .long, accessFlags := 26, slot := 0, constantValue := 0 }]
  methods := #[k12m0]
  instanceTypes := #[]
  staticTypes := #[.long]
  resolved := Array.replicate 37 none
  statics := none }

def pool13 : Array CpInfo := pool [(1, .class_ 2), (0, u "java/lang/Integer"), (16, u "digits"), (0, u "[C"), (32, u "numberOfLeadingZeros"), (0, u "(I)I"), (30, u "DigitOnes"), (0, u "[B"), (2, u "DigitTens"), (97, u "valueOf"), (0, u "(I)Ljava/lang/Integer;"), (0, .class_ 190), (0, u "java/lang/Integer$IntegerCache"), (0, .fieldref 189 192), (0, .nameAndType 193 194), (0, u "high"), (0, u "I"), (0, .fieldref 189 196), (0, .nameAndType 197 198), (0, u "cache"), (0, u "[Ljava/lang/Integer;"), (4, .class_ 204), (0, u "java/lang/Number"), (2, u "value"), (56, .integer 65536), (37, u "TYPE"), (0, u "Ljava/lang/Class;"), (0, .class_ 305), (0, u "java/lang/Comparable"), (0, .class_ 307), (0, u "java/lang/constant/Constable"), (0, .class_ 309), (0, u "java/lang/constant/ConstantDesc"), (0, u "MIN_VALUE"), (1, u "MAX_VALUE"), (3, u "SIZE"), (1, u "BYTES"), (1, u "serialVersionUID"), (0, u "J")] 131

def k13c0 : Code := { maxStack := 3, maxLocals := 1, code := jdk_33_method_22_code, exceptionTable := #[], attributes := #[] }
def k13m0 : Method := { name := "valueOf", desc := "(I)Ljava/lang/Integer;", sig := { parameters := [.int], returnType := some (.object "java/lang/Integer") }, accessFlags := 9, code := some k13c0 }
def k13c1 : Code := { maxStack := 3, maxLocals := 2, code := jdk_33_method_47_code, exceptionTable := #[], attributes := #[] }
def k13m1 : Method := { name := "numberOfLeadingZeros", desc := "(I)I", sig := { parameters := [.int], returnType := some .int }, accessFlags := 9, code := some k13c1 }
/-- java/lang/Integer -/
def k13 : Class := { plain "java/lang/Integer" (some 12) with
  accessFlags := 49
  interfaces := #[5, 7, 8]
  cf := some (fileOf pool13 1 #[.nestMembers #[189]] #[{ accessFlags := 9, nameIndex := 187, descriptorIndex := 188, attributes := #[] }, { accessFlags := 9, nameIndex := 53, descriptorIndex := 54, attributes := #[] }] 49 203 #[304, 306, 308] #[{ accessFlags := 25, nameIndex := 310, descriptorIndex := 194, attributes := #[] }, { accessFlags := 25, nameIndex := 312, descriptorIndex := 194, attributes := #[] }, { accessFlags := 25, nameIndex := 302, descriptorIndex := 303, attributes := #[] }, { accessFlags := 24, nameIndex := 19, descriptorIndex := 20, attributes := #[] }, { accessFlags := 24, nameIndex := 89, descriptorIndex := 86, attributes := #[] }, { accessFlags := 24, nameIndex := 85, descriptorIndex := 86, attributes := #[] }, { accessFlags := 18, nameIndex := 207, descriptorIndex := 194, attributes := #[] }, { accessFlags := 25, nameIndex := 316, descriptorIndex := 194, attributes := #[] }, { accessFlags := 25, nameIndex := 318, descriptorIndex := 194, attributes := #[] }, { accessFlags := 26, nameIndex := 320, descriptorIndex := 321, attributes := #[] }])
  fields := #[{ name := "MIN_VALUE", type := .int, accessFlags := 25, slot := 0, constantValue := 0 }, { name := "MAX_VALUE", type := .int, accessFlags := 25, slot := 1, constantValue := 0 }, { name := "TYPE", type := (.object "java/lang/Class"), accessFlags := 25, slot := 2, constantValue := 0 }, { name := "digits", type := (.array .char), accessFlags := 24, slot := 3, constantValue := 0 }, { name := "DigitTens", type := (.array .byte), accessFlags := 24, slot := 4, constantValue := 0 }, { name := "DigitOnes", type := (.array .byte), accessFlags := 24, slot := 5, constantValue := 0 }, { name := "value", type := .int, accessFlags := 18, slot := 0, constantValue := 0 }, { name := "SIZE", type := .int, accessFlags := 25, slot := 6, constantValue := 0 }, { name := "BYTES", type := .int, accessFlags := 25, slot := 7, constantValue := 0 }, { name := "serialVersionUID", type := .long, accessFlags := 26, slot := 8, constantValue := 0 }]
  methods := #[k13m0, k13m1]
  instanceTypes := #[.int]
  staticTypes := #[.int, .int, (.object "java/lang/Class"), (.array .char), (.array .byte), (.array .byte), .int, .int, .long]
  resolved := Array.replicate 453 none
  statics := none }

def pool14 : Array CpInfo := pool [(2, .class_ 4), (1, u "java/lang/Object"), (0, u "<init>"), (0, u "()V"), (0, .class_ 8), (0, u "java/lang/Integer"), (7, .class_ 18), (1, u "java/lang/Integer$IntegerCache"), (0, u "$assertionsDisabled"), (0, u "Z"), (26, u "high"), (0, u "I"), (8, u "archivedCache"), (0, u "[Ljava/lang/Integer;"), (12, u "cache"), (0, u "low")] 27

def k14m0 : Method := { name := "<init>", desc := "()V", sig := { parameters := [], returnType := none }, accessFlags := 2, code := none }
/-- java/lang/Integer$IntegerCache -/
def k14 : Class := { plain "java/lang/Integer$IntegerCache" (some 0) with
  accessFlags := 48
  interfaces := #[]
  cf := some (fileOf pool14 16 #[.nestHost 7] #[{ accessFlags := 2, nameIndex := 5, descriptorIndex := 6, attributes := #[] }] 48 2 #[] #[{ accessFlags := 24, nameIndex := 72, descriptorIndex := 48, attributes := #[] }, { accessFlags := 24, nameIndex := 47, descriptorIndex := 48, attributes := #[] }, { accessFlags := 24, nameIndex := 71, descriptorIndex := 58, attributes := #[] }, { accessFlags := 8, nameIndex := 57, descriptorIndex := 58, attributes := #[] }, { accessFlags := 4120, nameIndex := 19, descriptorIndex := 20, attributes := #[] }])
  fields := #[{ name := "low", type := .int, accessFlags := 24, slot := 0, constantValue := 0 }, { name := "high", type := .int, accessFlags := 24, slot := 1, constantValue := 0 }, { name := "cache", type := (.array (.object "java/lang/Integer")), accessFlags := 24, slot := 2, constantValue := 0 }, { name := "archivedCache", type := (.array (.object "java/lang/Integer")), accessFlags := 8, slot := 3, constantValue := 0 }, { name := "$assertionsDisabled", type := .boolean, accessFlags := 4120, slot := 4, constantValue := 0 }]
  methods := #[k14m0]
  instanceTypes := #[]
  staticTypes := #[.int, .int, (.array (.object "java/lang/Integer")), (.array (.object "java/lang/Integer")), .boolean]
  resolved := Array.replicate 100 none
  statics := some 0 }

def pool15 : Array CpInfo := pool [(1, .class_ 2), (0, u "java/lang/Math"), (1, .class_ 6), (1, u "java/lang/Object"), (0, u "<init>"), (0, u "()V"), (89, .class_ 100), (1, u "java/lang/Math$RandomNumberGeneratorHolder"), (20, u "(JJ)J"), (50, u "negativeZeroFloatBits"), (0, u "J"), (2, u "negativeZeroDoubleBits"), (24, u "min"), (43, u "$assertionsDisabled"), (0, u "Z"), (91, u "twoToTheDoubleScaleDown"), (0, u "D"), (4, u "twoToTheDoubleScaleUp"), (9, u "E"), (3, u "PI"), (2, u "TAU"), (2, u "DEGREES_TO_RADIANS"), (0, u "RADIANS_TO_DEGREES")] 94

def k15m0 : Method := { name := "<init>", desc := "()V", sig := { parameters := [], returnType := none }, accessFlags := 2, code := none }
def k15c1 : Code := { maxStack := 4, maxLocals := 4, code := jdk_29_method_70_code, exceptionTable := #[], attributes := #[] }
def k15m1 : Method := { name := "min", desc := "(JJ)J", sig := { parameters := [.long, .long], returnType := some .long }, accessFlags := 9, code := some k15c1 }
/-- java/lang/Math -/
def k15 : Class := { plain "java/lang/Math" (some 0) with
  accessFlags := 49
  interfaces := #[]
  cf := some (fileOf pool15 1 #[.nestMembers #[98]] #[{ accessFlags := 2, nameIndex := 7, descriptorIndex := 8, attributes := #[] }, { accessFlags := 9, nameIndex := 201, descriptorIndex := 121, attributes := #[] }] 49 4 #[] #[{ accessFlags := 25, nameIndex := 354, descriptorIndex := 339, attributes := #[] }, { accessFlags := 25, nameIndex := 358, descriptorIndex := 339, attributes := #[] }, { accessFlags := 25, nameIndex := 361, descriptorIndex := 339, attributes := #[] }, { accessFlags := 26, nameIndex := 364, descriptorIndex := 339, attributes := #[] }, { accessFlags := 26, nameIndex := 365, descriptorIndex := 339, attributes := #[] }, { accessFlags := 26, nameIndex := 172, descriptorIndex := 173, attributes := #[] }, { accessFlags := 26, nameIndex := 176, descriptorIndex := 173, attributes := #[] }, { accessFlags := 8, nameIndex := 344, descriptorIndex := 339, attributes := #[] }, { accessFlags := 8, nameIndex := 338, descriptorIndex := 339, attributes := #[] }, { accessFlags := 4120, nameIndex := 245, descriptorIndex := 246, attributes := #[] }])
  fields := #[{ name := "E", type := .double, accessFlags := 25, slot := 0, constantValue := 0 }, { name := "PI", type := .double, accessFlags := 25, slot := 1, constantValue := 0 }, { name := "TAU", type := .double, accessFlags := 25, slot := 2, constantValue := 0 }, { name := "DEGREES_TO_RADIANS", type := .double, accessFlags := 26, slot := 3, constantValue := 0 }, { name := "RADIANS_TO_DEGREES", type := .double, accessFlags := 26, slot := 4, constantValue := 0 }, { name := "negativeZeroFloatBits", type := .long, accessFlags := 26, slot := 5, constantValue := 0 }, { name := "negativeZeroDoubleBits", type := .long, accessFlags := 26, slot := 6, constantValue := 0 }, { name := "twoToTheDoubleScaleUp", type := .double, accessFlags := 8, slot := 7, constantValue := 0 }, { name := "twoToTheDoubleScaleDown", type := .double, accessFlags := 8, slot := 8, constantValue := 0 }, { name := "$assertionsDisabled", type := .boolean, accessFlags := 4120, slot := 9, constantValue := 0 }]
  methods := #[k15m0, k15m1]
  instanceTypes := #[]
  staticTypes := #[.double, .double, .double, .double, .double, .long, .long, .double, .double, .boolean]
  resolved := Array.replicate 460 none
  statics := none }

def pool16 : Array CpInfo := pool [(1, .class_ 2), (0, u "java/lang/Long"), (15, .class_ 20), (1, u "java/lang/Integer"), (79, u "numberOfLeadingZeros"), (0, u "(J)I"), (133, .class_ 237), (1, u "java/lang/Long$LongCache"), (33, .class_ 272), (0, u "java/lang/Number"), (2, u "value"), (0, u "J"), (31, .methodref 18 309), (0, .nameAndType 100 310), (0, u "(I)I"), (50, u "TYPE"), (0, u "Ljava/lang/Class;"), (0, .class_ 364), (0, u "java/lang/Comparable"), (0, .class_ 366), (0, u "java/lang/constant/Constable"), (0, .class_ 368), (0, u "java/lang/constant/ConstantDesc"), (0, u "MIN_VALUE"), (1, u "MAX_VALUE"), (4, u "SIZE"), (0, u "I"), (1, u "BYTES"), (1, u "serialVersionUID")] 142

def k16c0 : Code := { maxStack := 3, maxLocals := 3, code := jdk_35_method_48_code, exceptionTable := #[], attributes := #[] }
def k16m0 : Method := { name := "numberOfLeadingZeros", desc := "(J)I", sig := { parameters := [.long], returnType := some .int }, accessFlags := 9, code := some k16c0 }
/-- java/lang/Long -/
def k16 : Class := { plain "java/lang/Long" (some 12) with
  accessFlags := 49
  interfaces := #[5, 7, 8]
  cf := some (fileOf pool16 1 #[.nestMembers #[235]] #[{ accessFlags := 9, nameIndex := 100, descriptorIndex := 101, attributes := #[] }] 49 271 #[363, 365, 367] #[{ accessFlags := 25, nameIndex := 369, descriptorIndex := 276, attributes := #[] }, { accessFlags := 25, nameIndex := 371, descriptorIndex := 276, attributes := #[] }, { accessFlags := 25, nameIndex := 361, descriptorIndex := 362, attributes := #[] }, { accessFlags := 18, nameIndex := 275, descriptorIndex := 276, attributes := #[] }, { accessFlags := 25, nameIndex := 376, descriptorIndex := 377, attributes := #[] }, { accessFlags := 25, nameIndex := 379, descriptorIndex := 377, attributes := #[] }, { accessFlags := 26, nameIndex := 381, descriptorIndex := 276, attributes := #[] }])
  fields := #[{ name := "MIN_VALUE", type := .long, accessFlags := 25, slot := 0, constantValue := 0 }, { name := "MAX_VALUE", type := .long, accessFlags := 25, slot := 1, constantValue := 0 }, { name := "TYPE", type := (.object "java/lang/Class"), accessFlags := 25, slot := 2, constantValue := 0 }, { name := "value", type := .long, accessFlags := 18, slot := 0, constantValue := 0 }, { name := "SIZE", type := .int, accessFlags := 25, slot := 3, constantValue := 0 }, { name := "BYTES", type := .int, accessFlags := 25, slot := 4, constantValue := 0 }, { name := "serialVersionUID", type := .long, accessFlags := 26, slot := 5, constantValue := 0 }]
  methods := #[k16m0]
  instanceTypes := #[.long]
  staticTypes := #[.long, .long, (.object "java/lang/Class"), .int, .int, .long]
  resolved := Array.replicate 524 none
  statics := none }

def pool17 : Array CpInfo := pool [(1, u "java/lang/Cloneable"), (0, .class_ 1), (0, u "java/lang/Object"), (0, .class_ 3)] 3

/-- java/lang/Cloneable -/
def k17 : Class := { plain "java/lang/Cloneable" (some 0) with
  accessFlags := 1537
  interfaces := #[]
  cf := some (fileOf pool17 2 #[] #[] 1537 4 #[] #[])
  fields := #[]
  methods := #[]
  instanceTypes := #[]
  staticTypes := #[]
  resolved := Array.replicate 8 none
  statics := none }

/-- the primitive byte -/
def k18 : Class := { plain "byte" none with kind := .primitive 'B', accessFlags := 0x411 }
/-- [B -/
def k19 : Class := { plain "[B" (some 0) with kind := .array 18 .byte, interfaces := #[17, 4], accessFlags := 1041 }

/-- the primitive int -/
def k20 : Class := { plain "int" none with kind := .primitive 'I', accessFlags := 0x411 }
/-- [I -/
def k21 : Class := { plain "[I" (some 0) with kind := .array 20 .int, interfaces := #[17, 4], accessFlags := 1041 }

/-- [Lcom/example/tidemark/tidemark/MemoryEntry; -/
def k22 : Class := { plain "[Lcom/example/tidemark/tidemark/MemoryEntry;" (some 0) with kind := .array 11 (.object "com/example/tidemark/tidemark/MemoryEntry"), interfaces := #[17, 4], accessFlags := 1041 }

/-- [Ljava/lang/Integer; -/
def k23 : Class := { plain "[Ljava/lang/Integer;" (some 0) with kind := .array 13 (.object "java/lang/Integer"), interfaces := #[17, 4], accessFlags := 1041 }

def heap : Heap := #[{ cls := 14, slots := #[.int 0, .int 127, .ref 1, .null, .int 0], vm := .statics 14 },
  { cls := 23, slots := #[.ref 2, .ref 3, .ref 4, .ref 5, .ref 6, .ref 7, .ref 8, .ref 9, .ref 10, .ref 11, .ref 12, .ref 13, .ref 14, .ref 15, .ref 16, .ref 17, .ref 18, .ref 19, .ref 20, .ref 21, .ref 22, .ref 23, .ref 24, .ref 25, .ref 26, .ref 27, .ref 28, .ref 29, .ref 30, .ref 31, .ref 32, .ref 33, .ref 34, .ref 35, .ref 36, .ref 37, .ref 38, .ref 39, .ref 40, .ref 41, .ref 42, .ref 43, .ref 44, .ref 45, .ref 46, .ref 47, .ref 48, .ref 49, .ref 50, .ref 51, .ref 52, .ref 53, .ref 54, .ref 55, .ref 56, .ref 57, .ref 58, .ref 59, .ref 60, .ref 61, .ref 62, .ref 63, .ref 64, .ref 65, .ref 66, .ref 67, .ref 68, .ref 69, .ref 70, .ref 71, .ref 72, .ref 73, .ref 74, .ref 75, .ref 76, .ref 77, .ref 78, .ref 79, .ref 80, .ref 81, .ref 82, .ref 83, .ref 84, .ref 85, .ref 86, .ref 87, .ref 88, .ref 89, .ref 90, .ref 91, .ref 92, .ref 93, .ref 94, .ref 95, .ref 96, .ref 97, .ref 98, .ref 99, .ref 100, .ref 101, .ref 102, .ref 103, .ref 104, .ref 105, .ref 106, .ref 107, .ref 108, .ref 109, .ref 110, .ref 111, .ref 112, .ref 113, .ref 114, .ref 115, .ref 116, .ref 117, .ref 118, .ref 119, .ref 120, .ref 121, .ref 122, .ref 123, .ref 124, .ref 125, .ref 126, .ref 127, .ref 128, .ref 129, .ref 130, .ref 131, .ref 132, .ref 133, .ref 134, .ref 135, .ref 136, .ref 137, .ref 138, .ref 139, .ref 140, .ref 141, .ref 142, .ref 143, .ref 144, .ref 145, .ref 146, .ref 147, .ref 148, .ref 149, .ref 150, .ref 151, .ref 152, .ref 153, .ref 154, .ref 155, .ref 156, .ref 157, .ref 158, .ref 159, .ref 160, .ref 161, .ref 162, .ref 163, .ref 164, .ref 165, .ref 166, .ref 167, .ref 168, .ref 169, .ref 170, .ref 171, .ref 172, .ref 173, .ref 174, .ref 175, .ref 176, .ref 177, .ref 178, .ref 179, .ref 180, .ref 181, .ref 182, .ref 183, .ref 184, .ref 185, .ref 186, .ref 187, .ref 188, .ref 189, .ref 190, .ref 191, .ref 192, .ref 193, .ref 194, .ref 195, .ref 196, .ref 197, .ref 198, .ref 199, .ref 200, .ref 201, .ref 202, .ref 203, .ref 204, .ref 205, .ref 206, .ref 207, .ref 208, .ref 209, .ref 210, .ref 211, .ref 212, .ref 213, .ref 214, .ref 215, .ref 216, .ref 217, .ref 218, .ref 219, .ref 220, .ref 221, .ref 222, .ref 223, .ref 224, .ref 225, .ref 226, .ref 227, .ref 228, .ref 229, .ref 230, .ref 231, .ref 232, .ref 233, .ref 234, .ref 235, .ref 236, .ref 237, .ref 238, .ref 239, .ref 240, .ref 241, .ref 242, .ref 243, .ref 244, .ref 245, .ref 246, .ref 247, .ref 248, .ref 249, .ref 250, .ref 251, .ref 252, .ref 253, .ref 254, .ref 255, .ref 256, .ref 257], vm := .none },
  { cls := 13, slots := #[.int (-128)], vm := .none },
  { cls := 13, slots := #[.int (-127)], vm := .none },
  { cls := 13, slots := #[.int (-126)], vm := .none },
  { cls := 13, slots := #[.int (-125)], vm := .none },
  { cls := 13, slots := #[.int (-124)], vm := .none },
  { cls := 13, slots := #[.int (-123)], vm := .none },
  { cls := 13, slots := #[.int (-122)], vm := .none },
  { cls := 13, slots := #[.int (-121)], vm := .none },
  { cls := 13, slots := #[.int (-120)], vm := .none },
  { cls := 13, slots := #[.int (-119)], vm := .none },
  { cls := 13, slots := #[.int (-118)], vm := .none },
  { cls := 13, slots := #[.int (-117)], vm := .none },
  { cls := 13, slots := #[.int (-116)], vm := .none },
  { cls := 13, slots := #[.int (-115)], vm := .none },
  { cls := 13, slots := #[.int (-114)], vm := .none },
  { cls := 13, slots := #[.int (-113)], vm := .none },
  { cls := 13, slots := #[.int (-112)], vm := .none },
  { cls := 13, slots := #[.int (-111)], vm := .none },
  { cls := 13, slots := #[.int (-110)], vm := .none },
  { cls := 13, slots := #[.int (-109)], vm := .none },
  { cls := 13, slots := #[.int (-108)], vm := .none },
  { cls := 13, slots := #[.int (-107)], vm := .none },
  { cls := 13, slots := #[.int (-106)], vm := .none },
  { cls := 13, slots := #[.int (-105)], vm := .none },
  { cls := 13, slots := #[.int (-104)], vm := .none },
  { cls := 13, slots := #[.int (-103)], vm := .none },
  { cls := 13, slots := #[.int (-102)], vm := .none },
  { cls := 13, slots := #[.int (-101)], vm := .none },
  { cls := 13, slots := #[.int (-100)], vm := .none },
  { cls := 13, slots := #[.int (-99)], vm := .none },
  { cls := 13, slots := #[.int (-98)], vm := .none },
  { cls := 13, slots := #[.int (-97)], vm := .none },
  { cls := 13, slots := #[.int (-96)], vm := .none },
  { cls := 13, slots := #[.int (-95)], vm := .none },
  { cls := 13, slots := #[.int (-94)], vm := .none },
  { cls := 13, slots := #[.int (-93)], vm := .none },
  { cls := 13, slots := #[.int (-92)], vm := .none },
  { cls := 13, slots := #[.int (-91)], vm := .none },
  { cls := 13, slots := #[.int (-90)], vm := .none },
  { cls := 13, slots := #[.int (-89)], vm := .none },
  { cls := 13, slots := #[.int (-88)], vm := .none },
  { cls := 13, slots := #[.int (-87)], vm := .none },
  { cls := 13, slots := #[.int (-86)], vm := .none },
  { cls := 13, slots := #[.int (-85)], vm := .none },
  { cls := 13, slots := #[.int (-84)], vm := .none },
  { cls := 13, slots := #[.int (-83)], vm := .none },
  { cls := 13, slots := #[.int (-82)], vm := .none },
  { cls := 13, slots := #[.int (-81)], vm := .none },
  { cls := 13, slots := #[.int (-80)], vm := .none },
  { cls := 13, slots := #[.int (-79)], vm := .none },
  { cls := 13, slots := #[.int (-78)], vm := .none },
  { cls := 13, slots := #[.int (-77)], vm := .none },
  { cls := 13, slots := #[.int (-76)], vm := .none },
  { cls := 13, slots := #[.int (-75)], vm := .none },
  { cls := 13, slots := #[.int (-74)], vm := .none },
  { cls := 13, slots := #[.int (-73)], vm := .none },
  { cls := 13, slots := #[.int (-72)], vm := .none },
  { cls := 13, slots := #[.int (-71)], vm := .none },
  { cls := 13, slots := #[.int (-70)], vm := .none },
  { cls := 13, slots := #[.int (-69)], vm := .none },
  { cls := 13, slots := #[.int (-68)], vm := .none },
  { cls := 13, slots := #[.int (-67)], vm := .none },
  { cls := 13, slots := #[.int (-66)], vm := .none },
  { cls := 13, slots := #[.int (-65)], vm := .none },
  { cls := 13, slots := #[.int (-64)], vm := .none },
  { cls := 13, slots := #[.int (-63)], vm := .none },
  { cls := 13, slots := #[.int (-62)], vm := .none },
  { cls := 13, slots := #[.int (-61)], vm := .none },
  { cls := 13, slots := #[.int (-60)], vm := .none },
  { cls := 13, slots := #[.int (-59)], vm := .none },
  { cls := 13, slots := #[.int (-58)], vm := .none },
  { cls := 13, slots := #[.int (-57)], vm := .none },
  { cls := 13, slots := #[.int (-56)], vm := .none },
  { cls := 13, slots := #[.int (-55)], vm := .none },
  { cls := 13, slots := #[.int (-54)], vm := .none },
  { cls := 13, slots := #[.int (-53)], vm := .none },
  { cls := 13, slots := #[.int (-52)], vm := .none },
  { cls := 13, slots := #[.int (-51)], vm := .none },
  { cls := 13, slots := #[.int (-50)], vm := .none },
  { cls := 13, slots := #[.int (-49)], vm := .none },
  { cls := 13, slots := #[.int (-48)], vm := .none },
  { cls := 13, slots := #[.int (-47)], vm := .none },
  { cls := 13, slots := #[.int (-46)], vm := .none },
  { cls := 13, slots := #[.int (-45)], vm := .none },
  { cls := 13, slots := #[.int (-44)], vm := .none },
  { cls := 13, slots := #[.int (-43)], vm := .none },
  { cls := 13, slots := #[.int (-42)], vm := .none },
  { cls := 13, slots := #[.int (-41)], vm := .none },
  { cls := 13, slots := #[.int (-40)], vm := .none },
  { cls := 13, slots := #[.int (-39)], vm := .none },
  { cls := 13, slots := #[.int (-38)], vm := .none },
  { cls := 13, slots := #[.int (-37)], vm := .none },
  { cls := 13, slots := #[.int (-36)], vm := .none },
  { cls := 13, slots := #[.int (-35)], vm := .none },
  { cls := 13, slots := #[.int (-34)], vm := .none },
  { cls := 13, slots := #[.int (-33)], vm := .none },
  { cls := 13, slots := #[.int (-32)], vm := .none },
  { cls := 13, slots := #[.int (-31)], vm := .none },
  { cls := 13, slots := #[.int (-30)], vm := .none },
  { cls := 13, slots := #[.int (-29)], vm := .none },
  { cls := 13, slots := #[.int (-28)], vm := .none },
  { cls := 13, slots := #[.int (-27)], vm := .none },
  { cls := 13, slots := #[.int (-26)], vm := .none },
  { cls := 13, slots := #[.int (-25)], vm := .none },
  { cls := 13, slots := #[.int (-24)], vm := .none },
  { cls := 13, slots := #[.int (-23)], vm := .none },
  { cls := 13, slots := #[.int (-22)], vm := .none },
  { cls := 13, slots := #[.int (-21)], vm := .none },
  { cls := 13, slots := #[.int (-20)], vm := .none },
  { cls := 13, slots := #[.int (-19)], vm := .none },
  { cls := 13, slots := #[.int (-18)], vm := .none },
  { cls := 13, slots := #[.int (-17)], vm := .none },
  { cls := 13, slots := #[.int (-16)], vm := .none },
  { cls := 13, slots := #[.int (-15)], vm := .none },
  { cls := 13, slots := #[.int (-14)], vm := .none },
  { cls := 13, slots := #[.int (-13)], vm := .none },
  { cls := 13, slots := #[.int (-12)], vm := .none },
  { cls := 13, slots := #[.int (-11)], vm := .none },
  { cls := 13, slots := #[.int (-10)], vm := .none },
  { cls := 13, slots := #[.int (-9)], vm := .none },
  { cls := 13, slots := #[.int (-8)], vm := .none },
  { cls := 13, slots := #[.int (-7)], vm := .none },
  { cls := 13, slots := #[.int (-6)], vm := .none },
  { cls := 13, slots := #[.int (-5)], vm := .none },
  { cls := 13, slots := #[.int (-4)], vm := .none },
  { cls := 13, slots := #[.int (-3)], vm := .none },
  { cls := 13, slots := #[.int (-2)], vm := .none },
  { cls := 13, slots := #[.int (-1)], vm := .none },
  { cls := 13, slots := #[.int 0], vm := .none },
  { cls := 13, slots := #[.int 1], vm := .none },
  { cls := 13, slots := #[.int 2], vm := .none },
  { cls := 13, slots := #[.int 3], vm := .none },
  { cls := 13, slots := #[.int 4], vm := .none },
  { cls := 13, slots := #[.int 5], vm := .none },
  { cls := 13, slots := #[.int 6], vm := .none },
  { cls := 13, slots := #[.int 7], vm := .none },
  { cls := 13, slots := #[.int 8], vm := .none },
  { cls := 13, slots := #[.int 9], vm := .none },
  { cls := 13, slots := #[.int 10], vm := .none },
  { cls := 13, slots := #[.int 11], vm := .none },
  { cls := 13, slots := #[.int 12], vm := .none },
  { cls := 13, slots := #[.int 13], vm := .none },
  { cls := 13, slots := #[.int 14], vm := .none },
  { cls := 13, slots := #[.int 15], vm := .none },
  { cls := 13, slots := #[.int 16], vm := .none },
  { cls := 13, slots := #[.int 17], vm := .none },
  { cls := 13, slots := #[.int 18], vm := .none },
  { cls := 13, slots := #[.int 19], vm := .none },
  { cls := 13, slots := #[.int 20], vm := .none },
  { cls := 13, slots := #[.int 21], vm := .none },
  { cls := 13, slots := #[.int 22], vm := .none },
  { cls := 13, slots := #[.int 23], vm := .none },
  { cls := 13, slots := #[.int 24], vm := .none },
  { cls := 13, slots := #[.int 25], vm := .none },
  { cls := 13, slots := #[.int 26], vm := .none },
  { cls := 13, slots := #[.int 27], vm := .none },
  { cls := 13, slots := #[.int 28], vm := .none },
  { cls := 13, slots := #[.int 29], vm := .none },
  { cls := 13, slots := #[.int 30], vm := .none },
  { cls := 13, slots := #[.int 31], vm := .none },
  { cls := 13, slots := #[.int 32], vm := .none },
  { cls := 13, slots := #[.int 33], vm := .none },
  { cls := 13, slots := #[.int 34], vm := .none },
  { cls := 13, slots := #[.int 35], vm := .none },
  { cls := 13, slots := #[.int 36], vm := .none },
  { cls := 13, slots := #[.int 37], vm := .none },
  { cls := 13, slots := #[.int 38], vm := .none },
  { cls := 13, slots := #[.int 39], vm := .none },
  { cls := 13, slots := #[.int 40], vm := .none },
  { cls := 13, slots := #[.int 41], vm := .none },
  { cls := 13, slots := #[.int 42], vm := .none },
  { cls := 13, slots := #[.int 43], vm := .none },
  { cls := 13, slots := #[.int 44], vm := .none },
  { cls := 13, slots := #[.int 45], vm := .none },
  { cls := 13, slots := #[.int 46], vm := .none },
  { cls := 13, slots := #[.int 47], vm := .none },
  { cls := 13, slots := #[.int 48], vm := .none },
  { cls := 13, slots := #[.int 49], vm := .none },
  { cls := 13, slots := #[.int 50], vm := .none },
  { cls := 13, slots := #[.int 51], vm := .none },
  { cls := 13, slots := #[.int 52], vm := .none },
  { cls := 13, slots := #[.int 53], vm := .none },
  { cls := 13, slots := #[.int 54], vm := .none },
  { cls := 13, slots := #[.int 55], vm := .none },
  { cls := 13, slots := #[.int 56], vm := .none },
  { cls := 13, slots := #[.int 57], vm := .none },
  { cls := 13, slots := #[.int 58], vm := .none },
  { cls := 13, slots := #[.int 59], vm := .none },
  { cls := 13, slots := #[.int 60], vm := .none },
  { cls := 13, slots := #[.int 61], vm := .none },
  { cls := 13, slots := #[.int 62], vm := .none },
  { cls := 13, slots := #[.int 63], vm := .none },
  { cls := 13, slots := #[.int 64], vm := .none },
  { cls := 13, slots := #[.int 65], vm := .none },
  { cls := 13, slots := #[.int 66], vm := .none },
  { cls := 13, slots := #[.int 67], vm := .none },
  { cls := 13, slots := #[.int 68], vm := .none },
  { cls := 13, slots := #[.int 69], vm := .none },
  { cls := 13, slots := #[.int 70], vm := .none },
  { cls := 13, slots := #[.int 71], vm := .none },
  { cls := 13, slots := #[.int 72], vm := .none },
  { cls := 13, slots := #[.int 73], vm := .none },
  { cls := 13, slots := #[.int 74], vm := .none },
  { cls := 13, slots := #[.int 75], vm := .none },
  { cls := 13, slots := #[.int 76], vm := .none },
  { cls := 13, slots := #[.int 77], vm := .none },
  { cls := 13, slots := #[.int 78], vm := .none },
  { cls := 13, slots := #[.int 79], vm := .none },
  { cls := 13, slots := #[.int 80], vm := .none },
  { cls := 13, slots := #[.int 81], vm := .none },
  { cls := 13, slots := #[.int 82], vm := .none },
  { cls := 13, slots := #[.int 83], vm := .none },
  { cls := 13, slots := #[.int 84], vm := .none },
  { cls := 13, slots := #[.int 85], vm := .none },
  { cls := 13, slots := #[.int 86], vm := .none },
  { cls := 13, slots := #[.int 87], vm := .none },
  { cls := 13, slots := #[.int 88], vm := .none },
  { cls := 13, slots := #[.int 89], vm := .none },
  { cls := 13, slots := #[.int 90], vm := .none },
  { cls := 13, slots := #[.int 91], vm := .none },
  { cls := 13, slots := #[.int 92], vm := .none },
  { cls := 13, slots := #[.int 93], vm := .none },
  { cls := 13, slots := #[.int 94], vm := .none },
  { cls := 13, slots := #[.int 95], vm := .none },
  { cls := 13, slots := #[.int 96], vm := .none },
  { cls := 13, slots := #[.int 97], vm := .none },
  { cls := 13, slots := #[.int 98], vm := .none },
  { cls := 13, slots := #[.int 99], vm := .none },
  { cls := 13, slots := #[.int 100], vm := .none },
  { cls := 13, slots := #[.int 101], vm := .none },
  { cls := 13, slots := #[.int 102], vm := .none },
  { cls := 13, slots := #[.int 103], vm := .none },
  { cls := 13, slots := #[.int 104], vm := .none },
  { cls := 13, slots := #[.int 105], vm := .none },
  { cls := 13, slots := #[.int 106], vm := .none },
  { cls := 13, slots := #[.int 107], vm := .none },
  { cls := 13, slots := #[.int 108], vm := .none },
  { cls := 13, slots := #[.int 109], vm := .none },
  { cls := 13, slots := #[.int 110], vm := .none },
  { cls := 13, slots := #[.int 111], vm := .none },
  { cls := 13, slots := #[.int 112], vm := .none },
  { cls := 13, slots := #[.int 113], vm := .none },
  { cls := 13, slots := #[.int 114], vm := .none },
  { cls := 13, slots := #[.int 115], vm := .none },
  { cls := 13, slots := #[.int 116], vm := .none },
  { cls := 13, slots := #[.int 117], vm := .none },
  { cls := 13, slots := #[.int 118], vm := .none },
  { cls := 13, slots := #[.int 119], vm := .none },
  { cls := 13, slots := #[.int 120], vm := .none },
  { cls := 13, slots := #[.int 121], vm := .none },
  { cls := 13, slots := #[.int 122], vm := .none },
  { cls := 13, slots := #[.int 123], vm := .none },
  { cls := 13, slots := #[.int 124], vm := .none },
  { cls := 13, slots := #[.int 125], vm := .none },
  { cls := 13, slots := #[.int 126], vm := .none },
  { cls := 13, slots := #[.int 127], vm := .none }]
def classes : Array Class := #[k0, k1, k2, k3, k4, k5, k6, k7, k8, k9, k10, k11, k12, k13, k14, k15, k16, k17, k18, k19, k20, k21, k22, k23]
def interned : List (Array UInt16 × Addr) := []
def slotsUsed : Nat := 517
def theMethod : MethodId := ⟨1, 1⟩
def args0 : Array Value := #[.long 3, .long 4, .int 7, .int 8]
def aboutOver (below : List Frame) : State where
  vm := { classes := classes, interned := interned.toArray }
  heap := heap
  slotsUsed := slotsUsed
  threads := #[{ frames := .invoking theMethod args0 :: below }]
def below0 : List Frame := [.native { method := ⟨0, 0⟩, args := #[] }]
def about1 : State := aboutOver below0
def p0 : Program := .bare "" "" ""
def e0 : Env := launch0.env 0 0 0
theorem w_frames : about1.frames = Frame.invoking theMethod args0 :: below0 := rfl
set_option maxRecDepth 65536 in
theorem w_args : argsFit about1.vm theMethod args0 = true := by decide +kernel
set_option maxRecDepth 65536 in
theorem w_heap : heapFits about1 = true := by decide +kernel
set_option maxRecDepth 65536 in
theorem w_runnable : about1.curStatus? = some .runnable := by decide +kernel
set_option maxRecDepth 65536 in
theorem w_alone : about1.alone = true := by decide +kernel
set_option maxRecDepth 65536 in
theorem w_named : about1.methodNamed? x = some theMethod := by decide +kernel
set_option maxRecDepth 65536 in
theorem w_hears : about1.hears theMethod below0 = true := by decide +kernel
set_option maxRecDepth 65536 in
theorem w_ripe : about1.ripe theMethod args0 below0 = true := by decide +kernel
theorem w_running : about1.status = .running := rfl
set_option maxRecDepth 65536 in
theorem w_room : about1.hasRoom e0.platform room_1 = true :=
  launch0.hasRoom_least _ room_1 (by decide +kernel) (by decide +kernel) (by decide +kernel) (by decide +kernel) (by decide +kernel) (by decide +kernel)
theorem allAtoms_all (ts : List Jvm.Cond) (a : Array Jvm.Value) (st : Jvm.State) : (allAtoms ts).before a st = ts.all (fun c => c.before a st) := by
  induction ts with
  | nil => rfl
  | cons c t ih =>
    show (Jvm.Cond.and c (allAtoms t)).before a st = _
    rw [Jvm.Cond.before_and, ih, List.all_cons]
def words1 : List Jvm.Cond := Jvm.Cond.code x code maxLocals ret :: tables_1
/-- a 'code' word, met by the world's own term for the bytes: nothing is compared byte by byte -/
theorem code_word {y : MethodName} {bytes : ByteArray} {mx : Nat} {rt : Option FieldType} {a : Array Value} {s : State} {m : MethodId} {meth : Method} {c : Code} (h1 : s.methodNamed? y = some m) (h2 : s.vm.method? m = some meth) (h3 : meth.code = some c) (h4 : c.code = bytes)
    (h5 : (c.maxLocals == mx && c.exceptionTable.isEmpty && decide (c.maxStack ≤ mostOperands) && decide (meth.sig.returnType = rt) && !meth.locks && decide (parseMethodDescriptor y.desc = some meth.sig)) = true) : (Jvm.Cond.code y bytes mx rt).before a s = true := by
  simp only [Bool.and_eq_true, beq_iff_eq, Bool.not_eq_true', decide_eq_true_eq] at h5
  obtain ⟨⟨⟨⟨⟨g1, g2⟩, g3⟩, g4⟩, g5⟩, g6⟩ := h5
  simp [Cond.before, Cond.holds, Cond.value, h1, h2, h3, h4, g1, g2, g3, g4, g5, g6]
def isCode : Jvm.Cond → Bool
  | .code _ _ _ _ => true
  | _ => false
theorem all_split {L : List Jvm.Cond} {P : Jvm.Cond → Bool} (h1 : L.all (fun c => isCode c || P c) = true) (h2 : ∀ c ∈ L.filter isCode, P c = true) : L.all P = true := by
  refine List.all_eq_true.mpr fun c hc => ?_
  have h := List.all_eq_true.mp h1 c hc
  rcases Bool.eq_false_or_eq_true (isCode c) with hi | hi
  · exact h2 c (List.mem_filter.mpr ⟨hc, hi⟩)
  · simpa [hi] using h
set_option maxRecDepth 65536 in
theorem w_c0 : (Jvm.Cond.code x code maxLocals ret).before args0 about1 = true := code_word (m := ⟨1, 1⟩) (meth := k1m1) (c := k1c1) (by decide +kernel) rfl rfl rfl (by decide +kernel)
set_option maxRecDepth 65536 in
theorem w_c1 : (Jvm.Cond.code ({ cls := "com/example/tidemark/tidemark/Expiry", name := "<init>", desc := "(JJ)V" } : Jvm.MethodName) prog_22_method_1_code (5 : Nat) (Option.none : Option Jvm.ClassFile.FieldType)).before args0 about1 = true := code_word (m := ⟨3, 0⟩) (meth := k3m0) (c := k3c0) (by decide +kernel) rfl rfl rfl (by decide +kernel)
set_option maxRecDepth 65536 in
theorem w_c2 : (Jvm.Cond.code ({ cls := "java/lang/Record", name := "<init>", desc := "()V" } : Jvm.MethodName) jdk_30_method_1_code (1 : Nat) (Option.none : Option Jvm.ClassFile.FieldType)).before args0 about1 = true := code_word (m := ⟨2, 0⟩) (meth := k2m0) (c := k2c0) (by decide +kernel) rfl rfl rfl (by decide +kernel)
set_option maxRecDepth 65536 in
theorem w_c3 : (Jvm.Cond.code ({ cls := "java/lang/Object", name := "<init>", desc := "()V" } : Jvm.MethodName) object_method_1_code (1 : Nat) (Option.none : Option Jvm.ClassFile.FieldType)).before args0 about1 = true := code_word (m := ⟨0, 0⟩) (meth := k0m0) (c := k0c0) (by decide +kernel) rfl rfl rfl (by decide +kernel)
set_option maxRecDepth 65536 in
theorem w_c4 : (Jvm.Cond.code ({ cls := "com/example/tidemark/tidemark/Expiry", name := "requireLimit", desc := "(Ljava/lang/String;J)V" } : Jvm.MethodName) prog_22_method_9_code (3 : Nat) (Option.none : Option Jvm.ClassFile.FieldType)).before args0 about1 = true := code_word (m := ⟨3, 4⟩) (meth := k3m4) (c := k3c4) (by decide +kernel) rfl rfl rfl (by decide +kernel)
set_option maxRecDepth 65536 in
theorem w_c5 : (Jvm.Cond.code ({ cls := "com/example/tidemark/tidemark/Deadlines", name := "<init>", desc := "()V" } : Jvm.MethodName) prog_14_method_1_code (2 : Nat) (Option.none : Option Jvm.ClassFile.FieldType)).before args0 about1 = true := code_word (m := ⟨10, 0⟩) (meth := k10m0) (c := k10c0) (by decide +kernel) rfl rfl rfl (by decide +kernel)
set_option maxRecDepth 65536 in
theorem w_c6 : (Jvm.Cond.code ({ cls := "java/lang/Integer", name := "valueOf", desc := "(I)Ljava/lang/Integer;" } : Jvm.MethodName) jdk_33_method_22_code (1 : Nat) (Option.some (Jvm.ClassFile.FieldType.object "java/lang/Integer"))).before args0 about1 = true := code_word (m := ⟨13, 0⟩) (meth := k13m0) (c := k13c0) (by decide +kernel) rfl rfl rfl (by decide +kernel)
set_option maxRecDepth 65536 in
theorem w_c7 : (Jvm.Cond.code ({ cls := "com/example/tidemark/tidemark/MemoryEntry", name := "<init>", desc := "(Ljava/lang/Object;Ljava/lang/Object;Lcom/example/tidemark/tidemark/Expiry;JJ)V" } : Jvm.MethodName) prog_41_method_1_code (8 : Nat) (Option.none : Option Jvm.ClassFile.FieldType)).before args0 about1 = true := code_word (m := ⟨11, 0⟩) (meth := k11m0) (c := k11c0) (by decide +kernel) rfl rfl rfl (by decide +kernel)
set_option maxRecDepth 65536 in
theorem w_c8 : (Jvm.Cond.code ({ cls := "com/example/tidemark/tidemark/MemoryEntry", name := "write", desc := "(Ljava/lang/Object;Lcom/example/tidemark/tidemark/Expiry;J)V" } : Jvm.MethodName) prog_41_method_2_code (5 : Nat) (Option.none : Option Jvm.ClassFile.FieldType)).before args0 about1 = true := code_word (m := ⟨11, 1⟩) (meth := k11m1) (c := k11c1) (by decide +kernel) rfl rfl rfl (by decide +kernel)
set_option maxRecDepth 65536 in
theorem w_c9 : (Jvm.Cond.code ({ cls := "com/example/tidemark/tidemark/MemoryEntry", name := "restart", desc := "(J)V" } : Jvm.MethodName) prog_41_method_6_code (3 : Nat) (Option.none : Option Jvm.ClassFile.FieldType)).before args0 about1 = true := code_word (m := ⟨11, 2⟩) (meth := k11m2) (c := k11c2) (by decide +kernel) rfl rfl rfl (by decide +kernel)
set_option maxRecDepth 65536 in
theorem w_c10 : (Jvm.Cond.code ({ cls := "com/example/tidemark/tidemark/Expiry", name := "canExpire", desc := "()Z" } : Jvm.MethodName) prog_22_method_5_code (1 : Nat) (Option.some Jvm.ClassFile.FieldType.boolean)).before args0 about1 = true := code_word (m := ⟨3, 1⟩) (meth := k3m1) (c := k3c1) (by decide +kernel) rfl rfl rfl (by decide +kernel)
set_option maxRecDepth 65536 in
theorem w_c11 : (Jvm.Cond.code ({ cls := "com/example/tidemark/tidemark/Deadlines", name := "unfile", desc := "(Lcom/example/tidemark/tidemark/MemoryEntry;)V" } : Jvm.MethodName) prog_14_method_4_code (2 : Nat) (Option.none : Option Jvm.ClassFile.FieldType)).before args0 about1 = true := code_word (m := ⟨10, 3⟩) (meth := k10m3) (c := k10c3) (by decide +kernel) rfl rfl rfl (by decide +kernel)
set_option maxRecDepth 65536 in
theorem w_c12 : (Jvm.Cond.code ({ cls := "com/example/tidemark/tidemark/Deadlines", name := "size", desc := "()J" } : Jvm.MethodName) prog_14_method_2_code (1 : Nat) (Option.some Jvm.ClassFile.FieldType.long)).before args0 about1 = true := code_word (m := ⟨10, 1⟩) (meth := k10m1) (c := k10c1) (by decide +kernel) rfl rfl rfl (by decide +kernel)
set_option maxRecDepth 65536 in
theorem w_c13 : (Jvm.Cond.code ({ cls := "com/example/tidemark/tidemark/Deadlines", name := "refile", desc := "(Lcom/example/tidemark/tidemark/MemoryEntry;J)V" } : Jvm.MethodName) prog_14_method_3_code (5 : Nat) (Option.none : Option Jvm.ClassFile.FieldType)).before args0 about1 = true := code_word (m := ⟨10, 2⟩) (meth := k10m2) (c := k10c2) (by decide +kernel) rfl rfl rfl (by decide +kernel)
set_option maxRecDepth 65536 in
theorem w_c14 : (Jvm.Cond.code ({ cls := "com/example/tidemark/tidemark/MemoryEntry", name := "deadline", desc := "()J" } : Jvm.MethodName) prog_41_method_9_code (1 : Nat) (Option.some Jvm.ClassFile.FieldType.long)).before args0 about1 = true := code_word (m := ⟨11, 3⟩) (meth := k11m3) (c := k11c3) (by decide +kernel) rfl rfl rfl (by decide +kernel)
set_option maxRecDepth 65536 in
theorem w_c15 : (Jvm.Cond.code ({ cls := "com/example/tidemark/tidemark/Expiry", name := "deadline", desc := "(JJ)J" } : Jvm.MethodName) prog_22_method_6_code (5 : Nat) (Option.some Jvm.ClassFile.FieldType.long)).before args0 about1 = true := code_word (m := ⟨3, 2⟩) (meth := k3m2) (c := k3c2) (by decide +kernel) rfl rfl rfl (by decide +kernel)
set_option maxRecDepth 65536 in
theorem w_c16 : (Jvm.Cond.code ({ cls := "com/example/tidemark/tidemark/Expiry", name := "end", desc := "(JJ)J" } : Jvm.MethodName) prog_22_method_7_code (4 : Nat) (Option.some Jvm.ClassFile.FieldType.long)).before args0 about1 = true := code_word (m := ⟨3, 3⟩) (meth := k3m3) (c := k3c3) (by decide +kernel) rfl rfl rfl (by decide +kernel)
set_option maxRecDepth 65536 in
theorem w_c17 : (Jvm.Cond.code ({ cls := "java/lang/Math", name := "min", desc := "(JJ)J" } : Jvm.MethodName) jdk_29_method_70_code (4 : Nat) (Option.some Jvm.ClassFile.FieldType.long)).before args0 about1 = true := code_word (m := ⟨15, 1⟩) (meth := k15m1) (c := k15c1) (by decide +kernel) rfl rfl rfl (by decide +kernel)
set_option maxRecDepth 65536 in
theorem w_c18 : (Jvm.Cond.code ({ cls := "com/example/tidemark/tidemark/Deadlines", name := "slotOf", desc := "(J)I" } : Jvm.MethodName) prog_14_method_7_code (5 : Nat) (Option.some Jvm.ClassFile.FieldType.int)).before args0 about1 = true := code_word (m := ⟨10, 4⟩) (meth := k10m4) (c := k10c4) (by decide +kernel) rfl rfl rfl (by decide +kernel)
set_option maxRecDepth 65536 in
theorem w_c19 : (Jvm.Cond.code ({ cls := "java/lang/Long", name := "numberOfLeadingZeros", desc := "(J)I" } : Jvm.MethodName) jdk_35_method_48_code (3 : Nat) (Option.some Jvm.ClassFile.FieldType.int)).before args0 about1 = true := code_word (m := ⟨16, 0⟩) (meth := k16m0) (c := k16c0) (by decide +kernel) rfl rfl rfl (by decide +kernel)
set_option maxRecDepth 65536 in
theorem w_c20 : (Jvm.Cond.code ({ cls := "java/lang/Integer", name := "numberOfLeadingZeros", desc := "(I)I" } : Jvm.MethodName) jdk_33_method_47_code (2 : Nat) (Option.some Jvm.ClassFile.FieldType.int)).before args0 about1 = true := code_word (m := ⟨13, 1⟩) (meth := k13m1) (c := k13c1) (by decide +kernel) rfl rfl rfl (by decide +kernel)
set_option maxRecDepth 65536 in
theorem w_c21 : (Jvm.Cond.code ({ cls := "com/example/tidemark/tidemark/Deadlines", name := "link", desc := "(Lcom/example/tidemark/tidemark/MemoryEntry;I)V" } : Jvm.MethodName) prog_14_method_9_code (4 : Nat) (Option.none : Option Jvm.ClassFile.FieldType)).before args0 about1 = true := code_word (m := ⟨10, 5⟩) (meth := k10m5) (c := k10c5) (by decide +kernel) rfl rfl rfl (by decide +kernel)
def codes1 : List Jvm.Cond := [Jvm.Cond.code x code maxLocals ret, Jvm.Cond.code ({ cls := "com/example/tidemark/tidemark/Expiry", name := "<init>", desc := "(JJ)V" } : Jvm.MethodName) prog_22_method_1_code (5 : Nat) (Option.none : Option Jvm.ClassFile.FieldType), Jvm.Cond.code ({ cls := "java/lang/Record", name := "<init>", desc := "()V" } : Jvm.MethodName) jdk_30_method_1_code (1 : Nat) (Option.none : Option Jvm.ClassFile.FieldType), Jvm.Cond.code ({ cls := "java/lang/Object", name := "<init>", desc := "()V" } : Jvm.MethodName) object_method_1_code (1 : Nat) (Option.none : Option Jvm.ClassFile.FieldType), Jvm.Cond.code ({ cls := "com/example/tidemark/tidemark/Expiry", name := "requireLimit", desc := "(Ljava/lang/String;J)V" } : Jvm.MethodName) prog_22_method_9_code (3 : Nat) (Option.none : Option Jvm.ClassFile.FieldType), Jvm.Cond.code ({ cls := "com/example/tidemark/tidemark/Deadlines", name := "<init>", desc := "()V" } : Jvm.MethodName) prog_14_method_1_code (2 : Nat) (Option.none : Option Jvm.ClassFile.FieldType), Jvm.Cond.code ({ cls := "java/lang/Integer", name := "valueOf", desc := "(I)Ljava/lang/Integer;" } : Jvm.MethodName) jdk_33_method_22_code (1 : Nat) (Option.some (Jvm.ClassFile.FieldType.object "java/lang/Integer")), Jvm.Cond.code ({ cls := "com/example/tidemark/tidemark/MemoryEntry", name := "<init>", desc := "(Ljava/lang/Object;Ljava/lang/Object;Lcom/example/tidemark/tidemark/Expiry;JJ)V" } : Jvm.MethodName) prog_41_method_1_code (8 : Nat) (Option.none : Option Jvm.ClassFile.FieldType), Jvm.Cond.code ({ cls := "com/example/tidemark/tidemark/MemoryEntry", name := "write", desc := "(Ljava/lang/Object;Lcom/example/tidemark/tidemark/Expiry;J)V" } : Jvm.MethodName) prog_41_method_2_code (5 : Nat) (Option.none : Option Jvm.ClassFile.FieldType), Jvm.Cond.code ({ cls := "com/example/tidemark/tidemark/MemoryEntry", name := "restart", desc := "(J)V" } : Jvm.MethodName) prog_41_method_6_code (3 : Nat) (Option.none : Option Jvm.ClassFile.FieldType), Jvm.Cond.code ({ cls := "com/example/tidemark/tidemark/Expiry", name := "canExpire", desc := "()Z" } : Jvm.MethodName) prog_22_method_5_code (1 : Nat) (Option.some Jvm.ClassFile.FieldType.boolean), Jvm.Cond.code ({ cls := "com/example/tidemark/tidemark/Deadlines", name := "unfile", desc := "(Lcom/example/tidemark/tidemark/MemoryEntry;)V" } : Jvm.MethodName) prog_14_method_4_code (2 : Nat) (Option.none : Option Jvm.ClassFile.FieldType), Jvm.Cond.code ({ cls := "com/example/tidemark/tidemark/Deadlines", name := "size", desc := "()J" } : Jvm.MethodName) prog_14_method_2_code (1 : Nat) (Option.some Jvm.ClassFile.FieldType.long), Jvm.Cond.code ({ cls := "com/example/tidemark/tidemark/Deadlines", name := "refile", desc := "(Lcom/example/tidemark/tidemark/MemoryEntry;J)V" } : Jvm.MethodName) prog_14_method_3_code (5 : Nat) (Option.none : Option Jvm.ClassFile.FieldType), Jvm.Cond.code ({ cls := "com/example/tidemark/tidemark/MemoryEntry", name := "deadline", desc := "()J" } : Jvm.MethodName) prog_41_method_9_code (1 : Nat) (Option.some Jvm.ClassFile.FieldType.long), Jvm.Cond.code ({ cls := "com/example/tidemark/tidemark/Expiry", name := "deadline", desc := "(JJ)J" } : Jvm.MethodName) prog_22_method_6_code (5 : Nat) (Option.some Jvm.ClassFile.FieldType.long), Jvm.Cond.code ({ cls := "com/example/tidemark/tidemark/Expiry", name := "end", desc := "(JJ)J" } : Jvm.MethodName) prog_22_method_7_code (4 : Nat) (Option.some Jvm.ClassFile.FieldType.long), Jvm.Cond.code ({ cls := "java/lang/Math", name := "min", desc := "(JJ)J" } : Jvm.MethodName) jdk_29_method_70_code (4 : Nat) (Option.some Jvm.ClassFile.FieldType.long), Jvm.Cond.code ({ cls := "com/example/tidemark/tidemark/Deadlines", name := "slotOf", desc := "(J)I" } : Jvm.MethodName) prog_14_method_7_code (5 : Nat) (Option.some Jvm.ClassFile.FieldType.int), Jvm.Cond.code ({ cls := "java/lang/Long", name := "numberOfLeadingZeros", desc := "(J)I" } : Jvm.MethodName) jdk_35_method_48_code (3 : Nat) (Option.some Jvm.ClassFile.FieldType.int), Jvm.Cond.code ({ cls := "java/lang/Integer", name := "numberOfLeadingZeros", desc := "(I)I" } : Jvm.MethodName) jdk_33_method_47_code (2 : Nat) (Option.some Jvm.ClassFile.FieldType.int), Jvm.Cond.code ({ cls := "com/example/tidemark/tidemark/Deadlines", name := "link", desc := "(Lcom/example/tidemark/tidemark/MemoryEntry;I)V" } : Jvm.MethodName) prog_14_method_9_code (4 : Nat) (Option.none : Option Jvm.ClassFile.FieldType)]
set_option maxRecDepth 65536 in
theorem codes_eq : words1.filter isCode = codes1 := rfl
theorem w_codes : ∀ c ∈ words1.filter isCode, c.before args0 about1 = true := by
  rw [codes_eq]
  intro c hc
  simp only [codes1, List.mem_cons, List.not_mem_nil, or_false] at hc
  rcases hc with rfl | rfl | rfl | rfl | rfl | rfl | rfl | rfl | rfl | rfl | rfl | rfl | rfl | rfl | rfl | rfl | rfl | rfl | rfl | rfl | rfl | rfl
  · exact w_c0
  · exact w_c1
  · exact w_c2
  · exact w_c3
  · exact w_c4
  · exact w_c5
  · exact w_c6
  · exact w_c7
  · exact w_c8
  · exact w_c9
  · exact w_c10
  · exact w_c11
  · exact w_c12
  · exact w_c13
  · exact w_c14
  · exact w_c15
  · exact w_c16
  · exact w_c17
  · exact w_c18
  · exact w_c19
  · exact w_c20
  · exact w_c21
set_option maxRecDepth 65536 in
theorem w_t1 : (words1.take 24).all (fun c => isCode c || c.before args0 about1) = true := by decide +kernel
set_option maxRecDepth 65536 in
theorem w_t2 : ((words1.drop 24).take 24).all (fun c => isCode c || c.before args0 about1) = true := by decide +kernel
set_option maxRecDepth 65536 in
theorem w_t3 : (((words1.drop 24).drop 24).take 24).all (fun c => isCode c || c.before args0 about1) = true := by decide +kernel
set_option maxRecDepth 65536 in
theorem w_t4 : ((((words1.drop 24).drop 24).drop 24).take 24).all (fun c => isCode c || c.before args0 about1) = true := by decide +kernel
set_option maxRecDepth 65536 in
theorem w_t5 : (((((words1.drop 24).drop 24).drop 24).drop 24).take 24).all (fun c => isCode c || c.before args0 about1) = true := by decide +kernel
set_option maxRecDepth 65536 in
theorem w_t6 : ((((((words1.drop 24).drop 24).drop 24).drop 24).drop 24).take 24).all (fun c => isCode c || c.before args0 about1) = true := by decide +kernel
set_option maxRecDepth 65536 in
theorem w_t7 : ((((((words1.drop 24).drop 24).drop 24).drop 24).drop 24).drop 24).all (fun c => isCode c || c.before args0 about1) = true := by decide +kernel
theorem w_tables : (allAtoms (Jvm.Cond.code x code maxLocals ret :: tables_1)).before args0 about1 = true := by
  rw [allAtoms_all]
  show words1.all (fun c => c.before args0 about1) = true
  refine all_split ?_ w_codes
  rw [← List.take_append_drop 24 words1, List.all_append, w_t1, ← List.take_append_drop 24 (words1.drop 24), List.all_append, w_t2, ← List.take_append_drop 24 ((words1.drop 24).drop 24), List.all_append, w_t3, ← List.take_append_drop 24 (((words1.drop 24).drop 24).drop 24), List.all_append, w_t4, ← List.take_append_drop 24 ((((words1.drop 24).drop 24).drop 24).drop 24), List.all_append, w_t5, ← List.take_append_drop 24 (((((words1.drop 24).drop 24).drop 24).drop 24).drop 24), List.all_append, w_t6, w_t7]
  rfl
set_option maxRecDepth 65536 in
theorem w_rest : rest_1_c.before args0 about1 = true := by decide +kernel
set_option maxRecDepth 65536 in
theorem w_case : (Jvm.Cond.and given_1 narrow_1).before args0 about1 = true := by decide +kernel
theorem w_applies : (headSpec (Jvm.Cond.code x code maxLocals ret :: tables_1) room_1).applies x e0.platform about1 = true :=
  (Spec.applies_iff w_frames).mpr ⟨w_running, w_runnable, w_alone, w_named, w_hears, w_ripe, w_room, w_tables⟩
theorem atStart : AtStart classFile x code maxLocals ret World_1 tables_1 room_1 Calls_1 rest_1 Pre_1 launch0 p0 e0 about1 theMethod args0 below0 :=
  ⟨lists_1, trivial, launch0.admits_env _ _ _, launch0.least_env, fairChoices_fair.cas, fairChoices_fair.clock, w_frames, w_args, w_heap, w_applies, trivial, w_rest, w_case⟩
end start1
theorem witness_1 : WitnessClaimed_1 := ⟨start1.p0, start1.e0, start1.about1, start1.theMethod, start1.args0, start1.below0, start1.atStart⟩
end Jvm.Pilot.@@N@@
