import JvmDerived
import JvmDerived.Pilot.@@N@@Statement
import JvmDerived.Pilot.@@N@@Code
set_option linter.unusedVariables false
set_option linter.unusedSimpArgs false
namespace Jvm.RoadKit
open Sem ClassFile Op Lib Jvm.Stand Jvm.Free Jvm.LawKit
section New
variable {p : Program} {l : Launch} {e : Env} {R : Room} {s : State} {m : MethodId} {args : Array Value} {below : List Frame} {meth : Method} {c : Code} {T : State} {locs : List Loc} {cells slots : Nat}
theorem retI (X : Stand p l e R s m args below meth c T locs cells slots) (hx : p.tables.exec = Jvm.exec) {pc : Nat} {Ls : Array Slot} {z : Int32} {rest : List Value} (hret : meth.sig.returnType = some .int) (hd : decode c.code pc = .ok (.ireturn, 1)) {fs : List Frame}
    (hl : ∀ (f : JFrame) (acts : List Action), f.method = m → f.locked = none → f.entered = [] → (doReturn e (T.setTop f) acts (some (.int z))).1 = T.setFrames fs) : Steps p.tables e below (T.setTop (mkF m pc Ls (.int z :: rest))) (T.setFrames fs) := by
  have hm' : T.vm.method? m = some meth := X.method'
  have hn : narrow .int (.int z) = .int z := rfl
  show Steps p.tables e below (T.setTop { method := m, pc := pc, locals := Ls, stack := _ :: rest, locked := none }) _
  jvm_step X.here [X.here.top, hx, hd, hm', hret, hn]
  first | (intro acts; rw [hl _ acts rfl rfl rfl]) | rw [hl _ _ rfl rfl rfl]
  exact Steps.refl _
end New
end Jvm.RoadKit
namespace Jvm.Pilot.@@N@@
open Jvm Jvm.ClassFile Sem Op Lib Jvm.Free Jvm.Stand Jvm.LawKit Jvm.RoadKit Bundle Jvm.Pilot.@@N@@.Jvm.D
theorem own_set {Z : State} {h h' : Heap} {a : Addr} {k : ClassId} {ty : FieldType} {z j : Int32} {vs : List Value} {dv v : Value} {c : Cell} (A : Arr Z h a c ty) (q1 : c.cls = k) (S : c.slots.size = z.toNatClampNeg) (q3 : ¬ z < 0) (H : Has c vs dv) (G : ∀ i, i < c.slots.size → fits ty (vs.getD i dv) = true) (hv : fits ty v = true) (W : Wr h h' a j.toNatClampNeg v) (i : Nat) (hj : j.toNatClampNeg = i) (hi : i < vs.length) (v' : Value) (e1 : v = v') (vs' : List Value) (e2 : vs.set i v' = vs') : Arv Z h' a k ty z vs' dv := by
  subst e1; subst e2; exact Arv.set A q1 S q3 H G hv W i hj hi
theorem own_pad {Z : State} {h : Heap} {a : Addr} {k : ClassId} {ty : FieldType} {z : Int32} {dv : Value} (F : Arv Z h a k ty z [] dv) (n : Nat) (vs : List Value) (e : vs = List.replicate n dv) : Arv Z h a k ty z vs dv := e ▸ F.pad (pad_rep [] dv n)
theorem own_irr32 (x : Int32) : ¬ x < x := Int32.lt_irrefl
theorem own_irr64 (x : Int64) : ¬ x < x := Int64.lt_irrefl
theorem own_fldI {args : Array Value} {s : State} {t : Term} {C n d : String} {x : Addr} {k : Int32} (ht : t.eval args s none [] s = some (.ref x)) (h : (Cond.eq (Term.field t C n d) (Term.int k)).value args s none s [] = some true) : Fld s s.heap x C n d (.int k) := Fld.start ((fld_at ht).symm.trans (eqv_i (Term.int_eval k) h))
theorem own_fldJ {args : Array Value} {s : State} {t : Term} {C n d : String} {x : Addr} {k : Int64} (ht : t.eval args s none [] s = some (.ref x)) (h : (Cond.eq (Term.field t C n d) (Term.long k)).value args s none s [] = some true) : Fld s s.heap x C n d (.long k) := Fld.start ((fld_at ht).symm.trans (eqv_l (long_at k) h))
theorem own_len {args : Array Value} {s : State} {t : Term} {x : Addr} {cl : Cell} {ty : FieldType} {k : Int32} (ht : t.eval args s none [] s = some (.ref x)) (A : Arr s s.heap x cl ty) (h : (Cond.eq (Term.length t) (Term.int k)).value args s none s [] = some true) : cl.slots.size.toInt32 = k ∧ cl.slots.size < 2 ^ 31 := by
  have e := eqv_i (Term.int_eval k) h
  have ha := A.fin (Vm.Alike.refl _)
  by_cases q : cl.slots.size < 2 ^ 31
  · have e2 := (len_f ht ha q).symm.trans e
    exact ⟨Value.int.inj (Option.some.inj e2), q⟩
  · simp [Term.eval, ht, ha, q] at e
theorem own_elem {args : Array Value} {s : State} {t u : Term} {x : Addr} {cl : Cell} {ty : FieldType} {k : Int32} {v : Value} (ht : t.eval args s none [] s = some (.ref x)) (A : Arr s s.heap x cl ty) (hu : u.eval args s none [] s = some v) (hv : v.isRef = true) (h : (Cond.eq (Term.elem t (Term.int k)) u).value args s none s [] = some true) : cl.slots[k.toNatClampNeg]? = some v := by
  obtain ⟨a, b, h1, h2, h3, h4⟩ := cmp_v (Or.inl h)
  have hb := Option.some.inj (h2.symm.trans hu)
  subst hb
  obtain ⟨c', e1, e2, e3⟩ := elem_at h1 ht (Term.int_eval k)
  have ec := Option.some.inj (e1.symm.trans A.1)
  subst ec
  have ha : a.isRef = true := by
    rcases ref_cases hv with rfl | ⟨y, rfl⟩
    · exact h4.2
    · exact h4.2
  rw [e3, gotT (eq_R h1 h2 ha hv) h]
def own_KL (h h' : Heap) (ls : List Loc) : Prop := h.size ≤ h'.size ∧ ∀ (x : Addr) (c : Cell), h[x]? = some c → ∃ c' : Cell, h'[x]? = some c' ∧ c'.cls = c.cls ∧ c'.vm = c.vm ∧ c'.slots.size = c.slots.size ∧ ((∀ y ∈ ls, y.base ≠ x) → c' = c) ∧ ∀ i, (⟨x, i⟩ : Loc) ∉ ls → c'.slots[i]? = c.slots[i]?
section OwnKL
variable {Z : State} {h0 h h' : Heap} {ls ls' : List Loc} {a b x : Addr} {i j sl n0 : Nat} {v : Value} {C n d : String}
theorem own_kl0 (h : Heap) (ls : List Loc) : own_KL h h ls := ⟨Nat.le_refl _, fun x c q => ⟨c, q, rfl, rfl, rfl, fun _ => rfl, fun _ _ => rfl⟩⟩
theorem own_klE (K : own_KL h0 h ls) (E : Ext h h') : own_KL h0 h' ls := ⟨Nat.le_trans K.1 E.1, fun x c q => by obtain ⟨c', q', r⟩ := K.2 x c q; exact ⟨c', E.2 x c' q', r⟩⟩
theorem own_klT (K : own_KL h0 h ls) (K' : own_KL h h' ls') (q : ∀ y ∈ ls', y ∈ ls ∨ h0.size ≤ y.base) : own_KL h0 h' ls := by
  refine ⟨Nat.le_trans K.1 K'.1, fun x c hc => ?_⟩
  obtain ⟨c1, a1, a2, a3, a4, a5, a6⟩ := K.2 x c hc
  obtain ⟨c2, b1, b2, b3, b4, b5, b6⟩ := K'.2 x c1 a1
  have hx : x < h0.size := (Array.getElem?_eq_some_iff.mp hc).1
  refine ⟨c2, b1, b2.trans a2, b3.trans a3, b4.trans a4, fun hn => ?_, fun i hi => ?_⟩
  · rw [← a5 hn]; exact b5 fun y hy e => (q y hy).elim (fun z => hn y z e) (fun z => absurd hx (Nat.not_lt.mpr (e ▸ z)))
  · rw [← a6 i hi]; exact b6 i fun z => (q _ z).elim hi (fun u => absurd hx (Nat.not_lt.mpr u))
theorem own_klofW (W : Wr h h' a sl v) : own_KL h h' [⟨a, sl⟩] := by
  refine ⟨Nat.le_of_eq W.size.symm, fun x c hc => ?_⟩
  obtain ⟨c', e1, e2, e3, e4, e5, e6, -⟩ := wr_at W hc
  refine ⟨c', e1, e2, e3, e4, fun hn => e5 fun q => hn _ (List.mem_singleton.mpr rfl) q.symm, fun i hi => ?_⟩
  by_cases q : x = a
  · exact e6 i fun r => hi (by rw [q, r]; exact List.mem_singleton.mpr rfl)
  · rw [e5 q]
theorem own_klW (K : own_KL h0 h ls) (W : Wr h h' a sl v) (q : (⟨a, sl⟩ : Loc) ∈ ls ∨ h0.size ≤ a) : own_KL h0 h' ls := own_klT K (own_klofW W) fun y hy => by cases List.mem_singleton.mp hy; exact q
theorem own_ka0 : ∀ y ∈ ([] : List Loc), y ∈ ls ∨ n0 ≤ y.base := fun _ q => nomatch q
theorem own_kac (q : (⟨a, sl⟩ : Loc) ∈ ls ∨ n0 ≤ a) (r : ∀ y ∈ ls', y ∈ ls ∨ n0 ≤ y.base) : ∀ y ∈ (⟨a, sl⟩ : Loc) :: ls', y ∈ ls ∨ n0 ≤ y.base := fun y z => (List.mem_cons.mp z).elim (fun u => u ▸ q) (r y)
theorem own_ng0 : ∀ y ∈ ([] : List Loc), n0 ≤ y.base := fun _ q => nomatch q
theorem own_ngc (q : n0 ≤ a) (r : ∀ y ∈ ls', n0 ≤ y.base) : ∀ y ∈ (⟨a, sl⟩ : Loc) :: ls', n0 ≤ y.base := fun y z => (List.mem_cons.mp z).elim (fun u => u ▸ q) (r y)
theorem own_nb0 : ∀ y ∈ ([] : List Loc), y.base ≠ a := fun _ q => nomatch q
theorem own_nbc (q : b ≠ a) (r : ∀ y ∈ ls', y.base ≠ a) : ∀ y ∈ (⟨b, sl⟩ : Loc) :: ls', y.base ≠ a := fun y z => (List.mem_cons.mp z).elim (fun u => u ▸ q) (r y)
theorem own_nl0 : (⟨a, i⟩ : Loc) ∉ ([] : List Loc) := fun q => nomatch q
theorem own_nlb (q : a ≠ b) (r : (⟨a, i⟩ : Loc) ∉ ls) : (⟨a, i⟩ : Loc) ∉ (⟨b, j⟩ : Loc) :: ls := fun z => (List.mem_cons.mp z).elim (fun u => q (congrArg Loc.base u)) r
theorem own_nls (q : i ≠ j) (r : (⟨a, i⟩ : Loc) ∉ ls) : (⟨a, i⟩ : Loc) ∉ (⟨b, j⟩ : Loc) :: ls := fun z => (List.mem_cons.mp z).elim (fun u => q (congrArg Loc.slot u)) r
theorem own_exa (F : Exa Z h a C) (K : own_KL h h' ls) : Exa Z h' a C := by
  obtain ⟨cell, k, h1, h2, h3, h4, h5⟩ := F
  obtain ⟨c', e1, e2, e3, e4, -⟩ := K.2 _ _ h1
  exact ⟨c', k, e1, by rw [e2]; exact h2, by rw [e2]; exact h3, by rw [e3]; exact h4, by rw [e4]; exact h5⟩
theorem own_fld (F : Fld Z h a C n d v) (K : own_KL h h' ls) (q : (⟨a, Jvm.RoadKit.slotOf Z C n d⟩ : Loc) ∉ ls) : Fld Z h' a C n d v := by
  obtain ⟨cell, cf, k, i, f, h1, h2, h3, h4, h5, h6, h7⟩ := F
  obtain ⟨c', e1, e2, e3, e4, -, e6⟩ := K.2 _ _ h1
  refine ⟨c', cf, k, i, f, e1, h2, h3, by rw [e3]; exact h4, by rw [e3]; exact h5, by rw [e2]; exact h6, ?_⟩
  rw [e6 _ (by simpa [Jvm.RoadKit.slotOf, h2] using q)]; exact h7
theorem own_arv {k : ClassId} {ty : FieldType} {z : Int32} {vs : List Value} {dv : Value} (F : Arv Z h a k ty z vs dv) (K : own_KL h h' ls) (q : ∀ y ∈ ls, y.base ≠ a) : Arv Z h' a k ty z vs dv := by
  obtain ⟨c, A, r⟩ := F
  obtain ⟨c', e1, -, -, -, e5, -⟩ := K.2 _ _ A.1
  cases e5 q
  exact ⟨c, ⟨e1, A.2⟩, r⟩
theorem own_old (O : Old Z n0 h) (K : own_KL h h' ls) (q : ∀ y ∈ ls, n0 ≤ y.base) : Old Z n0 h' := ⟨O.1, Nat.le_trans O.2.1 K.1, fun x c r => by
  obtain ⟨c', e1, -, -, -, e5, -⟩ := K.2 x c (O.2.2 x c r)
  have hx : x < n0 := O.1 ▸ (Array.getElem?_eq_some_iff.mp r).1
  rw [e1, e5 fun y hy e => absurd hx (Nat.not_lt.mpr (e ▸ q y hy))]⟩
end OwnKL
theorem own_NSroot {Z : State} {a0 : Array Value} {O K : String} {n : Nat} (w : (Cond.noSuperclass O).before a0 Z = true) (wk : (Cond.instantiable K n).before a0 Z = true) (hn : O ≠ K) : NS Z O K := by
  obtain ⟨c, k, h1, h2, h3, -, -⟩ := Cond.noSuperclass_spec w
  obtain ⟨t, -, g1, -⟩ := Cond.instantiable_spec wk
  have ne := ids_ne h1 g1 hn
  refine ⟨c, t, h1, g1, fun fuel => ?_⟩
  cases fuel with
  | zero => rfl
  | succ f => simp [Vm.isSubclassAux, ne, h2, h3]
theorem own_NSno {Z : State} {a0 : Array Value} {C S K : String} {n : Nat} (w : (Cond.superclass C S).before a0 Z = true) (wk : (Cond.instantiable K n).before a0 Z = true) (u : NS Z C K) (hn : C ≠ K) : ∃ c t, Z.vm.findClass C = some c ∧ Z.vm.findClass K = some t ∧ Z.vm.assignable c t = false := by
  obtain ⟨c, t, h0, g0, n3⟩ := u
  obtain ⟨p, k, kp, h1, h2, h3, h4, h5, -, h7⟩ := Cond.superclass_spec h0 w
  obtain ⟨t', k', g1, g2, g5, g7, -⟩ := Cond.instantiable_spec wk
  cases g0.symm.trans g1
  have ne := ids_ne h0 g0 hn
  have g8 : k'.isInterface = false := by cases hI : k'.isInterface <;> simp [hI] at g7 ⊢
  refine ⟨c, t, h0, g0, ?_⟩
  show Z.vm.assignableAux (255 + 1) c t = false
  simp [Vm.assignableAux, ne, h2, g2, h5, g5, g8, Vm.isSubclass, n3]
theorem own_boxI {Z : State} {args : Array Value} {t : Term} {a : Addr} {c : Cell} {K : String} {z : Int32} (et : ∀ idx, t.eval args Z none idx Z = some (.ref a)) (A : Arr Z Z.heap a c (.object K)) (q : c.slots.size.toInt32 = z ∧ c.slots.size < 2 ^ 31) (hz : ¬ z < 0)
    (h : (Cond.all t (.and (.exactly (.elem t (.index 0)) K) (.eq (.field (.elem t (.index 0)) K "value" "I") (.sub (.index 0) (.int 128))))).value args Z none Z [] = some true) : Bxs Z a c K "I" z (fun j => .int (j - 128)) :=
  Bxs.start et A q.2 q.1 hz h fun X j nn hh => eqv_i (by simp [Term.eval, idx_at nn, (back32 nn).1]) hh
theorem own_boxJ {Z : State} {args : Array Value} {t : Term} {a : Addr} {c : Cell} {K : String} {z : Int32} (et : ∀ idx, t.eval args Z none idx Z = some (.ref a)) (A : Arr Z Z.heap a c (.object K)) (q : c.slots.size.toInt32 = z ∧ c.slots.size < 2 ^ 31) (hz : ¬ z < 0)
    (h : (Cond.all t (.and (.exactly (.elem t (.index 0)) K) (.eq (.field (.elem t (.index 0)) K "value" "J") (.op1 .i2l (.sub (.index 0) (.int 128)))))).value args Z none Z [] = some true) : Bxs Z a c K "J" z (fun j => .long (j - 128).toInt64) :=
  Bxs.start et A q.2 q.1 hz h fun X j nn hh => eqv_l (i2l_at (by simp [Term.eval, idx_at nn, (back32 nn).1])) hh
theorem own_staI {s : State} {args : Array Value} {C n d : String} {k : Int32} (h : (Cond.eq (Term.static C n d) (Term.int k)).value args s none s [] = some true) : (Term.static C n d).eval args s none [] s = some (.int k) := eqv_i (Term.int_eval k) h
theorem own_selp {Z : State} {a0 : Array Value} {y : MethodName} {n : Nat} (wi : (Cond.instantiable y.cls n).before a0 Z = true) (wp : (Cond.privateMethod y).before a0 Z = true) (wm : (Cond.instanceMethod y).before a0 Z = true) (hy : y.cls ≠ "java/lang/invoke/MethodHandle" ∧ y.cls ≠ "java/lang/invoke/VarHandle") : (Cond.selects y.cls y y).before a0 Z = true := by
  obtain ⟨c, k, h1, h2, -, h4, -⟩ := Cond.instantiable_spec wi
  exact selects_self_of_private h1 h2 (by cases hI : k.isInterface <;> simp [hI] at h4 ⊢) (Cond.privateMethod_at wp) wm hy
def own_Gk (Z : State) (h : Heap) (a : Addr) (k : ClassId) (ty : FieldType) (n j : Int32) (v : Value) : Prop := ∃ c : Cell, Arr Z h a c ty ∧ c.cls = k ∧ c.slots.size = n.toNatClampNeg ∧ ¬ n < 0 ∧ c.slots[j.toNatClampNeg]? = some v
section OwnGk
variable {Z : State} {h h' : Heap} {ls : List Loc} {a b : Addr} {k : ClassId} {ty : FieldType} {n j : Int32} {v u : Value} {sl : Nat}
theorem own_Gk.lt (F : own_Gk Z h a k ty n j v) : a < h.size := by obtain ⟨c, A, -⟩ := F; exact A.lt
theorem own_gk_ext (F : own_Gk Z h a k ty n j v) (E : Ext h h') : own_Gk Z h' a k ty n j v := by obtain ⟨c, A, r⟩ := F; exact ⟨c, A.ext E, r⟩
theorem own_gk_oth (F : own_Gk Z h a k ty n j v) (W : Wr h h' b sl u) (q : a ≠ b) : own_Gk Z h' a k ty n j v := by obtain ⟨c, A, r⟩ := F; exact ⟨c, A.other W q, r⟩
theorem own_gk_kl (F : own_Gk Z h a k ty n j v) (K : own_KL h h' ls) (q : ∀ y ∈ ls, y.base ≠ a) : own_Gk Z h' a k ty n j v := by
  obtain ⟨c, A, r⟩ := F
  obtain ⟨c', e1, -, -, -, e5, -⟩ := K.2 _ _ A.1
  cases e5 q
  exact ⟨c, ⟨e1, A.2⟩, r⟩
theorem own_gk_set {c : Cell} (A : Arr Z h a c ty) (q1 : c.cls = k) (S : c.slots.size = n.toNatClampNeg) (N : ¬ n < 0) (W : Wr h h' a j.toNatClampNeg v) : own_Gk Z h' a k ty n j v := by
  obtain ⟨c', e1, e2, e3, e4, -, -, e7⟩ := wr_at W A.1
  have e8 := (e7 rfl).1
  exact ⟨_, A.same W, q1, by rw [sz_set]; exact S, N, by rw [← e8]; exact (e7 rfl).2.1⟩
end OwnGk
section OwnSteps
variable {p : Program} {l : Launch} {e : Env} {R : Room} {s : State} {m : MethodId} {args : Array Value} {below : List Frame} {meth : Method} {c : Code} {T target : State} {locs : List Loc} {cells slots : Nat} {code : ByteArray} {pc : Nat} {Ls : Array Slot} {K : List Value}
theorem sc (X : Stand p l e R s m args below meth c T locs cells slots) (hx : p.tables.exec = Jvm.exec) (hby : c.code = code) {i : Int} (hd : decode code pc = .ok (.iconst i, 1)) (hr : Steps p.tables e below (T.setTop (mkF m (pc + 1) Ls (.int (Int32.ofInt i) :: K))) target) : Steps p.tables e below (T.setTop (mkF m pc Ls K)) target := XS.iconst X.here hx rfl (hb hby hd) hr
theorem sa (X : Stand p l e R s m args below meth c T locs cells slots) (hx : p.tables.exec = Jvm.exec) (hby : c.code = code) {k : Nat} {v : Value} (hd : decode code pc = .ok (.aload k, 2)) (hl : Ls[k]? = some (.val v)) (hv : v.isRef = true) (hr : Steps p.tables e below (T.setTop (mkF m (pc + 2) Ls (v :: K))) target) : Steps p.tables e below (T.setTop (mkF m pc Ls K)) target := XS.aload X.here hx rfl (hb hby hd) hl hv hr
theorem sA (X : Stand p l e R s m args below meth c T locs cells slots) (hx : p.tables.exec = Jvm.exec) (hby : c.code = code) {k : Fin 4} {v : Value} (hd : decode code pc = .ok (.aload_n k, 1)) (hl : Ls[k.val]? = some (.val v)) (hv : v.isRef = true) (hr : Steps p.tables e below (T.setTop (mkF m (pc + 1) Ls (v :: K))) target) : Steps p.tables e below (T.setTop (mkF m pc Ls K)) target := XS.aloadN X.here hx rfl (hb hby hd) hl hv hr
theorem si (X : Stand p l e R s m args below meth c T locs cells slots) (hx : p.tables.exec = Jvm.exec) (hby : c.code = code) {k : Nat} {v : Int32} (hd : decode code pc = .ok (.iload k, 2)) (hl : Ls[k]? = some (.val (.int v))) (hr : Steps p.tables e below (T.setTop (mkF m (pc + 2) Ls (.int v :: K))) target) : Steps p.tables e below (T.setTop (mkF m pc Ls K)) target := XS.iload X.here hx rfl (hb hby hd) hl hr
theorem sI (X : Stand p l e R s m args below meth c T locs cells slots) (hx : p.tables.exec = Jvm.exec) (hby : c.code = code) {k : Fin 4} {v : Int32} (hd : decode code pc = .ok (.iload_n k, 1)) (hl : Ls[k.val]? = some (.val (.int v))) (hr : Steps p.tables e below (T.setTop (mkF m (pc + 1) Ls (.int v :: K))) target) : Steps p.tables e below (T.setTop (mkF m pc Ls K)) target := XS.iloadN X.here hx rfl (hb hby hd) hl hr
theorem sL (X : Stand p l e R s m args below meth c T locs cells slots) (hx : p.tables.exec = Jvm.exec) (hby : c.code = code) {k : Fin 4} {v : Int64} (hd : decode code pc = .ok (.lload_n k, 1)) (hl : Ls[k.val]? = some (.val (.long v))) (hr : Steps p.tables e below (T.setTop (mkF m (pc + 1) Ls (.long v :: K))) target) : Steps p.tables e below (T.setTop (mkF m pc Ls K)) target := XS.lloadN X.here hx rfl (hb hby hd) hl hr
theorem sg (X : Stand p l e R s m args below meth c T locs cells slots) (hx : p.tables.exec = Jvm.exec) (hby : c.code = code) {o : Int} {pc' : Nat} (hd : decode code pc = .ok (.goto o, 3)) (ho : 0 ≤ (pc : Int) + o) (hp : ((pc : Int) + o).toNat = pc') (hr : Steps p.tables e below (T.setTop (mkF m pc' Ls K)) target) : Steps p.tables e below (T.setTop (mkF m pc Ls K)) target := XS.goto X.here hx rfl rfl (hb hby hd) ho hp hr
theorem sn (X : Stand p l e R s m args below meth c T locs cells slots) (hx : p.tables.exec = Jvm.exec) (hby : c.code = code) {cd : ClassFile.Cond} {o : Int} {x y : Int32} (hd : decode code pc = .ok (.if_icmp cd o, 3)) (hc : if_icmp.holds cd x y = false) (hr : Steps p.tables e below (T.setTop (mkF m (pc + 3) Ls K)) target) : Steps p.tables e below (T.setTop (mkF m pc Ls (.int y :: .int x :: K))) target := XS.icmpNo X.here hx rfl (hb hby hd) rfl hc hr
theorem sN (X : Stand p l e R s m args below meth c T locs cells slots) (hx : p.tables.exec = Jvm.exec) (hby : c.code = code) {cd : ClassFile.Cond} {o : Int} {x : Int32} (hd : decode code pc = .ok (.ifCond cd o, 3)) (hc : ifCond.holds cd x = false) (hr : Steps p.tables e below (T.setTop (mkF m (pc + 3) Ls K)) target) : Steps p.tables e below (T.setTop (mkF m pc Ls (.int x :: K))) target := XS.ifNo X.here hx rfl (hb hby hd) rfl hc hr
end OwnSteps

theorem own_and1 (x : Int32) : x &&& 1 = 0 ∨ x &&& 1 = 1 := by
  have h : (x &&& 1).toInt = x.toInt % 2 := c_mask x 1 1 (by decide) (by decide)
  have hr : (x &&& 1).toInt = 0 ∨ (x &&& 1).toInt = 1 := by omega
  rcases hr with q | q
  · exact Or.inl (Int32.toInt_inj.mp q)
  · exact Or.inr (Int32.toInt_inj.mp q)
theorem own_rem13 (x : Int32) : (x &&& 2147483647) % 13 = 0 ∨ (x &&& 2147483647) % 13 = 1 ∨ (x &&& 2147483647) % 13 = 2 ∨ (x &&& 2147483647) % 13 = 3 ∨ (x &&& 2147483647) % 13 = 4 ∨ (x &&& 2147483647) % 13 = 5 ∨ (x &&& 2147483647) % 13 = 6 ∨ (x &&& 2147483647) % 13 = 7 ∨ (x &&& 2147483647) % 13 = 8 ∨ (x &&& 2147483647) % 13 = 9 ∨ (x &&& 2147483647) % 13 = 10 ∨ (x &&& 2147483647) % 13 = 11 ∨ (x &&& 2147483647) % 13 = 12 := by
  have h : (x &&& 2147483647).toInt = x.toInt % 2147483648 := c_mask x 2147483647 31 (by decide) (by decide)
  have h2 : ((x &&& 2147483647) % 13).toInt = (x &&& 2147483647).toInt % 13 := by
    rw [Int32.toInt_mod, Int.tmod_eq_emod_of_nonneg (by rw [h]; omega)]; rfl
  have hr : ((x &&& 2147483647) % 13).toInt = 0 ∨ ((x &&& 2147483647) % 13).toInt = 1 ∨ ((x &&& 2147483647) % 13).toInt = 2 ∨ ((x &&& 2147483647) % 13).toInt = 3 ∨ ((x &&& 2147483647) % 13).toInt = 4 ∨ ((x &&& 2147483647) % 13).toInt = 5 ∨ ((x &&& 2147483647) % 13).toInt = 6 ∨ ((x &&& 2147483647) % 13).toInt = 7 ∨ ((x &&& 2147483647) % 13).toInt = 8 ∨ ((x &&& 2147483647) % 13).toInt = 9 ∨ ((x &&& 2147483647) % 13).toInt = 10 ∨ ((x &&& 2147483647) % 13).toInt = 11 ∨ ((x &&& 2147483647) % 13).toInt = 12 := by omega
  rcases hr with q | q | q | q | q | q | q | q | q | q | q | q | q
  · exact Or.inl (Int32.toInt_inj.mp q)
  · exact Or.inr (Or.inl (Int32.toInt_inj.mp q))
  · exact Or.inr (Or.inr (Or.inl (Int32.toInt_inj.mp q)))
  · exact Or.inr (Or.inr (Or.inr (Or.inl (Int32.toInt_inj.mp q))))
  · exact Or.inr (Or.inr (Or.inr (Or.inr (Or.inl (Int32.toInt_inj.mp q)))))
  · exact Or.inr (Or.inr (Or.inr (Or.inr (Or.inr (Or.inl (Int32.toInt_inj.mp q))))))
  · exact Or.inr (Or.inr (Or.inr (Or.inr (Or.inr (Or.inr (Or.inl (Int32.toInt_inj.mp q)))))))
  · exact Or.inr (Or.inr (Or.inr (Or.inr (Or.inr (Or.inr (Or.inr (Or.inl (Int32.toInt_inj.mp q))))))))
  · exact Or.inr (Or.inr (Or.inr (Or.inr (Or.inr (Or.inr (Or.inr (Or.inr (Or.inl (Int32.toInt_inj.mp q)))))))))
  · exact Or.inr (Or.inr (Or.inr (Or.inr (Or.inr (Or.inr (Or.inr (Or.inr (Or.inr (Or.inl (Int32.toInt_inj.mp q))))))))))
  · exact Or.inr (Or.inr (Or.inr (Or.inr (Or.inr (Or.inr (Or.inr (Or.inr (Or.inr (Or.inr (Or.inl (Int32.toInt_inj.mp q)))))))))))
  · exact Or.inr (Or.inr (Or.inr (Or.inr (Or.inr (Or.inr (Or.inr (Or.inr (Or.inr (Or.inr (Or.inr (Or.inl (Int32.toInt_inj.mp q))))))))))))
  · exact Or.inr (Or.inr (Or.inr (Or.inr (Or.inr (Or.inr (Or.inr (Or.inr (Or.inr (Or.inr (Or.inr (Or.inr (Int32.toInt_inj.mp q))))))))))))
theorem own_rng (x : Int32) : x = 240 ∨ x = 241 ∨ x = 242 ∨ x = 243 ∨ x = 244 ∨ x = 245 ∨ x = 246 ∨ x = 247 ∨ x = 248 ∨ x = 249 ∨ x = 250 ∨ x < 240 ∨ 250 < x := by
  have e1 : (240 : Int32).toInt = 240 := by decide
  have e2 : (250 : Int32).toInt = 250 := by decide
  have hr : x.toInt = 240 ∨ x.toInt = 241 ∨ x.toInt = 242 ∨ x.toInt = 243 ∨ x.toInt = 244 ∨ x.toInt = 245 ∨ x.toInt = 246 ∨ x.toInt = 247 ∨ x.toInt = 248 ∨ x.toInt = 249 ∨ x.toInt = 250 ∨ x.toInt < (240 : Int32).toInt ∨ (250 : Int32).toInt < x.toInt := by omega
  rcases hr with q | q | q | q | q | q | q | q | q | q | q | q | q
  · exact Or.inl (Int32.toInt_inj.mp q)
  · exact Or.inr (Or.inl (Int32.toInt_inj.mp q))
  · exact Or.inr (Or.inr (Or.inl (Int32.toInt_inj.mp q)))
  · exact Or.inr (Or.inr (Or.inr (Or.inl (Int32.toInt_inj.mp q))))
  · exact Or.inr (Or.inr (Or.inr (Or.inr (Or.inl (Int32.toInt_inj.mp q)))))
  · exact Or.inr (Or.inr (Or.inr (Or.inr (Or.inr (Or.inl (Int32.toInt_inj.mp q))))))
  · exact Or.inr (Or.inr (Or.inr (Or.inr (Or.inr (Or.inr (Or.inl (Int32.toInt_inj.mp q)))))))
  · exact Or.inr (Or.inr (Or.inr (Or.inr (Or.inr (Or.inr (Or.inr (Or.inl (Int32.toInt_inj.mp q))))))))
  · exact Or.inr (Or.inr (Or.inr (Or.inr (Or.inr (Or.inr (Or.inr (Or.inr (Or.inl (Int32.toInt_inj.mp q)))))))))
  · exact Or.inr (Or.inr (Or.inr (Or.inr (Or.inr (Or.inr (Or.inr (Or.inr (Or.inr (Or.inl (Int32.toInt_inj.mp q))))))))))
  · exact Or.inr (Or.inr (Or.inr (Or.inr (Or.inr (Or.inr (Or.inr (Or.inr (Or.inr (Or.inr (Or.inl (Int32.toInt_inj.mp q)))))))))))
  · exact Or.inr (Or.inr (Or.inr (Or.inr (Or.inr (Or.inr (Or.inr (Or.inr (Or.inr (Or.inr (Or.inr (Or.inl (Int32.lt_iff_toInt_lt.mpr q))))))))))))
  · exact Or.inr (Or.inr (Or.inr (Or.inr (Or.inr (Or.inr (Or.inr (Or.inr (Or.inr (Or.inr (Or.inr (Or.inr (Int32.lt_iff_toInt_lt.mpr q))))))))))))
abbrev ym0 : MethodName := ⟨"com/example/ferrule/ferrule/io/PickleTag", "of", "(I)Lcom/example/ferrule/ferrule/io/PickleTag;"⟩
abbrev ym1 : MethodName := ⟨"com/example/ferrule/ferrule/io/PickleTag", "code", "()I"⟩
theorem wk0 {Z : State} {a0 : Array Value} (hw : ∀ d ∈ tables_1, d.before a0 Z = true) : (Jvm.Cond.methodLink "com/example/ferrule/ferrule/io/PickleTagOfPinLaw" (8 : Nat) ({ cls := "com/example/ferrule/ferrule/io/PickleTag", name := "of", desc := "(I)Lcom/example/ferrule/ferrule/io/PickleTag;" } : Jvm.MethodName)).before a0 Z = true := hw _ (List.mem_of_getElem? (i := 0) rfl)
theorem wk1 {Z : State} {a0 : Array Value} (hw : ∀ d ∈ tables_1, d.before a0 Z = true) : (Jvm.Cond.static ({ cls := "com/example/ferrule/ferrule/io/PickleTag", name := "of", desc := "(I)Lcom/example/ferrule/ferrule/io/PickleTag;" } : Jvm.MethodName)).before a0 Z = true := hw _ (List.mem_of_getElem? (i := 1) rfl)
theorem wk2 {Z : State} {a0 : Array Value} (hw : ∀ d ∈ tables_1, d.before a0 Z = true) : (Jvm.Cond.initialized "com/example/ferrule/ferrule/io/PickleTag").before a0 Z = true := hw _ (List.mem_of_getElem? (i := 2) rfl)
theorem wk3 {Z : State} {a0 : Array Value} (hw : ∀ d ∈ tables_1, d.before a0 Z = true) : (Jvm.Cond.code ({ cls := "com/example/ferrule/ferrule/io/PickleTag", name := "of", desc := "(I)Lcom/example/ferrule/ferrule/io/PickleTag;" } : Jvm.MethodName) prog_39_method_4_code (2 : Nat) (Option.some (Jvm.ClassFile.FieldType.object "com/example/ferrule/ferrule/io/PickleTag"))).before a0 Z = true := hw _ (List.mem_of_getElem? (i := 3) rfl)
theorem wk4 {Z : State} {a0 : Array Value} (hw : ∀ d ∈ tables_1, d.before a0 Z = true) : (Jvm.Cond.fieldLink "com/example/ferrule/ferrule/io/PickleTag" (3 : Nat) "com/example/ferrule/ferrule/io/PickleTag" "NIL" "Lcom/example/ferrule/ferrule/io/PickleTag;").before a0 Z = true := hw _ (List.mem_of_getElem? (i := 4) rfl)
theorem wk5 {Z : State} {a0 : Array Value} (hw : ∀ d ∈ tables_1, d.before a0 Z = true) : (Jvm.Cond.laysStatic "com/example/ferrule/ferrule/io/PickleTag" "NIL" "Lcom/example/ferrule/ferrule/io/PickleTag;").before a0 Z = true := hw _ (List.mem_of_getElem? (i := 5) rfl)
theorem wk6 {Z : State} {a0 : Array Value} (hw : ∀ d ∈ tables_1, d.before a0 Z = true) : (Jvm.Cond.fieldLink "com/example/ferrule/ferrule/io/PickleTag" (56 : Nat) "com/example/ferrule/ferrule/io/PickleTag" "code" "I").before a0 Z = true := hw _ (List.mem_of_getElem? (i := 6) rfl)
theorem wk8 {Z : State} {a0 : Array Value} (hw : ∀ d ∈ tables_1, d.before a0 Z = true) : (Jvm.Cond.fieldLink "com/example/ferrule/ferrule/io/PickleTag" (70 : Nat) "com/example/ferrule/ferrule/io/PickleTag" "BY_CODE" "[Lcom/example/ferrule/ferrule/io/PickleTag;").before a0 Z = true := hw _ (List.mem_of_getElem? (i := 8) rfl)
theorem wk9 {Z : State} {a0 : Array Value} (hw : ∀ d ∈ tables_1, d.before a0 Z = true) : (Jvm.Cond.laysStatic "com/example/ferrule/ferrule/io/PickleTag" "BY_CODE" "[Lcom/example/ferrule/ferrule/io/PickleTag;").before a0 Z = true := hw _ (List.mem_of_getElem? (i := 9) rfl)
theorem wk10 {Z : State} {a0 : Array Value} (hw : ∀ d ∈ tables_1, d.before a0 Z = true) : (Jvm.Cond.constant "com/example/ferrule/ferrule/io/PickleTagOfPinLaw" (7 : Nat) (2147483647 : Int32)).before a0 Z = true := hw _ (List.mem_of_getElem? (i := 10) rfl)
theorem wk11 {Z : State} {a0 : Array Value} (hw : ∀ d ∈ tables_1, d.before a0 Z = true) : (Jvm.Cond.laysStatic "com/example/ferrule/ferrule/io/PickleTag" "DOUBLE" "Lcom/example/ferrule/ferrule/io/PickleTag;").before a0 Z = true := hw _ (List.mem_of_getElem? (i := 11) rfl)
theorem wk12 {Z : State} {a0 : Array Value} (hw : ∀ d ∈ tables_1, d.before a0 Z = true) : (Jvm.Cond.methodLink "com/example/ferrule/ferrule/io/PickleTagOfPinLaw" (14 : Nat) ({ cls := "com/example/ferrule/ferrule/io/PickleTag", name := "code", desc := "()I" } : Jvm.MethodName)).before a0 Z = true := hw _ (List.mem_of_getElem? (i := 12) rfl)
theorem wk13 {Z : State} {a0 : Array Value} (hw : ∀ d ∈ tables_1, d.before a0 Z = true) : (Jvm.Cond.declares ({ cls := "com/example/ferrule/ferrule/io/PickleTag", name := "code", desc := "()I" } : Jvm.MethodName)).before a0 Z = true := hw _ (List.mem_of_getElem? (i := 13) rfl)
theorem wk14 {Z : State} {a0 : Array Value} (hw : ∀ d ∈ tables_1, d.before a0 Z = true) : (Jvm.Cond.instanceMethod ({ cls := "com/example/ferrule/ferrule/io/PickleTag", name := "code", desc := "()I" } : Jvm.MethodName)).before a0 Z = true := hw _ (List.mem_of_getElem? (i := 14) rfl)
theorem wk15 {Z : State} {a0 : Array Value} (hw : ∀ d ∈ tables_1, d.before a0 Z = true) : (Jvm.Cond.selects "com/example/ferrule/ferrule/io/PickleTag" ({ cls := "com/example/ferrule/ferrule/io/PickleTag", name := "code", desc := "()I" } : Jvm.MethodName) ({ cls := "com/example/ferrule/ferrule/io/PickleTag", name := "code", desc := "()I" } : Jvm.MethodName)).before a0 Z = true := hw _ (List.mem_of_getElem? (i := 15) rfl)
theorem wk16 {Z : State} {a0 : Array Value} (hw : ∀ d ∈ tables_1, d.before a0 Z = true) : (Jvm.Cond.code ({ cls := "com/example/ferrule/ferrule/io/PickleTag", name := "code", desc := "()I" } : Jvm.MethodName) prog_39_method_5_code (1 : Nat) (Option.some Jvm.ClassFile.FieldType.int)).before a0 Z = true := hw _ (List.mem_of_getElem? (i := 16) rfl)
theorem wk17 {Z : State} {a0 : Array Value} (hw : ∀ d ∈ tables_1, d.before a0 Z = true) : (Jvm.Cond.laysStatic "com/example/ferrule/ferrule/io/PickleTag" "NEG16" "Lcom/example/ferrule/ferrule/io/PickleTag;").before a0 Z = true := hw _ (List.mem_of_getElem? (i := 17) rfl)
theorem wk18 {Z : State} {a0 : Array Value} (hw : ∀ d ∈ tables_1, d.before a0 Z = true) : (Jvm.Cond.laysStatic "com/example/ferrule/ferrule/io/PickleTag" "UINT32" "Lcom/example/ferrule/ferrule/io/PickleTag;").before a0 Z = true := hw _ (List.mem_of_getElem? (i := 18) rfl)
theorem wk19 {Z : State} {a0 : Array Value} (hw : ∀ d ∈ tables_1, d.before a0 Z = true) : (Jvm.Cond.laysStatic "com/example/ferrule/ferrule/io/PickleTag" "LIST" "Lcom/example/ferrule/ferrule/io/PickleTag;").before a0 Z = true := hw _ (List.mem_of_getElem? (i := 19) rfl)
theorem wk20 {Z : State} {a0 : Array Value} (hw : ∀ d ∈ tables_1, d.before a0 Z = true) : (Jvm.Cond.laysStatic "com/example/ferrule/ferrule/io/PickleTag" "UINT8" "Lcom/example/ferrule/ferrule/io/PickleTag;").before a0 Z = true := hw _ (List.mem_of_getElem? (i := 20) rfl)
theorem wk21 {Z : State} {a0 : Array Value} (hw : ∀ d ∈ tables_1, d.before a0 Z = true) : (Jvm.Cond.laysStatic "com/example/ferrule/ferrule/io/PickleTag" "UINT16" "Lcom/example/ferrule/ferrule/io/PickleTag;").before a0 Z = true := hw _ (List.mem_of_getElem? (i := 21) rfl)
theorem wk22 {Z : State} {a0 : Array Value} (hw : ∀ d ∈ tables_1, d.before a0 Z = true) : (Jvm.Cond.laysStatic "com/example/ferrule/ferrule/io/PickleTag" "STRING" "Lcom/example/ferrule/ferrule/io/PickleTag;").before a0 Z = true := hw _ (List.mem_of_getElem? (i := 22) rfl)
theorem wk23 {Z : State} {a0 : Array Value} (hw : ∀ d ∈ tables_1, d.before a0 Z = true) : (Jvm.Cond.laysStatic "com/example/ferrule/ferrule/io/PickleTag" "NEG8" "Lcom/example/ferrule/ferrule/io/PickleTag;").before a0 Z = true := hw _ (List.mem_of_getElem? (i := 23) rfl)
theorem wk24 {Z : State} {a0 : Array Value} (hw : ∀ d ∈ tables_1, d.before a0 Z = true) : (Jvm.Cond.laysStatic "com/example/ferrule/ferrule/io/PickleTag" "NEG32" "Lcom/example/ferrule/ferrule/io/PickleTag;").before a0 Z = true := hw _ (List.mem_of_getElem? (i := 24) rfl)
theorem wk25 {Z : State} {a0 : Array Value} (hw : ∀ d ∈ tables_1, d.before a0 Z = true) : (Jvm.Cond.laysStatic "com/example/ferrule/ferrule/io/PickleTag" "LIST_REFERENCE" "Lcom/example/ferrule/ferrule/io/PickleTag;").before a0 Z = true := hw _ (List.mem_of_getElem? (i := 25) rfl)
def Wd (Z : State) (w : Nat → Addr) : Prop := Sta Z Z.heap "com/example/ferrule/ferrule/io/PickleTag" "NIL" "Lcom/example/ferrule/ferrule/io/PickleTag;" (.ref (w 0)) ∧ Exa Z Z.heap (w 0) "com/example/ferrule/ferrule/io/PickleTag" ∧ Sta Z Z.heap "com/example/ferrule/ferrule/io/PickleTag" "BY_CODE" "[Lcom/example/ferrule/ferrule/io/PickleTag;" (.ref (w 1)) ∧ Sta Z Z.heap "com/example/ferrule/ferrule/io/PickleTag" "DOUBLE" "Lcom/example/ferrule/ferrule/io/PickleTag;" (.ref (w 2)) ∧ Exa Z Z.heap (w 2) "com/example/ferrule/ferrule/io/PickleTag" ∧ Sta Z Z.heap "com/example/ferrule/ferrule/io/PickleTag" "NEG16" "Lcom/example/ferrule/ferrule/io/PickleTag;" (.ref (w 3)) ∧ Exa Z Z.heap (w 3) "com/example/ferrule/ferrule/io/PickleTag" ∧ Sta Z Z.heap "com/example/ferrule/ferrule/io/PickleTag" "UINT32" "Lcom/example/ferrule/ferrule/io/PickleTag;" (.ref (w 4)) ∧ Exa Z Z.heap (w 4) "com/example/ferrule/ferrule/io/PickleTag" ∧ Sta Z Z.heap "com/example/ferrule/ferrule/io/PickleTag" "LIST" "Lcom/example/ferrule/ferrule/io/PickleTag;" (.ref (w 5)) ∧ Exa Z Z.heap (w 5) "com/example/ferrule/ferrule/io/PickleTag" ∧ Sta Z Z.heap "com/example/ferrule/ferrule/io/PickleTag" "UINT8" "Lcom/example/ferrule/ferrule/io/PickleTag;" (.ref (w 6)) ∧ Exa Z Z.heap (w 6) "com/example/ferrule/ferrule/io/PickleTag" ∧ Sta Z Z.heap "com/example/ferrule/ferrule/io/PickleTag" "UINT16" "Lcom/example/ferrule/ferrule/io/PickleTag;" (.ref (w 7)) ∧ Exa Z Z.heap (w 7) "com/example/ferrule/ferrule/io/PickleTag" ∧ Sta Z Z.heap "com/example/ferrule/ferrule/io/PickleTag" "STRING" "Lcom/example/ferrule/ferrule/io/PickleTag;" (.ref (w 8)) ∧ Exa Z Z.heap (w 8) "com/example/ferrule/ferrule/io/PickleTag" ∧ Sta Z Z.heap "com/example/ferrule/ferrule/io/PickleTag" "NEG8" "Lcom/example/ferrule/ferrule/io/PickleTag;" (.ref (w 9)) ∧ Exa Z Z.heap (w 9) "com/example/ferrule/ferrule/io/PickleTag" ∧ Sta Z Z.heap "com/example/ferrule/ferrule/io/PickleTag" "NEG32" "Lcom/example/ferrule/ferrule/io/PickleTag;" (.ref (w 10)) ∧ Exa Z Z.heap (w 10) "com/example/ferrule/ferrule/io/PickleTag" ∧ Sta Z Z.heap "com/example/ferrule/ferrule/io/PickleTag" "LIST_REFERENCE" "Lcom/example/ferrule/ferrule/io/PickleTag;" (.ref (w 11)) ∧ Exa Z Z.heap (w 11) "com/example/ferrule/ferrule/io/PickleTag" ∧ Fld Z Z.heap (w 0) "com/example/ferrule/ferrule/io/PickleTag" "code" "I" (.int (240 : Int32)) ∧ Fld Z Z.heap (w 2) "com/example/ferrule/ferrule/io/PickleTag" "code" "I" (.int (247 : Int32)) ∧ Fld Z Z.heap (w 3) "com/example/ferrule/ferrule/io/PickleTag" "code" "I" (.int (244 : Int32)) ∧ Fld Z Z.heap (w 4) "com/example/ferrule/ferrule/io/PickleTag" "code" "I" (.int (245 : Int32)) ∧ Fld Z Z.heap (w 5) "com/example/ferrule/ferrule/io/PickleTag" "code" "I" (.int (249 : Int32)) ∧ Fld Z Z.heap (w 6) "com/example/ferrule/ferrule/io/PickleTag" "code" "I" (.int (241 : Int32)) ∧ Fld Z Z.heap (w 7) "com/example/ferrule/ferrule/io/PickleTag" "code" "I" (.int (243 : Int32)) ∧ Fld Z Z.heap (w 8) "com/example/ferrule/ferrule/io/PickleTag" "code" "I" (.int (248 : Int32)) ∧ Fld Z Z.heap (w 9) "com/example/ferrule/ferrule/io/PickleTag" "code" "I" (.int (242 : Int32)) ∧ Fld Z Z.heap (w 10) "com/example/ferrule/ferrule/io/PickleTag" "code" "I" (.int (246 : Int32)) ∧ Fld Z Z.heap (w 11) "com/example/ferrule/ferrule/io/PickleTag" "code" "I" (.int (250 : Int32)) ∧ Arv Z Z.heap (w 1) (w 12) (.object "com/example/ferrule/ferrule/io/PickleTag") (11 : Int32) [(.ref (w 0)), (.ref (w 6)), (.ref (w 9)), (.ref (w 7)), (.ref (w 3)), (.ref (w 4)), (.ref (w 10)), (.ref (w 2)), (.ref (w 8)), (.ref (w 5)), (.ref (w 11))] .null ∧ True
theorem wd0 {Z : State} {w : Nat → Addr} (hW : Wd Z w) : Sta Z Z.heap "com/example/ferrule/ferrule/io/PickleTag" "NIL" "Lcom/example/ferrule/ferrule/io/PickleTag;" (.ref (w 0)) := hW.1
theorem wd1 {Z : State} {w : Nat → Addr} (hW : Wd Z w) : Exa Z Z.heap (w 0) "com/example/ferrule/ferrule/io/PickleTag" := hW.2.1
theorem wd2 {Z : State} {w : Nat → Addr} (hW : Wd Z w) : Sta Z Z.heap "com/example/ferrule/ferrule/io/PickleTag" "BY_CODE" "[Lcom/example/ferrule/ferrule/io/PickleTag;" (.ref (w 1)) := hW.2.2.1
theorem wd3 {Z : State} {w : Nat → Addr} (hW : Wd Z w) : Sta Z Z.heap "com/example/ferrule/ferrule/io/PickleTag" "DOUBLE" "Lcom/example/ferrule/ferrule/io/PickleTag;" (.ref (w 2)) := hW.2.2.2.1
theorem wd4 {Z : State} {w : Nat → Addr} (hW : Wd Z w) : Exa Z Z.heap (w 2) "com/example/ferrule/ferrule/io/PickleTag" := hW.2.2.2.2.1
theorem wd5 {Z : State} {w : Nat → Addr} (hW : Wd Z w) : Sta Z Z.heap "com/example/ferrule/ferrule/io/PickleTag" "NEG16" "Lcom/example/ferrule/ferrule/io/PickleTag;" (.ref (w 3)) := hW.2.2.2.2.2.1
theorem wd6 {Z : State} {w : Nat → Addr} (hW : Wd Z w) : Exa Z Z.heap (w 3) "com/example/ferrule/ferrule/io/PickleTag" := hW.2.2.2.2.2.2.1
theorem wd7 {Z : State} {w : Nat → Addr} (hW : Wd Z w) : Sta Z Z.heap "com/example/ferrule/ferrule/io/PickleTag" "UINT32" "Lcom/example/ferrule/ferrule/io/PickleTag;" (.ref (w 4)) := hW.2.2.2.2.2.2.2.1
theorem wd8 {Z : State} {w : Nat → Addr} (hW : Wd Z w) : Exa Z Z.heap (w 4) "com/example/ferrule/ferrule/io/PickleTag" := hW.2.2.2.2.2.2.2.2.1
theorem wd9 {Z : State} {w : Nat → Addr} (hW : Wd Z w) : Sta Z Z.heap "com/example/ferrule/ferrule/io/PickleTag" "LIST" "Lcom/example/ferrule/ferrule/io/PickleTag;" (.ref (w 5)) := hW.2.2.2.2.2.2.2.2.2.1
theorem wd10 {Z : State} {w : Nat → Addr} (hW : Wd Z w) : Exa Z Z.heap (w 5) "com/example/ferrule/ferrule/io/PickleTag" := hW.2.2.2.2.2.2.2.2.2.2.1
theorem wd11 {Z : State} {w : Nat → Addr} (hW : Wd Z w) : Sta Z Z.heap "com/example/ferrule/ferrule/io/PickleTag" "UINT8" "Lcom/example/ferrule/ferrule/io/PickleTag;" (.ref (w 6)) := hW.2.2.2.2.2.2.2.2.2.2.2.1
theorem wd12 {Z : State} {w : Nat → Addr} (hW : Wd Z w) : Exa Z Z.heap (w 6) "com/example/ferrule/ferrule/io/PickleTag" := hW.2.2.2.2.2.2.2.2.2.2.2.2.1
theorem wd13 {Z : State} {w : Nat → Addr} (hW : Wd Z w) : Sta Z Z.heap "com/example/ferrule/ferrule/io/PickleTag" "UINT16" "Lcom/example/ferrule/ferrule/io/PickleTag;" (.ref (w 7)) := hW.2.2.2.2.2.2.2.2.2.2.2.2.2.1
theorem wd14 {Z : State} {w : Nat → Addr} (hW : Wd Z w) : Exa Z Z.heap (w 7) "com/example/ferrule/ferrule/io/PickleTag" := hW.2.2.2.2.2.2.2.2.2.2.2.2.2.2.1
theorem wd15 {Z : State} {w : Nat → Addr} (hW : Wd Z w) : Sta Z Z.heap "com/example/ferrule/ferrule/io/PickleTag" "STRING" "Lcom/example/ferrule/ferrule/io/PickleTag;" (.ref (w 8)) := hW.2.2.2.2.2.2.2.2.2.2.2.2.2.2.2.1
theorem wd16 {Z : State} {w : Nat → Addr} (hW : Wd Z w) : Exa Z Z.heap (w 8) "com/example/ferrule/ferrule/io/PickleTag" := hW.2.2.2.2.2.2.2.2.2.2.2.2.2.2.2.2.1
theorem wd17 {Z : State} {w : Nat → Addr} (hW : Wd Z w) : Sta Z Z.heap "com/example/ferrule/ferrule/io/PickleTag" "NEG8" "Lcom/example/ferrule/ferrule/io/PickleTag;" (.ref (w 9)) := hW.2.2.2.2.2.2.2.2.2.2.2.2.2.2.2.2.2.1
theorem wd18 {Z : State} {w : Nat → Addr} (hW : Wd Z w) : Exa Z Z.heap (w 9) "com/example/ferrule/ferrule/io/PickleTag" := hW.2.2.2.2.2.2.2.2.2.2.2.2.2.2.2.2.2.2.1
theorem wd19 {Z : State} {w : Nat → Addr} (hW : Wd Z w) : Sta Z Z.heap "com/example/ferrule/ferrule/io/PickleTag" "NEG32" "Lcom/example/ferrule/ferrule/io/PickleTag;" (.ref (w 10)) := hW.2.2.2.2.2.2.2.2.2.2.2.2.2.2.2.2.2.2.2.1
theorem wd20 {Z : State} {w : Nat → Addr} (hW : Wd Z w) : Exa Z Z.heap (w 10) "com/example/ferrule/ferrule/io/PickleTag" := hW.2.2.2.2.2.2.2.2.2.2.2.2.2.2.2.2.2.2.2.2.1
theorem wd21 {Z : State} {w : Nat → Addr} (hW : Wd Z w) : Sta Z Z.heap "com/example/ferrule/ferrule/io/PickleTag" "LIST_REFERENCE" "Lcom/example/ferrule/ferrule/io/PickleTag;" (.ref (w 11)) := hW.2.2.2.2.2.2.2.2.2.2.2.2.2.2.2.2.2.2.2.2.2.1
theorem wd22 {Z : State} {w : Nat → Addr} (hW : Wd Z w) : Exa Z Z.heap (w 11) "com/example/ferrule/ferrule/io/PickleTag" := hW.2.2.2.2.2.2.2.2.2.2.2.2.2.2.2.2.2.2.2.2.2.2.1
theorem wd23 {Z : State} {w : Nat → Addr} (hW : Wd Z w) : Fld Z Z.heap (w 0) "com/example/ferrule/ferrule/io/PickleTag" "code" "I" (.int (240 : Int32)) := hW.2.2.2.2.2.2.2.2.2.2.2.2.2.2.2.2.2.2.2.2.2.2.2.1
theorem wd24 {Z : State} {w : Nat → Addr} (hW : Wd Z w) : Fld Z Z.heap (w 2) "com/example/ferrule/ferrule/io/PickleTag" "code" "I" (.int (247 : Int32)) := hW.2.2.2.2.2.2.2.2.2.2.2.2.2.2.2.2.2.2.2.2.2.2.2.2.1
theorem wd25 {Z : State} {w : Nat → Addr} (hW : Wd Z w) : Fld Z Z.heap (w 3) "com/example/ferrule/ferrule/io/PickleTag" "code" "I" (.int (244 : Int32)) := hW.2.2.2.2.2.2.2.2.2.2.2.2.2.2.2.2.2.2.2.2.2.2.2.2.2.1
theorem wd26 {Z : State} {w : Nat → Addr} (hW : Wd Z w) : Fld Z Z.heap (w 4) "com/example/ferrule/ferrule/io/PickleTag" "code" "I" (.int (245 : Int32)) := hW.2.2.2.2.2.2.2.2.2.2.2.2.2.2.2.2.2.2.2.2.2.2.2.2.2.2.1
theorem wd27 {Z : State} {w : Nat → Addr} (hW : Wd Z w) : Fld Z Z.heap (w 5) "com/example/ferrule/ferrule/io/PickleTag" "code" "I" (.int (249 : Int32)) := hW.2.2.2.2.2.2.2.2.2.2.2.2.2.2.2.2.2.2.2.2.2.2.2.2.2.2.2.1
theorem wd28 {Z : State} {w : Nat → Addr} (hW : Wd Z w) : Fld Z Z.heap (w 6) "com/example/ferrule/ferrule/io/PickleTag" "code" "I" (.int (241 : Int32)) := hW.2.2.2.2.2.2.2.2.2.2.2.2.2.2.2.2.2.2.2.2.2.2.2.2.2.2.2.2.1
theorem wd29 {Z : State} {w : Nat → Addr} (hW : Wd Z w) : Fld Z Z.heap (w 7) "com/example/ferrule/ferrule/io/PickleTag" "code" "I" (.int (243 : Int32)) := hW.2.2.2.2.2.2.2.2.2.2.2.2.2.2.2.2.2.2.2.2.2.2.2.2.2.2.2.2.2.1
theorem wd30 {Z : State} {w : Nat → Addr} (hW : Wd Z w) : Fld Z Z.heap (w 8) "com/example/ferrule/ferrule/io/PickleTag" "code" "I" (.int (248 : Int32)) := hW.2.2.2.2.2.2.2.2.2.2.2.2.2.2.2.2.2.2.2.2.2.2.2.2.2.2.2.2.2.2.1
theorem wd31 {Z : State} {w : Nat → Addr} (hW : Wd Z w) : Fld Z Z.heap (w 9) "com/example/ferrule/ferrule/io/PickleTag" "code" "I" (.int (242 : Int32)) := hW.2.2.2.2.2.2.2.2.2.2.2.2.2.2.2.2.2.2.2.2.2.2.2.2.2.2.2.2.2.2.2.1
theorem wd32 {Z : State} {w : Nat → Addr} (hW : Wd Z w) : Fld Z Z.heap (w 10) "com/example/ferrule/ferrule/io/PickleTag" "code" "I" (.int (246 : Int32)) := hW.2.2.2.2.2.2.2.2.2.2.2.2.2.2.2.2.2.2.2.2.2.2.2.2.2.2.2.2.2.2.2.2.1
theorem wd33 {Z : State} {w : Nat → Addr} (hW : Wd Z w) : Fld Z Z.heap (w 11) "com/example/ferrule/ferrule/io/PickleTag" "code" "I" (.int (250 : Int32)) := hW.2.2.2.2.2.2.2.2.2.2.2.2.2.2.2.2.2.2.2.2.2.2.2.2.2.2.2.2.2.2.2.2.2.1
theorem wd34 {Z : State} {w : Nat → Addr} (hW : Wd Z w) : Arv Z Z.heap (w 1) (w 12) (.object "com/example/ferrule/ferrule/io/PickleTag") (11 : Int32) [(.ref (w 0)), (.ref (w 6)), (.ref (w 9)), (.ref (w 7)), (.ref (w 3)), (.ref (w 4)), (.ref (w 10)), (.ref (w 2)), (.ref (w 8)), (.ref (w 5)), (.ref (w 11))] .null := hW.2.2.2.2.2.2.2.2.2.2.2.2.2.2.2.2.2.2.2.2.2.2.2.2.2.2.2.2.2.2.2.2.2.2.1
theorem d1_0 : decode prog_39_method_4_code 0 = .ok (.iload_n 0, 1) := by decide +kernel
theorem d1_1 : decode prog_39_method_4_code 1 = .ok (.getstatic 3, 3) := by decide +kernel
theorem d1_4 : decode prog_39_method_4_code 4 = .ok (.getfield 56, 3) := by decide +kernel
theorem d1_7 : decode prog_39_method_4_code 7 = .ok (.isub, 1) := by decide +kernel
theorem d1_8 : decode prog_39_method_4_code 8 = .ok (.istore_n 1, 1) := by decide +kernel
theorem d1_9 : decode prog_39_method_4_code 9 = .ok (.iload_n 1, 1) := by decide +kernel
theorem d1_10 : decode prog_39_method_4_code 10 = .ok (.ifCond .lt 19, 3) := by decide +kernel
theorem d1_13 : decode prog_39_method_4_code 13 = .ok (.iload_n 1, 1) := by decide +kernel
theorem d1_14 : decode prog_39_method_4_code 14 = .ok (.getstatic 70, 3) := by decide +kernel
theorem d1_17 : decode prog_39_method_4_code 17 = .ok (.arraylength, 1) := by decide +kernel
theorem d1_18 : decode prog_39_method_4_code 18 = .ok (.if_icmp .ge 11, 3) := by decide +kernel
theorem d1_21 : decode prog_39_method_4_code 21 = .ok (.getstatic 70, 3) := by decide +kernel
theorem d1_24 : decode prog_39_method_4_code 24 = .ok (.iload_n 1, 1) := by decide +kernel
theorem d1_25 : decode prog_39_method_4_code 25 = .ok (.aaload, 1) := by decide +kernel
theorem d1_26 : decode prog_39_method_4_code 26 = .ok (.goto 4, 3) := by decide +kernel
theorem d1_30 : decode prog_39_method_4_code 30 = .ok (.areturn, 1) := by decide +kernel
theorem ef_1_1 (m : MethodId) : entryFrame m #[(.int (240 : Int32))] 2 = mkF m 0 #[.val (.int (240 : Int32)), .unset] [] := by first | (simp [entryFrame, mkF, argsToLocals, Value.category]; done) | rfl
theorem pnc_0 : plainName "com/example/ferrule/ferrule/io/PickleTag" = true := by first | (simp [plainName, overriddenIn]; done) | decide +kernel
def Q1_1 (Z : State) (w : Nat → Addr) (h0 : Heap) (n0 : Nat) (v : Option Value) (h : Heap) (L : List Loc) : Prop := v = some (.ref (w 0)) ∧ Fr n0 L ∧ h = h0
set_option maxRecDepth 65536 in
set_option maxHeartbeats 40000000 in
theorem rm1_1 (l : Launch) (Z : State) (a0 : Array Value) (hw : ∀ d ∈ tables_1, d.before a0 Z = true) (w : Nat → Addr) (hW : Wd Z w) (ws : List Jvm.Cond) (h0 : Heap) (n0 : Nat) (O0 : Old Z n0 h0) :
    MetFree l ym0 (head1 (Jvm.Cond.code ym0 prog_39_method_4_code 2 (some (.object "com/example/ferrule/ferrule/io/PickleTag")) :: ws) ({ frames := 0, cells := 0, slots := 0, locals := 0 } : Room)) (fun a U => a = #[(.int (240 : Int32))] ∧ Z.Warmed39 U.vm ∧ U.heap = h0) (fun _ _ _ _ _ => True) (fun _ U o U' => ∃ v L, o = .returned v ∧ Q1_1 Z w h0 n0 v U'.heap L ∧ FrameEnd U o U' L ({ frames := 0, cells := 0, slots := 0, locals := 0 } : Room).cells ({ frames := 0, cells := 0, slots := 0, locals := 0 } : Room).slots) := by
  refine MetFree.of_bodySF (plainFor_of_name pnc_0) hisR ?_
  intro p e s m args below meth c s₁ Bd hml0 hP hK
  obtain ⟨rfl, hZ, hh⟩ := hP
  have hx := Bd.exec
  have hby := Bd.bytes
  have hml : c.maxLocals = 2 := hml0
  have hown : s.vm.findClass "com/example/ferrule/ferrule/io/PickleTag" = some m.cls := findClass_of_methodNamed Bd.named
  have hnm := (name_of_methodNamed Bd.named Bd.method).1
  have X0 : Stand p l e ({ frames := 0, cells := 0, slots := 0, locals := 0 } : Room) s m #[(.int (240 : Int32))] below meth c s₁ [] 0 0 := Stand.of_body Bd
  have e0 : s₁.heap = h0 := by rw [← hh, Bd.state]; rfl
  have N0 := Fr.nil n0
  skip
  have pre0 : ∀ t, Steps p.tables e below (s₁.setTop (mkF m 0 #[.val (.int (240 : Int32)), .unset] [])) t → Steps p.tables e below (s₁.setTop (entryFrame m #[(.int (240 : Int32))] 2)) t := fun t k => castTop (ef_1_1 m) k
  obtain ⟨T1, X1, e1, st1⟩ := getS2 X0 hx hZ hown (host := "") (Or.inl (wk4 hw)) Via.refl e0 ((wd0 hW).ext O0.2) (g := (mkF m 1 #[.val (.int (240 : Int32)), .unset] [(.int (240 : Int32))])) rfl (hb hby d1_1)
  obtain ⟨T2, X2, e2, st2⟩ := getF X1 hx hZ hown (host := "") (Or.inl (wk6 hw)) Via.refl e1 ((wd23 hW).ext O0.2) (g := (mkF m 4 #[.val (.int (240 : Int32)), .unset] [(.ref (w 0)), (.int (240 : Int32))])) rfl rfl (hb hby d1_4)
  let Lb3 : Array Slot := #[.val (.int (240 : Int32)), .val (.int (0 : Int32))]
  obtain ⟨T4, X4, e4, st4⟩ := getS2 X2 hx hZ hown (host := "") (Or.inl (wk8 hw)) Via.refl e2 ((wd2 hW).ext O0.2) (g := (mkF m 14 Lb3 [(.int (0 : Int32))])) rfl (hb hby d1_14)
  obtain ⟨cl5, Ar5, q5, S5, Nn5, Hs5, G5⟩ := ((wd34 hW).ext O0.2)
  obtain ⟨T6, X6, e6, st6⟩ := getS2 X4 hx hZ hown (host := "") (Or.inl (wk8 hw)) Via.refl e4 ((wd2 hW).ext O0.2) (g := (mkF m 21 Lb3 [])) rfl (hb hby d1_21)
  obtain ⟨cl7, Ar7, q7, S7, Nn7, Hs7, G7⟩ := ((wd34 hW).ext O0.2)
  have hin7 : ¬ ((0 : Int32) < 0 ∨ cl7.slots.size ≤ ((0 : Int32)).toNatClampNeg) := inb_of S7 ⟨by decide, by decide⟩
  obtain ⟨fs, hr, hrun, hended, hWm, hsame⟩ := X6.leave (v := some (.ref (w 0))) (fun h => by rw [Bd.returns] at h; cases h)
  refine ⟨_, _, pre0 _ ?_, hrun, hended, _, _, rfl, ?_, ⟨_, rfl⟩, hWm, hsame.mono (by decide) (by decide)⟩
  · show Steps p.tables e below (s₁.setTop (mkF m 0 #[.val (.int (240 : Int32)), .unset] [])) _
    refine sI X0 hx hby d1_0 rfl ?_
    refine st1 _ ?_
    refine st2 _ ?_
    refine XS.isub X2.here hx rfl (hb hby d1_7) rfl ?_
    refine XS.istoreN X2.here hx rfl (hb hby d1_8) rfl (l' := Lb3) rfl ?_
    refine sI X2 hx hby d1_9 rfl ?_
    refine sN X2 hx hby d1_10 (by decide) ?_
    refine sI X2 hx hby d1_13 rfl ?_
    show Steps p.tables e below (T2.setTop (mkF m 14 Lb3 [(.int (0 : Int32))])) _
    refine st4 _ ?_
    refine X4.arraylength hx (by rw [e4]; exact Ar5.1) (State.isArrayOf_alike hZ.alike Ar5.2.1) (g := (mkF m 17 Lb3 [(.ref (w 1)), (.int (0 : Int32))])) rfl rfl (hb hby d1_17) _ ?_
    rw [len_of S5 Nn5]
    show Steps p.tables e below (T4.setTop (mkF m 18 Lb3 [(.int (11 : Int32)), (.int (0 : Int32))])) _
    refine sn X4 hx hby d1_18 (by decide) ?_
    refine st6 _ ?_
    refine sI X6 hx hby d1_24 rfl ?_
    refine X6.aaload hx (j := (0 : Int32)) (v := (.ref (w 0))) (by rw [e6]; exact Ar7.1) (State.isArrayOf_alike hZ.alike Ar7.2.1) rfl Ar7.2.2 hin7 (Hs7.at hin7 rfl) (g := (mkF m 25 Lb3 [(.int (0 : Int32)), (.ref (w 1))])) rfl rfl (hb hby d1_25) _ ?_
    refine sg (pc := 26) (pc' := 30) X6 hx hby d1_26 (by decide) (by decide) ?_
    jvm_step X6.here [X6.here.top, hx, (hb hby d1_30), X6.method', Bd.returns, Value.isRef, FieldType.isReference]
    first | (intro acts; rw [hr _ acts rfl rfl rfl]) | rw [hr _ _ rfl rfl rfl]
    exact Steps.refl _
  · show Q1_1 Z w h0 n0 _ T6.heap _
    rw [e6]
    exact ⟨rfl, N0, rfl⟩
theorem pds_0 : parseMethodDescriptor "(I)Lcom/example/ferrule/ferrule/io/PickleTag;" = some ⟨[.int], some (.object "com/example/ferrule/ferrule/io/PickleTag")⟩ := by decide +kernel
theorem d2_0 : decode prog_39_method_5_code 0 = .ok (.aload_n 0, 1) := by decide +kernel
theorem d2_1 : decode prog_39_method_5_code 1 = .ok (.getfield 56, 3) := by decide +kernel
theorem d2_4 : decode prog_39_method_5_code 4 = .ok (.ireturn, 1) := by decide +kernel
theorem ef_2_2 (m : MethodId) (w : Nat → Addr) : entryFrame m #[(.ref (w 0))] 1 = mkF m 0 #[.val (.ref (w 0))] [] := by first | (simp [entryFrame, mkF, argsToLocals, Value.category]; done) | rfl
def Q2_2 (Z : State) (w : Nat → Addr) (h0 : Heap) (n0 : Nat) (v : Option Value) (h : Heap) (L : List Loc) : Prop := v = some (.int (240 : Int32)) ∧ Fr n0 L ∧ h = h0
set_option maxRecDepth 65536 in
set_option maxHeartbeats 40000000 in
theorem rm2_2 (l : Launch) (Z : State) (a0 : Array Value) (hw : ∀ d ∈ tables_1, d.before a0 Z = true) (w : Nat → Addr) (hW : Wd Z w) (ws : List Jvm.Cond) (h0 : Heap) (n0 : Nat) (O0 : Old Z n0 h0) :
    MetFree l ym1 (head1 (Jvm.Cond.code ym1 prog_39_method_5_code 1 (some .int) :: ws) ({ frames := 0, cells := 0, slots := 0, locals := 0 } : Room)) (fun a U => a = #[(.ref (w 0))] ∧ Z.Warmed39 U.vm ∧ U.heap = h0) (fun _ _ _ _ _ => True) (fun _ U o U' => ∃ v L, o = .returned v ∧ Q2_2 Z w h0 n0 v U'.heap L ∧ FrameEnd U o U' L ({ frames := 0, cells := 0, slots := 0, locals := 0 } : Room).cells ({ frames := 0, cells := 0, slots := 0, locals := 0 } : Room).slots) := by
  refine MetFree.of_bodySF (plainFor_of_name pnc_0) hisR ?_
  intro p e s m args below meth c s₁ Bd hml0 hP hK
  obtain ⟨rfl, hZ, hh⟩ := hP
  have hx := Bd.exec
  have hby := Bd.bytes
  have hml : c.maxLocals = 1 := hml0
  have hown : s.vm.findClass "com/example/ferrule/ferrule/io/PickleTag" = some m.cls := findClass_of_methodNamed Bd.named
  have hnm := (name_of_methodNamed Bd.named Bd.method).1
  have X0 : Stand p l e ({ frames := 0, cells := 0, slots := 0, locals := 0 } : Room) s m #[(.ref (w 0))] below meth c s₁ [] 0 0 := Stand.of_body Bd
  have e0 : s₁.heap = h0 := by rw [← hh, Bd.state]; rfl
  have N0 := Fr.nil n0
  skip
  have pre0 : ∀ t, Steps p.tables e below (s₁.setTop (mkF m 0 #[.val (.ref (w 0))] [])) t → Steps p.tables e below (s₁.setTop (entryFrame m #[(.ref (w 0))] 1)) t := fun t k => castTop (ef_2_2 m w) k
  obtain ⟨T1, X1, e1, st1⟩ := getF X0 hx hZ hown (host := "") (Or.inl (wk6 hw)) Via.refl e0 ((wd23 hW).ext O0.2) (g := (mkF m 1 #[.val (.ref (w 0))] [(.ref (w 0))])) rfl rfl (hb hby d2_1)
  obtain ⟨fs, hr, hrun, hended, hWm, hsame⟩ := X1.leave (v := some (.int (240 : Int32))) (fun h => by rw [Bd.returns] at h; cases h)
  refine ⟨_, _, pre0 _ ?_, hrun, hended, _, _, rfl, ?_, ⟨_, rfl⟩, hWm, hsame.mono (by decide) (by decide)⟩
  · show Steps p.tables e below (s₁.setTop (mkF m 0 #[.val (.ref (w 0))] [])) _
    refine sA X0 hx hby d2_0 rfl rfl ?_
    refine st1 _ ?_
    exact retI X1 hx Bd.returns (hb hby d2_4) hr
  · show Q2_2 Z w h0 n0 _ T1.heap _
    rw [e1]
    exact ⟨rfl, N0, rfl⟩
theorem pds_1 : parseMethodDescriptor "()I" = some ⟨[], some .int⟩ := by decide +kernel
theorem ef_1_3 (m : MethodId) : entryFrame m #[(.int (241 : Int32))] 2 = mkF m 0 #[.val (.int (241 : Int32)), .unset] [] := by first | (simp [entryFrame, mkF, argsToLocals, Value.category]; done) | rfl
def Q1_3 (Z : State) (w : Nat → Addr) (h0 : Heap) (n0 : Nat) (v : Option Value) (h : Heap) (L : List Loc) : Prop := v = some (.ref (w 6)) ∧ Fr n0 L ∧ h = h0
set_option maxRecDepth 65536 in
set_option maxHeartbeats 40000000 in
theorem rm1_3 (l : Launch) (Z : State) (a0 : Array Value) (hw : ∀ d ∈ tables_1, d.before a0 Z = true) (w : Nat → Addr) (hW : Wd Z w) (ws : List Jvm.Cond) (h0 : Heap) (n0 : Nat) (O0 : Old Z n0 h0) :
    MetFree l ym0 (head1 (Jvm.Cond.code ym0 prog_39_method_4_code 2 (some (.object "com/example/ferrule/ferrule/io/PickleTag")) :: ws) ({ frames := 0, cells := 0, slots := 0, locals := 0 } : Room)) (fun a U => a = #[(.int (241 : Int32))] ∧ Z.Warmed39 U.vm ∧ U.heap = h0) (fun _ _ _ _ _ => True) (fun _ U o U' => ∃ v L, o = .returned v ∧ Q1_3 Z w h0 n0 v U'.heap L ∧ FrameEnd U o U' L ({ frames := 0, cells := 0, slots := 0, locals := 0 } : Room).cells ({ frames := 0, cells := 0, slots := 0, locals := 0 } : Room).slots) := by
  refine MetFree.of_bodySF (plainFor_of_name pnc_0) hisR ?_
  intro p e s m args below meth c s₁ Bd hml0 hP hK
  obtain ⟨rfl, hZ, hh⟩ := hP
  have hx := Bd.exec
  have hby := Bd.bytes
  have hml : c.maxLocals = 2 := hml0
  have hown : s.vm.findClass "com/example/ferrule/ferrule/io/PickleTag" = some m.cls := findClass_of_methodNamed Bd.named
  have hnm := (name_of_methodNamed Bd.named Bd.method).1
  have X0 : Stand p l e ({ frames := 0, cells := 0, slots := 0, locals := 0 } : Room) s m #[(.int (241 : Int32))] below meth c s₁ [] 0 0 := Stand.of_body Bd
  have e0 : s₁.heap = h0 := by rw [← hh, Bd.state]; rfl
  have N0 := Fr.nil n0
  skip
  have pre0 : ∀ t, Steps p.tables e below (s₁.setTop (mkF m 0 #[.val (.int (241 : Int32)), .unset] [])) t → Steps p.tables e below (s₁.setTop (entryFrame m #[(.int (241 : Int32))] 2)) t := fun t k => castTop (ef_1_3 m) k
  obtain ⟨T1, X1, e1, st1⟩ := getS2 X0 hx hZ hown (host := "") (Or.inl (wk4 hw)) Via.refl e0 ((wd0 hW).ext O0.2) (g := (mkF m 1 #[.val (.int (241 : Int32)), .unset] [(.int (241 : Int32))])) rfl (hb hby d1_1)
  obtain ⟨T2, X2, e2, st2⟩ := getF X1 hx hZ hown (host := "") (Or.inl (wk6 hw)) Via.refl e1 ((wd23 hW).ext O0.2) (g := (mkF m 4 #[.val (.int (241 : Int32)), .unset] [(.ref (w 0)), (.int (241 : Int32))])) rfl rfl (hb hby d1_4)
  let Lb3 : Array Slot := #[.val (.int (241 : Int32)), .val (.int (1 : Int32))]
  obtain ⟨T4, X4, e4, st4⟩ := getS2 X2 hx hZ hown (host := "") (Or.inl (wk8 hw)) Via.refl e2 ((wd2 hW).ext O0.2) (g := (mkF m 14 Lb3 [(.int (1 : Int32))])) rfl (hb hby d1_14)
  obtain ⟨cl5, Ar5, q5, S5, Nn5, Hs5, G5⟩ := ((wd34 hW).ext O0.2)
  obtain ⟨T6, X6, e6, st6⟩ := getS2 X4 hx hZ hown (host := "") (Or.inl (wk8 hw)) Via.refl e4 ((wd2 hW).ext O0.2) (g := (mkF m 21 Lb3 [])) rfl (hb hby d1_21)
  obtain ⟨cl7, Ar7, q7, S7, Nn7, Hs7, G7⟩ := ((wd34 hW).ext O0.2)
  have hin7 : ¬ ((1 : Int32) < 0 ∨ cl7.slots.size ≤ ((1 : Int32)).toNatClampNeg) := inb_of S7 ⟨by decide, by decide⟩
  obtain ⟨fs, hr, hrun, hended, hWm, hsame⟩ := X6.leave (v := some (.ref (w 6))) (fun h => by rw [Bd.returns] at h; cases h)
  refine ⟨_, _, pre0 _ ?_, hrun, hended, _, _, rfl, ?_, ⟨_, rfl⟩, hWm, hsame.mono (by decide) (by decide)⟩
  · show Steps p.tables e below (s₁.setTop (mkF m 0 #[.val (.int (241 : Int32)), .unset] [])) _
    refine sI X0 hx hby d1_0 rfl ?_
    refine st1 _ ?_
    refine st2 _ ?_
    refine XS.isub X2.here hx rfl (hb hby d1_7) rfl ?_
    refine XS.istoreN X2.here hx rfl (hb hby d1_8) rfl (l' := Lb3) rfl ?_
    refine sI X2 hx hby d1_9 rfl ?_
    refine sN X2 hx hby d1_10 (by decide) ?_
    refine sI X2 hx hby d1_13 rfl ?_
    show Steps p.tables e below (T2.setTop (mkF m 14 Lb3 [(.int (1 : Int32))])) _
    refine st4 _ ?_
    refine X4.arraylength hx (by rw [e4]; exact Ar5.1) (State.isArrayOf_alike hZ.alike Ar5.2.1) (g := (mkF m 17 Lb3 [(.ref (w 1)), (.int (1 : Int32))])) rfl rfl (hb hby d1_17) _ ?_
    rw [len_of S5 Nn5]
    show Steps p.tables e below (T4.setTop (mkF m 18 Lb3 [(.int (11 : Int32)), (.int (1 : Int32))])) _
    refine sn X4 hx hby d1_18 (by decide) ?_
    refine st6 _ ?_
    refine sI X6 hx hby d1_24 rfl ?_
    refine X6.aaload hx (j := (1 : Int32)) (v := (.ref (w 6))) (by rw [e6]; exact Ar7.1) (State.isArrayOf_alike hZ.alike Ar7.2.1) rfl Ar7.2.2 hin7 (Hs7.at hin7 rfl) (g := (mkF m 25 Lb3 [(.int (1 : Int32)), (.ref (w 1))])) rfl rfl (hb hby d1_25) _ ?_
    refine sg (pc := 26) (pc' := 30) X6 hx hby d1_26 (by decide) (by decide) ?_
    jvm_step X6.here [X6.here.top, hx, (hb hby d1_30), X6.method', Bd.returns, Value.isRef, FieldType.isReference]
    first | (intro acts; rw [hr _ acts rfl rfl rfl]) | rw [hr _ _ rfl rfl rfl]
    exact Steps.refl _
  · show Q1_3 Z w h0 n0 _ T6.heap _
    rw [e6]
    exact ⟨rfl, N0, rfl⟩
theorem ef_2_4 (m : MethodId) (w : Nat → Addr) : entryFrame m #[(.ref (w 6))] 1 = mkF m 0 #[.val (.ref (w 6))] [] := by first | (simp [entryFrame, mkF, argsToLocals, Value.category]; done) | rfl
def Q2_4 (Z : State) (w : Nat → Addr) (h0 : Heap) (n0 : Nat) (v : Option Value) (h : Heap) (L : List Loc) : Prop := v = some (.int (241 : Int32)) ∧ Fr n0 L ∧ h = h0
set_option maxRecDepth 65536 in
set_option maxHeartbeats 40000000 in
theorem rm2_4 (l : Launch) (Z : State) (a0 : Array Value) (hw : ∀ d ∈ tables_1, d.before a0 Z = true) (w : Nat → Addr) (hW : Wd Z w) (ws : List Jvm.Cond) (h0 : Heap) (n0 : Nat) (O0 : Old Z n0 h0) :
    MetFree l ym1 (head1 (Jvm.Cond.code ym1 prog_39_method_5_code 1 (some .int) :: ws) ({ frames := 0, cells := 0, slots := 0, locals := 0 } : Room)) (fun a U => a = #[(.ref (w 6))] ∧ Z.Warmed39 U.vm ∧ U.heap = h0) (fun _ _ _ _ _ => True) (fun _ U o U' => ∃ v L, o = .returned v ∧ Q2_4 Z w h0 n0 v U'.heap L ∧ FrameEnd U o U' L ({ frames := 0, cells := 0, slots := 0, locals := 0 } : Room).cells ({ frames := 0, cells := 0, slots := 0, locals := 0 } : Room).slots) := by
  refine MetFree.of_bodySF (plainFor_of_name pnc_0) hisR ?_
  intro p e s m args below meth c s₁ Bd hml0 hP hK
  obtain ⟨rfl, hZ, hh⟩ := hP
  have hx := Bd.exec
  have hby := Bd.bytes
  have hml : c.maxLocals = 1 := hml0
  have hown : s.vm.findClass "com/example/ferrule/ferrule/io/PickleTag" = some m.cls := findClass_of_methodNamed Bd.named
  have hnm := (name_of_methodNamed Bd.named Bd.method).1
  have X0 : Stand p l e ({ frames := 0, cells := 0, slots := 0, locals := 0 } : Room) s m #[(.ref (w 6))] below meth c s₁ [] 0 0 := Stand.of_body Bd
  have e0 : s₁.heap = h0 := by rw [← hh, Bd.state]; rfl
  have N0 := Fr.nil n0
  skip
  have pre0 : ∀ t, Steps p.tables e below (s₁.setTop (mkF m 0 #[.val (.ref (w 6))] [])) t → Steps p.tables e below (s₁.setTop (entryFrame m #[(.ref (w 6))] 1)) t := fun t k => castTop (ef_2_4 m w) k
  obtain ⟨T1, X1, e1, st1⟩ := getF X0 hx hZ hown (host := "") (Or.inl (wk6 hw)) Via.refl e0 ((wd28 hW).ext O0.2) (g := (mkF m 1 #[.val (.ref (w 6))] [(.ref (w 6))])) rfl rfl (hb hby d2_1)
  obtain ⟨fs, hr, hrun, hended, hWm, hsame⟩ := X1.leave (v := some (.int (241 : Int32))) (fun h => by rw [Bd.returns] at h; cases h)
  refine ⟨_, _, pre0 _ ?_, hrun, hended, _, _, rfl, ?_, ⟨_, rfl⟩, hWm, hsame.mono (by decide) (by decide)⟩
  · show Steps p.tables e below (s₁.setTop (mkF m 0 #[.val (.ref (w 6))] [])) _
    refine sA X0 hx hby d2_0 rfl rfl ?_
    refine st1 _ ?_
    exact retI X1 hx Bd.returns (hb hby d2_4) hr
  · show Q2_4 Z w h0 n0 _ T1.heap _
    rw [e1]
    exact ⟨rfl, N0, rfl⟩
theorem ef_1_5 (m : MethodId) : entryFrame m #[(.int (242 : Int32))] 2 = mkF m 0 #[.val (.int (242 : Int32)), .unset] [] := by first | (simp [entryFrame, mkF, argsToLocals, Value.category]; done) | rfl
def Q1_5 (Z : State) (w : Nat → Addr) (h0 : Heap) (n0 : Nat) (v : Option Value) (h : Heap) (L : List Loc) : Prop := v = some (.ref (w 9)) ∧ Fr n0 L ∧ h = h0
set_option maxRecDepth 65536 in
set_option maxHeartbeats 40000000 in
theorem rm1_5 (l : Launch) (Z : State) (a0 : Array Value) (hw : ∀ d ∈ tables_1, d.before a0 Z = true) (w : Nat → Addr) (hW : Wd Z w) (ws : List Jvm.Cond) (h0 : Heap) (n0 : Nat) (O0 : Old Z n0 h0) :
    MetFree l ym0 (head1 (Jvm.Cond.code ym0 prog_39_method_4_code 2 (some (.object "com/example/ferrule/ferrule/io/PickleTag")) :: ws) ({ frames := 0, cells := 0, slots := 0, locals := 0 } : Room)) (fun a U => a = #[(.int (242 : Int32))] ∧ Z.Warmed39 U.vm ∧ U.heap = h0) (fun _ _ _ _ _ => True) (fun _ U o U' => ∃ v L, o = .returned v ∧ Q1_5 Z w h0 n0 v U'.heap L ∧ FrameEnd U o U' L ({ frames := 0, cells := 0, slots := 0, locals := 0 } : Room).cells ({ frames := 0, cells := 0, slots := 0, locals := 0 } : Room).slots) := by
  refine MetFree.of_bodySF (plainFor_of_name pnc_0) hisR ?_
  intro p e s m args below meth c s₁ Bd hml0 hP hK
  obtain ⟨rfl, hZ, hh⟩ := hP
  have hx := Bd.exec
  have hby := Bd.bytes
  have hml : c.maxLocals = 2 := hml0
  have hown : s.vm.findClass "com/example/ferrule/ferrule/io/PickleTag" = some m.cls := findClass_of_methodNamed Bd.named
  have hnm := (name_of_methodNamed Bd.named Bd.method).1
  have X0 : Stand p l e ({ frames := 0, cells := 0, slots := 0, locals := 0 } : Room) s m #[(.int (242 : Int32))] below meth c s₁ [] 0 0 := Stand.of_body Bd
  have e0 : s₁.heap = h0 := by rw [← hh, Bd.state]; rfl
  have N0 := Fr.nil n0
  skip
  have pre0 : ∀ t, Steps p.tables e below (s₁.setTop (mkF m 0 #[.val (.int (242 : Int32)), .unset] [])) t → Steps p.tables e below (s₁.setTop (entryFrame m #[(.int (242 : Int32))] 2)) t := fun t k => castTop (ef_1_5 m) k
  obtain ⟨T1, X1, e1, st1⟩ := getS2 X0 hx hZ hown (host := "") (Or.inl (wk4 hw)) Via.refl e0 ((wd0 hW).ext O0.2) (g := (mkF m 1 #[.val (.int (242 : Int32)), .unset] [(.int (242 : Int32))])) rfl (hb hby d1_1)
  obtain ⟨T2, X2, e2, st2⟩ := getF X1 hx hZ hown (host := "") (Or.inl (wk6 hw)) Via.refl e1 ((wd23 hW).ext O0.2) (g := (mkF m 4 #[.val (.int (242 : Int32)), .unset] [(.ref (w 0)), (.int (242 : Int32))])) rfl rfl (hb hby d1_4)
  let Lb3 : Array Slot := #[.val (.int (242 : Int32)), .val (.int (2 : Int32))]
  obtain ⟨T4, X4, e4, st4⟩ := getS2 X2 hx hZ hown (host := "") (Or.inl (wk8 hw)) Via.refl e2 ((wd2 hW).ext O0.2) (g := (mkF m 14 Lb3 [(.int (2 : Int32))])) rfl (hb hby d1_14)
  obtain ⟨cl5, Ar5, q5, S5, Nn5, Hs5, G5⟩ := ((wd34 hW).ext O0.2)
  obtain ⟨T6, X6, e6, st6⟩ := getS2 X4 hx hZ hown (host := "") (Or.inl (wk8 hw)) Via.refl e4 ((wd2 hW).ext O0.2) (g := (mkF m 21 Lb3 [])) rfl (hb hby d1_21)
  obtain ⟨cl7, Ar7, q7, S7, Nn7, Hs7, G7⟩ := ((wd34 hW).ext O0.2)
  have hin7 : ¬ ((2 : Int32) < 0 ∨ cl7.slots.size ≤ ((2 : Int32)).toNatClampNeg) := inb_of S7 ⟨by decide, by decide⟩
  obtain ⟨fs, hr, hrun, hended, hWm, hsame⟩ := X6.leave (v := some (.ref (w 9))) (fun h => by rw [Bd.returns] at h; cases h)
  refine ⟨_, _, pre0 _ ?_, hrun, hended, _, _, rfl, ?_, ⟨_, rfl⟩, hWm, hsame.mono (by decide) (by decide)⟩
  · show Steps p.tables e below (s₁.setTop (mkF m 0 #[.val (.int (242 : Int32)), .unset] [])) _
    refine sI X0 hx hby d1_0 rfl ?_
    refine st1 _ ?_
    refine st2 _ ?_
    refine XS.isub X2.here hx rfl (hb hby d1_7) rfl ?_
    refine XS.istoreN X2.here hx rfl (hb hby d1_8) rfl (l' := Lb3) rfl ?_
    refine sI X2 hx hby d1_9 rfl ?_
    refine sN X2 hx hby d1_10 (by decide) ?_
    refine sI X2 hx hby d1_13 rfl ?_
    show Steps p.tables e below (T2.setTop (mkF m 14 Lb3 [(.int (2 : Int32))])) _
    refine st4 _ ?_
    refine X4.arraylength hx (by rw [e4]; exact Ar5.1) (State.isArrayOf_alike hZ.alike Ar5.2.1) (g := (mkF m 17 Lb3 [(.ref (w 1)), (.int (2 : Int32))])) rfl rfl (hb hby d1_17) _ ?_
    rw [len_of S5 Nn5]
    show Steps p.tables e below (T4.setTop (mkF m 18 Lb3 [(.int (11 : Int32)), (.int (2 : Int32))])) _
    refine sn X4 hx hby d1_18 (by decide) ?_
    refine st6 _ ?_
    refine sI X6 hx hby d1_24 rfl ?_
    refine X6.aaload hx (j := (2 : Int32)) (v := (.ref (w 9))) (by rw [e6]; exact Ar7.1) (State.isArrayOf_alike hZ.alike Ar7.2.1) rfl Ar7.2.2 hin7 (Hs7.at hin7 rfl) (g := (mkF m 25 Lb3 [(.int (2 : Int32)), (.ref (w 1))])) rfl rfl (hb hby d1_25) _ ?_
    refine sg (pc := 26) (pc' := 30) X6 hx hby d1_26 (by decide) (by decide) ?_
    jvm_step X6.here [X6.here.top, hx, (hb hby d1_30), X6.method', Bd.returns, Value.isRef, FieldType.isReference]
    first | (intro acts; rw [hr _ acts rfl rfl rfl]) | rw [hr _ _ rfl rfl rfl]
    exact Steps.refl _
  · show Q1_5 Z w h0 n0 _ T6.heap _
    rw [e6]
    exact ⟨rfl, N0, rfl⟩
theorem ef_2_6 (m : MethodId) (w : Nat → Addr) : entryFrame m #[(.ref (w 9))] 1 = mkF m 0 #[.val (.ref (w 9))] [] := by first | (simp [entryFrame, mkF, argsToLocals, Value.category]; done) | rfl
def Q2_6 (Z : State) (w : Nat → Addr) (h0 : Heap) (n0 : Nat) (v : Option Value) (h : Heap) (L : List Loc) : Prop := v = some (.int (242 : Int32)) ∧ Fr n0 L ∧ h = h0
set_option maxRecDepth 65536 in
set_option maxHeartbeats 40000000 in
theorem rm2_6 (l : Launch) (Z : State) (a0 : Array Value) (hw : ∀ d ∈ tables_1, d.before a0 Z = true) (w : Nat → Addr) (hW : Wd Z w) (ws : List Jvm.Cond) (h0 : Heap) (n0 : Nat) (O0 : Old Z n0 h0) :
    MetFree l ym1 (head1 (Jvm.Cond.code ym1 prog_39_method_5_code 1 (some .int) :: ws) ({ frames := 0, cells := 0, slots := 0, locals := 0 } : Room)) (fun a U => a = #[(.ref (w 9))] ∧ Z.Warmed39 U.vm ∧ U.heap = h0) (fun _ _ _ _ _ => True) (fun _ U o U' => ∃ v L, o = .returned v ∧ Q2_6 Z w h0 n0 v U'.heap L ∧ FrameEnd U o U' L ({ frames := 0, cells := 0, slots := 0, locals := 0 } : Room).cells ({ frames := 0, cells := 0, slots := 0, locals := 0 } : Room).slots) := by
  refine MetFree.of_bodySF (plainFor_of_name pnc_0) hisR ?_
  intro p e s m args below meth c s₁ Bd hml0 hP hK
  obtain ⟨rfl, hZ, hh⟩ := hP
  have hx := Bd.exec
  have hby := Bd.bytes
  have hml : c.maxLocals = 1 := hml0
  have hown : s.vm.findClass "com/example/ferrule/ferrule/io/PickleTag" = some m.cls := findClass_of_methodNamed Bd.named
  have hnm := (name_of_methodNamed Bd.named Bd.method).1
  have X0 : Stand p l e ({ frames := 0, cells := 0, slots := 0, locals := 0 } : Room) s m #[(.ref (w 9))] below meth c s₁ [] 0 0 := Stand.of_body Bd
  have e0 : s₁.heap = h0 := by rw [← hh, Bd.state]; rfl
  have N0 := Fr.nil n0
  skip
  have pre0 : ∀ t, Steps p.tables e below (s₁.setTop (mkF m 0 #[.val (.ref (w 9))] [])) t → Steps p.tables e below (s₁.setTop (entryFrame m #[(.ref (w 9))] 1)) t := fun t k => castTop (ef_2_6 m w) k
  obtain ⟨T1, X1, e1, st1⟩ := getF X0 hx hZ hown (host := "") (Or.inl (wk6 hw)) Via.refl e0 ((wd31 hW).ext O0.2) (g := (mkF m 1 #[.val (.ref (w 9))] [(.ref (w 9))])) rfl rfl (hb hby d2_1)
  obtain ⟨fs, hr, hrun, hended, hWm, hsame⟩ := X1.leave (v := some (.int (242 : Int32))) (fun h => by rw [Bd.returns] at h; cases h)
  refine ⟨_, _, pre0 _ ?_, hrun, hended, _, _, rfl, ?_, ⟨_, rfl⟩, hWm, hsame.mono (by decide) (by decide)⟩
  · show Steps p.tables e below (s₁.setTop (mkF m 0 #[.val (.ref (w 9))] [])) _
    refine sA X0 hx hby d2_0 rfl rfl ?_
    refine st1 _ ?_
    exact retI X1 hx Bd.returns (hb hby d2_4) hr
  · show Q2_6 Z w h0 n0 _ T1.heap _
    rw [e1]
    exact ⟨rfl, N0, rfl⟩
theorem ef_1_7 (m : MethodId) : entryFrame m #[(.int (243 : Int32))] 2 = mkF m 0 #[.val (.int (243 : Int32)), .unset] [] := by first | (simp [entryFrame, mkF, argsToLocals, Value.category]; done) | rfl
def Q1_7 (Z : State) (w : Nat → Addr) (h0 : Heap) (n0 : Nat) (v : Option Value) (h : Heap) (L : List Loc) : Prop := v = some (.ref (w 7)) ∧ Fr n0 L ∧ h = h0
set_option maxRecDepth 65536 in
set_option maxHeartbeats 40000000 in
theorem rm1_7 (l : Launch) (Z : State) (a0 : Array Value) (hw : ∀ d ∈ tables_1, d.before a0 Z = true) (w : Nat → Addr) (hW : Wd Z w) (ws : List Jvm.Cond) (h0 : Heap) (n0 : Nat) (O0 : Old Z n0 h0) :
    MetFree l ym0 (head1 (Jvm.Cond.code ym0 prog_39_method_4_code 2 (some (.object "com/example/ferrule/ferrule/io/PickleTag")) :: ws) ({ frames := 0, cells := 0, slots := 0, locals := 0 } : Room)) (fun a U => a = #[(.int (243 : Int32))] ∧ Z.Warmed39 U.vm ∧ U.heap = h0) (fun _ _ _ _ _ => True) (fun _ U o U' => ∃ v L, o = .returned v ∧ Q1_7 Z w h0 n0 v U'.heap L ∧ FrameEnd U o U' L ({ frames := 0, cells := 0, slots := 0, locals := 0 } : Room).cells ({ frames := 0, cells := 0, slots := 0, locals := 0 } : Room).slots) := by
  refine MetFree.of_bodySF (plainFor_of_name pnc_0) hisR ?_
  intro p e s m args below meth c s₁ Bd hml0 hP hK
  obtain ⟨rfl, hZ, hh⟩ := hP
  have hx := Bd.exec
  have hby := Bd.bytes
  have hml : c.maxLocals = 2 := hml0
  have hown : s.vm.findClass "com/example/ferrule/ferrule/io/PickleTag" = some m.cls := findClass_of_methodNamed Bd.named
  have hnm := (name_of_methodNamed Bd.named Bd.method).1
  have X0 : Stand p l e ({ frames := 0, cells := 0, slots := 0, locals := 0 } : Room) s m #[(.int (243 : Int32))] below meth c s₁ [] 0 0 := Stand.of_body Bd
  have e0 : s₁.heap = h0 := by rw [← hh, Bd.state]; rfl
  have N0 := Fr.nil n0
  skip
  have pre0 : ∀ t, Steps p.tables e below (s₁.setTop (mkF m 0 #[.val (.int (243 : Int32)), .unset] [])) t → Steps p.tables e below (s₁.setTop (entryFrame m #[(.int (243 : Int32))] 2)) t := fun t k => castTop (ef_1_7 m) k
  obtain ⟨T1, X1, e1, st1⟩ := getS2 X0 hx hZ hown (host := "") (Or.inl (wk4 hw)) Via.refl e0 ((wd0 hW).ext O0.2) (g := (mkF m 1 #[.val (.int (243 : Int32)), .unset] [(.int (243 : Int32))])) rfl (hb hby d1_1)
  obtain ⟨T2, X2, e2, st2⟩ := getF X1 hx hZ hown (host := "") (Or.inl (wk6 hw)) Via.refl e1 ((wd23 hW).ext O0.2) (g := (mkF m 4 #[.val (.int (243 : Int32)), .unset] [(.ref (w 0)), (.int (243 : Int32))])) rfl rfl (hb hby d1_4)
  let Lb3 : Array Slot := #[.val (.int (243 : Int32)), .val (.int (3 : Int32))]
  obtain ⟨T4, X4, e4, st4⟩ := getS2 X2 hx hZ hown (host := "") (Or.inl (wk8 hw)) Via.refl e2 ((wd2 hW).ext O0.2) (g := (mkF m 14 Lb3 [(.int (3 : Int32))])) rfl (hb hby d1_14)
  obtain ⟨cl5, Ar5, q5, S5, Nn5, Hs5, G5⟩ := ((wd34 hW).ext O0.2)
  obtain ⟨T6, X6, e6, st6⟩ := getS2 X4 hx hZ hown (host := "") (Or.inl (wk8 hw)) Via.refl e4 ((wd2 hW).ext O0.2) (g := (mkF m 21 Lb3 [])) rfl (hb hby d1_21)
  obtain ⟨cl7, Ar7, q7, S7, Nn7, Hs7, G7⟩ := ((wd34 hW).ext O0.2)
  have hin7 : ¬ ((3 : Int32) < 0 ∨ cl7.slots.size ≤ ((3 : Int32)).toNatClampNeg) := inb_of S7 ⟨by decide, by decide⟩
  obtain ⟨fs, hr, hrun, hended, hWm, hsame⟩ := X6.leave (v := some (.ref (w 7))) (fun h => by rw [Bd.returns] at h; cases h)
  refine ⟨_, _, pre0 _ ?_, hrun, hended, _, _, rfl, ?_, ⟨_, rfl⟩, hWm, hsame.mono (by decide) (by decide)⟩
  · show Steps p.tables e below (s₁.setTop (mkF m 0 #[.val (.int (243 : Int32)), .unset] [])) _
    refine sI X0 hx hby d1_0 rfl ?_
    refine st1 _ ?_
    refine st2 _ ?_
    refine XS.isub X2.here hx rfl (hb hby d1_7) rfl ?_
    refine XS.istoreN X2.here hx rfl (hb hby d1_8) rfl (l' := Lb3) rfl ?_
    refine sI X2 hx hby d1_9 rfl ?_
    refine sN X2 hx hby d1_10 (by decide) ?_
    refine sI X2 hx hby d1_13 rfl ?_
    show Steps p.tables e below (T2.setTop (mkF m 14 Lb3 [(.int (3 : Int32))])) _
    refine st4 _ ?_
    refine X4.arraylength hx (by rw [e4]; exact Ar5.1) (State.isArrayOf_alike hZ.alike Ar5.2.1) (g := (mkF m 17 Lb3 [(.ref (w 1)), (.int (3 : Int32))])) rfl rfl (hb hby d1_17) _ ?_
    rw [len_of S5 Nn5]
    show Steps p.tables e below (T4.setTop (mkF m 18 Lb3 [(.int (11 : Int32)), (.int (3 : Int32))])) _
    refine sn X4 hx hby d1_18 (by decide) ?_
    refine st6 _ ?_
    refine sI X6 hx hby d1_24 rfl ?_
    refine X6.aaload hx (j := (3 : Int32)) (v := (.ref (w 7))) (by rw [e6]; exact Ar7.1) (State.isArrayOf_alike hZ.alike Ar7.2.1) rfl Ar7.2.2 hin7 (Hs7.at hin7 rfl) (g := (mkF m 25 Lb3 [(.int (3 : Int32)), (.ref (w 1))])) rfl rfl (hb hby d1_25) _ ?_
    refine sg (pc := 26) (pc' := 30) X6 hx hby d1_26 (by decide) (by decide) ?_
    jvm_step X6.here [X6.here.top, hx, (hb hby d1_30), X6.method', Bd.returns, Value.isRef, FieldType.isReference]
    first | (intro acts; rw [hr _ acts rfl rfl rfl]) | rw [hr _ _ rfl rfl rfl]
    exact Steps.refl _
  · show Q1_7 Z w h0 n0 _ T6.heap _
    rw [e6]
    exact ⟨rfl, N0, rfl⟩
theorem ef_2_8 (m : MethodId) (w : Nat → Addr) : entryFrame m #[(.ref (w 7))] 1 = mkF m 0 #[.val (.ref (w 7))] [] := by first | (simp [entryFrame, mkF, argsToLocals, Value.category]; done) | rfl
def Q2_8 (Z : State) (w : Nat → Addr) (h0 : Heap) (n0 : Nat) (v : Option Value) (h : Heap) (L : List Loc) : Prop := v = some (.int (243 : Int32)) ∧ Fr n0 L ∧ h = h0
set_option maxRecDepth 65536 in
set_option maxHeartbeats 40000000 in
theorem rm2_8 (l : Launch) (Z : State) (a0 : Array Value) (hw : ∀ d ∈ tables_1, d.before a0 Z = true) (w : Nat → Addr) (hW : Wd Z w) (ws : List Jvm.Cond) (h0 : Heap) (n0 : Nat) (O0 : Old Z n0 h0) :
    MetFree l ym1 (head1 (Jvm.Cond.code ym1 prog_39_method_5_code 1 (some .int) :: ws) ({ frames := 0, cells := 0, slots := 0, locals := 0 } : Room)) (fun a U => a = #[(.ref (w 7))] ∧ Z.Warmed39 U.vm ∧ U.heap = h0) (fun _ _ _ _ _ => True) (fun _ U o U' => ∃ v L, o = .returned v ∧ Q2_8 Z w h0 n0 v U'.heap L ∧ FrameEnd U o U' L ({ frames := 0, cells := 0, slots := 0, locals := 0 } : Room).cells ({ frames := 0, cells := 0, slots := 0, locals := 0 } : Room).slots) := by
  refine MetFree.of_bodySF (plainFor_of_name pnc_0) hisR ?_
  intro p e s m args below meth c s₁ Bd hml0 hP hK
  obtain ⟨rfl, hZ, hh⟩ := hP
  have hx := Bd.exec
  have hby := Bd.bytes
  have hml : c.maxLocals = 1 := hml0
  have hown : s.vm.findClass "com/example/ferrule/ferrule/io/PickleTag" = some m.cls := findClass_of_methodNamed Bd.named
  have hnm := (name_of_methodNamed Bd.named Bd.method).1
  have X0 : Stand p l e ({ frames := 0, cells := 0, slots := 0, locals := 0 } : Room) s m #[(.ref (w 7))] below meth c s₁ [] 0 0 := Stand.of_body Bd
  have e0 : s₁.heap = h0 := by rw [← hh, Bd.state]; rfl
  have N0 := Fr.nil n0
  skip
  have pre0 : ∀ t, Steps p.tables e below (s₁.setTop (mkF m 0 #[.val (.ref (w 7))] [])) t → Steps p.tables e below (s₁.setTop (entryFrame m #[(.ref (w 7))] 1)) t := fun t k => castTop (ef_2_8 m w) k
  obtain ⟨T1, X1, e1, st1⟩ := getF X0 hx hZ hown (host := "") (Or.inl (wk6 hw)) Via.refl e0 ((wd29 hW).ext O0.2) (g := (mkF m 1 #[.val (.ref (w 7))] [(.ref (w 7))])) rfl rfl (hb hby d2_1)
  obtain ⟨fs, hr, hrun, hended, hWm, hsame⟩ := X1.leave (v := some (.int (243 : Int32))) (fun h => by rw [Bd.returns] at h; cases h)
  refine ⟨_, _, pre0 _ ?_, hrun, hended, _, _, rfl, ?_, ⟨_, rfl⟩, hWm, hsame.mono (by decide) (by decide)⟩
  · show Steps p.tables e below (s₁.setTop (mkF m 0 #[.val (.ref (w 7))] [])) _
    refine sA X0 hx hby d2_0 rfl rfl ?_
    refine st1 _ ?_
    exact retI X1 hx Bd.returns (hb hby d2_4) hr
  · show Q2_8 Z w h0 n0 _ T1.heap _
    rw [e1]
    exact ⟨rfl, N0, rfl⟩
theorem ef_1_9 (m : MethodId) : entryFrame m #[(.int (244 : Int32))] 2 = mkF m 0 #[.val (.int (244 : Int32)), .unset] [] := by first | (simp [entryFrame, mkF, argsToLocals, Value.category]; done) | rfl
def Q1_9 (Z : State) (w : Nat → Addr) (h0 : Heap) (n0 : Nat) (v : Option Value) (h : Heap) (L : List Loc) : Prop := v = some (.ref (w 3)) ∧ Fr n0 L ∧ h = h0
set_option maxRecDepth 65536 in
set_option maxHeartbeats 40000000 in
theorem rm1_9 (l : Launch) (Z : State) (a0 : Array Value) (hw : ∀ d ∈ tables_1, d.before a0 Z = true) (w : Nat → Addr) (hW : Wd Z w) (ws : List Jvm.Cond) (h0 : Heap) (n0 : Nat) (O0 : Old Z n0 h0) :
    MetFree l ym0 (head1 (Jvm.Cond.code ym0 prog_39_method_4_code 2 (some (.object "com/example/ferrule/ferrule/io/PickleTag")) :: ws) ({ frames := 0, cells := 0, slots := 0, locals := 0 } : Room)) (fun a U => a = #[(.int (244 : Int32))] ∧ Z.Warmed39 U.vm ∧ U.heap = h0) (fun _ _ _ _ _ => True) (fun _ U o U' => ∃ v L, o = .returned v ∧ Q1_9 Z w h0 n0 v U'.heap L ∧ FrameEnd U o U' L ({ frames := 0, cells := 0, slots := 0, locals := 0 } : Room).cells ({ frames := 0, cells := 0, slots := 0, locals := 0 } : Room).slots) := by
  refine MetFree.of_bodySF (plainFor_of_name pnc_0) hisR ?_
  intro p e s m args below meth c s₁ Bd hml0 hP hK
  obtain ⟨rfl, hZ, hh⟩ := hP
  have hx := Bd.exec
  have hby := Bd.bytes
  have hml : c.maxLocals = 2 := hml0
  have hown : s.vm.findClass "com/example/ferrule/ferrule/io/PickleTag" = some m.cls := findClass_of_methodNamed Bd.named
  have hnm := (name_of_methodNamed Bd.named Bd.method).1
  have X0 : Stand p l e ({ frames := 0, cells := 0, slots := 0, locals := 0 } : Room) s m #[(.int (244 : Int32))] below meth c s₁ [] 0 0 := Stand.of_body Bd
  have e0 : s₁.heap = h0 := by rw [← hh, Bd.state]; rfl
  have N0 := Fr.nil n0
  skip
  have pre0 : ∀ t, Steps p.tables e below (s₁.setTop (mkF m 0 #[.val (.int (244 : Int32)), .unset] [])) t → Steps p.tables e below (s₁.setTop (entryFrame m #[(.int (244 : Int32))] 2)) t := fun t k => castTop (ef_1_9 m) k
  obtain ⟨T1, X1, e1, st1⟩ := getS2 X0 hx hZ hown (host := "") (Or.inl (wk4 hw)) Via.refl e0 ((wd0 hW).ext O0.2) (g := (mkF m 1 #[.val (.int (244 : Int32)), .unset] [(.int (244 : Int32))])) rfl (hb hby d1_1)
  obtain ⟨T2, X2, e2, st2⟩ := getF X1 hx hZ hown (host := "") (Or.inl (wk6 hw)) Via.refl e1 ((wd23 hW).ext O0.2) (g := (mkF m 4 #[.val (.int (244 : Int32)), .unset] [(.ref (w 0)), (.int (244 : Int32))])) rfl rfl (hb hby d1_4)
  let Lb3 : Array Slot := #[.val (.int (244 : Int32)), .val (.int (4 : Int32))]
  obtain ⟨T4, X4, e4, st4⟩ := getS2 X2 hx hZ hown (host := "") (Or.inl (wk8 hw)) Via.refl e2 ((wd2 hW).ext O0.2) (g := (mkF m 14 Lb3 [(.int (4 : Int32))])) rfl (hb hby d1_14)
  obtain ⟨cl5, Ar5, q5, S5, Nn5, Hs5, G5⟩ := ((wd34 hW).ext O0.2)
  obtain ⟨T6, X6, e6, st6⟩ := getS2 X4 hx hZ hown (host := "") (Or.inl (wk8 hw)) Via.refl e4 ((wd2 hW).ext O0.2) (g := (mkF m 21 Lb3 [])) rfl (hb hby d1_21)
  obtain ⟨cl7, Ar7, q7, S7, Nn7, Hs7, G7⟩ := ((wd34 hW).ext O0.2)
  have hin7 : ¬ ((4 : Int32) < 0 ∨ cl7.slots.size ≤ ((4 : Int32)).toNatClampNeg) := inb_of S7 ⟨by decide, by decide⟩
  obtain ⟨fs, hr, hrun, hended, hWm, hsame⟩ := X6.leave (v := some (.ref (w 3))) (fun h => by rw [Bd.returns] at h; cases h)
  refine ⟨_, _, pre0 _ ?_, hrun, hended, _, _, rfl, ?_, ⟨_, rfl⟩, hWm, hsame.mono (by decide) (by decide)⟩
  · show Steps p.tables e below (s₁.setTop (mkF m 0 #[.val (.int (244 : Int32)), .unset] [])) _
    refine sI X0 hx hby d1_0 rfl ?_
    refine st1 _ ?_
    refine st2 _ ?_
    refine XS.isub X2.here hx rfl (hb hby d1_7) rfl ?_
    refine XS.istoreN X2.here hx rfl (hb hby d1_8) rfl (l' := Lb3) rfl ?_
    refine sI X2 hx hby d1_9 rfl ?_
    refine sN X2 hx hby d1_10 (by decide) ?_
    refine sI X2 hx hby d1_13 rfl ?_
    show Steps p.tables e below (T2.setTop (mkF m 14 Lb3 [(.int (4 : Int32))])) _
    refine st4 _ ?_
    refine X4.arraylength hx (by rw [e4]; exact Ar5.1) (State.isArrayOf_alike hZ.alike Ar5.2.1) (g := (mkF m 17 Lb3 [(.ref (w 1)), (.int (4 : Int32))])) rfl rfl (hb hby d1_17) _ ?_
    rw [len_of S5 Nn5]
    show Steps p.tables e below (T4.setTop (mkF m 18 Lb3 [(.int (11 : Int32)), (.int (4 : Int32))])) _
    refine sn X4 hx hby d1_18 (by decide) ?_
    refine st6 _ ?_
    refine sI X6 hx hby d1_24 rfl ?_
    refine X6.aaload hx (j := (4 : Int32)) (v := (.ref (w 3))) (by rw [e6]; exact Ar7.1) (State.isArrayOf_alike hZ.alike Ar7.2.1) rfl Ar7.2.2 hin7 (Hs7.at hin7 rfl) (g := (mkF m 25 Lb3 [(.int (4 : Int32)), (.ref (w 1))])) rfl rfl (hb hby d1_25) _ ?_
    refine sg (pc := 26) (pc' := 30) X6 hx hby d1_26 (by decide) (by decide) ?_
    jvm_step X6.here [X6.here.top, hx, (hb hby d1_30), X6.method', Bd.returns, Value.isRef, FieldType.isReference]
    first | (intro acts; rw [hr _ acts rfl rfl rfl]) | rw [hr _ _ rfl rfl rfl]
    exact Steps.refl _
  · show Q1_9 Z w h0 n0 _ T6.heap _
    rw [e6]
    exact ⟨rfl, N0, rfl⟩
theorem ef_2_10 (m : MethodId) (w : Nat → Addr) : entryFrame m #[(.ref (w 3))] 1 = mkF m 0 #[.val (.ref (w 3))] [] := by first | (simp [entryFrame, mkF, argsToLocals, Value.category]; done) | rfl
def Q2_10 (Z : State) (w : Nat → Addr) (h0 : Heap) (n0 : Nat) (v : Option Value) (h : Heap) (L : List Loc) : Prop := v = some (.int (244 : Int32)) ∧ Fr n0 L ∧ h = h0
set_option maxRecDepth 65536 in
set_option maxHeartbeats 40000000 in
theorem rm2_10 (l : Launch) (Z : State) (a0 : Array Value) (hw : ∀ d ∈ tables_1, d.before a0 Z = true) (w : Nat → Addr) (hW : Wd Z w) (ws : List Jvm.Cond) (h0 : Heap) (n0 : Nat) (O0 : Old Z n0 h0) :
    MetFree l ym1 (head1 (Jvm.Cond.code ym1 prog_39_method_5_code 1 (some .int) :: ws) ({ frames := 0, cells := 0, slots := 0, locals := 0 } : Room)) (fun a U => a = #[(.ref (w 3))] ∧ Z.Warmed39 U.vm ∧ U.heap = h0) (fun _ _ _ _ _ => True) (fun _ U o U' => ∃ v L, o = .returned v ∧ Q2_10 Z w h0 n0 v U'.heap L ∧ FrameEnd U o U' L ({ frames := 0, cells := 0, slots := 0, locals := 0 } : Room).cells ({ frames := 0, cells := 0, slots := 0, locals := 0 } : Room).slots) := by
  refine MetFree.of_bodySF (plainFor_of_name pnc_0) hisR ?_
  intro p e s m args below meth c s₁ Bd hml0 hP hK
  obtain ⟨rfl, hZ, hh⟩ := hP
  have hx := Bd.exec
  have hby := Bd.bytes
  have hml : c.maxLocals = 1 := hml0
  have hown : s.vm.findClass "com/example/ferrule/ferrule/io/PickleTag" = some m.cls := findClass_of_methodNamed Bd.named
  have hnm := (name_of_methodNamed Bd.named Bd.method).1
  have X0 : Stand p l e ({ frames := 0, cells := 0, slots := 0, locals := 0 } : Room) s m #[(.ref (w 3))] below meth c s₁ [] 0 0 := Stand.of_body Bd
  have e0 : s₁.heap = h0 := by rw [← hh, Bd.state]; rfl
  have N0 := Fr.nil n0
  skip
  have pre0 : ∀ t, Steps p.tables e below (s₁.setTop (mkF m 0 #[.val (.ref (w 3))] [])) t → Steps p.tables e below (s₁.setTop (entryFrame m #[(.ref (w 3))] 1)) t := fun t k => castTop (ef_2_10 m w) k
  obtain ⟨T1, X1, e1, st1⟩ := getF X0 hx hZ hown (host := "") (Or.inl (wk6 hw)) Via.refl e0 ((wd25 hW).ext O0.2) (g := (mkF m 1 #[.val (.ref (w 3))] [(.ref (w 3))])) rfl rfl (hb hby d2_1)
  obtain ⟨fs, hr, hrun, hended, hWm, hsame⟩ := X1.leave (v := some (.int (244 : Int32))) (fun h => by rw [Bd.returns] at h; cases h)
  refine ⟨_, _, pre0 _ ?_, hrun, hended, _, _, rfl, ?_, ⟨_, rfl⟩, hWm, hsame.mono (by decide) (by decide)⟩
  · show Steps p.tables e below (s₁.setTop (mkF m 0 #[.val (.ref (w 3))] [])) _
    refine sA X0 hx hby d2_0 rfl rfl ?_
    refine st1 _ ?_
    exact retI X1 hx Bd.returns (hb hby d2_4) hr
  · show Q2_10 Z w h0 n0 _ T1.heap _
    rw [e1]
    exact ⟨rfl, N0, rfl⟩
theorem ef_1_11 (m : MethodId) : entryFrame m #[(.int (245 : Int32))] 2 = mkF m 0 #[.val (.int (245 : Int32)), .unset] [] := by first | (simp [entryFrame, mkF, argsToLocals, Value.category]; done) | rfl
def Q1_11 (Z : State) (w : Nat → Addr) (h0 : Heap) (n0 : Nat) (v : Option Value) (h : Heap) (L : List Loc) : Prop := v = some (.ref (w 4)) ∧ Fr n0 L ∧ h = h0
set_option maxRecDepth 65536 in
set_option maxHeartbeats 40000000 in
theorem rm1_11 (l : Launch) (Z : State) (a0 : Array Value) (hw : ∀ d ∈ tables_1, d.before a0 Z = true) (w : Nat → Addr) (hW : Wd Z w) (ws : List Jvm.Cond) (h0 : Heap) (n0 : Nat) (O0 : Old Z n0 h0) :
    MetFree l ym0 (head1 (Jvm.Cond.code ym0 prog_39_method_4_code 2 (some (.object "com/example/ferrule/ferrule/io/PickleTag")) :: ws) ({ frames := 0, cells := 0, slots := 0, locals := 0 } : Room)) (fun a U => a = #[(.int (245 : Int32))] ∧ Z.Warmed39 U.vm ∧ U.heap = h0) (fun _ _ _ _ _ => True) (fun _ U o U' => ∃ v L, o = .returned v ∧ Q1_11 Z w h0 n0 v U'.heap L ∧ FrameEnd U o U' L ({ frames := 0, cells := 0, slots := 0, locals := 0 } : Room).cells ({ frames := 0, cells := 0, slots := 0, locals := 0 } : Room).slots) := by
  refine MetFree.of_bodySF (plainFor_of_name pnc_0) hisR ?_
  intro p e s m args below meth c s₁ Bd hml0 hP hK
  obtain ⟨rfl, hZ, hh⟩ := hP
  have hx := Bd.exec
  have hby := Bd.bytes
  have hml : c.maxLocals = 2 := hml0
  have hown : s.vm.findClass "com/example/ferrule/ferrule/io/PickleTag" = some m.cls := findClass_of_methodNamed Bd.named
  have hnm := (name_of_methodNamed Bd.named Bd.method).1
  have X0 : Stand p l e ({ frames := 0, cells := 0, slots := 0, locals := 0 } : Room) s m #[(.int (245 : Int32))] below meth c s₁ [] 0 0 := Stand.of_body Bd
  have e0 : s₁.heap = h0 := by rw [← hh, Bd.state]; rfl
  have N0 := Fr.nil n0
  skip
  have pre0 : ∀ t, Steps p.tables e below (s₁.setTop (mkF m 0 #[.val (.int (245 : Int32)), .unset] [])) t → Steps p.tables e below (s₁.setTop (entryFrame m #[(.int (245 : Int32))] 2)) t := fun t k => castTop (ef_1_11 m) k
  obtain ⟨T1, X1, e1, st1⟩ := getS2 X0 hx hZ hown (host := "") (Or.inl (wk4 hw)) Via.refl e0 ((wd0 hW).ext O0.2) (g := (mkF m 1 #[.val (.int (245 : Int32)), .unset] [(.int (245 : Int32))])) rfl (hb hby d1_1)
  obtain ⟨T2, X2, e2, st2⟩ := getF X1 hx hZ hown (host := "") (Or.inl (wk6 hw)) Via.refl e1 ((wd23 hW).ext O0.2) (g := (mkF m 4 #[.val (.int (245 : Int32)), .unset] [(.ref (w 0)), (.int (245 : Int32))])) rfl rfl (hb hby d1_4)
  let Lb3 : Array Slot := #[.val (.int (245 : Int32)), .val (.int (5 : Int32))]
  obtain ⟨T4, X4, e4, st4⟩ := getS2 X2 hx hZ hown (host := "") (Or.inl (wk8 hw)) Via.refl e2 ((wd2 hW).ext O0.2) (g := (mkF m 14 Lb3 [(.int (5 : Int32))])) rfl (hb hby d1_14)
  obtain ⟨cl5, Ar5, q5, S5, Nn5, Hs5, G5⟩ := ((wd34 hW).ext O0.2)
  obtain ⟨T6, X6, e6, st6⟩ := getS2 X4 hx hZ hown (host := "") (Or.inl (wk8 hw)) Via.refl e4 ((wd2 hW).ext O0.2) (g := (mkF m 21 Lb3 [])) rfl (hb hby d1_21)
  obtain ⟨cl7, Ar7, q7, S7, Nn7, Hs7, G7⟩ := ((wd34 hW).ext O0.2)
  have hin7 : ¬ ((5 : Int32) < 0 ∨ cl7.slots.size ≤ ((5 : Int32)).toNatClampNeg) := inb_of S7 ⟨by decide, by decide⟩
  obtain ⟨fs, hr, hrun, hended, hWm, hsame⟩ := X6.leave (v := some (.ref (w 4))) (fun h => by rw [Bd.returns] at h; cases h)
  refine ⟨_, _, pre0 _ ?_, hrun, hended, _, _, rfl, ?_, ⟨_, rfl⟩, hWm, hsame.mono (by decide) (by decide)⟩
  · show Steps p.tables e below (s₁.setTop (mkF m 0 #[.val (.int (245 : Int32)), .unset] [])) _
    refine sI X0 hx hby d1_0 rfl ?_
    refine st1 _ ?_
    refine st2 _ ?_
    refine XS.isub X2.here hx rfl (hb hby d1_7) rfl ?_
    refine XS.istoreN X2.here hx rfl (hb hby d1_8) rfl (l' := Lb3) rfl ?_
    refine sI X2 hx hby d1_9 rfl ?_
    refine sN X2 hx hby d1_10 (by decide) ?_
    refine sI X2 hx hby d1_13 rfl ?_
    show Steps p.tables e below (T2.setTop (mkF m 14 Lb3 [(.int (5 : Int32))])) _
    refine st4 _ ?_
    refine X4.arraylength hx (by rw [e4]; exact Ar5.1) (State.isArrayOf_alike hZ.alike Ar5.2.1) (g := (mkF m 17 Lb3 [(.ref (w 1)), (.int (5 : Int32))])) rfl rfl (hb hby d1_17) _ ?_
    rw [len_of S5 Nn5]
    show Steps p.tables e below (T4.setTop (mkF m 18 Lb3 [(.int (11 : Int32)), (.int (5 : Int32))])) _
    refine sn X4 hx hby d1_18 (by decide) ?_
    refine st6 _ ?_
    refine sI X6 hx hby d1_24 rfl ?_
    refine X6.aaload hx (j := (5 : Int32)) (v := (.ref (w 4))) (by rw [e6]; exact Ar7.1) (State.isArrayOf_alike hZ.alike Ar7.2.1) rfl Ar7.2.2 hin7 (Hs7.at hin7 rfl) (g := (mkF m 25 Lb3 [(.int (5 : Int32)), (.ref (w 1))])) rfl rfl (hb hby d1_25) _ ?_
    refine sg (pc := 26) (pc' := 30) X6 hx hby d1_26 (by decide) (by decide) ?_
    jvm_step X6.here [X6.here.top, hx, (hb hby d1_30), X6.method', Bd.returns, Value.isRef, FieldType.isReference]
    first | (intro acts; rw [hr _ acts rfl rfl rfl]) | rw [hr _ _ rfl rfl rfl]
    exact Steps.refl _
  · show Q1_11 Z w h0 n0 _ T6.heap _
    rw [e6]
    exact ⟨rfl, N0, rfl⟩
theorem ef_2_12 (m : MethodId) (w : Nat → Addr) : entryFrame m #[(.ref (w 4))] 1 = mkF m 0 #[.val (.ref (w 4))] [] := by first | (simp [entryFrame, mkF, argsToLocals, Value.category]; done) | rfl
def Q2_12 (Z : State) (w : Nat → Addr) (h0 : Heap) (n0 : Nat) (v : Option Value) (h : Heap) (L : List Loc) : Prop := v = some (.int (245 : Int32)) ∧ Fr n0 L ∧ h = h0
set_option maxRecDepth 65536 in
set_option maxHeartbeats 40000000 in
theorem rm2_12 (l : Launch) (Z : State) (a0 : Array Value) (hw : ∀ d ∈ tables_1, d.before a0 Z = true) (w : Nat → Addr) (hW : Wd Z w) (ws : List Jvm.Cond) (h0 : Heap) (n0 : Nat) (O0 : Old Z n0 h0) :
    MetFree l ym1 (head1 (Jvm.Cond.code ym1 prog_39_method_5_code 1 (some .int) :: ws) ({ frames := 0, cells := 0, slots := 0, locals := 0 } : Room)) (fun a U => a = #[(.ref (w 4))] ∧ Z.Warmed39 U.vm ∧ U.heap = h0) (fun _ _ _ _ _ => True) (fun _ U o U' => ∃ v L, o = .returned v ∧ Q2_12 Z w h0 n0 v U'.heap L ∧ FrameEnd U o U' L ({ frames := 0, cells := 0, slots := 0, locals := 0 } : Room).cells ({ frames := 0, cells := 0, slots := 0, locals := 0 } : Room).slots) := by
  refine MetFree.of_bodySF (plainFor_of_name pnc_0) hisR ?_
  intro p e s m args below meth c s₁ Bd hml0 hP hK
  obtain ⟨rfl, hZ, hh⟩ := hP
  have hx := Bd.exec
  have hby := Bd.bytes
  have hml : c.maxLocals = 1 := hml0
  have hown : s.vm.findClass "com/example/ferrule/ferrule/io/PickleTag" = some m.cls := findClass_of_methodNamed Bd.named
  have hnm := (name_of_methodNamed Bd.named Bd.method).1
  have X0 : Stand p l e ({ frames := 0, cells := 0, slots := 0, locals := 0 } : Room) s m #[(.ref (w 4))] below meth c s₁ [] 0 0 := Stand.of_body Bd
  have e0 : s₁.heap = h0 := by rw [← hh, Bd.state]; rfl
  have N0 := Fr.nil n0
  skip
  have pre0 : ∀ t, Steps p.tables e below (s₁.setTop (mkF m 0 #[.val (.ref (w 4))] [])) t → Steps p.tables e below (s₁.setTop (entryFrame m #[(.ref (w 4))] 1)) t := fun t k => castTop (ef_2_12 m w) k
  obtain ⟨T1, X1, e1, st1⟩ := getF X0 hx hZ hown (host := "") (Or.inl (wk6 hw)) Via.refl e0 ((wd26 hW).ext O0.2) (g := (mkF m 1 #[.val (.ref (w 4))] [(.ref (w 4))])) rfl rfl (hb hby d2_1)
  obtain ⟨fs, hr, hrun, hended, hWm, hsame⟩ := X1.leave (v := some (.int (245 : Int32))) (fun h => by rw [Bd.returns] at h; cases h)
  refine ⟨_, _, pre0 _ ?_, hrun, hended, _, _, rfl, ?_, ⟨_, rfl⟩, hWm, hsame.mono (by decide) (by decide)⟩
  · show Steps p.tables e below (s₁.setTop (mkF m 0 #[.val (.ref (w 4))] [])) _
    refine sA X0 hx hby d2_0 rfl rfl ?_
    refine st1 _ ?_
    exact retI X1 hx Bd.returns (hb hby d2_4) hr
  · show Q2_12 Z w h0 n0 _ T1.heap _
    rw [e1]
    exact ⟨rfl, N0, rfl⟩
theorem ef_1_13 (m : MethodId) : entryFrame m #[(.int (246 : Int32))] 2 = mkF m 0 #[.val (.int (246 : Int32)), .unset] [] := by first | (simp [entryFrame, mkF, argsToLocals, Value.category]; done) | rfl
def Q1_13 (Z : State) (w : Nat → Addr) (h0 : Heap) (n0 : Nat) (v : Option Value) (h : Heap) (L : List Loc) : Prop := v = some (.ref (w 10)) ∧ Fr n0 L ∧ h = h0
set_option maxRecDepth 65536 in
set_option maxHeartbeats 40000000 in
theorem rm1_13 (l : Launch) (Z : State) (a0 : Array Value) (hw : ∀ d ∈ tables_1, d.before a0 Z = true) (w : Nat → Addr) (hW : Wd Z w) (ws : List Jvm.Cond) (h0 : Heap) (n0 : Nat) (O0 : Old Z n0 h0) :
    MetFree l ym0 (head1 (Jvm.Cond.code ym0 prog_39_method_4_code 2 (some (.object "com/example/ferrule/ferrule/io/PickleTag")) :: ws) ({ frames := 0, cells := 0, slots := 0, locals := 0 } : Room)) (fun a U => a = #[(.int (246 : Int32))] ∧ Z.Warmed39 U.vm ∧ U.heap = h0) (fun _ _ _ _ _ => True) (fun _ U o U' => ∃ v L, o = .returned v ∧ Q1_13 Z w h0 n0 v U'.heap L ∧ FrameEnd U o U' L ({ frames := 0, cells := 0, slots := 0, locals := 0 } : Room).cells ({ frames := 0, cells := 0, slots := 0, locals := 0 } : Room).slots) := by
  refine MetFree.of_bodySF (plainFor_of_name pnc_0) hisR ?_
  intro p e s m args below meth c s₁ Bd hml0 hP hK
  obtain ⟨rfl, hZ, hh⟩ := hP
  have hx := Bd.exec
  have hby := Bd.bytes
  have hml : c.maxLocals = 2 := hml0
  have hown : s.vm.findClass "com/example/ferrule/ferrule/io/PickleTag" = some m.cls := findClass_of_methodNamed Bd.named
  have hnm := (name_of_methodNamed Bd.named Bd.method).1
  have X0 : Stand p l e ({ frames := 0, cells := 0, slots := 0, locals := 0 } : Room) s m #[(.int (246 : Int32))] below meth c s₁ [] 0 0 := Stand.of_body Bd
  have e0 : s₁.heap = h0 := by rw [← hh, Bd.state]; rfl
  have N0 := Fr.nil n0
  skip
  have pre0 : ∀ t, Steps p.tables e below (s₁.setTop (mkF m 0 #[.val (.int (246 : Int32)), .unset] [])) t → Steps p.tables e below (s₁.setTop (entryFrame m #[(.int (246 : Int32))] 2)) t := fun t k => castTop (ef_1_13 m) k
  obtain ⟨T1, X1, e1, st1⟩ := getS2 X0 hx hZ hown (host := "") (Or.inl (wk4 hw)) Via.refl e0 ((wd0 hW).ext O0.2) (g := (mkF m 1 #[.val (.int (246 : Int32)), .unset] [(.int (246 : Int32))])) rfl (hb hby d1_1)
  obtain ⟨T2, X2, e2, st2⟩ := getF X1 hx hZ hown (host := "") (Or.inl (wk6 hw)) Via.refl e1 ((wd23 hW).ext O0.2) (g := (mkF m 4 #[.val (.int (246 : Int32)), .unset] [(.ref (w 0)), (.int (246 : Int32))])) rfl rfl (hb hby d1_4)
  let Lb3 : Array Slot := #[.val (.int (246 : Int32)), .val (.int (6 : Int32))]
  obtain ⟨T4, X4, e4, st4⟩ := getS2 X2 hx hZ hown (host := "") (Or.inl (wk8 hw)) Via.refl e2 ((wd2 hW).ext O0.2) (g := (mkF m 14 Lb3 [(.int (6 : Int32))])) rfl (hb hby d1_14)
  obtain ⟨cl5, Ar5, q5, S5, Nn5, Hs5, G5⟩ := ((wd34 hW).ext O0.2)
  obtain ⟨T6, X6, e6, st6⟩ := getS2 X4 hx hZ hown (host := "") (Or.inl (wk8 hw)) Via.refl e4 ((wd2 hW).ext O0.2) (g := (mkF m 21 Lb3 [])) rfl (hb hby d1_21)
  obtain ⟨cl7, Ar7, q7, S7, Nn7, Hs7, G7⟩ := ((wd34 hW).ext O0.2)
  have hin7 : ¬ ((6 : Int32) < 0 ∨ cl7.slots.size ≤ ((6 : Int32)).toNatClampNeg) := inb_of S7 ⟨by decide, by decide⟩
  obtain ⟨fs, hr, hrun, hended, hWm, hsame⟩ := X6.leave (v := some (.ref (w 10))) (fun h => by rw [Bd.returns] at h; cases h)
  refine ⟨_, _, pre0 _ ?_, hrun, hended, _, _, rfl, ?_, ⟨_, rfl⟩, hWm, hsame.mono (by decide) (by decide)⟩
  · show Steps p.tables e below (s₁.setTop (mkF m 0 #[.val (.int (246 : Int32)), .unset] [])) _
    refine sI X0 hx hby d1_0 rfl ?_
    refine st1 _ ?_
    refine st2 _ ?_
    refine XS.isub X2.here hx rfl (hb hby d1_7) rfl ?_
    refine XS.istoreN X2.here hx rfl (hb hby d1_8) rfl (l' := Lb3) rfl ?_
    refine sI X2 hx hby d1_9 rfl ?_
    refine sN X2 hx hby d1_10 (by decide) ?_
    refine sI X2 hx hby d1_13 rfl ?_
    show Steps p.tables e below (T2.setTop (mkF m 14 Lb3 [(.int (6 : Int32))])) _
    refine st4 _ ?_
    refine X4.arraylength hx (by rw [e4]; exact Ar5.1) (State.isArrayOf_alike hZ.alike Ar5.2.1) (g := (mkF m 17 Lb3 [(.ref (w 1)), (.int (6 : Int32))])) rfl rfl (hb hby d1_17) _ ?_
    rw [len_of S5 Nn5]
    show Steps p.tables e below (T4.setTop (mkF m 18 Lb3 [(.int (11 : Int32)), (.int (6 : Int32))])) _
    refine sn X4 hx hby d1_18 (by decide) ?_
    refine st6 _ ?_
    refine sI X6 hx hby d1_24 rfl ?_
    refine X6.aaload hx (j := (6 : Int32)) (v := (.ref (w 10))) (by rw [e6]; exact Ar7.1) (State.isArrayOf_alike hZ.alike Ar7.2.1) rfl Ar7.2.2 hin7 (Hs7.at hin7 rfl) (g := (mkF m 25 Lb3 [(.int (6 : Int32)), (.ref (w 1))])) rfl rfl (hb hby d1_25) _ ?_
    refine sg (pc := 26) (pc' := 30) X6 hx hby d1_26 (by decide) (by decide) ?_
    jvm_step X6.here [X6.here.top, hx, (hb hby d1_30), X6.method', Bd.returns, Value.isRef, FieldType.isReference]
    first | (intro acts; rw [hr _ acts rfl rfl rfl]) | rw [hr _ _ rfl rfl rfl]
    exact Steps.refl _
  · show Q1_13 Z w h0 n0 _ T6.heap _
    rw [e6]
    exact ⟨rfl, N0, rfl⟩
theorem ef_2_14 (m : MethodId) (w : Nat → Addr) : entryFrame m #[(.ref (w 10))] 1 = mkF m 0 #[.val (.ref (w 10))] [] := by first | (simp [entryFrame, mkF, argsToLocals, Value.category]; done) | rfl
def Q2_14 (Z : State) (w : Nat → Addr) (h0 : Heap) (n0 : Nat) (v : Option Value) (h : Heap) (L : List Loc) : Prop := v = some (.int (246 : Int32)) ∧ Fr n0 L ∧ h = h0
set_option maxRecDepth 65536 in
set_option maxHeartbeats 40000000 in
theorem rm2_14 (l : Launch) (Z : State) (a0 : Array Value) (hw : ∀ d ∈ tables_1, d.before a0 Z = true) (w : Nat → Addr) (hW : Wd Z w) (ws : List Jvm.Cond) (h0 : Heap) (n0 : Nat) (O0 : Old Z n0 h0) :
    MetFree l ym1 (head1 (Jvm.Cond.code ym1 prog_39_method_5_code 1 (some .int) :: ws) ({ frames := 0, cells := 0, slots := 0, locals := 0 } : Room)) (fun a U => a = #[(.ref (w 10))] ∧ Z.Warmed39 U.vm ∧ U.heap = h0) (fun _ _ _ _ _ => True) (fun _ U o U' => ∃ v L, o = .returned v ∧ Q2_14 Z w h0 n0 v U'.heap L ∧ FrameEnd U o U' L ({ frames := 0, cells := 0, slots := 0, locals := 0 } : Room).cells ({ frames := 0, cells := 0, slots := 0, locals := 0 } : Room).slots) := by
  refine MetFree.of_bodySF (plainFor_of_name pnc_0) hisR ?_
  intro p e s m args below meth c s₁ Bd hml0 hP hK
  obtain ⟨rfl, hZ, hh⟩ := hP
  have hx := Bd.exec
  have hby := Bd.bytes
  have hml : c.maxLocals = 1 := hml0
  have hown : s.vm.findClass "com/example/ferrule/ferrule/io/PickleTag" = some m.cls := findClass_of_methodNamed Bd.named
  have hnm := (name_of_methodNamed Bd.named Bd.method).1
  have X0 : Stand p l e ({ frames := 0, cells := 0, slots := 0, locals := 0 } : Room) s m #[(.ref (w 10))] below meth c s₁ [] 0 0 := Stand.of_body Bd
  have e0 : s₁.heap = h0 := by rw [← hh, Bd.state]; rfl
  have N0 := Fr.nil n0
  skip
  have pre0 : ∀ t, Steps p.tables e below (s₁.setTop (mkF m 0 #[.val (.ref (w 10))] [])) t → Steps p.tables e below (s₁.setTop (entryFrame m #[(.ref (w 10))] 1)) t := fun t k => castTop (ef_2_14 m w) k
  obtain ⟨T1, X1, e1, st1⟩ := getF X0 hx hZ hown (host := "") (Or.inl (wk6 hw)) Via.refl e0 ((wd32 hW).ext O0.2) (g := (mkF m 1 #[.val (.ref (w 10))] [(.ref (w 10))])) rfl rfl (hb hby d2_1)
  obtain ⟨fs, hr, hrun, hended, hWm, hsame⟩ := X1.leave (v := some (.int (246 : Int32))) (fun h => by rw [Bd.returns] at h; cases h)
  refine ⟨_, _, pre0 _ ?_, hrun, hended, _, _, rfl, ?_, ⟨_, rfl⟩, hWm, hsame.mono (by decide) (by decide)⟩
  · show Steps p.tables e below (s₁.setTop (mkF m 0 #[.val (.ref (w 10))] [])) _
    refine sA X0 hx hby d2_0 rfl rfl ?_
    refine st1 _ ?_
    exact retI X1 hx Bd.returns (hb hby d2_4) hr
  · show Q2_14 Z w h0 n0 _ T1.heap _
    rw [e1]
    exact ⟨rfl, N0, rfl⟩
theorem ef_1_15 (m : MethodId) : entryFrame m #[(.int (247 : Int32))] 2 = mkF m 0 #[.val (.int (247 : Int32)), .unset] [] := by first | (simp [entryFrame, mkF, argsToLocals, Value.category]; done) | rfl
def Q1_15 (Z : State) (w : Nat → Addr) (h0 : Heap) (n0 : Nat) (v : Option Value) (h : Heap) (L : List Loc) : Prop := v = some (.ref (w 2)) ∧ Fr n0 L ∧ h = h0
set_option maxRecDepth 65536 in
set_option maxHeartbeats 40000000 in
theorem rm1_15 (l : Launch) (Z : State) (a0 : Array Value) (hw : ∀ d ∈ tables_1, d.before a0 Z = true) (w : Nat → Addr) (hW : Wd Z w) (ws : List Jvm.Cond) (h0 : Heap) (n0 : Nat) (O0 : Old Z n0 h0) :
    MetFree l ym0 (head1 (Jvm.Cond.code ym0 prog_39_method_4_code 2 (some (.object "com/example/ferrule/ferrule/io/PickleTag")) :: ws) ({ frames := 0, cells := 0, slots := 0, locals := 0 } : Room)) (fun a U => a = #[(.int (247 : Int32))] ∧ Z.Warmed39 U.vm ∧ U.heap = h0) (fun _ _ _ _ _ => True) (fun _ U o U' => ∃ v L, o = .returned v ∧ Q1_15 Z w h0 n0 v U'.heap L ∧ FrameEnd U o U' L ({ frames := 0, cells := 0, slots := 0, locals := 0 } : Room).cells ({ frames := 0, cells := 0, slots := 0, locals := 0 } : Room).slots) := by
  refine MetFree.of_bodySF (plainFor_of_name pnc_0) hisR ?_
  intro p e s m args below meth c s₁ Bd hml0 hP hK
  obtain ⟨rfl, hZ, hh⟩ := hP
  have hx := Bd.exec
  have hby := Bd.bytes
  have hml : c.maxLocals = 2 := hml0
  have hown : s.vm.findClass "com/example/ferrule/ferrule/io/PickleTag" = some m.cls := findClass_of_methodNamed Bd.named
  have hnm := (name_of_methodNamed Bd.named Bd.method).1
  have X0 : Stand p l e ({ frames := 0, cells := 0, slots := 0, locals := 0 } : Room) s m #[(.int (247 : Int32))] below meth c s₁ [] 0 0 := Stand.of_body Bd
  have e0 : s₁.heap = h0 := by rw [← hh, Bd.state]; rfl
  have N0 := Fr.nil n0
  skip
  have pre0 : ∀ t, Steps p.tables e below (s₁.setTop (mkF m 0 #[.val (.int (247 : Int32)), .unset] [])) t → Steps p.tables e below (s₁.setTop (entryFrame m #[(.int (247 : Int32))] 2)) t := fun t k => castTop (ef_1_15 m) k
  obtain ⟨T1, X1, e1, st1⟩ := getS2 X0 hx hZ hown (host := "") (Or.inl (wk4 hw)) Via.refl e0 ((wd0 hW).ext O0.2) (g := (mkF m 1 #[.val (.int (247 : Int32)), .unset] [(.int (247 : Int32))])) rfl (hb hby d1_1)
  obtain ⟨T2, X2, e2, st2⟩ := getF X1 hx hZ hown (host := "") (Or.inl (wk6 hw)) Via.refl e1 ((wd23 hW).ext O0.2) (g := (mkF m 4 #[.val (.int (247 : Int32)), .unset] [(.ref (w 0)), (.int (247 : Int32))])) rfl rfl (hb hby d1_4)
  let Lb3 : Array Slot := #[.val (.int (247 : Int32)), .val (.int (7 : Int32))]
  obtain ⟨T4, X4, e4, st4⟩ := getS2 X2 hx hZ hown (host := "") (Or.inl (wk8 hw)) Via.refl e2 ((wd2 hW).ext O0.2) (g := (mkF m 14 Lb3 [(.int (7 : Int32))])) rfl (hb hby d1_14)
  obtain ⟨cl5, Ar5, q5, S5, Nn5, Hs5, G5⟩ := ((wd34 hW).ext O0.2)
  obtain ⟨T6, X6, e6, st6⟩ := getS2 X4 hx hZ hown (host := "") (Or.inl (wk8 hw)) Via.refl e4 ((wd2 hW).ext O0.2) (g := (mkF m 21 Lb3 [])) rfl (hb hby d1_21)
  obtain ⟨cl7, Ar7, q7, S7, Nn7, Hs7, G7⟩ := ((wd34 hW).ext O0.2)
  have hin7 : ¬ ((7 : Int32) < 0 ∨ cl7.slots.size ≤ ((7 : Int32)).toNatClampNeg) := inb_of S7 ⟨by decide, by decide⟩
  obtain ⟨fs, hr, hrun, hended, hWm, hsame⟩ := X6.leave (v := some (.ref (w 2))) (fun h => by rw [Bd.returns] at h; cases h)
  refine ⟨_, _, pre0 _ ?_, hrun, hended, _, _, rfl, ?_, ⟨_, rfl⟩, hWm, hsame.mono (by decide) (by decide)⟩
  · show Steps p.tables e below (s₁.setTop (mkF m 0 #[.val (.int (247 : Int32)), .unset] [])) _
    refine sI X0 hx hby d1_0 rfl ?_
    refine st1 _ ?_
    refine st2 _ ?_
    refine XS.isub X2.here hx rfl (hb hby d1_7) rfl ?_
    refine XS.istoreN X2.here hx rfl (hb hby d1_8) rfl (l' := Lb3) rfl ?_
    refine sI X2 hx hby d1_9 rfl ?_
    refine sN X2 hx hby d1_10 (by decide) ?_
    refine sI X2 hx hby d1_13 rfl ?_
    show Steps p.tables e below (T2.setTop (mkF m 14 Lb3 [(.int (7 : Int32))])) _
    refine st4 _ ?_
    refine X4.arraylength hx (by rw [e4]; exact Ar5.1) (State.isArrayOf_alike hZ.alike Ar5.2.1) (g := (mkF m 17 Lb3 [(.ref (w 1)), (.int (7 : Int32))])) rfl rfl (hb hby d1_17) _ ?_
    rw [len_of S5 Nn5]
    show Steps p.tables e below (T4.setTop (mkF m 18 Lb3 [(.int (11 : Int32)), (.int (7 : Int32))])) _
    refine sn X4 hx hby d1_18 (by decide) ?_
    refine st6 _ ?_
    refine sI X6 hx hby d1_24 rfl ?_
    refine X6.aaload hx (j := (7 : Int32)) (v := (.ref (w 2))) (by rw [e6]; exact Ar7.1) (State.isArrayOf_alike hZ.alike Ar7.2.1) rfl Ar7.2.2 hin7 (Hs7.at hin7 rfl) (g := (mkF m 25 Lb3 [(.int (7 : Int32)), (.ref (w 1))])) rfl rfl (hb hby d1_25) _ ?_
    refine sg (pc := 26) (pc' := 30) X6 hx hby d1_26 (by decide) (by decide) ?_
    jvm_step X6.here [X6.here.top, hx, (hb hby d1_30), X6.method', Bd.returns, Value.isRef, FieldType.isReference]
    first | (intro acts; rw [hr _ acts rfl rfl rfl]) | rw [hr _ _ rfl rfl rfl]
    exact Steps.refl _
  · show Q1_15 Z w h0 n0 _ T6.heap _
    rw [e6]
    exact ⟨rfl, N0, rfl⟩
theorem ef_2_16 (m : MethodId) (w : Nat → Addr) : entryFrame m #[(.ref (w 2))] 1 = mkF m 0 #[.val (.ref (w 2))] [] := by first | (simp [entryFrame, mkF, argsToLocals, Value.category]; done) | rfl
def Q2_16 (Z : State) (w : Nat → Addr) (h0 : Heap) (n0 : Nat) (v : Option Value) (h : Heap) (L : List Loc) : Prop := v = some (.int (247 : Int32)) ∧ Fr n0 L ∧ h = h0
set_option maxRecDepth 65536 in
set_option maxHeartbeats 40000000 in
theorem rm2_16 (l : Launch) (Z : State) (a0 : Array Value) (hw : ∀ d ∈ tables_1, d.before a0 Z = true) (w : Nat → Addr) (hW : Wd Z w) (ws : List Jvm.Cond) (h0 : Heap) (n0 : Nat) (O0 : Old Z n0 h0) :
    MetFree l ym1 (head1 (Jvm.Cond.code ym1 prog_39_method_5_code 1 (some .int) :: ws) ({ frames := 0, cells := 0, slots := 0, locals := 0 } : Room)) (fun a U => a = #[(.ref (w 2))] ∧ Z.Warmed39 U.vm ∧ U.heap = h0) (fun _ _ _ _ _ => True) (fun _ U o U' => ∃ v L, o = .returned v ∧ Q2_16 Z w h0 n0 v U'.heap L ∧ FrameEnd U o U' L ({ frames := 0, cells := 0, slots := 0, locals := 0 } : Room).cells ({ frames := 0, cells := 0, slots := 0, locals := 0 } : Room).slots) := by
  refine MetFree.of_bodySF (plainFor_of_name pnc_0) hisR ?_
  intro p e s m args below meth c s₁ Bd hml0 hP hK
  obtain ⟨rfl, hZ, hh⟩ := hP
  have hx := Bd.exec
  have hby := Bd.bytes
  have hml : c.maxLocals = 1 := hml0
  have hown : s.vm.findClass "com/example/ferrule/ferrule/io/PickleTag" = some m.cls := findClass_of_methodNamed Bd.named
  have hnm := (name_of_methodNamed Bd.named Bd.method).1
  have X0 : Stand p l e ({ frames := 0, cells := 0, slots := 0, locals := 0 } : Room) s m #[(.ref (w 2))] below meth c s₁ [] 0 0 := Stand.of_body Bd
  have e0 : s₁.heap = h0 := by rw [← hh, Bd.state]; rfl
  have N0 := Fr.nil n0
  skip
  have pre0 : ∀ t, Steps p.tables e below (s₁.setTop (mkF m 0 #[.val (.ref (w 2))] [])) t → Steps p.tables e below (s₁.setTop (entryFrame m #[(.ref (w 2))] 1)) t := fun t k => castTop (ef_2_16 m w) k
  obtain ⟨T1, X1, e1, st1⟩ := getF X0 hx hZ hown (host := "") (Or.inl (wk6 hw)) Via.refl e0 ((wd24 hW).ext O0.2) (g := (mkF m 1 #[.val (.ref (w 2))] [(.ref (w 2))])) rfl rfl (hb hby d2_1)
  obtain ⟨fs, hr, hrun, hended, hWm, hsame⟩ := X1.leave (v := some (.int (247 : Int32))) (fun h => by rw [Bd.returns] at h; cases h)
  refine ⟨_, _, pre0 _ ?_, hrun, hended, _, _, rfl, ?_, ⟨_, rfl⟩, hWm, hsame.mono (by decide) (by decide)⟩
  · show Steps p.tables e below (s₁.setTop (mkF m 0 #[.val (.ref (w 2))] [])) _
    refine sA X0 hx hby d2_0 rfl rfl ?_
    refine st1 _ ?_
    exact retI X1 hx Bd.returns (hb hby d2_4) hr
  · show Q2_16 Z w h0 n0 _ T1.heap _
    rw [e1]
    exact ⟨rfl, N0, rfl⟩
theorem ef_1_17 (m : MethodId) : entryFrame m #[(.int (248 : Int32))] 2 = mkF m 0 #[.val (.int (248 : Int32)), .unset] [] := by first | (simp [entryFrame, mkF, argsToLocals, Value.category]; done) | rfl
def Q1_17 (Z : State) (w : Nat → Addr) (h0 : Heap) (n0 : Nat) (v : Option Value) (h : Heap) (L : List Loc) : Prop := v = some (.ref (w 8)) ∧ Fr n0 L ∧ h = h0
set_option maxRecDepth 65536 in
set_option maxHeartbeats 40000000 in
theorem rm1_17 (l : Launch) (Z : State) (a0 : Array Value) (hw : ∀ d ∈ tables_1, d.before a0 Z = true) (w : Nat → Addr) (hW : Wd Z w) (ws : List Jvm.Cond) (h0 : Heap) (n0 : Nat) (O0 : Old Z n0 h0) :
    MetFree l ym0 (head1 (Jvm.Cond.code ym0 prog_39_method_4_code 2 (some (.object "com/example/ferrule/ferrule/io/PickleTag")) :: ws) ({ frames := 0, cells := 0, slots := 0, locals := 0 } : Room)) (fun a U => a = #[(.int (248 : Int32))] ∧ Z.Warmed39 U.vm ∧ U.heap = h0) (fun _ _ _ _ _ => True) (fun _ U o U' => ∃ v L, o = .returned v ∧ Q1_17 Z w h0 n0 v U'.heap L ∧ FrameEnd U o U' L ({ frames := 0, cells := 0, slots := 0, locals := 0 } : Room).cells ({ frames := 0, cells := 0, slots := 0, locals := 0 } : Room).slots) := by
  refine MetFree.of_bodySF (plainFor_of_name pnc_0) hisR ?_
  intro p e s m args below meth c s₁ Bd hml0 hP hK
  obtain ⟨rfl, hZ, hh⟩ := hP
  have hx := Bd.exec
  have hby := Bd.bytes
  have hml : c.maxLocals = 2 := hml0
  have hown : s.vm.findClass "com/example/ferrule/ferrule/io/PickleTag" = some m.cls := findClass_of_methodNamed Bd.named
  have hnm := (name_of_methodNamed Bd.named Bd.method).1
  have X0 : Stand p l e ({ frames := 0, cells := 0, slots := 0, locals := 0 } : Room) s m #[(.int (248 : Int32))] below meth c s₁ [] 0 0 := Stand.of_body Bd
  have e0 : s₁.heap = h0 := by rw [← hh, Bd.state]; rfl
  have N0 := Fr.nil n0
  skip
  have pre0 : ∀ t, Steps p.tables e below (s₁.setTop (mkF m 0 #[.val (.int (248 : Int32)), .unset] [])) t → Steps p.tables e below (s₁.setTop (entryFrame m #[(.int (248 : Int32))] 2)) t := fun t k => castTop (ef_1_17 m) k
  obtain ⟨T1, X1, e1, st1⟩ := getS2 X0 hx hZ hown (host := "") (Or.inl (wk4 hw)) Via.refl e0 ((wd0 hW).ext O0.2) (g := (mkF m 1 #[.val (.int (248 : Int32)), .unset] [(.int (248 : Int32))])) rfl (hb hby d1_1)
  obtain ⟨T2, X2, e2, st2⟩ := getF X1 hx hZ hown (host := "") (Or.inl (wk6 hw)) Via.refl e1 ((wd23 hW).ext O0.2) (g := (mkF m 4 #[.val (.int (248 : Int32)), .unset] [(.ref (w 0)), (.int (248 : Int32))])) rfl rfl (hb hby d1_4)
  let Lb3 : Array Slot := #[.val (.int (248 : Int32)), .val (.int (8 : Int32))]
  obtain ⟨T4, X4, e4, st4⟩ := getS2 X2 hx hZ hown (host := "") (Or.inl (wk8 hw)) Via.refl e2 ((wd2 hW).ext O0.2) (g := (mkF m 14 Lb3 [(.int (8 : Int32))])) rfl (hb hby d1_14)
  obtain ⟨cl5, Ar5, q5, S5, Nn5, Hs5, G5⟩ := ((wd34 hW).ext O0.2)
  obtain ⟨T6, X6, e6, st6⟩ := getS2 X4 hx hZ hown (host := "") (Or.inl (wk8 hw)) Via.refl e4 ((wd2 hW).ext O0.2) (g := (mkF m 21 Lb3 [])) rfl (hb hby d1_21)
  obtain ⟨cl7, Ar7, q7, S7, Nn7, Hs7, G7⟩ := ((wd34 hW).ext O0.2)
  have hin7 : ¬ ((8 : Int32) < 0 ∨ cl7.slots.size ≤ ((8 : Int32)).toNatClampNeg) := inb_of S7 ⟨by decide, by decide⟩
  obtain ⟨fs, hr, hrun, hended, hWm, hsame⟩ := X6.leave (v := some (.ref (w 8))) (fun h => by rw [Bd.returns] at h; cases h)
  refine ⟨_, _, pre0 _ ?_, hrun, hended, _, _, rfl, ?_, ⟨_, rfl⟩, hWm, hsame.mono (by decide) (by decide)⟩
  · show Steps p.tables e below (s₁.setTop (mkF m 0 #[.val (.int (248 : Int32)), .unset] [])) _
    refine sI X0 hx hby d1_0 rfl ?_
    refine st1 _ ?_
    refine st2 _ ?_
    refine XS.isub X2.here hx rfl (hb hby d1_7) rfl ?_
    refine XS.istoreN X2.here hx rfl (hb hby d1_8) rfl (l' := Lb3) rfl ?_
    refine sI X2 hx hby d1_9 rfl ?_
    refine sN X2 hx hby d1_10 (by decide) ?_
    refine sI X2 hx hby d1_13 rfl ?_
    show Steps p.tables e below (T2.setTop (mkF m 14 Lb3 [(.int (8 : Int32))])) _
    refine st4 _ ?_
    refine X4.arraylength hx (by rw [e4]; exact Ar5.1) (State.isArrayOf_alike hZ.alike Ar5.2.1) (g := (mkF m 17 Lb3 [(.ref (w 1)), (.int (8 : Int32))])) rfl rfl (hb hby d1_17) _ ?_
    rw [len_of S5 Nn5]
    show Steps p.tables e below (T4.setTop (mkF m 18 Lb3 [(.int (11 : Int32)), (.int (8 : Int32))])) _
    refine sn X4 hx hby d1_18 (by decide) ?_
    refine st6 _ ?_
    refine sI X6 hx hby d1_24 rfl ?_
    refine X6.aaload hx (j := (8 : Int32)) (v := (.ref (w 8))) (by rw [e6]; exact Ar7.1) (State.isArrayOf_alike hZ.alike Ar7.2.1) rfl Ar7.2.2 hin7 (Hs7.at hin7 rfl) (g := (mkF m 25 Lb3 [(.int (8 : Int32)), (.ref (w 1))])) rfl rfl (hb hby d1_25) _ ?_
    refine sg (pc := 26) (pc' := 30) X6 hx hby d1_26 (by decide) (by decide) ?_
    jvm_step X6.here [X6.here.top, hx, (hb hby d1_30), X6.method', Bd.returns, Value.isRef, FieldType.isReference]
    first | (intro acts; rw [hr _ acts rfl rfl rfl]) | rw [hr _ _ rfl rfl rfl]
    exact Steps.refl _
  · show Q1_17 Z w h0 n0 _ T6.heap _
    rw [e6]
    exact ⟨rfl, N0, rfl⟩
theorem ef_2_18 (m : MethodId) (w : Nat → Addr) : entryFrame m #[(.ref (w 8))] 1 = mkF m 0 #[.val (.ref (w 8))] [] := by first | (simp [entryFrame, mkF, argsToLocals, Value.category]; done) | rfl
def Q2_18 (Z : State) (w : Nat → Addr) (h0 : Heap) (n0 : Nat) (v : Option Value) (h : Heap) (L : List Loc) : Prop := v = some (.int (248 : Int32)) ∧ Fr n0 L ∧ h = h0
set_option maxRecDepth 65536 in
set_option maxHeartbeats 40000000 in
theorem rm2_18 (l : Launch) (Z : State) (a0 : Array Value) (hw : ∀ d ∈ tables_1, d.before a0 Z = true) (w : Nat → Addr) (hW : Wd Z w) (ws : List Jvm.Cond) (h0 : Heap) (n0 : Nat) (O0 : Old Z n0 h0) :
    MetFree l ym1 (head1 (Jvm.Cond.code ym1 prog_39_method_5_code 1 (some .int) :: ws) ({ frames := 0, cells := 0, slots := 0, locals := 0 } : Room)) (fun a U => a = #[(.ref (w 8))] ∧ Z.Warmed39 U.vm ∧ U.heap = h0) (fun _ _ _ _ _ => True) (fun _ U o U' => ∃ v L, o = .returned v ∧ Q2_18 Z w h0 n0 v U'.heap L ∧ FrameEnd U o U' L ({ frames := 0, cells := 0, slots := 0, locals := 0 } : Room).cells ({ frames := 0, cells := 0, slots := 0, locals := 0 } : Room).slots) := by
  refine MetFree.of_bodySF (plainFor_of_name pnc_0) hisR ?_
  intro p e s m args below meth c s₁ Bd hml0 hP hK
  obtain ⟨rfl, hZ, hh⟩ := hP
  have hx := Bd.exec
  have hby := Bd.bytes
  have hml : c.maxLocals = 1 := hml0
  have hown : s.vm.findClass "com/example/ferrule/ferrule/io/PickleTag" = some m.cls := findClass_of_methodNamed Bd.named
  have hnm := (name_of_methodNamed Bd.named Bd.method).1
  have X0 : Stand p l e ({ frames := 0, cells := 0, slots := 0, locals := 0 } : Room) s m #[(.ref (w 8))] below meth c s₁ [] 0 0 := Stand.of_body Bd
  have e0 : s₁.heap = h0 := by rw [← hh, Bd.state]; rfl
  have N0 := Fr.nil n0
  skip
  have pre0 : ∀ t, Steps p.tables e below (s₁.setTop (mkF m 0 #[.val (.ref (w 8))] [])) t → Steps p.tables e below (s₁.setTop (entryFrame m #[(.ref (w 8))] 1)) t := fun t k => castTop (ef_2_18 m w) k
  obtain ⟨T1, X1, e1, st1⟩ := getF X0 hx hZ hown (host := "") (Or.inl (wk6 hw)) Via.refl e0 ((wd30 hW).ext O0.2) (g := (mkF m 1 #[.val (.ref (w 8))] [(.ref (w 8))])) rfl rfl (hb hby d2_1)
  obtain ⟨fs, hr, hrun, hended, hWm, hsame⟩ := X1.leave (v := some (.int (248 : Int32))) (fun h => by rw [Bd.returns] at h; cases h)
  refine ⟨_, _, pre0 _ ?_, hrun, hended, _, _, rfl, ?_, ⟨_, rfl⟩, hWm, hsame.mono (by decide) (by decide)⟩
  · show Steps p.tables e below (s₁.setTop (mkF m 0 #[.val (.ref (w 8))] [])) _
    refine sA X0 hx hby d2_0 rfl rfl ?_
    refine st1 _ ?_
    exact retI X1 hx Bd.returns (hb hby d2_4) hr
  · show Q2_18 Z w h0 n0 _ T1.heap _
    rw [e1]
    exact ⟨rfl, N0, rfl⟩
theorem ef_1_19 (m : MethodId) : entryFrame m #[(.int (249 : Int32))] 2 = mkF m 0 #[.val (.int (249 : Int32)), .unset] [] := by first | (simp [entryFrame, mkF, argsToLocals, Value.category]; done) | rfl
def Q1_19 (Z : State) (w : Nat → Addr) (h0 : Heap) (n0 : Nat) (v : Option Value) (h : Heap) (L : List Loc) : Prop := v = some (.ref (w 5)) ∧ Fr n0 L ∧ h = h0
set_option maxRecDepth 65536 in
set_option maxHeartbeats 40000000 in
theorem rm1_19 (l : Launch) (Z : State) (a0 : Array Value) (hw : ∀ d ∈ tables_1, d.before a0 Z = true) (w : Nat → Addr) (hW : Wd Z w) (ws : List Jvm.Cond) (h0 : Heap) (n0 : Nat) (O0 : Old Z n0 h0) :
    MetFree l ym0 (head1 (Jvm.Cond.code ym0 prog_39_method_4_code 2 (some (.object "com/example/ferrule/ferrule/io/PickleTag")) :: ws) ({ frames := 0, cells := 0, slots := 0, locals := 0 } : Room)) (fun a U => a = #[(.int (249 : Int32))] ∧ Z.Warmed39 U.vm ∧ U.heap = h0) (fun _ _ _ _ _ => True) (fun _ U o U' => ∃ v L, o = .returned v ∧ Q1_19 Z w h0 n0 v U'.heap L ∧ FrameEnd U o U' L ({ frames := 0, cells := 0, slots := 0, locals := 0 } : Room).cells ({ frames := 0, cells := 0, slots := 0, locals := 0 } : Room).slots) := by
  refine MetFree.of_bodySF (plainFor_of_name pnc_0) hisR ?_
  intro p e s m args below meth c s₁ Bd hml0 hP hK
  obtain ⟨rfl, hZ, hh⟩ := hP
  have hx := Bd.exec
  have hby := Bd.bytes
  have hml : c.maxLocals = 2 := hml0
  have hown : s.vm.findClass "com/example/ferrule/ferrule/io/PickleTag" = some m.cls := findClass_of_methodNamed Bd.named
  have hnm := (name_of_methodNamed Bd.named Bd.method).1
  have X0 : Stand p l e ({ frames := 0, cells := 0, slots := 0, locals := 0 } : Room) s m #[(.int (249 : Int32))] below meth c s₁ [] 0 0 := Stand.of_body Bd
  have e0 : s₁.heap = h0 := by rw [← hh, Bd.state]; rfl
  have N0 := Fr.nil n0
  skip
  have pre0 : ∀ t, Steps p.tables e below (s₁.setTop (mkF m 0 #[.val (.int (249 : Int32)), .unset] [])) t → Steps p.tables e below (s₁.setTop (entryFrame m #[(.int (249 : Int32))] 2)) t := fun t k => castTop (ef_1_19 m) k
  obtain ⟨T1, X1, e1, st1⟩ := getS2 X0 hx hZ hown (host := "") (Or.inl (wk4 hw)) Via.refl e0 ((wd0 hW).ext O0.2) (g := (mkF m 1 #[.val (.int (249 : Int32)), .unset] [(.int (249 : Int32))])) rfl (hb hby d1_1)
  obtain ⟨T2, X2, e2, st2⟩ := getF X1 hx hZ hown (host := "") (Or.inl (wk6 hw)) Via.refl e1 ((wd23 hW).ext O0.2) (g := (mkF m 4 #[.val (.int (249 : Int32)), .unset] [(.ref (w 0)), (.int (249 : Int32))])) rfl rfl (hb hby d1_4)
  let Lb3 : Array Slot := #[.val (.int (249 : Int32)), .val (.int (9 : Int32))]
  obtain ⟨T4, X4, e4, st4⟩ := getS2 X2 hx hZ hown (host := "") (Or.inl (wk8 hw)) Via.refl e2 ((wd2 hW).ext O0.2) (g := (mkF m 14 Lb3 [(.int (9 : Int32))])) rfl (hb hby d1_14)
  obtain ⟨cl5, Ar5, q5, S5, Nn5, Hs5, G5⟩ := ((wd34 hW).ext O0.2)
  obtain ⟨T6, X6, e6, st6⟩ := getS2 X4 hx hZ hown (host := "") (Or.inl (wk8 hw)) Via.refl e4 ((wd2 hW).ext O0.2) (g := (mkF m 21 Lb3 [])) rfl (hb hby d1_21)
  obtain ⟨cl7, Ar7, q7, S7, Nn7, Hs7, G7⟩ := ((wd34 hW).ext O0.2)
  have hin7 : ¬ ((9 : Int32) < 0 ∨ cl7.slots.size ≤ ((9 : Int32)).toNatClampNeg) := inb_of S7 ⟨by decide, by decide⟩
  obtain ⟨fs, hr, hrun, hended, hWm, hsame⟩ := X6.leave (v := some (.ref (w 5))) (fun h => by rw [Bd.returns] at h; cases h)
  refine ⟨_, _, pre0 _ ?_, hrun, hended, _, _, rfl, ?_, ⟨_, rfl⟩, hWm, hsame.mono (by decide) (by decide)⟩
  · show Steps p.tables e below (s₁.setTop (mkF m 0 #[.val (.int (249 : Int32)), .unset] [])) _
    refine sI X0 hx hby d1_0 rfl ?_
    refine st1 _ ?_
    refine st2 _ ?_
    refine XS.isub X2.here hx rfl (hb hby d1_7) rfl ?_
    refine XS.istoreN X2.here hx rfl (hb hby d1_8) rfl (l' := Lb3) rfl ?_
    refine sI X2 hx hby d1_9 rfl ?_
    refine sN X2 hx hby d1_10 (by decide) ?_
    refine sI X2 hx hby d1_13 rfl ?_
    show Steps p.tables e below (T2.setTop (mkF m 14 Lb3 [(.int (9 : Int32))])) _
    refine st4 _ ?_
    refine X4.arraylength hx (by rw [e4]; exact Ar5.1) (State.isArrayOf_alike hZ.alike Ar5.2.1) (g := (mkF m 17 Lb3 [(.ref (w 1)), (.int (9 : Int32))])) rfl rfl (hb hby d1_17) _ ?_
    rw [len_of S5 Nn5]
    show Steps p.tables e below (T4.setTop (mkF m 18 Lb3 [(.int (11 : Int32)), (.int (9 : Int32))])) _
    refine sn X4 hx hby d1_18 (by decide) ?_
    refine st6 _ ?_
    refine sI X6 hx hby d1_24 rfl ?_
    refine X6.aaload hx (j := (9 : Int32)) (v := (.ref (w 5))) (by rw [e6]; exact Ar7.1) (State.isArrayOf_alike hZ.alike Ar7.2.1) rfl Ar7.2.2 hin7 (Hs7.at hin7 rfl) (g := (mkF m 25 Lb3 [(.int (9 : Int32)), (.ref (w 1))])) rfl rfl (hb hby d1_25) _ ?_
    refine sg (pc := 26) (pc' := 30) X6 hx hby d1_26 (by decide) (by decide) ?_
    jvm_step X6.here [X6.here.top, hx, (hb hby d1_30), X6.method', Bd.returns, Value.isRef, FieldType.isReference]
    first | (intro acts; rw [hr _ acts rfl rfl rfl]) | rw [hr _ _ rfl rfl rfl]
    exact Steps.refl _
  · show Q1_19 Z w h0 n0 _ T6.heap _
    rw [e6]
    exact ⟨rfl, N0, rfl⟩
theorem ef_2_20 (m : MethodId) (w : Nat → Addr) : entryFrame m #[(.ref (w 5))] 1 = mkF m 0 #[.val (.ref (w 5))] [] := by first | (simp [entryFrame, mkF, argsToLocals, Value.category]; done) | rfl
def Q2_20 (Z : State) (w : Nat → Addr) (h0 : Heap) (n0 : Nat) (v : Option Value) (h : Heap) (L : List Loc) : Prop := v = some (.int (249 : Int32)) ∧ Fr n0 L ∧ h = h0
set_option maxRecDepth 65536 in
set_option maxHeartbeats 40000000 in
theorem rm2_20 (l : Launch) (Z : State) (a0 : Array Value) (hw : ∀ d ∈ tables_1, d.before a0 Z = true) (w : Nat → Addr) (hW : Wd Z w) (ws : List Jvm.Cond) (h0 : Heap) (n0 : Nat) (O0 : Old Z n0 h0) :
    MetFree l ym1 (head1 (Jvm.Cond.code ym1 prog_39_method_5_code 1 (some .int) :: ws) ({ frames := 0, cells := 0, slots := 0, locals := 0 } : Room)) (fun a U => a = #[(.ref (w 5))] ∧ Z.Warmed39 U.vm ∧ U.heap = h0) (fun _ _ _ _ _ => True) (fun _ U o U' => ∃ v L, o = .returned v ∧ Q2_20 Z w h0 n0 v U'.heap L ∧ FrameEnd U o U' L ({ frames := 0, cells := 0, slots := 0, locals := 0 } : Room).cells ({ frames := 0, cells := 0, slots := 0, locals := 0 } : Room).slots) := by
  refine MetFree.of_bodySF (plainFor_of_name pnc_0) hisR ?_
  intro p e s m args below meth c s₁ Bd hml0 hP hK
  obtain ⟨rfl, hZ, hh⟩ := hP
  have hx := Bd.exec
  have hby := Bd.bytes
  have hml : c.maxLocals = 1 := hml0
  have hown : s.vm.findClass "com/example/ferrule/ferrule/io/PickleTag" = some m.cls := findClass_of_methodNamed Bd.named
  have hnm := (name_of_methodNamed Bd.named Bd.method).1
  have X0 : Stand p l e ({ frames := 0, cells := 0, slots := 0, locals := 0 } : Room) s m #[(.ref (w 5))] below meth c s₁ [] 0 0 := Stand.of_body Bd
  have e0 : s₁.heap = h0 := by rw [← hh, Bd.state]; rfl
  have N0 := Fr.nil n0
  skip
  have pre0 : ∀ t, Steps p.tables e below (s₁.setTop (mkF m 0 #[.val (.ref (w 5))] [])) t → Steps p.tables e below (s₁.setTop (entryFrame m #[(.ref (w 5))] 1)) t := fun t k => castTop (ef_2_20 m w) k
  obtain ⟨T1, X1, e1, st1⟩ := getF X0 hx hZ hown (host := "") (Or.inl (wk6 hw)) Via.refl e0 ((wd27 hW).ext O0.2) (g := (mkF m 1 #[.val (.ref (w 5))] [(.ref (w 5))])) rfl rfl (hb hby d2_1)
  obtain ⟨fs, hr, hrun, hended, hWm, hsame⟩ := X1.leave (v := some (.int (249 : Int32))) (fun h => by rw [Bd.returns] at h; cases h)
  refine ⟨_, _, pre0 _ ?_, hrun, hended, _, _, rfl, ?_, ⟨_, rfl⟩, hWm, hsame.mono (by decide) (by decide)⟩
  · show Steps p.tables e below (s₁.setTop (mkF m 0 #[.val (.ref (w 5))] [])) _
    refine sA X0 hx hby d2_0 rfl rfl ?_
    refine st1 _ ?_
    exact retI X1 hx Bd.returns (hb hby d2_4) hr
  · show Q2_20 Z w h0 n0 _ T1.heap _
    rw [e1]
    exact ⟨rfl, N0, rfl⟩
theorem ef_1_21 (m : MethodId) : entryFrame m #[(.int (250 : Int32))] 2 = mkF m 0 #[.val (.int (250 : Int32)), .unset] [] := by first | (simp [entryFrame, mkF, argsToLocals, Value.category]; done) | rfl
def Q1_21 (Z : State) (w : Nat → Addr) (h0 : Heap) (n0 : Nat) (v : Option Value) (h : Heap) (L : List Loc) : Prop := v = some (.ref (w 11)) ∧ Fr n0 L ∧ h = h0
set_option maxRecDepth 65536 in
set_option maxHeartbeats 40000000 in
theorem rm1_21 (l : Launch) (Z : State) (a0 : Array Value) (hw : ∀ d ∈ tables_1, d.before a0 Z = true) (w : Nat → Addr) (hW : Wd Z w) (ws : List Jvm.Cond) (h0 : Heap) (n0 : Nat) (O0 : Old Z n0 h0) :
    MetFree l ym0 (head1 (Jvm.Cond.code ym0 prog_39_method_4_code 2 (some (.object "com/example/ferrule/ferrule/io/PickleTag")) :: ws) ({ frames := 0, cells := 0, slots := 0, locals := 0 } : Room)) (fun a U => a = #[(.int (250 : Int32))] ∧ Z.Warmed39 U.vm ∧ U.heap = h0) (fun _ _ _ _ _ => True) (fun _ U o U' => ∃ v L, o = .returned v ∧ Q1_21 Z w h0 n0 v U'.heap L ∧ FrameEnd U o U' L ({ frames := 0, cells := 0, slots := 0, locals := 0 } : Room).cells ({ frames := 0, cells := 0, slots := 0, locals := 0 } : Room).slots) := by
  refine MetFree.of_bodySF (plainFor_of_name pnc_0) hisR ?_
  intro p e s m args below meth c s₁ Bd hml0 hP hK
  obtain ⟨rfl, hZ, hh⟩ := hP
  have hx := Bd.exec
  have hby := Bd.bytes
  have hml : c.maxLocals = 2 := hml0
  have hown : s.vm.findClass "com/example/ferrule/ferrule/io/PickleTag" = some m.cls := findClass_of_methodNamed Bd.named
  have hnm := (name_of_methodNamed Bd.named Bd.method).1
  have X0 : Stand p l e ({ frames := 0, cells := 0, slots := 0, locals := 0 } : Room) s m #[(.int (250 : Int32))] below meth c s₁ [] 0 0 := Stand.of_body Bd
  have e0 : s₁.heap = h0 := by rw [← hh, Bd.state]; rfl
  have N0 := Fr.nil n0
  skip
  have pre0 : ∀ t, Steps p.tables e below (s₁.setTop (mkF m 0 #[.val (.int (250 : Int32)), .unset] [])) t → Steps p.tables e below (s₁.setTop (entryFrame m #[(.int (250 : Int32))] 2)) t := fun t k => castTop (ef_1_21 m) k
  obtain ⟨T1, X1, e1, st1⟩ := getS2 X0 hx hZ hown (host := "") (Or.inl (wk4 hw)) Via.refl e0 ((wd0 hW).ext O0.2) (g := (mkF m 1 #[.val (.int (250 : Int32)), .unset] [(.int (250 : Int32))])) rfl (hb hby d1_1)
  obtain ⟨T2, X2, e2, st2⟩ := getF X1 hx hZ hown (host := "") (Or.inl (wk6 hw)) Via.refl e1 ((wd23 hW).ext O0.2) (g := (mkF m 4 #[.val (.int (250 : Int32)), .unset] [(.ref (w 0)), (.int (250 : Int32))])) rfl rfl (hb hby d1_4)
  let Lb3 : Array Slot := #[.val (.int (250 : Int32)), .val (.int (10 : Int32))]
  obtain ⟨T4, X4, e4, st4⟩ := getS2 X2 hx hZ hown (host := "") (Or.inl (wk8 hw)) Via.refl e2 ((wd2 hW).ext O0.2) (g := (mkF m 14 Lb3 [(.int (10 : Int32))])) rfl (hb hby d1_14)
  obtain ⟨cl5, Ar5, q5, S5, Nn5, Hs5, G5⟩ := ((wd34 hW).ext O0.2)
  obtain ⟨T6, X6, e6, st6⟩ := getS2 X4 hx hZ hown (host := "") (Or.inl (wk8 hw)) Via.refl e4 ((wd2 hW).ext O0.2) (g := (mkF m 21 Lb3 [])) rfl (hb hby d1_21)
  obtain ⟨cl7, Ar7, q7, S7, Nn7, Hs7, G7⟩ := ((wd34 hW).ext O0.2)
  have hin7 : ¬ ((10 : Int32) < 0 ∨ cl7.slots.size ≤ ((10 : Int32)).toNatClampNeg) := inb_of S7 ⟨by decide, by decide⟩
  obtain ⟨fs, hr, hrun, hended, hWm, hsame⟩ := X6.leave (v := some (.ref (w 11))) (fun h => by rw [Bd.returns] at h; cases h)
  refine ⟨_, _, pre0 _ ?_, hrun, hended, _, _, rfl, ?_, ⟨_, rfl⟩, hWm, hsame.mono (by decide) (by decide)⟩
  · show Steps p.tables e below (s₁.setTop (mkF m 0 #[.val (.int (250 : Int32)), .unset] [])) _
    refine sI X0 hx hby d1_0 rfl ?_
    refine st1 _ ?_
    refine st2 _ ?_
    refine XS.isub X2.here hx rfl (hb hby d1_7) rfl ?_
    refine XS.istoreN X2.here hx rfl (hb hby d1_8) rfl (l' := Lb3) rfl ?_
    refine sI X2 hx hby d1_9 rfl ?_
    refine sN X2 hx hby d1_10 (by decide) ?_
    refine sI X2 hx hby d1_13 rfl ?_
    show Steps p.tables e below (T2.setTop (mkF m 14 Lb3 [(.int (10 : Int32))])) _
    refine st4 _ ?_
    refine X4.arraylength hx (by rw [e4]; exact Ar5.1) (State.isArrayOf_alike hZ.alike Ar5.2.1) (g := (mkF m 17 Lb3 [(.ref (w 1)), (.int (10 : Int32))])) rfl rfl (hb hby d1_17) _ ?_
    rw [len_of S5 Nn5]
    show Steps p.tables e below (T4.setTop (mkF m 18 Lb3 [(.int (11 : Int32)), (.int (10 : Int32))])) _
    refine sn X4 hx hby d1_18 (by decide) ?_
    refine st6 _ ?_
    refine sI X6 hx hby d1_24 rfl ?_
    refine X6.aaload hx (j := (10 : Int32)) (v := (.ref (w 11))) (by rw [e6]; exact Ar7.1) (State.isArrayOf_alike hZ.alike Ar7.2.1) rfl Ar7.2.2 hin7 (Hs7.at hin7 rfl) (g := (mkF m 25 Lb3 [(.int (10 : Int32)), (.ref (w 1))])) rfl rfl (hb hby d1_25) _ ?_
    refine sg (pc := 26) (pc' := 30) X6 hx hby d1_26 (by decide) (by decide) ?_
    jvm_step X6.here [X6.here.top, hx, (hb hby d1_30), X6.method', Bd.returns, Value.isRef, FieldType.isReference]
    first | (intro acts; rw [hr _ acts rfl rfl rfl]) | rw [hr _ _ rfl rfl rfl]
    exact Steps.refl _
  · show Q1_21 Z w h0 n0 _ T6.heap _
    rw [e6]
    exact ⟨rfl, N0, rfl⟩
theorem ef_2_22 (m : MethodId) (w : Nat → Addr) : entryFrame m #[(.ref (w 11))] 1 = mkF m 0 #[.val (.ref (w 11))] [] := by first | (simp [entryFrame, mkF, argsToLocals, Value.category]; done) | rfl
def Q2_22 (Z : State) (w : Nat → Addr) (h0 : Heap) (n0 : Nat) (v : Option Value) (h : Heap) (L : List Loc) : Prop := v = some (.int (250 : Int32)) ∧ Fr n0 L ∧ h = h0
set_option maxRecDepth 65536 in
set_option maxHeartbeats 40000000 in
theorem rm2_22 (l : Launch) (Z : State) (a0 : Array Value) (hw : ∀ d ∈ tables_1, d.before a0 Z = true) (w : Nat → Addr) (hW : Wd Z w) (ws : List Jvm.Cond) (h0 : Heap) (n0 : Nat) (O0 : Old Z n0 h0) :
    MetFree l ym1 (head1 (Jvm.Cond.code ym1 prog_39_method_5_code 1 (some .int) :: ws) ({ frames := 0, cells := 0, slots := 0, locals := 0 } : Room)) (fun a U => a = #[(.ref (w 11))] ∧ Z.Warmed39 U.vm ∧ U.heap = h0) (fun _ _ _ _ _ => True) (fun _ U o U' => ∃ v L, o = .returned v ∧ Q2_22 Z w h0 n0 v U'.heap L ∧ FrameEnd U o U' L ({ frames := 0, cells := 0, slots := 0, locals := 0 } : Room).cells ({ frames := 0, cells := 0, slots := 0, locals := 0 } : Room).slots) := by
  refine MetFree.of_bodySF (plainFor_of_name pnc_0) hisR ?_
  intro p e s m args below meth c s₁ Bd hml0 hP hK
  obtain ⟨rfl, hZ, hh⟩ := hP
  have hx := Bd.exec
  have hby := Bd.bytes
  have hml : c.maxLocals = 1 := hml0
  have hown : s.vm.findClass "com/example/ferrule/ferrule/io/PickleTag" = some m.cls := findClass_of_methodNamed Bd.named
  have hnm := (name_of_methodNamed Bd.named Bd.method).1
  have X0 : Stand p l e ({ frames := 0, cells := 0, slots := 0, locals := 0 } : Room) s m #[(.ref (w 11))] below meth c s₁ [] 0 0 := Stand.of_body Bd
  have e0 : s₁.heap = h0 := by rw [← hh, Bd.state]; rfl
  have N0 := Fr.nil n0
  skip
  have pre0 : ∀ t, Steps p.tables e below (s₁.setTop (mkF m 0 #[.val (.ref (w 11))] [])) t → Steps p.tables e below (s₁.setTop (entryFrame m #[(.ref (w 11))] 1)) t := fun t k => castTop (ef_2_22 m w) k
  obtain ⟨T1, X1, e1, st1⟩ := getF X0 hx hZ hown (host := "") (Or.inl (wk6 hw)) Via.refl e0 ((wd33 hW).ext O0.2) (g := (mkF m 1 #[.val (.ref (w 11))] [(.ref (w 11))])) rfl rfl (hb hby d2_1)
  obtain ⟨fs, hr, hrun, hended, hWm, hsame⟩ := X1.leave (v := some (.int (250 : Int32))) (fun h => by rw [Bd.returns] at h; cases h)
  refine ⟨_, _, pre0 _ ?_, hrun, hended, _, _, rfl, ?_, ⟨_, rfl⟩, hWm, hsame.mono (by decide) (by decide)⟩
  · show Steps p.tables e below (s₁.setTop (mkF m 0 #[.val (.ref (w 11))] [])) _
    refine sA X0 hx hby d2_0 rfl rfl ?_
    refine st1 _ ?_
    exact retI X1 hx Bd.returns (hb hby d2_4) hr
  · show Q2_22 Z w h0 n0 _ T1.heap _
    rw [e1]
    exact ⟨rfl, N0, rfl⟩
theorem d1_29 : decode prog_39_method_4_code 29 = .ok (.aconst_null, 1) := by decide +kernel
theorem ef_1_23 (m : MethodId) (q1 : Int32) : entryFrame m #[(.int q1)] 2 = mkF m 0 #[.val (.int q1), .unset] [] := by first | (simp [entryFrame, mkF, argsToLocals, Value.category]; done) | rfl
def Q1_23 (Z : State) (w : Nat → Addr) (q1 : Int32) (h0 : Heap) (n0 : Nat) (v : Option Value) (h : Heap) (L : List Loc) : Prop := v = some .null ∧ Fr n0 L ∧ h = h0
set_option maxRecDepth 65536 in
set_option maxHeartbeats 40000000 in
theorem rm1_23 (l : Launch) (Z : State) (a0 : Array Value) (hw : ∀ d ∈ tables_1, d.before a0 Z = true) (w : Nat → Addr) (hW : Wd Z w) (ws : List Jvm.Cond) (q1 : Int32) (h0 : Heap) (n0 : Nat) (O0 : Old Z n0 h0) (c1 : (q1 - (240 : Int32)) < (0 : Int32)) :
    MetFree l ym0 (head1 (Jvm.Cond.code ym0 prog_39_method_4_code 2 (some (.object "com/example/ferrule/ferrule/io/PickleTag")) :: ws) ({ frames := 0, cells := 0, slots := 0, locals := 0 } : Room)) (fun a U => a = #[(.int q1)] ∧ Z.Warmed39 U.vm ∧ U.heap = h0) (fun _ _ _ _ _ => True) (fun _ U o U' => ∃ v L, o = .returned v ∧ Q1_23 Z w q1 h0 n0 v U'.heap L ∧ FrameEnd U o U' L ({ frames := 0, cells := 0, slots := 0, locals := 0 } : Room).cells ({ frames := 0, cells := 0, slots := 0, locals := 0 } : Room).slots) := by
  refine MetFree.of_bodySF (plainFor_of_name pnc_0) hisR ?_
  intro p e s m args below meth c s₁ Bd hml0 hP hK
  obtain ⟨rfl, hZ, hh⟩ := hP
  have hx := Bd.exec
  have hby := Bd.bytes
  have hml : c.maxLocals = 2 := hml0
  have hown : s.vm.findClass "com/example/ferrule/ferrule/io/PickleTag" = some m.cls := findClass_of_methodNamed Bd.named
  have hnm := (name_of_methodNamed Bd.named Bd.method).1
  have X0 : Stand p l e ({ frames := 0, cells := 0, slots := 0, locals := 0 } : Room) s m #[(.int q1)] below meth c s₁ [] 0 0 := Stand.of_body Bd
  have e0 : s₁.heap = h0 := by rw [← hh, Bd.state]; rfl
  have N0 := Fr.nil n0
  skip
  have pre0 : ∀ t, Steps p.tables e below (s₁.setTop (mkF m 0 #[.val (.int q1), .unset] [])) t → Steps p.tables e below (s₁.setTop (entryFrame m #[(.int q1)] 2)) t := fun t k => castTop (ef_1_23 m q1) k
  obtain ⟨T1, X1, e1, st1⟩ := getS2 X0 hx hZ hown (host := "") (Or.inl (wk4 hw)) Via.refl e0 ((wd0 hW).ext O0.2) (g := (mkF m 1 #[.val (.int q1), .unset] [(.int q1)])) rfl (hb hby d1_1)
  obtain ⟨T2, X2, e2, st2⟩ := getF X1 hx hZ hown (host := "") (Or.inl (wk6 hw)) Via.refl e1 ((wd23 hW).ext O0.2) (g := (mkF m 4 #[.val (.int q1), .unset] [(.ref (w 0)), (.int q1)])) rfl rfl (hb hby d1_4)
  let Lb3 : Array Slot := #[.val (.int q1), .val (.int (q1 - (240 : Int32)))]
  obtain ⟨fs, hr, hrun, hended, hWm, hsame⟩ := X2.leave (v := some .null) (fun h => by rw [Bd.returns] at h; cases h)
  refine ⟨_, _, pre0 _ ?_, hrun, hended, _, _, rfl, ?_, ⟨_, rfl⟩, hWm, hsame.mono (by decide) (by decide)⟩
  · show Steps p.tables e below (s₁.setTop (mkF m 0 #[.val (.int q1), .unset] [])) _
    refine sI X0 hx hby d1_0 rfl ?_
    refine st1 _ ?_
    refine st2 _ ?_
    refine XS.isub X2.here hx rfl (hb hby d1_7) rfl ?_
    refine XS.istoreN X2.here hx rfl (hb hby d1_8) rfl (l' := Lb3) rfl ?_
    refine sI X2 hx hby d1_9 rfl ?_
    refine XS.ifYes X2.here hx rfl (pc0 := 10) (pc' := 29) rfl (hb hby d1_10) rfl ((if0 _ _).trans (tlt (c1 : (q1 - (240 : Int32)) < (0 : Int32))).1) (by decide) (by decide) ?_
    refine XS.aconstNull X2.here hx rfl (hb hby d1_29) ?_
    show Steps p.tables e below (T2.setTop (mkF m 30 Lb3 [.null])) _
    jvm_step X2.here [X2.here.top, hx, (hb hby d1_30), X2.method', Bd.returns, Value.isRef, FieldType.isReference]
    first | (intro acts; rw [hr _ acts rfl rfl rfl]) | rw [hr _ _ rfl rfl rfl]
    exact Steps.refl _
  · show Q1_23 Z w q1 h0 n0 _ T2.heap _
    rw [e2]
    exact ⟨rfl, N0, rfl⟩
theorem ef_1_24 (m : MethodId) (q1 : Int32) : entryFrame m #[(.int q1)] 2 = mkF m 0 #[.val (.int q1), .unset] [] := by first | (simp [entryFrame, mkF, argsToLocals, Value.category]; done) | rfl
def Q1_24 (Z : State) (w : Nat → Addr) (q1 : Int32) (h0 : Heap) (n0 : Nat) (v : Option Value) (h : Heap) (L : List Loc) : Prop := v = some .null ∧ Fr n0 L ∧ h = h0
set_option maxRecDepth 65536 in
set_option maxHeartbeats 40000000 in
theorem rm1_24 (l : Launch) (Z : State) (a0 : Array Value) (hw : ∀ d ∈ tables_1, d.before a0 Z = true) (w : Nat → Addr) (hW : Wd Z w) (ws : List Jvm.Cond) (q1 : Int32) (h0 : Heap) (n0 : Nat) (O0 : Old Z n0 h0) (c1 : ¬ ((q1 - (240 : Int32)) < (0 : Int32))) (c2 : ¬ ((q1 - (240 : Int32)) < (11 : Int32))) :
    MetFree l ym0 (head1 (Jvm.Cond.code ym0 prog_39_method_4_code 2 (some (.object "com/example/ferrule/ferrule/io/PickleTag")) :: ws) ({ frames := 0, cells := 0, slots := 0, locals := 0 } : Room)) (fun a U => a = #[(.int q1)] ∧ Z.Warmed39 U.vm ∧ U.heap = h0) (fun _ _ _ _ _ => True) (fun _ U o U' => ∃ v L, o = .returned v ∧ Q1_24 Z w q1 h0 n0 v U'.heap L ∧ FrameEnd U o U' L ({ frames := 0, cells := 0, slots := 0, locals := 0 } : Room).cells ({ frames := 0, cells := 0, slots := 0, locals := 0 } : Room).slots) := by
  refine MetFree.of_bodySF (plainFor_of_name pnc_0) hisR ?_
  intro p e s m args below meth c s₁ Bd hml0 hP hK
  obtain ⟨rfl, hZ, hh⟩ := hP
  have hx := Bd.exec
  have hby := Bd.bytes
  have hml : c.maxLocals = 2 := hml0
  have hown : s.vm.findClass "com/example/ferrule/ferrule/io/PickleTag" = some m.cls := findClass_of_methodNamed Bd.named
  have hnm := (name_of_methodNamed Bd.named Bd.method).1
  have X0 : Stand p l e ({ frames := 0, cells := 0, slots := 0, locals := 0 } : Room) s m #[(.int q1)] below meth c s₁ [] 0 0 := Stand.of_body Bd
  have e0 : s₁.heap = h0 := by rw [← hh, Bd.state]; rfl
  have N0 := Fr.nil n0
  skip
  have pre0 : ∀ t, Steps p.tables e below (s₁.setTop (mkF m 0 #[.val (.int q1), .unset] [])) t → Steps p.tables e below (s₁.setTop (entryFrame m #[(.int q1)] 2)) t := fun t k => castTop (ef_1_24 m q1) k
  obtain ⟨T1, X1, e1, st1⟩ := getS2 X0 hx hZ hown (host := "") (Or.inl (wk4 hw)) Via.refl e0 ((wd0 hW).ext O0.2) (g := (mkF m 1 #[.val (.int q1), .unset] [(.int q1)])) rfl (hb hby d1_1)
  obtain ⟨T2, X2, e2, st2⟩ := getF X1 hx hZ hown (host := "") (Or.inl (wk6 hw)) Via.refl e1 ((wd23 hW).ext O0.2) (g := (mkF m 4 #[.val (.int q1), .unset] [(.ref (w 0)), (.int q1)])) rfl rfl (hb hby d1_4)
  let Lb3 : Array Slot := #[.val (.int q1), .val (.int (q1 - (240 : Int32)))]
  obtain ⟨T4, X4, e4, st4⟩ := getS2 X2 hx hZ hown (host := "") (Or.inl (wk8 hw)) Via.refl e2 ((wd2 hW).ext O0.2) (g := (mkF m 14 Lb3 [(.int (q1 - (240 : Int32)))])) rfl (hb hby d1_14)
  obtain ⟨cl5, Ar5, q5, S5, Nn5, Hs5, G5⟩ := ((wd34 hW).ext O0.2)
  obtain ⟨fs, hr, hrun, hended, hWm, hsame⟩ := X4.leave (v := some .null) (fun h => by rw [Bd.returns] at h; cases h)
  refine ⟨_, _, pre0 _ ?_, hrun, hended, _, _, rfl, ?_, ⟨_, rfl⟩, hWm, hsame.mono (by decide) (by decide)⟩
  · show Steps p.tables e below (s₁.setTop (mkF m 0 #[.val (.int q1), .unset] [])) _
    refine sI X0 hx hby d1_0 rfl ?_
    refine st1 _ ?_
    refine st2 _ ?_
    refine XS.isub X2.here hx rfl (hb hby d1_7) rfl ?_
    refine XS.istoreN X2.here hx rfl (hb hby d1_8) rfl (l' := Lb3) rfl ?_
    refine sI X2 hx hby d1_9 rfl ?_
    refine sN X2 hx hby d1_10 ((if0 _ _).trans (flt (c1 : ¬ ((q1 - (240 : Int32)) < (0 : Int32)))).1) ?_
    refine sI X2 hx hby d1_13 rfl ?_
    show Steps p.tables e below (T2.setTop (mkF m 14 Lb3 [(.int (q1 - (240 : Int32)))])) _
    refine st4 _ ?_
    refine X4.arraylength hx (by rw [e4]; exact Ar5.1) (State.isArrayOf_alike hZ.alike Ar5.2.1) (g := (mkF m 17 Lb3 [(.ref (w 1)), (.int (q1 - (240 : Int32)))])) rfl rfl (hb hby d1_17) _ ?_
    rw [len_of S5 Nn5]
    show Steps p.tables e below (T4.setTop (mkF m 18 Lb3 [(.int (11 : Int32)), (.int (q1 - (240 : Int32)))])) _
    refine XS.icmpYes X4.here hx rfl (pc0 := 18) (pc' := 29) rfl (hb hby d1_18) rfl (flt (c2 : ¬ ((q1 - (240 : Int32)) < (11 : Int32)))).2.1 (by decide) (by decide) ?_
    refine XS.aconstNull X4.here hx rfl (hb hby d1_29) ?_
    jvm_step X4.here [X4.here.top, hx, (hb hby d1_30), X4.method', Bd.returns, Value.isRef, FieldType.isReference]
    first | (intro acts; rw [hr _ acts rfl rfl rfl]) | rw [hr _ _ rfl rfl rfl]
    exact Steps.refl _
  · show Q1_24 Z w q1 h0 n0 _ T4.heap _
    rw [e4]
    exact ⟨rfl, N0, rfl⟩
theorem ef_0_25 (m : MethodId) (p0 : Int32) (p1 : Int32) : entryFrame m #[(.int p0), (.int p1)] maxLocals = mkF m 0 #[.val (.int p0), .val (.int p1), .unset, .unset, .unset] [] := by first | (simp [entryFrame, mkF, argsToLocals, Value.category, maxLocals]; done) | rfl
theorem pnc_1 : plainName "com/example/ferrule/ferrule/io/PickleTagOfPinLaw" = true := by first | (simp [plainName, overriddenIn]; done) | decide +kernel
def Q0 (n0 : Nat) (v : Option Value) (h : Heap) (L : List Loc) : Prop := v = some (.int (1 : Int32)) ∧ Fr n0 L
set_option maxRecDepth 65536 in
set_option maxHeartbeats 400000000 in
theorem rm0 (l : Launch) (Z : State) (a0 : Array Value) (hw : ∀ d ∈ tables_1, d.before a0 Z = true) (w : Nat → Addr) (hW : Wd Z w) (ws : List Jvm.Cond) (p0 : Int32) (p1 : Int32) (h0 : Heap) (n0 : Nat) (O0 : Old Z n0 h0) :
    MetFree l x (head1 (Jvm.Cond.code x code maxLocals ret :: ws) room_1) (fun a U => a = #[(.int p0), (.int p1)] ∧ Z.Warmed39 U.vm ∧ U.heap = h0) (fun _ _ _ _ _ => True) (fun _ U o U' => ∃ v L, o = .returned v ∧ Q0 n0 v U'.heap L ∧ FrameEnd U o U' L room_1.cells room_1.slots) := by
  refine MetFree.of_bodySF (plainFor_of_name pnc_1) hisR ?_
  intro p e s m args below meth c s₁ Bd hml0 hP hK
  obtain ⟨rfl, hZ, hh⟩ := hP
  have hx := Bd.exec
  have hby := Bd.bytes
  have hml : c.maxLocals = 5 := hml0
  have hown : s.vm.findClass "com/example/ferrule/ferrule/io/PickleTagOfPinLaw" = some m.cls := findClass_of_methodNamed Bd.named
  have hnm := (name_of_methodNamed Bd.named Bd.method).1
  have X0 : Stand p l e room_1 s m #[(.int p0), (.int p1)] below meth c s₁ [] 0 0 := Stand.of_body Bd
  have e0 : s₁.heap = h0 := by rw [← hh, Bd.state]; rfl
  have N0 := Fr.nil n0
  let La : Array Slot := #[.val (.int p0), .val (.int p1), .unset, .unset, .unset]
  have pre0 : ∀ t, Steps p.tables e below (s₁.setTop (mkF m 0 #[.val (.int p0), .val (.int p1), .unset, .unset, .unset] [])) t → Steps p.tables e below (s₁.setTop (entryFrame m #[(.int p0), (.int p1)] maxLocals)) t := fun t k => castTop (ef_0_25 m p0 p1) k
  have pre1 : ∀ t, Steps p.tables e below (s₁.setTop (mkF m 3 #[.val (.int p0), .val (.int p1), .unset, .unset, .unset] [(.int (p0 &&& (1 : Int32)))])) t → Steps p.tables e below (s₁.setTop (entryFrame m #[(.int p0), (.int p1)] maxLocals)) t := fun t k => pre0 t (by
   show Steps p.tables e below (s₁.setTop (mkF m 0 La [])) _
   refine sI X0 hx hby at_0 rfl ?_
   refine sc X0 hx hby at_1 ?_
   refine XS.iand X0.here hx rfl (hb hby at_2) rfl ?_
   exact k)
  rcases (own_and1 p0) with hs2 | hs2
  ·
   rw [hs2] at pre1
   have pre3 : ∀ t, Steps p.tables e below (s₁.setTop (mkF m 7 #[.val (.int p0), .val (.int p1), .unset, .unset, .unset] [(.int p1)])) t → Steps p.tables e below (s₁.setTop (entryFrame m #[(.int p0), (.int p1)] maxLocals)) t := fun t k => pre1 t (by
    show Steps p.tables e below (s₁.setTop (mkF m 3 La [(.int (0 : Int32))])) _
    refine sN X0 hx hby at_3 (by decide) ?_
    refine sI X0 hx hby at_6 rfl ?_
    exact k)
   rcases (own_rng p1) with hs4 | hs4 | hs4 | hs4 | hs4 | hs4 | hs4 | hs4 | hs4 | hs4 | hs4 | hs4 | hs4
   ·
    have pre5 : ∀ t, Steps p.tables e below (s₁.setTop (mkF m 7 #[.val (.int p0), .val (.int (240 : Int32)), .unset, .unset, .unset] [(.int (240 : Int32))])) t → Steps p.tables e below (s₁.setTop (entryFrame m #[(.int p0), (.int p1)] maxLocals)) t := fun t k => pre3 t (by rw [hs4]; exact k)
    let Lb6 : Array Slot := #[.val (.int p0), .val (.int (240 : Int32)), .unset, .unset, .unset]
    let Lb7 : Array Slot := #[.val (.int p0), .val (.int (240 : Int32)), .val (.int (240 : Int32)), .unset, .unset]
    obtain ⟨_, _, ⟨T8, L8, kk8, nn8⟩, -, X8, ⟨Lc8, hQ8, l8, y8, z8⟩, st8⟩ := Jvm.LawKit.callS X0 hx (y := ym0) hown (mvT hZ (wk0 hw)) (mvT hZ (wk1 hw)) (mvT hZ (wk2 hw)) (mvT hZ (wk3 hw)) (by decide) (backOf (W := 0) (rm1_1 l Z a0 hw w hW []  h0 n0 O0 ) hZ (wk3 hw) (wk2 hw) (by decide) (by decide)) (g := (mkF m 23 Lb7 [(.int (240 : Int32))])) rfl (by rw [hml]; rfl) (argsL := [(.int (240 : Int32))]) (rest := []) (lenOf pds_0 rfl) rfl (by show 2 * 0 + _ ≤ _; exact Nat.le_of_eq rfl) (hb hby at_23) (fun _ _ => ⟨rfl, e0, (by decide : 0 + 0 ≤ _), (by decide : 0 + 0 ≤ _)⟩)
    dsimp only [Pt.U, Pt.locs, Pt.cells, Pt.slots] at X8 l8 y8 z8 st8 hQ8
    subst l8 y8 z8
    obtain ⟨rfl, N8q, e8⟩ := hQ8
    have N8 := Fr.app N0 N8q
    let Lb9 : Array Slot := #[.val (.int p0), .val (.int (240 : Int32)), .val (.int (240 : Int32)), .val (.ref (w 0)), .unset]
    let Lb10 : Array Slot := #[.val (.int p0), .val (.int (240 : Int32)), .val (.int (240 : Int32)), .val (.ref (w 0)), .val (.int (1 : Int32))]
    obtain ⟨cq11, kq11, q11a, q11b, q11c⟩ := isOf hZ e8 ((wd1 hW).ext O0.2)
    obtain ⟨_, _, ⟨T11, L11, kk11, nn11⟩, -, X11, ⟨Lc11, hQ11, l11, y11, z11⟩, st11⟩ := X8.virtualBack hx (y := ym1) (z := ym1) hown (mvT hZ (wk12 hw)) (mvT hZ (wk13 hw)) (notFace_of_selects (args := #[]) (mvT hZ (wk15 hw))) (mvT hZ (wk15 hw)) (mvT hZ (wk14 hw)) (by decide) (backOf (W := 0) (rm2_2 l Z a0 hw w hW []  h0 n0 O0 ) hZ (wk16 hw) (wk2 hw) (by decide) (by decide)) q11a q11c (g := (mkF m 68 Lb10 [(.ref (w 0))])) rfl (by rw [hml]; rfl) (Steps.refl _) (argsL := []) (rest := []) (lenOf pds_1 rfl) rfl (by show 2 * 0 + _ ≤ _; exact Nat.le_of_eq rfl) (hb hby at_68) (fun _ _ => ⟨rfl, e8, (by decide : 0 + 0 ≤ _), (by decide : 0 + 0 ≤ _)⟩)
    dsimp only [Pt.U, Pt.locs, Pt.cells, Pt.slots] at X11 l11 y11 z11 st11 hQ11
    subst l11 y11 z11
    obtain ⟨rfl, N11q, e11⟩ := hQ11
    have N11 := Fr.app N8 N11q
    obtain ⟨fs, hr, hrun, hended, hWm, hsame⟩ := X11.leave (v := some (.int (1 : Int32))) (fun h => by rw [Bd.returns] at h; cases h)
    refine ⟨_, _, pre5 _ ?_, hrun, hended, _, _, rfl, ?_, ⟨_, rfl⟩, hWm, hsame.mono (by decide) (by decide)⟩
    · show Steps p.tables e below (s₁.setTop (mkF m 7 Lb6 [(.int (240 : Int32))])) _
      refine sg (pc := 7) (pc' := 21) X0 hx hby at_7 (by decide) (by decide) ?_
      refine XS.istoreN X0.here hx rfl (hb hby at_21) rfl (l' := Lb7) rfl ?_
      refine sI X0 hx hby at_22 rfl ?_
      refine st8 _ ?_
      refine XS.astoreN X8.here hx rfl (hb hby at_26) rfl rfl (l' := Lb9) rfl ?_
      refine sI X8 hx hby at_27 rfl ?_
      refine XS.sipush X8.here hx rfl (hb hby at_28) ?_
      refine sn X8 hx hby at_31 (by decide) ?_
      refine sI X8 hx hby at_34 rfl ?_
      show Steps p.tables e below (T8.setTop (mkF m 35 Lb9 [(.int (240 : Int32))])) _
      refine XS.sipush X8.here hx rfl (hb hby at_35) ?_
      refine sn X8 hx hby at_38 (by decide) ?_
      refine sc X8 hx hby at_41 ?_
      refine sg (pc := 42) (pc' := 46) X8 hx hby at_42 (by decide) (by decide) ?_
      refine XS.istore X8.here hx rfl (hb hby at_46) rfl (l' := Lb10) rfl ?_
      show Steps p.tables e below (T8.setTop (mkF m 48 Lb10 [])) _
      refine si X8 hx hby at_48 rfl ?_
      refine XS.ifYes X8.here hx rfl (pc0 := 50) (pc' := 63) rfl (hb hby at_50) rfl (by decide) (by decide) (by decide) ?_
      refine sA X8 hx hby at_63 rfl rfl ?_
      refine XS.ifnullNo X8.here hx rfl (hb hby at_64) rfl ?_
      refine sA X8 hx hby at_67 rfl rfl ?_
      show Steps p.tables e below (T8.setTop (mkF m 68 Lb10 [(.ref (w 0))])) _
      refine st11.trans ?_
      refine sI X11 hx hby at_71 rfl ?_
      refine sn X11 hx hby at_72 (by decide) ?_
      refine sc X11 hx hby at_75 ?_
      refine sg (pc := 76) (pc' := 80) X11 hx hby at_76 (by decide) (by decide) ?_
      exact retN X11 hx (t := .boolean) Bd.returns (by simp) (hb hby at_80) hr
    · show Q0 n0 _ T11.heap _
      rw [e11]
      exact ⟨rfl, N11⟩
   ·
    have pre12 : ∀ t, Steps p.tables e below (s₁.setTop (mkF m 7 #[.val (.int p0), .val (.int (241 : Int32)), .unset, .unset, .unset] [(.int (241 : Int32))])) t → Steps p.tables e below (s₁.setTop (entryFrame m #[(.int p0), (.int p1)] maxLocals)) t := fun t k => pre3 t (by rw [hs4]; exact k)
    let Lb13 : Array Slot := #[.val (.int p0), .val (.int (241 : Int32)), .unset, .unset, .unset]
    let Lb14 : Array Slot := #[.val (.int p0), .val (.int (241 : Int32)), .val (.int (241 : Int32)), .unset, .unset]
    obtain ⟨_, _, ⟨T15, L15, kk15, nn15⟩, -, X15, ⟨Lc15, hQ15, l15, y15, z15⟩, st15⟩ := Jvm.LawKit.callS X0 hx (y := ym0) hown (mvT hZ (wk0 hw)) (mvT hZ (wk1 hw)) (mvT hZ (wk2 hw)) (mvT hZ (wk3 hw)) (by decide) (backOf (W := 0) (rm1_3 l Z a0 hw w hW []  h0 n0 O0 ) hZ (wk3 hw) (wk2 hw) (by decide) (by decide)) (g := (mkF m 23 Lb14 [(.int (241 : Int32))])) rfl (by rw [hml]; rfl) (argsL := [(.int (241 : Int32))]) (rest := []) (lenOf pds_0 rfl) rfl (by show 2 * 0 + _ ≤ _; exact Nat.le_of_eq rfl) (hb hby at_23) (fun _ _ => ⟨rfl, e0, (by decide : 0 + 0 ≤ _), (by decide : 0 + 0 ≤ _)⟩)
    dsimp only [Pt.U, Pt.locs, Pt.cells, Pt.slots] at X15 l15 y15 z15 st15 hQ15
    subst l15 y15 z15
    obtain ⟨rfl, N15q, e15⟩ := hQ15
    have N15 := Fr.app N0 N15q
    let Lb16 : Array Slot := #[.val (.int p0), .val (.int (241 : Int32)), .val (.int (241 : Int32)), .val (.ref (w 6)), .unset]
    let Lb17 : Array Slot := #[.val (.int p0), .val (.int (241 : Int32)), .val (.int (241 : Int32)), .val (.ref (w 6)), .val (.int (1 : Int32))]
    obtain ⟨cq18, kq18, q18a, q18b, q18c⟩ := isOf hZ e15 ((wd12 hW).ext O0.2)
    obtain ⟨_, _, ⟨T18, L18, kk18, nn18⟩, -, X18, ⟨Lc18, hQ18, l18, y18, z18⟩, st18⟩ := X15.virtualBack hx (y := ym1) (z := ym1) hown (mvT hZ (wk12 hw)) (mvT hZ (wk13 hw)) (notFace_of_selects (args := #[]) (mvT hZ (wk15 hw))) (mvT hZ (wk15 hw)) (mvT hZ (wk14 hw)) (by decide) (backOf (W := 0) (rm2_4 l Z a0 hw w hW []  h0 n0 O0 ) hZ (wk16 hw) (wk2 hw) (by decide) (by decide)) q18a q18c (g := (mkF m 68 Lb17 [(.ref (w 6))])) rfl (by rw [hml]; rfl) (Steps.refl _) (argsL := []) (rest := []) (lenOf pds_1 rfl) rfl (by show 2 * 0 + _ ≤ _; exact Nat.le_of_eq rfl) (hb hby at_68) (fun _ _ => ⟨rfl, e15, (by decide : 0 + 0 ≤ _), (by decide : 0 + 0 ≤ _)⟩)
    dsimp only [Pt.U, Pt.locs, Pt.cells, Pt.slots] at X18 l18 y18 z18 st18 hQ18
    subst l18 y18 z18
    obtain ⟨rfl, N18q, e18⟩ := hQ18
    have N18 := Fr.app N15 N18q
    obtain ⟨fs, hr, hrun, hended, hWm, hsame⟩ := X18.leave (v := some (.int (1 : Int32))) (fun h => by rw [Bd.returns] at h; cases h)
    refine ⟨_, _, pre12 _ ?_, hrun, hended, _, _, rfl, ?_, ⟨_, rfl⟩, hWm, hsame.mono (by decide) (by decide)⟩
    · show Steps p.tables e below (s₁.setTop (mkF m 7 Lb13 [(.int (241 : Int32))])) _
      refine sg (pc := 7) (pc' := 21) X0 hx hby at_7 (by decide) (by decide) ?_
      refine XS.istoreN X0.here hx rfl (hb hby at_21) rfl (l' := Lb14) rfl ?_
      refine sI X0 hx hby at_22 rfl ?_
      refine st15 _ ?_
      refine XS.astoreN X15.here hx rfl (hb hby at_26) rfl rfl (l' := Lb16) rfl ?_
      refine sI X15 hx hby at_27 rfl ?_
      refine XS.sipush X15.here hx rfl (hb hby at_28) ?_
      refine sn X15 hx hby at_31 (by decide) ?_
      refine sI X15 hx hby at_34 rfl ?_
      show Steps p.tables e below (T15.setTop (mkF m 35 Lb16 [(.int (241 : Int32))])) _
      refine XS.sipush X15.here hx rfl (hb hby at_35) ?_
      refine sn X15 hx hby at_38 (by decide) ?_
      refine sc X15 hx hby at_41 ?_
      refine sg (pc := 42) (pc' := 46) X15 hx hby at_42 (by decide) (by decide) ?_
      refine XS.istore X15.here hx rfl (hb hby at_46) rfl (l' := Lb17) rfl ?_
      show Steps p.tables e below (T15.setTop (mkF m 48 Lb17 [])) _
      refine si X15 hx hby at_48 rfl ?_
      refine XS.ifYes X15.here hx rfl (pc0 := 50) (pc' := 63) rfl (hb hby at_50) rfl (by decide) (by decide) (by decide) ?_
      refine sA X15 hx hby at_63 rfl rfl ?_
      refine XS.ifnullNo X15.here hx rfl (hb hby at_64) rfl ?_
      refine sA X15 hx hby at_67 rfl rfl ?_
      show Steps p.tables e below (T15.setTop (mkF m 68 Lb17 [(.ref (w 6))])) _
      refine st18.trans ?_
      refine sI X18 hx hby at_71 rfl ?_
      refine sn X18 hx hby at_72 (by decide) ?_
      refine sc X18 hx hby at_75 ?_
      refine sg (pc := 76) (pc' := 80) X18 hx hby at_76 (by decide) (by decide) ?_
      exact retN X18 hx (t := .boolean) Bd.returns (by simp) (hb hby at_80) hr
    · show Q0 n0 _ T18.heap _
      rw [e18]
      exact ⟨rfl, N18⟩
   ·
    have pre19 : ∀ t, Steps p.tables e below (s₁.setTop (mkF m 7 #[.val (.int p0), .val (.int (242 : Int32)), .unset, .unset, .unset] [(.int (242 : Int32))])) t → Steps p.tables e below (s₁.setTop (entryFrame m #[(.int p0), (.int p1)] maxLocals)) t := fun t k => pre3 t (by rw [hs4]; exact k)
    let Lb20 : Array Slot := #[.val (.int p0), .val (.int (242 : Int32)), .unset, .unset, .unset]
    let Lb21 : Array Slot := #[.val (.int p0), .val (.int (242 : Int32)), .val (.int (242 : Int32)), .unset, .unset]
    obtain ⟨_, _, ⟨T22, L22, kk22, nn22⟩, -, X22, ⟨Lc22, hQ22, l22, y22, z22⟩, st22⟩ := Jvm.LawKit.callS X0 hx (y := ym0) hown (mvT hZ (wk0 hw)) (mvT hZ (wk1 hw)) (mvT hZ (wk2 hw)) (mvT hZ (wk3 hw)) (by decide) (backOf (W := 0) (rm1_5 l Z a0 hw w hW []  h0 n0 O0 ) hZ (wk3 hw) (wk2 hw) (by decide) (by decide)) (g := (mkF m 23 Lb21 [(.int (242 : Int32))])) rfl (by rw [hml]; rfl) (argsL := [(.int (242 : Int32))]) (rest := []) (lenOf pds_0 rfl) rfl (by show 2 * 0 + _ ≤ _; exact Nat.le_of_eq rfl) (hb hby at_23) (fun _ _ => ⟨rfl, e0, (by decide : 0 + 0 ≤ _), (by decide : 0 + 0 ≤ _)⟩)
    dsimp only [Pt.U, Pt.locs, Pt.cells, Pt.slots] at X22 l22 y22 z22 st22 hQ22
    subst l22 y22 z22
    obtain ⟨rfl, N22q, e22⟩ := hQ22
    have N22 := Fr.app N0 N22q
    let Lb23 : Array Slot := #[.val (.int p0), .val (.int (242 : Int32)), .val (.int (242 : Int32)), .val (.ref (w 9)), .unset]
    let Lb24 : Array Slot := #[.val (.int p0), .val (.int (242 : Int32)), .val (.int (242 : Int32)), .val (.ref (w 9)), .val (.int (1 : Int32))]
    obtain ⟨cq25, kq25, q25a, q25b, q25c⟩ := isOf hZ e22 ((wd18 hW).ext O0.2)
    obtain ⟨_, _, ⟨T25, L25, kk25, nn25⟩, -, X25, ⟨Lc25, hQ25, l25, y25, z25⟩, st25⟩ := X22.virtualBack hx (y := ym1) (z := ym1) hown (mvT hZ (wk12 hw)) (mvT hZ (wk13 hw)) (notFace_of_selects (args := #[]) (mvT hZ (wk15 hw))) (mvT hZ (wk15 hw)) (mvT hZ (wk14 hw)) (by decide) (backOf (W := 0) (rm2_6 l Z a0 hw w hW []  h0 n0 O0 ) hZ (wk16 hw) (wk2 hw) (by decide) (by decide)) q25a q25c (g := (mkF m 68 Lb24 [(.ref (w 9))])) rfl (by rw [hml]; rfl) (Steps.refl _) (argsL := []) (rest := []) (lenOf pds_1 rfl) rfl (by show 2 * 0 + _ ≤ _; exact Nat.le_of_eq rfl) (hb hby at_68) (fun _ _ => ⟨rfl, e22, (by decide : 0 + 0 ≤ _), (by decide : 0 + 0 ≤ _)⟩)
    dsimp only [Pt.U, Pt.locs, Pt.cells, Pt.slots] at X25 l25 y25 z25 st25 hQ25
    subst l25 y25 z25
    obtain ⟨rfl, N25q, e25⟩ := hQ25
    have N25 := Fr.app N22 N25q
    obtain ⟨fs, hr, hrun, hended, hWm, hsame⟩ := X25.leave (v := some (.int (1 : Int32))) (fun h => by rw [Bd.returns] at h; cases h)
    refine ⟨_, _, pre19 _ ?_, hrun, hended, _, _, rfl, ?_, ⟨_, rfl⟩, hWm, hsame.mono (by decide) (by decide)⟩
    · show Steps p.tables e below (s₁.setTop (mkF m 7 Lb20 [(.int (242 : Int32))])) _
      refine sg (pc := 7) (pc' := 21) X0 hx hby at_7 (by decide) (by decide) ?_
      refine XS.istoreN X0.here hx rfl (hb hby at_21) rfl (l' := Lb21) rfl ?_
      refine sI X0 hx hby at_22 rfl ?_
      refine st22 _ ?_
      refine XS.astoreN X22.here hx rfl (hb hby at_26) rfl rfl (l' := Lb23) rfl ?_
      refine sI X22 hx hby at_27 rfl ?_
      refine XS.sipush X22.here hx rfl (hb hby at_28) ?_
      refine sn X22 hx hby at_31 (by decide) ?_
      refine sI X22 hx hby at_34 rfl ?_
      show Steps p.tables e below (T22.setTop (mkF m 35 Lb23 [(.int (242 : Int32))])) _
      refine XS.sipush X22.here hx rfl (hb hby at_35) ?_
      refine sn X22 hx hby at_38 (by decide) ?_
      refine sc X22 hx hby at_41 ?_
      refine sg (pc := 42) (pc' := 46) X22 hx hby at_42 (by decide) (by decide) ?_
      refine XS.istore X22.here hx rfl (hb hby at_46) rfl (l' := Lb24) rfl ?_
      show Steps p.tables e below (T22.setTop (mkF m 48 Lb24 [])) _
      refine si X22 hx hby at_48 rfl ?_
      refine XS.ifYes X22.here hx rfl (pc0 := 50) (pc' := 63) rfl (hb hby at_50) rfl (by decide) (by decide) (by decide) ?_
      refine sA X22 hx hby at_63 rfl rfl ?_
      refine XS.ifnullNo X22.here hx rfl (hb hby at_64) rfl ?_
      refine sA X22 hx hby at_67 rfl rfl ?_
      show Steps p.tables e below (T22.setTop (mkF m 68 Lb24 [(.ref (w 9))])) _
      refine st25.trans ?_
      refine sI X25 hx hby at_71 rfl ?_
      refine sn X25 hx hby at_72 (by decide) ?_
      refine sc X25 hx hby at_75 ?_
      refine sg (pc := 76) (pc' := 80) X25 hx hby at_76 (by decide) (by decide) ?_
      exact retN X25 hx (t := .boolean) Bd.returns (by simp) (hb hby at_80) hr
    · show Q0 n0 _ T25.heap _
      rw [e25]
      exact ⟨rfl, N25⟩
   ·
    have pre26 : ∀ t, Steps p.tables e below (s₁.setTop (mkF m 7 #[.val (.int p0), .val (.int (243 : Int32)), .unset, .unset, .unset] [(.int (243 : Int32))])) t → Steps p.tables e below (s₁.setTop (entryFrame m #[(.int p0), (.int p1)] maxLocals)) t := fun t k => pre3 t (by rw [hs4]; exact k)
    let Lb27 : Array Slot := #[.val (.int p0), .val (.int (243 : Int32)), .unset, .unset, .unset]
    let Lb28 : Array Slot := #[.val (.int p0), .val (.int (243 : Int32)), .val (.int (243 : Int32)), .unset, .unset]
    obtain ⟨_, _, ⟨T29, L29, kk29, nn29⟩, -, X29, ⟨Lc29, hQ29, l29, y29, z29⟩, st29⟩ := Jvm.LawKit.callS X0 hx (y := ym0) hown (mvT hZ (wk0 hw)) (mvT hZ (wk1 hw)) (mvT hZ (wk2 hw)) (mvT hZ (wk3 hw)) (by decide) (backOf (W := 0) (rm1_7 l Z a0 hw w hW []  h0 n0 O0 ) hZ (wk3 hw) (wk2 hw) (by decide) (by decide)) (g := (mkF m 23 Lb28 [(.int (243 : Int32))])) rfl (by rw [hml]; rfl) (argsL := [(.int (243 : Int32))]) (rest := []) (lenOf pds_0 rfl) rfl (by show 2 * 0 + _ ≤ _; exact Nat.le_of_eq rfl) (hb hby at_23) (fun _ _ => ⟨rfl, e0, (by decide : 0 + 0 ≤ _), (by decide : 0 + 0 ≤ _)⟩)
    dsimp only [Pt.U, Pt.locs, Pt.cells, Pt.slots] at X29 l29 y29 z29 st29 hQ29
    subst l29 y29 z29
    obtain ⟨rfl, N29q, e29⟩ := hQ29
    have N29 := Fr.app N0 N29q
    let Lb30 : Array Slot := #[.val (.int p0), .val (.int (243 : Int32)), .val (.int (243 : Int32)), .val (.ref (w 7)), .unset]
    let Lb31 : Array Slot := #[.val (.int p0), .val (.int (243 : Int32)), .val (.int (243 : Int32)), .val (.ref (w 7)), .val (.int (1 : Int32))]
    obtain ⟨cq32, kq32, q32a, q32b, q32c⟩ := isOf hZ e29 ((wd14 hW).ext O0.2)
    obtain ⟨_, _, ⟨T32, L32, kk32, nn32⟩, -, X32, ⟨Lc32, hQ32, l32, y32, z32⟩, st32⟩ := X29.virtualBack hx (y := ym1) (z := ym1) hown (mvT hZ (wk12 hw)) (mvT hZ (wk13 hw)) (notFace_of_selects (args := #[]) (mvT hZ (wk15 hw))) (mvT hZ (wk15 hw)) (mvT hZ (wk14 hw)) (by decide) (backOf (W := 0) (rm2_8 l Z a0 hw w hW []  h0 n0 O0 ) hZ (wk16 hw) (wk2 hw) (by decide) (by decide)) q32a q32c (g := (mkF m 68 Lb31 [(.ref (w 7))])) rfl (by rw [hml]; rfl) (Steps.refl _) (argsL := []) (rest := []) (lenOf pds_1 rfl) rfl (by show 2 * 0 + _ ≤ _; exact Nat.le_of_eq rfl) (hb hby at_68) (fun _ _ => ⟨rfl, e29, (by decide : 0 + 0 ≤ _), (by decide : 0 + 0 ≤ _)⟩)
    dsimp only [Pt.U, Pt.locs, Pt.cells, Pt.slots] at X32 l32 y32 z32 st32 hQ32
    subst l32 y32 z32
    obtain ⟨rfl, N32q, e32⟩ := hQ32
    have N32 := Fr.app N29 N32q
    obtain ⟨fs, hr, hrun, hended, hWm, hsame⟩ := X32.leave (v := some (.int (1 : Int32))) (fun h => by rw [Bd.returns] at h; cases h)
    refine ⟨_, _, pre26 _ ?_, hrun, hended, _, _, rfl, ?_, ⟨_, rfl⟩, hWm, hsame.mono (by decide) (by decide)⟩
    · show Steps p.tables e below (s₁.setTop (mkF m 7 Lb27 [(.int (243 : Int32))])) _
      refine sg (pc := 7) (pc' := 21) X0 hx hby at_7 (by decide) (by decide) ?_
      refine XS.istoreN X0.here hx rfl (hb hby at_21) rfl (l' := Lb28) rfl ?_
      refine sI X0 hx hby at_22 rfl ?_
      refine st29 _ ?_
      refine XS.astoreN X29.here hx rfl (hb hby at_26) rfl rfl (l' := Lb30) rfl ?_
      refine sI X29 hx hby at_27 rfl ?_
      refine XS.sipush X29.here hx rfl (hb hby at_28) ?_
      refine sn X29 hx hby at_31 (by decide) ?_
      refine sI X29 hx hby at_34 rfl ?_
      show Steps p.tables e below (T29.setTop (mkF m 35 Lb30 [(.int (243 : Int32))])) _
      refine XS.sipush X29.here hx rfl (hb hby at_35) ?_
      refine sn X29 hx hby at_38 (by decide) ?_
      refine sc X29 hx hby at_41 ?_
      refine sg (pc := 42) (pc' := 46) X29 hx hby at_42 (by decide) (by decide) ?_
      refine XS.istore X29.here hx rfl (hb hby at_46) rfl (l' := Lb31) rfl ?_
      show Steps p.tables e below (T29.setTop (mkF m 48 Lb31 [])) _
      refine si X29 hx hby at_48 rfl ?_
      refine XS.ifYes X29.here hx rfl (pc0 := 50) (pc' := 63) rfl (hb hby at_50) rfl (by decide) (by decide) (by decide) ?_
      refine sA X29 hx hby at_63 rfl rfl ?_
      refine XS.ifnullNo X29.here hx rfl (hb hby at_64) rfl ?_
      refine sA X29 hx hby at_67 rfl rfl ?_
      show Steps p.tables e below (T29.setTop (mkF m 68 Lb31 [(.ref (w 7))])) _
      refine st32.trans ?_
      refine sI X32 hx hby at_71 rfl ?_
      refine sn X32 hx hby at_72 (by decide) ?_
      refine sc X32 hx hby at_75 ?_
      refine sg (pc := 76) (pc' := 80) X32 hx hby at_76 (by decide) (by decide) ?_
      exact retN X32 hx (t := .boolean) Bd.returns (by simp) (hb hby at_80) hr
    · show Q0 n0 _ T32.heap _
      rw [e32]
      exact ⟨rfl, N32⟩
   ·
    have pre33 : ∀ t, Steps p.tables e below (s₁.setTop (mkF m 7 #[.val (.int p0), .val (.int (244 : Int32)), .unset, .unset, .unset] [(.int (244 : Int32))])) t → Steps p.tables e below (s₁.setTop (entryFrame m #[(.int p0), (.int p1)] maxLocals)) t := fun t k => pre3 t (by rw [hs4]; exact k)
    let Lb34 : Array Slot := #[.val (.int p0), .val (.int (244 : Int32)), .unset, .unset, .unset]
    let Lb35 : Array Slot := #[.val (.int p0), .val (.int (244 : Int32)), .val (.int (244 : Int32)), .unset, .unset]
    obtain ⟨_, _, ⟨T36, L36, kk36, nn36⟩, -, X36, ⟨Lc36, hQ36, l36, y36, z36⟩, st36⟩ := Jvm.LawKit.callS X0 hx (y := ym0) hown (mvT hZ (wk0 hw)) (mvT hZ (wk1 hw)) (mvT hZ (wk2 hw)) (mvT hZ (wk3 hw)) (by decide) (backOf (W := 0) (rm1_9 l Z a0 hw w hW []  h0 n0 O0 ) hZ (wk3 hw) (wk2 hw) (by decide) (by decide)) (g := (mkF m 23 Lb35 [(.int (244 : Int32))])) rfl (by rw [hml]; rfl) (argsL := [(.int (244 : Int32))]) (rest := []) (lenOf pds_0 rfl) rfl (by show 2 * 0 + _ ≤ _; exact Nat.le_of_eq rfl) (hb hby at_23) (fun _ _ => ⟨rfl, e0, (by decide : 0 + 0 ≤ _), (by decide : 0 + 0 ≤ _)⟩)
    dsimp only [Pt.U, Pt.locs, Pt.cells, Pt.slots] at X36 l36 y36 z36 st36 hQ36
    subst l36 y36 z36
    obtain ⟨rfl, N36q, e36⟩ := hQ36
    have N36 := Fr.app N0 N36q
    let Lb37 : Array Slot := #[.val (.int p0), .val (.int (244 : Int32)), .val (.int (244 : Int32)), .val (.ref (w 3)), .unset]
    let Lb38 : Array Slot := #[.val (.int p0), .val (.int (244 : Int32)), .val (.int (244 : Int32)), .val (.ref (w 3)), .val (.int (1 : Int32))]
    obtain ⟨cq39, kq39, q39a, q39b, q39c⟩ := isOf hZ e36 ((wd6 hW).ext O0.2)
    obtain ⟨_, _, ⟨T39, L39, kk39, nn39⟩, -, X39, ⟨Lc39, hQ39, l39, y39, z39⟩, st39⟩ := X36.virtualBack hx (y := ym1) (z := ym1) hown (mvT hZ (wk12 hw)) (mvT hZ (wk13 hw)) (notFace_of_selects (args := #[]) (mvT hZ (wk15 hw))) (mvT hZ (wk15 hw)) (mvT hZ (wk14 hw)) (by decide) (backOf (W := 0) (rm2_10 l Z a0 hw w hW []  h0 n0 O0 ) hZ (wk16 hw) (wk2 hw) (by decide) (by decide)) q39a q39c (g := (mkF m 68 Lb38 [(.ref (w 3))])) rfl (by rw [hml]; rfl) (Steps.refl _) (argsL := []) (rest := []) (lenOf pds_1 rfl) rfl (by show 2 * 0 + _ ≤ _; exact Nat.le_of_eq rfl) (hb hby at_68) (fun _ _ => ⟨rfl, e36, (by decide : 0 + 0 ≤ _), (by decide : 0 + 0 ≤ _)⟩)
    dsimp only [Pt.U, Pt.locs, Pt.cells, Pt.slots] at X39 l39 y39 z39 st39 hQ39
    subst l39 y39 z39
    obtain ⟨rfl, N39q, e39⟩ := hQ39
    have N39 := Fr.app N36 N39q
    obtain ⟨fs, hr, hrun, hended, hWm, hsame⟩ := X39.leave (v := some (.int (1 : Int32))) (fun h => by rw [Bd.returns] at h; cases h)
    refine ⟨_, _, pre33 _ ?_, hrun, hended, _, _, rfl, ?_, ⟨_, rfl⟩, hWm, hsame.mono (by decide) (by decide)⟩
    · show Steps p.tables e below (s₁.setTop (mkF m 7 Lb34 [(.int (244 : Int32))])) _
      refine sg (pc := 7) (pc' := 21) X0 hx hby at_7 (by decide) (by decide) ?_
      refine XS.istoreN X0.here hx rfl (hb hby at_21) rfl (l' := Lb35) rfl ?_
      refine sI X0 hx hby at_22 rfl ?_
      refine st36 _ ?_
      refine XS.astoreN X36.here hx rfl (hb hby at_26) rfl rfl (l' := Lb37) rfl ?_
      refine sI X36 hx hby at_27 rfl ?_
      refine XS.sipush X36.here hx rfl (hb hby at_28) ?_
      refine sn X36 hx hby at_31 (by decide) ?_
      refine sI X36 hx hby at_34 rfl ?_
      show Steps p.tables e below (T36.setTop (mkF m 35 Lb37 [(.int (244 : Int32))])) _
      refine XS.sipush X36.here hx rfl (hb hby at_35) ?_
      refine sn X36 hx hby at_38 (by decide) ?_
      refine sc X36 hx hby at_41 ?_
      refine sg (pc := 42) (pc' := 46) X36 hx hby at_42 (by decide) (by decide) ?_
      refine XS.istore X36.here hx rfl (hb hby at_46) rfl (l' := Lb38) rfl ?_
      show Steps p.tables e below (T36.setTop (mkF m 48 Lb38 [])) _
      refine si X36 hx hby at_48 rfl ?_
      refine XS.ifYes X36.here hx rfl (pc0 := 50) (pc' := 63) rfl (hb hby at_50) rfl (by decide) (by decide) (by decide) ?_
      refine sA X36 hx hby at_63 rfl rfl ?_
      refine XS.ifnullNo X36.here hx rfl (hb hby at_64) rfl ?_
      refine sA X36 hx hby at_67 rfl rfl ?_
      show Steps p.tables e below (T36.setTop (mkF m 68 Lb38 [(.ref (w 3))])) _
      refine st39.trans ?_
      refine sI X39 hx hby at_71 rfl ?_
      refine sn X39 hx hby at_72 (by decide) ?_
      refine sc X39 hx hby at_75 ?_
      refine sg (pc := 76) (pc' := 80) X39 hx hby at_76 (by decide) (by decide) ?_
      exact retN X39 hx (t := .boolean) Bd.returns (by simp) (hb hby at_80) hr
    · show Q0 n0 _ T39.heap _
      rw [e39]
      exact ⟨rfl, N39⟩
   ·
    have pre40 : ∀ t, Steps p.tables e below (s₁.setTop (mkF m 7 #[.val (.int p0), .val (.int (245 : Int32)), .unset, .unset, .unset] [(.int (245 : Int32))])) t → Steps p.tables e below (s₁.setTop (entryFrame m #[(.int p0), (.int p1)] maxLocals)) t := fun t k => pre3 t (by rw [hs4]; exact k)
    let Lb41 : Array Slot := #[.val (.int p0), .val (.int (245 : Int32)), .unset, .unset, .unset]
    let Lb42 : Array Slot := #[.val (.int p0), .val (.int (245 : Int32)), .val (.int (245 : Int32)), .unset, .unset]
    obtain ⟨_, _, ⟨T43, L43, kk43, nn43⟩, -, X43, ⟨Lc43, hQ43, l43, y43, z43⟩, st43⟩ := Jvm.LawKit.callS X0 hx (y := ym0) hown (mvT hZ (wk0 hw)) (mvT hZ (wk1 hw)) (mvT hZ (wk2 hw)) (mvT hZ (wk3 hw)) (by decide) (backOf (W := 0) (rm1_11 l Z a0 hw w hW []  h0 n0 O0 ) hZ (wk3 hw) (wk2 hw) (by decide) (by decide)) (g := (mkF m 23 Lb42 [(.int (245 : Int32))])) rfl (by rw [hml]; rfl) (argsL := [(.int (245 : Int32))]) (rest := []) (lenOf pds_0 rfl) rfl (by show 2 * 0 + _ ≤ _; exact Nat.le_of_eq rfl) (hb hby at_23) (fun _ _ => ⟨rfl, e0, (by decide : 0 + 0 ≤ _), (by decide : 0 + 0 ≤ _)⟩)
    dsimp only [Pt.U, Pt.locs, Pt.cells, Pt.slots] at X43 l43 y43 z43 st43 hQ43
    subst l43 y43 z43
    obtain ⟨rfl, N43q, e43⟩ := hQ43
    have N43 := Fr.app N0 N43q
    let Lb44 : Array Slot := #[.val (.int p0), .val (.int (245 : Int32)), .val (.int (245 : Int32)), .val (.ref (w 4)), .unset]
    let Lb45 : Array Slot := #[.val (.int p0), .val (.int (245 : Int32)), .val (.int (245 : Int32)), .val (.ref (w 4)), .val (.int (1 : Int32))]
    obtain ⟨cq46, kq46, q46a, q46b, q46c⟩ := isOf hZ e43 ((wd8 hW).ext O0.2)
    obtain ⟨_, _, ⟨T46, L46, kk46, nn46⟩, -, X46, ⟨Lc46, hQ46, l46, y46, z46⟩, st46⟩ := X43.virtualBack hx (y := ym1) (z := ym1) hown (mvT hZ (wk12 hw)) (mvT hZ (wk13 hw)) (notFace_of_selects (args := #[]) (mvT hZ (wk15 hw))) (mvT hZ (wk15 hw)) (mvT hZ (wk14 hw)) (by decide) (backOf (W := 0) (rm2_12 l Z a0 hw w hW []  h0 n0 O0 ) hZ (wk16 hw) (wk2 hw) (by decide) (by decide)) q46a q46c (g := (mkF m 68 Lb45 [(.ref (w 4))])) rfl (by rw [hml]; rfl) (Steps.refl _) (argsL := []) (rest := []) (lenOf pds_1 rfl) rfl (by show 2 * 0 + _ ≤ _; exact Nat.le_of_eq rfl) (hb hby at_68) (fun _ _ => ⟨rfl, e43, (by decide : 0 + 0 ≤ _), (by decide : 0 + 0 ≤ _)⟩)
    dsimp only [Pt.U, Pt.locs, Pt.cells, Pt.slots] at X46 l46 y46 z46 st46 hQ46
    subst l46 y46 z46
    obtain ⟨rfl, N46q, e46⟩ := hQ46
    have N46 := Fr.app N43 N46q
    obtain ⟨fs, hr, hrun, hended, hWm, hsame⟩ := X46.leave (v := some (.int (1 : Int32))) (fun h => by rw [Bd.returns] at h; cases h)
    refine ⟨_, _, pre40 _ ?_, hrun, hended, _, _, rfl, ?_, ⟨_, rfl⟩, hWm, hsame.mono (by decide) (by decide)⟩
    · show Steps p.tables e below (s₁.setTop (mkF m 7 Lb41 [(.int (245 : Int32))])) _
      refine sg (pc := 7) (pc' := 21) X0 hx hby at_7 (by decide) (by decide) ?_
      refine XS.istoreN X0.here hx rfl (hb hby at_21) rfl (l' := Lb42) rfl ?_
      refine sI X0 hx hby at_22 rfl ?_
      refine st43 _ ?_
      refine XS.astoreN X43.here hx rfl (hb hby at_26) rfl rfl (l' := Lb44) rfl ?_
      refine sI X43 hx hby at_27 rfl ?_
      refine XS.sipush X43.here hx rfl (hb hby at_28) ?_
      refine sn X43 hx hby at_31 (by decide) ?_
      refine sI X43 hx hby at_34 rfl ?_
      show Steps p.tables e below (T43.setTop (mkF m 35 Lb44 [(.int (245 : Int32))])) _
      refine XS.sipush X43.here hx rfl (hb hby at_35) ?_
      refine sn X43 hx hby at_38 (by decide) ?_
      refine sc X43 hx hby at_41 ?_
      refine sg (pc := 42) (pc' := 46) X43 hx hby at_42 (by decide) (by decide) ?_
      refine XS.istore X43.here hx rfl (hb hby at_46) rfl (l' := Lb45) rfl ?_
      show Steps p.tables e below (T43.setTop (mkF m 48 Lb45 [])) _
      refine si X43 hx hby at_48 rfl ?_
      refine XS.ifYes X43.here hx rfl (pc0 := 50) (pc' := 63) rfl (hb hby at_50) rfl (by decide) (by decide) (by decide) ?_
      refine sA X43 hx hby at_63 rfl rfl ?_
      refine XS.ifnullNo X43.here hx rfl (hb hby at_64) rfl ?_
      refine sA X43 hx hby at_67 rfl rfl ?_
      show Steps p.tables e below (T43.setTop (mkF m 68 Lb45 [(.ref (w 4))])) _
      refine st46.trans ?_
      refine sI X46 hx hby at_71 rfl ?_
      refine sn X46 hx hby at_72 (by decide) ?_
      refine sc X46 hx hby at_75 ?_
      refine sg (pc := 76) (pc' := 80) X46 hx hby at_76 (by decide) (by decide) ?_
      exact retN X46 hx (t := .boolean) Bd.returns (by simp) (hb hby at_80) hr
    · show Q0 n0 _ T46.heap _
      rw [e46]
      exact ⟨rfl, N46⟩
   ·
    have pre47 : ∀ t, Steps p.tables e below (s₁.setTop (mkF m 7 #[.val (.int p0), .val (.int (246 : Int32)), .unset, .unset, .unset] [(.int (246 : Int32))])) t → Steps p.tables e below (s₁.setTop (entryFrame m #[(.int p0), (.int p1)] maxLocals)) t := fun t k => pre3 t (by rw [hs4]; exact k)
    let Lb48 : Array Slot := #[.val (.int p0), .val (.int (246 : Int32)), .unset, .unset, .unset]
    let Lb49 : Array Slot := #[.val (.int p0), .val (.int (246 : Int32)), .val (.int (246 : Int32)), .unset, .unset]
    obtain ⟨_, _, ⟨T50, L50, kk50, nn50⟩, -, X50, ⟨Lc50, hQ50, l50, y50, z50⟩, st50⟩ := Jvm.LawKit.callS X0 hx (y := ym0) hown (mvT hZ (wk0 hw)) (mvT hZ (wk1 hw)) (mvT hZ (wk2 hw)) (mvT hZ (wk3 hw)) (by decide) (backOf (W := 0) (rm1_13 l Z a0 hw w hW []  h0 n0 O0 ) hZ (wk3 hw) (wk2 hw) (by decide) (by decide)) (g := (mkF m 23 Lb49 [(.int (246 : Int32))])) rfl (by rw [hml]; rfl) (argsL := [(.int (246 : Int32))]) (rest := []) (lenOf pds_0 rfl) rfl (by show 2 * 0 + _ ≤ _; exact Nat.le_of_eq rfl) (hb hby at_23) (fun _ _ => ⟨rfl, e0, (by decide : 0 + 0 ≤ _), (by decide : 0 + 0 ≤ _)⟩)
    dsimp only [Pt.U, Pt.locs, Pt.cells, Pt.slots] at X50 l50 y50 z50 st50 hQ50
    subst l50 y50 z50
    obtain ⟨rfl, N50q, e50⟩ := hQ50
    have N50 := Fr.app N0 N50q
    let Lb51 : Array Slot := #[.val (.int p0), .val (.int (246 : Int32)), .val (.int (246 : Int32)), .val (.ref (w 10)), .unset]
    let Lb52 : Array Slot := #[.val (.int p0), .val (.int (246 : Int32)), .val (.int (246 : Int32)), .val (.ref (w 10)), .val (.int (1 : Int32))]
    obtain ⟨cq53, kq53, q53a, q53b, q53c⟩ := isOf hZ e50 ((wd20 hW).ext O0.2)
    obtain ⟨_, _, ⟨T53, L53, kk53, nn53⟩, -, X53, ⟨Lc53, hQ53, l53, y53, z53⟩, st53⟩ := X50.virtualBack hx (y := ym1) (z := ym1) hown (mvT hZ (wk12 hw)) (mvT hZ (wk13 hw)) (notFace_of_selects (args := #[]) (mvT hZ (wk15 hw))) (mvT hZ (wk15 hw)) (mvT hZ (wk14 hw)) (by decide) (backOf (W := 0) (rm2_14 l Z a0 hw w hW []  h0 n0 O0 ) hZ (wk16 hw) (wk2 hw) (by decide) (by decide)) q53a q53c (g := (mkF m 68 Lb52 [(.ref (w 10))])) rfl (by rw [hml]; rfl) (Steps.refl _) (argsL := []) (rest := []) (lenOf pds_1 rfl) rfl (by show 2 * 0 + _ ≤ _; exact Nat.le_of_eq rfl) (hb hby at_68) (fun _ _ => ⟨rfl, e50, (by decide : 0 + 0 ≤ _), (by decide : 0 + 0 ≤ _)⟩)
    dsimp only [Pt.U, Pt.locs, Pt.cells, Pt.slots] at X53 l53 y53 z53 st53 hQ53
    subst l53 y53 z53
    obtain ⟨rfl, N53q, e53⟩ := hQ53
    have N53 := Fr.app N50 N53q
    obtain ⟨fs, hr, hrun, hended, hWm, hsame⟩ := X53.leave (v := some (.int (1 : Int32))) (fun h => by rw [Bd.returns] at h; cases h)
    refine ⟨_, _, pre47 _ ?_, hrun, hended, _, _, rfl, ?_, ⟨_, rfl⟩, hWm, hsame.mono (by decide) (by decide)⟩
    · show Steps p.tables e below (s₁.setTop (mkF m 7 Lb48 [(.int (246 : Int32))])) _
      refine sg (pc := 7) (pc' := 21) X0 hx hby at_7 (by decide) (by decide) ?_
      refine XS.istoreN X0.here hx rfl (hb hby at_21) rfl (l' := Lb49) rfl ?_
      refine sI X0 hx hby at_22 rfl ?_
      refine st50 _ ?_
      refine XS.astoreN X50.here hx rfl (hb hby at_26) rfl rfl (l' := Lb51) rfl ?_
      refine sI X50 hx hby at_27 rfl ?_
      refine XS.sipush X50.here hx rfl (hb hby at_28) ?_
      refine sn X50 hx hby at_31 (by decide) ?_
      refine sI X50 hx hby at_34 rfl ?_
      show Steps p.tables e below (T50.setTop (mkF m 35 Lb51 [(.int (246 : Int32))])) _
      refine XS.sipush X50.here hx rfl (hb hby at_35) ?_
      refine sn X50 hx hby at_38 (by decide) ?_
      refine sc X50 hx hby at_41 ?_
      refine sg (pc := 42) (pc' := 46) X50 hx hby at_42 (by decide) (by decide) ?_
      refine XS.istore X50.here hx rfl (hb hby at_46) rfl (l' := Lb52) rfl ?_
      show Steps p.tables e below (T50.setTop (mkF m 48 Lb52 [])) _
      refine si X50 hx hby at_48 rfl ?_
      refine XS.ifYes X50.here hx rfl (pc0 := 50) (pc' := 63) rfl (hb hby at_50) rfl (by decide) (by decide) (by decide) ?_
      refine sA X50 hx hby at_63 rfl rfl ?_
      refine XS.ifnullNo X50.here hx rfl (hb hby at_64) rfl ?_
      refine sA X50 hx hby at_67 rfl rfl ?_
      show Steps p.tables e below (T50.setTop (mkF m 68 Lb52 [(.ref (w 10))])) _
      refine st53.trans ?_
      refine sI X53 hx hby at_71 rfl ?_
      refine sn X53 hx hby at_72 (by decide) ?_
      refine sc X53 hx hby at_75 ?_
      refine sg (pc := 76) (pc' := 80) X53 hx hby at_76 (by decide) (by decide) ?_
      exact retN X53 hx (t := .boolean) Bd.returns (by simp) (hb hby at_80) hr
    · show Q0 n0 _ T53.heap _
      rw [e53]
      exact ⟨rfl, N53⟩
   ·
    have pre54 : ∀ t, Steps p.tables e below (s₁.setTop (mkF m 7 #[.val (.int p0), .val (.int (247 : Int32)), .unset, .unset, .unset] [(.int (247 : Int32))])) t → Steps p.tables e below (s₁.setTop (entryFrame m #[(.int p0), (.int p1)] maxLocals)) t := fun t k => pre3 t (by rw [hs4]; exact k)
    let Lb55 : Array Slot := #[.val (.int p0), .val (.int (247 : Int32)), .unset, .unset, .unset]
    let Lb56 : Array Slot := #[.val (.int p0), .val (.int (247 : Int32)), .val (.int (247 : Int32)), .unset, .unset]
    obtain ⟨_, _, ⟨T57, L57, kk57, nn57⟩, -, X57, ⟨Lc57, hQ57, l57, y57, z57⟩, st57⟩ := Jvm.LawKit.callS X0 hx (y := ym0) hown (mvT hZ (wk0 hw)) (mvT hZ (wk1 hw)) (mvT hZ (wk2 hw)) (mvT hZ (wk3 hw)) (by decide) (backOf (W := 0) (rm1_15 l Z a0 hw w hW []  h0 n0 O0 ) hZ (wk3 hw) (wk2 hw) (by decide) (by decide)) (g := (mkF m 23 Lb56 [(.int (247 : Int32))])) rfl (by rw [hml]; rfl) (argsL := [(.int (247 : Int32))]) (rest := []) (lenOf pds_0 rfl) rfl (by show 2 * 0 + _ ≤ _; exact Nat.le_of_eq rfl) (hb hby at_23) (fun _ _ => ⟨rfl, e0, (by decide : 0 + 0 ≤ _), (by decide : 0 + 0 ≤ _)⟩)
    dsimp only [Pt.U, Pt.locs, Pt.cells, Pt.slots] at X57 l57 y57 z57 st57 hQ57
    subst l57 y57 z57
    obtain ⟨rfl, N57q, e57⟩ := hQ57
    have N57 := Fr.app N0 N57q
    let Lb58 : Array Slot := #[.val (.int p0), .val (.int (247 : Int32)), .val (.int (247 : Int32)), .val (.ref (w 2)), .unset]
    let Lb59 : Array Slot := #[.val (.int p0), .val (.int (247 : Int32)), .val (.int (247 : Int32)), .val (.ref (w 2)), .val (.int (1 : Int32))]
    obtain ⟨cq60, kq60, q60a, q60b, q60c⟩ := isOf hZ e57 ((wd4 hW).ext O0.2)
    obtain ⟨_, _, ⟨T60, L60, kk60, nn60⟩, -, X60, ⟨Lc60, hQ60, l60, y60, z60⟩, st60⟩ := X57.virtualBack hx (y := ym1) (z := ym1) hown (mvT hZ (wk12 hw)) (mvT hZ (wk13 hw)) (notFace_of_selects (args := #[]) (mvT hZ (wk15 hw))) (mvT hZ (wk15 hw)) (mvT hZ (wk14 hw)) (by decide) (backOf (W := 0) (rm2_16 l Z a0 hw w hW []  h0 n0 O0 ) hZ (wk16 hw) (wk2 hw) (by decide) (by decide)) q60a q60c (g := (mkF m 68 Lb59 [(.ref (w 2))])) rfl (by rw [hml]; rfl) (Steps.refl _) (argsL := []) (rest := []) (lenOf pds_1 rfl) rfl (by show 2 * 0 + _ ≤ _; exact Nat.le_of_eq rfl) (hb hby at_68) (fun _ _ => ⟨rfl, e57, (by decide : 0 + 0 ≤ _), (by decide : 0 + 0 ≤ _)⟩)
    dsimp only [Pt.U, Pt.locs, Pt.cells, Pt.slots] at X60 l60 y60 z60 st60 hQ60
    subst l60 y60 z60
    obtain ⟨rfl, N60q, e60⟩ := hQ60
    have N60 := Fr.app N57 N60q
    obtain ⟨fs, hr, hrun, hended, hWm, hsame⟩ := X60.leave (v := some (.int (1 : Int32))) (fun h => by rw [Bd.returns] at h; cases h)
    refine ⟨_, _, pre54 _ ?_, hrun, hended, _, _, rfl, ?_, ⟨_, rfl⟩, hWm, hsame.mono (by decide) (by decide)⟩
    · show Steps p.tables e below (s₁.setTop (mkF m 7 Lb55 [(.int (247 : Int32))])) _
      refine sg (pc := 7) (pc' := 21) X0 hx hby at_7 (by decide) (by decide) ?_
      refine XS.istoreN X0.here hx rfl (hb hby at_21) rfl (l' := Lb56) rfl ?_
      refine sI X0 hx hby at_22 rfl ?_
      refine st57 _ ?_
      refine XS.astoreN X57.here hx rfl (hb hby at_26) rfl rfl (l' := Lb58) rfl ?_
      refine sI X57 hx hby at_27 rfl ?_
      refine XS.sipush X57.here hx rfl (hb hby at_28) ?_
      refine sn X57 hx hby at_31 (by decide) ?_
      refine sI X57 hx hby at_34 rfl ?_
      show Steps p.tables e below (T57.setTop (mkF m 35 Lb58 [(.int (247 : Int32))])) _
      refine XS.sipush X57.here hx rfl (hb hby at_35) ?_
      refine sn X57 hx hby at_38 (by decide) ?_
      refine sc X57 hx hby at_41 ?_
      refine sg (pc := 42) (pc' := 46) X57 hx hby at_42 (by decide) (by decide) ?_
      refine XS.istore X57.here hx rfl (hb hby at_46) rfl (l' := Lb59) rfl ?_
      show Steps p.tables e below (T57.setTop (mkF m 48 Lb59 [])) _
      refine si X57 hx hby at_48 rfl ?_
      refine XS.ifYes X57.here hx rfl (pc0 := 50) (pc' := 63) rfl (hb hby at_50) rfl (by decide) (by decide) (by decide) ?_
      refine sA X57 hx hby at_63 rfl rfl ?_
      refine XS.ifnullNo X57.here hx rfl (hb hby at_64) rfl ?_
      refine sA X57 hx hby at_67 rfl rfl ?_
      show Steps p.tables e below (T57.setTop (mkF m 68 Lb59 [(.ref (w 2))])) _
      refine st60.trans ?_
      refine sI X60 hx hby at_71 rfl ?_
      refine sn X60 hx hby at_72 (by decide) ?_
      refine sc X60 hx hby at_75 ?_
      refine sg (pc := 76) (pc' := 80) X60 hx hby at_76 (by decide) (by decide) ?_
      exact retN X60 hx (t := .boolean) Bd.returns (by simp) (hb hby at_80) hr
    · show Q0 n0 _ T60.heap _
      rw [e60]
      exact ⟨rfl, N60⟩
   ·
    have pre61 : ∀ t, Steps p.tables e below (s₁.setTop (mkF m 7 #[.val (.int p0), .val (.int (248 : Int32)), .unset, .unset, .unset] [(.int (248 : Int32))])) t → Steps p.tables e below (s₁.setTop (entryFrame m #[(.int p0), (.int p1)] maxLocals)) t := fun t k => pre3 t (by rw [hs4]; exact k)
    let Lb62 : Array Slot := #[.val (.int p0), .val (.int (248 : Int32)), .unset, .unset, .unset]
    let Lb63 : Array Slot := #[.val (.int p0), .val (.int (248 : Int32)), .val (.int (248 : Int32)), .unset, .unset]
    obtain ⟨_, _, ⟨T64, L64, kk64, nn64⟩, -, X64, ⟨Lc64, hQ64, l64, y64, z64⟩, st64⟩ := Jvm.LawKit.callS X0 hx (y := ym0) hown (mvT hZ (wk0 hw)) (mvT hZ (wk1 hw)) (mvT hZ (wk2 hw)) (mvT hZ (wk3 hw)) (by decide) (backOf (W := 0) (rm1_17 l Z a0 hw w hW []  h0 n0 O0 ) hZ (wk3 hw) (wk2 hw) (by decide) (by decide)) (g := (mkF m 23 Lb63 [(.int (248 : Int32))])) rfl (by rw [hml]; rfl) (argsL := [(.int (248 : Int32))]) (rest := []) (lenOf pds_0 rfl) rfl (by show 2 * 0 + _ ≤ _; exact Nat.le_of_eq rfl) (hb hby at_23) (fun _ _ => ⟨rfl, e0, (by decide : 0 + 0 ≤ _), (by decide : 0 + 0 ≤ _)⟩)
    dsimp only [Pt.U, Pt.locs, Pt.cells, Pt.slots] at X64 l64 y64 z64 st64 hQ64
    subst l64 y64 z64
    obtain ⟨rfl, N64q, e64⟩ := hQ64
    have N64 := Fr.app N0 N64q
    let Lb65 : Array Slot := #[.val (.int p0), .val (.int (248 : Int32)), .val (.int (248 : Int32)), .val (.ref (w 8)), .unset]
    let Lb66 : Array Slot := #[.val (.int p0), .val (.int (248 : Int32)), .val (.int (248 : Int32)), .val (.ref (w 8)), .val (.int (1 : Int32))]
    obtain ⟨cq67, kq67, q67a, q67b, q67c⟩ := isOf hZ e64 ((wd16 hW).ext O0.2)
    obtain ⟨_, _, ⟨T67, L67, kk67, nn67⟩, -, X67, ⟨Lc67, hQ67, l67, y67, z67⟩, st67⟩ := X64.virtualBack hx (y := ym1) (z := ym1) hown (mvT hZ (wk12 hw)) (mvT hZ (wk13 hw)) (notFace_of_selects (args := #[]) (mvT hZ (wk15 hw))) (mvT hZ (wk15 hw)) (mvT hZ (wk14 hw)) (by decide) (backOf (W := 0) (rm2_18 l Z a0 hw w hW []  h0 n0 O0 ) hZ (wk16 hw) (wk2 hw) (by decide) (by decide)) q67a q67c (g := (mkF m 68 Lb66 [(.ref (w 8))])) rfl (by rw [hml]; rfl) (Steps.refl _) (argsL := []) (rest := []) (lenOf pds_1 rfl) rfl (by show 2 * 0 + _ ≤ _; exact Nat.le_of_eq rfl) (hb hby at_68) (fun _ _ => ⟨rfl, e64, (by decide : 0 + 0 ≤ _), (by decide : 0 + 0 ≤ _)⟩)
    dsimp only [Pt.U, Pt.locs, Pt.cells, Pt.slots] at X67 l67 y67 z67 st67 hQ67
    subst l67 y67 z67
    obtain ⟨rfl, N67q, e67⟩ := hQ67
    have N67 := Fr.app N64 N67q
    obtain ⟨fs, hr, hrun, hended, hWm, hsame⟩ := X67.leave (v := some (.int (1 : Int32))) (fun h => by rw [Bd.returns] at h; cases h)
    refine ⟨_, _, pre61 _ ?_, hrun, hended, _, _, rfl, ?_, ⟨_, rfl⟩, hWm, hsame.mono (by decide) (by decide)⟩
    · show Steps p.tables e below (s₁.setTop (mkF m 7 Lb62 [(.int (248 : Int32))])) _
      refine sg (pc := 7) (pc' := 21) X0 hx hby at_7 (by decide) (by decide) ?_
      refine XS.istoreN X0.here hx rfl (hb hby at_21) rfl (l' := Lb63) rfl ?_
      refine sI X0 hx hby at_22 rfl ?_
      refine st64 _ ?_
      refine XS.astoreN X64.here hx rfl (hb hby at_26) rfl rfl (l' := Lb65) rfl ?_
      refine sI X64 hx hby at_27 rfl ?_
      refine XS.sipush X64.here hx rfl (hb hby at_28) ?_
      refine sn X64 hx hby at_31 (by decide) ?_
      refine sI X64 hx hby at_34 rfl ?_
      show Steps p.tables e below (T64.setTop (mkF m 35 Lb65 [(.int (248 : Int32))])) _
      refine XS.sipush X64.here hx rfl (hb hby at_35) ?_
      refine sn X64 hx hby at_38 (by decide) ?_
      refine sc X64 hx hby at_41 ?_
      refine sg (pc := 42) (pc' := 46) X64 hx hby at_42 (by decide) (by decide) ?_
      refine XS.istore X64.here hx rfl (hb hby at_46) rfl (l' := Lb66) rfl ?_
      show Steps p.tables e below (T64.setTop (mkF m 48 Lb66 [])) _
      refine si X64 hx hby at_48 rfl ?_
      refine XS.ifYes X64.here hx rfl (pc0 := 50) (pc' := 63) rfl (hb hby at_50) rfl (by decide) (by decide) (by decide) ?_
      refine sA X64 hx hby at_63 rfl rfl ?_
      refine XS.ifnullNo X64.here hx rfl (hb hby at_64) rfl ?_
      refine sA X64 hx hby at_67 rfl rfl ?_
      show Steps p.tables e below (T64.setTop (mkF m 68 Lb66 [(.ref (w 8))])) _
      refine st67.trans ?_
      refine sI X67 hx hby at_71 rfl ?_
      refine sn X67 hx hby at_72 (by decide) ?_
      refine sc X67 hx hby at_75 ?_
      refine sg (pc := 76) (pc' := 80) X67 hx hby at_76 (by decide) (by decide) ?_
      exact retN X67 hx (t := .boolean) Bd.returns (by simp) (hb hby at_80) hr
    · show Q0 n0 _ T67.heap _
      rw [e67]
      exact ⟨rfl, N67⟩
   ·
    have pre68 : ∀ t, Steps p.tables e below (s₁.setTop (mkF m 7 #[.val (.int p0), .val (.int (249 : Int32)), .unset, .unset, .unset] [(.int (249 : Int32))])) t → Steps p.tables e below (s₁.setTop (entryFrame m #[(.int p0), (.int p1)] maxLocals)) t := fun t k => pre3 t (by rw [hs4]; exact k)
    let Lb69 : Array Slot := #[.val (.int p0), .val (.int (249 : Int32)), .unset, .unset, .unset]
    let Lb70 : Array Slot := #[.val (.int p0), .val (.int (249 : Int32)), .val (.int (249 : Int32)), .unset, .unset]
    obtain ⟨_, _, ⟨T71, L71, kk71, nn71⟩, -, X71, ⟨Lc71, hQ71, l71, y71, z71⟩, st71⟩ := Jvm.LawKit.callS X0 hx (y := ym0) hown (mvT hZ (wk0 hw)) (mvT hZ (wk1 hw)) (mvT hZ (wk2 hw)) (mvT hZ (wk3 hw)) (by decide) (backOf (W := 0) (rm1_19 l Z a0 hw w hW []  h0 n0 O0 ) hZ (wk3 hw) (wk2 hw) (by decide) (by decide)) (g := (mkF m 23 Lb70 [(.int (249 : Int32))])) rfl (by rw [hml]; rfl) (argsL := [(.int (249 : Int32))]) (rest := []) (lenOf pds_0 rfl) rfl (by show 2 * 0 + _ ≤ _; exact Nat.le_of_eq rfl) (hb hby at_23) (fun _ _ => ⟨rfl, e0, (by decide : 0 + 0 ≤ _), (by decide : 0 + 0 ≤ _)⟩)
    dsimp only [Pt.U, Pt.locs, Pt.cells, Pt.slots] at X71 l71 y71 z71 st71 hQ71
    subst l71 y71 z71
    obtain ⟨rfl, N71q, e71⟩ := hQ71
    have N71 := Fr.app N0 N71q
    let Lb72 : Array Slot := #[.val (.int p0), .val (.int (249 : Int32)), .val (.int (249 : Int32)), .val (.ref (w 5)), .unset]
    let Lb73 : Array Slot := #[.val (.int p0), .val (.int (249 : Int32)), .val (.int (249 : Int32)), .val (.ref (w 5)), .val (.int (1 : Int32))]
    obtain ⟨cq74, kq74, q74a, q74b, q74c⟩ := isOf hZ e71 ((wd10 hW).ext O0.2)
    obtain ⟨_, _, ⟨T74, L74, kk74, nn74⟩, -, X74, ⟨Lc74, hQ74, l74, y74, z74⟩, st74⟩ := X71.virtualBack hx (y := ym1) (z := ym1) hown (mvT hZ (wk12 hw)) (mvT hZ (wk13 hw)) (notFace_of_selects (args := #[]) (mvT hZ (wk15 hw))) (mvT hZ (wk15 hw)) (mvT hZ (wk14 hw)) (by decide) (backOf (W := 0) (rm2_20 l Z a0 hw w hW []  h0 n0 O0 ) hZ (wk16 hw) (wk2 hw) (by decide) (by decide)) q74a q74c (g := (mkF m 68 Lb73 [(.ref (w 5))])) rfl (by rw [hml]; rfl) (Steps.refl _) (argsL := []) (rest := []) (lenOf pds_1 rfl) rfl (by show 2 * 0 + _ ≤ _; exact Nat.le_of_eq rfl) (hb hby at_68) (fun _ _ => ⟨rfl, e71, (by decide : 0 + 0 ≤ _), (by decide : 0 + 0 ≤ _)⟩)
    dsimp only [Pt.U, Pt.locs, Pt.cells, Pt.slots] at X74 l74 y74 z74 st74 hQ74
    subst l74 y74 z74
    obtain ⟨rfl, N74q, e74⟩ := hQ74
    have N74 := Fr.app N71 N74q
    obtain ⟨fs, hr, hrun, hended, hWm, hsame⟩ := X74.leave (v := some (.int (1 : Int32))) (fun h => by rw [Bd.returns] at h; cases h)
    refine ⟨_, _, pre68 _ ?_, hrun, hended, _, _, rfl, ?_, ⟨_, rfl⟩, hWm, hsame.mono (by decide) (by decide)⟩
    · show Steps p.tables e below (s₁.setTop (mkF m 7 Lb69 [(.int (249 : Int32))])) _
      refine sg (pc := 7) (pc' := 21) X0 hx hby at_7 (by decide) (by decide) ?_
      refine XS.istoreN X0.here hx rfl (hb hby at_21) rfl (l' := Lb70) rfl ?_
      refine sI X0 hx hby at_22 rfl ?_
      refine st71 _ ?_
      refine XS.astoreN X71.here hx rfl (hb hby at_26) rfl rfl (l' := Lb72) rfl ?_
      refine sI X71 hx hby at_27 rfl ?_
      refine XS.sipush X71.here hx rfl (hb hby at_28) ?_
      refine sn X71 hx hby at_31 (by decide) ?_
      refine sI X71 hx hby at_34 rfl ?_
      show Steps p.tables e below (T71.setTop (mkF m 35 Lb72 [(.int (249 : Int32))])) _
      refine XS.sipush X71.here hx rfl (hb hby at_35) ?_
      refine sn X71 hx hby at_38 (by decide) ?_
      refine sc X71 hx hby at_41 ?_
      refine sg (pc := 42) (pc' := 46) X71 hx hby at_42 (by decide) (by decide) ?_
      refine XS.istore X71.here hx rfl (hb hby at_46) rfl (l' := Lb73) rfl ?_
      show Steps p.tables e below (T71.setTop (mkF m 48 Lb73 [])) _
      refine si X71 hx hby at_48 rfl ?_
      refine XS.ifYes X71.here hx rfl (pc0 := 50) (pc' := 63) rfl (hb hby at_50) rfl (by decide) (by decide) (by decide) ?_
      refine sA X71 hx hby at_63 rfl rfl ?_
      refine XS.ifnullNo X71.here hx rfl (hb hby at_64) rfl ?_
      refine sA X71 hx hby at_67 rfl rfl ?_
      show Steps p.tables e below (T71.setTop (mkF m 68 Lb73 [(.ref (w 5))])) _
      refine st74.trans ?_
      refine sI X74 hx hby at_71 rfl ?_
      refine sn X74 hx hby at_72 (by decide) ?_
      refine sc X74 hx hby at_75 ?_
      refine sg (pc := 76) (pc' := 80) X74 hx hby at_76 (by decide) (by decide) ?_
      exact retN X74 hx (t := .boolean) Bd.returns (by simp) (hb hby at_80) hr
    · show Q0 n0 _ T74.heap _
      rw [e74]
      exact ⟨rfl, N74⟩
   ·
    have pre75 : ∀ t, Steps p.tables e below (s₁.setTop (mkF m 7 #[.val (.int p0), .val (.int (250 : Int32)), .unset, .unset, .unset] [(.int (250 : Int32))])) t → Steps p.tables e below (s₁.setTop (entryFrame m #[(.int p0), (.int p1)] maxLocals)) t := fun t k => pre3 t (by rw [hs4]; exact k)
    let Lb76 : Array Slot := #[.val (.int p0), .val (.int (250 : Int32)), .unset, .unset, .unset]
    let Lb77 : Array Slot := #[.val (.int p0), .val (.int (250 : Int32)), .val (.int (250 : Int32)), .unset, .unset]
    obtain ⟨_, _, ⟨T78, L78, kk78, nn78⟩, -, X78, ⟨Lc78, hQ78, l78, y78, z78⟩, st78⟩ := Jvm.LawKit.callS X0 hx (y := ym0) hown (mvT hZ (wk0 hw)) (mvT hZ (wk1 hw)) (mvT hZ (wk2 hw)) (mvT hZ (wk3 hw)) (by decide) (backOf (W := 0) (rm1_21 l Z a0 hw w hW []  h0 n0 O0 ) hZ (wk3 hw) (wk2 hw) (by decide) (by decide)) (g := (mkF m 23 Lb77 [(.int (250 : Int32))])) rfl (by rw [hml]; rfl) (argsL := [(.int (250 : Int32))]) (rest := []) (lenOf pds_0 rfl) rfl (by show 2 * 0 + _ ≤ _; exact Nat.le_of_eq rfl) (hb hby at_23) (fun _ _ => ⟨rfl, e0, (by decide : 0 + 0 ≤ _), (by decide : 0 + 0 ≤ _)⟩)
    dsimp only [Pt.U, Pt.locs, Pt.cells, Pt.slots] at X78 l78 y78 z78 st78 hQ78
    subst l78 y78 z78
    obtain ⟨rfl, N78q, e78⟩ := hQ78
    have N78 := Fr.app N0 N78q
    let Lb79 : Array Slot := #[.val (.int p0), .val (.int (250 : Int32)), .val (.int (250 : Int32)), .val (.ref (w 11)), .unset]
    let Lb80 : Array Slot := #[.val (.int p0), .val (.int (250 : Int32)), .val (.int (250 : Int32)), .val (.ref (w 11)), .val (.int (1 : Int32))]
    obtain ⟨cq81, kq81, q81a, q81b, q81c⟩ := isOf hZ e78 ((wd22 hW).ext O0.2)
    obtain ⟨_, _, ⟨T81, L81, kk81, nn81⟩, -, X81, ⟨Lc81, hQ81, l81, y81, z81⟩, st81⟩ := X78.virtualBack hx (y := ym1) (z := ym1) hown (mvT hZ (wk12 hw)) (mvT hZ (wk13 hw)) (notFace_of_selects (args := #[]) (mvT hZ (wk15 hw))) (mvT hZ (wk15 hw)) (mvT hZ (wk14 hw)) (by decide) (backOf (W := 0) (rm2_22 l Z a0 hw w hW []  h0 n0 O0 ) hZ (wk16 hw) (wk2 hw) (by decide) (by decide)) q81a q81c (g := (mkF m 68 Lb80 [(.ref (w 11))])) rfl (by rw [hml]; rfl) (Steps.refl _) (argsL := []) (rest := []) (lenOf pds_1 rfl) rfl (by show 2 * 0 + _ ≤ _; exact Nat.le_of_eq rfl) (hb hby at_68) (fun _ _ => ⟨rfl, e78, (by decide : 0 + 0 ≤ _), (by decide : 0 + 0 ≤ _)⟩)
    dsimp only [Pt.U, Pt.locs, Pt.cells, Pt.slots] at X81 l81 y81 z81 st81 hQ81
    subst l81 y81 z81
    obtain ⟨rfl, N81q, e81⟩ := hQ81
    have N81 := Fr.app N78 N81q
    obtain ⟨fs, hr, hrun, hended, hWm, hsame⟩ := X81.leave (v := some (.int (1 : Int32))) (fun h => by rw [Bd.returns] at h; cases h)
    refine ⟨_, _, pre75 _ ?_, hrun, hended, _, _, rfl, ?_, ⟨_, rfl⟩, hWm, hsame.mono (by decide) (by decide)⟩
    · show Steps p.tables e below (s₁.setTop (mkF m 7 Lb76 [(.int (250 : Int32))])) _
      refine sg (pc := 7) (pc' := 21) X0 hx hby at_7 (by decide) (by decide) ?_
      refine XS.istoreN X0.here hx rfl (hb hby at_21) rfl (l' := Lb77) rfl ?_
      refine sI X0 hx hby at_22 rfl ?_
      refine st78 _ ?_
      refine XS.astoreN X78.here hx rfl (hb hby at_26) rfl rfl (l' := Lb79) rfl ?_
      refine sI X78 hx hby at_27 rfl ?_
      refine XS.sipush X78.here hx rfl (hb hby at_28) ?_
      refine sn X78 hx hby at_31 (by decide) ?_
      refine sI X78 hx hby at_34 rfl ?_
      show Steps p.tables e below (T78.setTop (mkF m 35 Lb79 [(.int (250 : Int32))])) _
      refine XS.sipush X78.here hx rfl (hb hby at_35) ?_
      refine sn X78 hx hby at_38 (by decide) ?_
      refine sc X78 hx hby at_41 ?_
      refine sg (pc := 42) (pc' := 46) X78 hx hby at_42 (by decide) (by decide) ?_
      refine XS.istore X78.here hx rfl (hb hby at_46) rfl (l' := Lb80) rfl ?_
      show Steps p.tables e below (T78.setTop (mkF m 48 Lb80 [])) _
      refine si X78 hx hby at_48 rfl ?_
      refine XS.ifYes X78.here hx rfl (pc0 := 50) (pc' := 63) rfl (hb hby at_50) rfl (by decide) (by decide) (by decide) ?_
      refine sA X78 hx hby at_63 rfl rfl ?_
      refine XS.ifnullNo X78.here hx rfl (hb hby at_64) rfl ?_
      refine sA X78 hx hby at_67 rfl rfl ?_
      show Steps p.tables e below (T78.setTop (mkF m 68 Lb80 [(.ref (w 11))])) _
      refine st81.trans ?_
      refine sI X81 hx hby at_71 rfl ?_
      refine sn X81 hx hby at_72 (by decide) ?_
      refine sc X81 hx hby at_75 ?_
      refine sg (pc := 76) (pc' := 80) X81 hx hby at_76 (by decide) (by decide) ?_
      exact retN X81 hx (t := .boolean) Bd.returns (by simp) (hb hby at_80) hr
    · show Q0 n0 _ T81.heap _
      rw [e81]
      exact ⟨rfl, N81⟩
   ·
    let Lb82 : Array Slot := #[.val (.int p0), .val (.int p1), .val (.int p1), .unset, .unset]
    have pre83 : ∀ t, Steps p.tables e below (s₁.setTop (mkF m 23 Lb82 [(.int p1)])) t → Steps p.tables e below (s₁.setTop (entryFrame m #[(.int p0), (.int p1)] maxLocals)) t := fun t k => pre3 t (by
     show Steps p.tables e below (s₁.setTop (mkF m 7 La [(.int p1)])) _
     refine sg (pc := 7) (pc' := 21) X0 hx hby at_7 (by decide) (by decide) ?_
     refine XS.istoreN X0.here hx rfl (hb hby at_21) rfl (l' := Lb82) rfl ?_
     refine sI X0 hx hby at_22 rfl ?_
     exact k)
    by_cases hc84 : (p1 - (240 : Int32)) < (0 : Int32)
    ·
     obtain ⟨_, _, ⟨T85, L85, kk85, nn85⟩, -, X85, ⟨Lc85, hQ85, l85, y85, z85⟩, st85⟩ := Jvm.LawKit.callS X0 hx (y := ym0) hown (mvT hZ (wk0 hw)) (mvT hZ (wk1 hw)) (mvT hZ (wk2 hw)) (mvT hZ (wk3 hw)) (by decide) (backOf (W := 0) (rm1_23 l Z a0 hw w hW [] p1 h0 n0 O0 hc84) hZ (wk3 hw) (wk2 hw) (by decide) (by decide)) (g := (mkF m 23 Lb82 [(.int p1)])) rfl (by rw [hml]; rfl) (argsL := [(.int p1)]) (rest := []) (lenOf pds_0 rfl) rfl (by show 2 * 0 + _ ≤ _; exact Nat.le_of_eq rfl) (hb hby at_23) (fun _ _ => ⟨rfl, e0, (by decide : 0 + 0 ≤ _), (by decide : 0 + 0 ≤ _)⟩)
     dsimp only [Pt.U, Pt.locs, Pt.cells, Pt.slots] at X85 l85 y85 z85 st85 hQ85
     subst l85 y85 z85
     obtain ⟨rfl, N85q, e85⟩ := hQ85
     have N85 := Fr.app N0 N85q
     let Lb86 : Array Slot := #[.val (.int p0), .val (.int p1), .val (.int p1), .val .null, .unset]
     let Lb87 : Array Slot := #[.val (.int p0), .val (.int p1), .val (.int p1), .val .null, .val (.int (0 : Int32))]
     obtain ⟨fs, hr, hrun, hended, hWm, hsame⟩ := X85.leave (v := some (.int (1 : Int32))) (fun h => by rw [Bd.returns] at h; cases h)
     refine ⟨_, _, pre83 _ ?_, hrun, hended, _, _, rfl, ?_, ⟨_, rfl⟩, hWm, hsame.mono (by decide) (by decide)⟩
     · show Steps p.tables e below (s₁.setTop (mkF m 23 Lb82 [(.int p1)])) _
       refine st85 _ ?_
       refine XS.astoreN X85.here hx rfl (hb hby at_26) rfl rfl (l' := Lb86) rfl ?_
       refine sI X85 hx hby at_27 rfl ?_
       refine XS.sipush X85.here hx rfl (hb hby at_28) ?_
       refine XS.icmpYes X85.here hx rfl (pc0 := 31) (pc' := 45) rfl (hb hby at_31) rfl (tlt (hs4 : p1 < (240 : Int32))).1 (by decide) (by decide) ?_
       refine sc X85 hx hby at_45 ?_
       show Steps p.tables e below (T85.setTop (mkF m 46 Lb86 [(.int (0 : Int32))])) _
       refine XS.istore X85.here hx rfl (hb hby at_46) rfl (l' := Lb87) rfl ?_
       refine si X85 hx hby at_48 rfl ?_
       refine sN X85 hx hby at_50 (by decide) ?_
       refine sA X85 hx hby at_53 rfl rfl ?_
       refine XS.ifnonnullNo X85.here hx rfl (hb hby at_54) rfl ?_
       show Steps p.tables e below (T85.setTop (mkF m 57 Lb87 [])) _
       refine sc X85 hx hby at_57 ?_
       refine sg (pc := 58) (pc' := 62) X85 hx hby at_58 (by decide) (by decide) ?_
       exact retN X85 hx (t := .boolean) Bd.returns (by simp) (hb hby at_62) hr
     · show Q0 n0 _ T85.heap _
       rw [e85]
       exact ⟨rfl, N85⟩
    ·
     by_cases hc88 : (p1 - (240 : Int32)) < (11 : Int32)
     ·
      exfalso
      have z3 := Int32.lt_iff_toInt_lt.mp hs4
      have z7 := Int32.le_iff_toInt_le.mp (Int32.not_lt.mp hc84)
      have z9 := Int32.lt_iff_toInt_lt.mp hc88
      have z1 := rng32 p1
      have z2 : ((240 : Int32)).toInt = 240 := by decide
      have z4 := rng32 (p1 - (240 : Int32))
      have z5 := c_isub p1 (240 : Int32)
      have z6 : ((0 : Int32)).toInt = 0 := by decide
      have z8 : ((11 : Int32)).toInt = 11 := by decide
      omega
     ·
      obtain ⟨_, _, ⟨T89, L89, kk89, nn89⟩, -, X89, ⟨Lc89, hQ89, l89, y89, z89⟩, st89⟩ := Jvm.LawKit.callS X0 hx (y := ym0) hown (mvT hZ (wk0 hw)) (mvT hZ (wk1 hw)) (mvT hZ (wk2 hw)) (mvT hZ (wk3 hw)) (by decide) (backOf (W := 0) (rm1_24 l Z a0 hw w hW [] p1 h0 n0 O0 hc84 hc88) hZ (wk3 hw) (wk2 hw) (by decide) (by decide)) (g := (mkF m 23 Lb82 [(.int p1)])) rfl (by rw [hml]; rfl) (argsL := [(.int p1)]) (rest := []) (lenOf pds_0 rfl) rfl (by show 2 * 0 + _ ≤ _; exact Nat.le_of_eq rfl) (hb hby at_23) (fun _ _ => ⟨rfl, e0, (by decide : 0 + 0 ≤ _), (by decide : 0 + 0 ≤ _)⟩)
      dsimp only [Pt.U, Pt.locs, Pt.cells, Pt.slots] at X89 l89 y89 z89 st89 hQ89
      subst l89 y89 z89
      obtain ⟨rfl, N89q, e89⟩ := hQ89
      have N89 := Fr.app N0 N89q
      let Lb90 : Array Slot := #[.val (.int p0), .val (.int p1), .val (.int p1), .val .null, .unset]
      let Lb91 : Array Slot := #[.val (.int p0), .val (.int p1), .val (.int p1), .val .null, .val (.int (0 : Int32))]
      obtain ⟨fs, hr, hrun, hended, hWm, hsame⟩ := X89.leave (v := some (.int (1 : Int32))) (fun h => by rw [Bd.returns] at h; cases h)
      refine ⟨_, _, pre83 _ ?_, hrun, hended, _, _, rfl, ?_, ⟨_, rfl⟩, hWm, hsame.mono (by decide) (by decide)⟩
      · show Steps p.tables e below (s₁.setTop (mkF m 23 Lb82 [(.int p1)])) _
        refine st89 _ ?_
        refine XS.astoreN X89.here hx rfl (hb hby at_26) rfl rfl (l' := Lb90) rfl ?_
        refine sI X89 hx hby at_27 rfl ?_
        refine XS.sipush X89.here hx rfl (hb hby at_28) ?_
        refine XS.icmpYes X89.here hx rfl (pc0 := 31) (pc' := 45) rfl (hb hby at_31) rfl (tlt (hs4 : p1 < (240 : Int32))).1 (by decide) (by decide) ?_
        refine sc X89 hx hby at_45 ?_
        show Steps p.tables e below (T89.setTop (mkF m 46 Lb90 [(.int (0 : Int32))])) _
        refine XS.istore X89.here hx rfl (hb hby at_46) rfl (l' := Lb91) rfl ?_
        refine si X89 hx hby at_48 rfl ?_
        refine sN X89 hx hby at_50 (by decide) ?_
        refine sA X89 hx hby at_53 rfl rfl ?_
        refine XS.ifnonnullNo X89.here hx rfl (hb hby at_54) rfl ?_
        show Steps p.tables e below (T89.setTop (mkF m 57 Lb91 [])) _
        refine sc X89 hx hby at_57 ?_
        refine sg (pc := 58) (pc' := 62) X89 hx hby at_58 (by decide) (by decide) ?_
        exact retN X89 hx (t := .boolean) Bd.returns (by simp) (hb hby at_62) hr
      · show Q0 n0 _ T89.heap _
        rw [e89]
        exact ⟨rfl, N89⟩
   ·
    let Lb92 : Array Slot := #[.val (.int p0), .val (.int p1), .val (.int p1), .unset, .unset]
    have pre93 : ∀ t, Steps p.tables e below (s₁.setTop (mkF m 23 Lb92 [(.int p1)])) t → Steps p.tables e below (s₁.setTop (entryFrame m #[(.int p0), (.int p1)] maxLocals)) t := fun t k => pre3 t (by
     show Steps p.tables e below (s₁.setTop (mkF m 7 La [(.int p1)])) _
     refine sg (pc := 7) (pc' := 21) X0 hx hby at_7 (by decide) (by decide) ?_
     refine XS.istoreN X0.here hx rfl (hb hby at_21) rfl (l' := Lb92) rfl ?_
     refine sI X0 hx hby at_22 rfl ?_
     exact k)
    by_cases hc94 : (p1 - (240 : Int32)) < (0 : Int32)
    ·
     exfalso
     have z3 := Int32.lt_iff_toInt_lt.mp hs4
     have z8 := Int32.lt_iff_toInt_lt.mp hc94
     have z1 : ((250 : Int32)).toInt = 250 := by decide
     have z2 := rng32 p1
     have z4 := rng32 (p1 - (240 : Int32))
     have z5 : ((240 : Int32)).toInt = 240 := by decide
     have z6 := c_isub p1 (240 : Int32)
     have z7 : ((0 : Int32)).toInt = 0 := by decide
     omega
    ·
     by_cases hc95 : (p1 - (240 : Int32)) < (11 : Int32)
     ·
      exfalso
      have z3 := Int32.lt_iff_toInt_lt.mp hs4
      have z8 := Int32.le_iff_toInt_le.mp (Int32.not_lt.mp hc94)
      have z10 := Int32.lt_iff_toInt_lt.mp hc95
      have z1 : ((250 : Int32)).toInt = 250 := by decide
      have z2 := rng32 p1
      have z4 := rng32 (p1 - (240 : Int32))
      have z5 : ((240 : Int32)).toInt = 240 := by decide
      have z6 := c_isub p1 (240 : Int32)
      have z7 : ((0 : Int32)).toInt = 0 := by decide
      have z9 : ((11 : Int32)).toInt = 11 := by decide
      omega
     ·
      obtain ⟨_, _, ⟨T96, L96, kk96, nn96⟩, -, X96, ⟨Lc96, hQ96, l96, y96, z96⟩, st96⟩ := Jvm.LawKit.callS X0 hx (y := ym0) hown (mvT hZ (wk0 hw)) (mvT hZ (wk1 hw)) (mvT hZ (wk2 hw)) (mvT hZ (wk3 hw)) (by decide) (backOf (W := 0) (rm1_24 l Z a0 hw w hW [] p1 h0 n0 O0 hc94 hc95) hZ (wk3 hw) (wk2 hw) (by decide) (by decide)) (g := (mkF m 23 Lb92 [(.int p1)])) rfl (by rw [hml]; rfl) (argsL := [(.int p1)]) (rest := []) (lenOf pds_0 rfl) rfl (by show 2 * 0 + _ ≤ _; exact Nat.le_of_eq rfl) (hb hby at_23) (fun _ _ => ⟨rfl, e0, (by decide : 0 + 0 ≤ _), (by decide : 0 + 0 ≤ _)⟩)
      dsimp only [Pt.U, Pt.locs, Pt.cells, Pt.slots] at X96 l96 y96 z96 st96 hQ96
      subst l96 y96 z96
      obtain ⟨rfl, N96q, e96⟩ := hQ96
      have N96 := Fr.app N0 N96q
      let Lb97 : Array Slot := #[.val (.int p0), .val (.int p1), .val (.int p1), .val .null, .unset]
      have pre98 : ∀ t, Steps p.tables e below (T96.setTop (mkF m 31 Lb97 [(.int (240 : Int32)), (.int p1)])) t → Steps p.tables e below (s₁.setTop (entryFrame m #[(.int p0), (.int p1)] maxLocals)) t := fun t k => pre93 t (by
       show Steps p.tables e below (s₁.setTop (mkF m 23 Lb92 [(.int p1)])) _
       refine st96 _ ?_
       refine XS.astoreN X96.here hx rfl (hb hby at_26) rfl rfl (l' := Lb97) rfl ?_
       refine sI X96 hx hby at_27 rfl ?_
       refine XS.sipush X96.here hx rfl (hb hby at_28) ?_
       exact k)
      by_cases hc99 : p1 < (240 : Int32)
      ·
       exfalso
       have z3 := Int32.lt_iff_toInt_lt.mp hs4
       have z8 := Int32.le_iff_toInt_le.mp (Int32.not_lt.mp hc94)
       have z10 := Int32.le_iff_toInt_le.mp (Int32.not_lt.mp hc95)
       have z11 := Int32.lt_iff_toInt_lt.mp hc99
       have z1 : ((250 : Int32)).toInt = 250 := by decide
       have z2 := rng32 p1
       have z4 := rng32 (p1 - (240 : Int32))
       have z5 : ((240 : Int32)).toInt = 240 := by decide
       have z6 := c_isub p1 (240 : Int32)
       have z7 : ((0 : Int32)).toInt = 0 := by decide
       have z9 : ((11 : Int32)).toInt = 11 := by decide
       omega
      ·
       let Lb100 : Array Slot := #[.val (.int p0), .val (.int p1), .val (.int p1), .val .null, .val (.int (0 : Int32))]
       obtain ⟨fs, hr, hrun, hended, hWm, hsame⟩ := X96.leave (v := some (.int (1 : Int32))) (fun h => by rw [Bd.returns] at h; cases h)
       refine ⟨_, _, pre98 _ ?_, hrun, hended, _, _, rfl, ?_, ⟨_, rfl⟩, hWm, hsame.mono (by decide) (by decide)⟩
       · show Steps p.tables e below (T96.setTop (mkF m 31 Lb97 [(.int (240 : Int32)), (.int p1)])) _
         refine sn X96 hx hby at_31 (flt (hc99 : ¬ (p1 < (240 : Int32)))).1 ?_
         refine sI X96 hx hby at_34 rfl ?_
         refine XS.sipush X96.here hx rfl (hb hby at_35) ?_
         refine XS.icmpYes X96.here hx rfl (pc0 := 38) (pc' := 45) rfl (hb hby at_38) rfl (tlt (hs4 : (250 : Int32) < p1)).2.2.1 (by decide) (by decide) ?_
         refine sc X96 hx hby at_45 ?_
         show Steps p.tables e below (T96.setTop (mkF m 46 Lb97 [(.int (0 : Int32))])) _
         refine XS.istore X96.here hx rfl (hb hby at_46) rfl (l' := Lb100) rfl ?_
         refine si X96 hx hby at_48 rfl ?_
         refine sN X96 hx hby at_50 (by decide) ?_
         refine sA X96 hx hby at_53 rfl rfl ?_
         refine XS.ifnonnullNo X96.here hx rfl (hb hby at_54) rfl ?_
         show Steps p.tables e below (T96.setTop (mkF m 57 Lb100 [])) _
         refine sc X96 hx hby at_57 ?_
         refine sg (pc := 58) (pc' := 62) X96 hx hby at_58 (by decide) (by decide) ?_
         exact retN X96 hx (t := .boolean) Bd.returns (by simp) (hb hby at_62) hr
       · show Q0 n0 _ T96.heap _
         rw [e96]
         exact ⟨rfl, N96⟩
  ·
   rw [hs2] at pre1
   have pre101 : ∀ t, Steps p.tables e below (s₁.setTop (mkF m 20 #[.val (.int p0), .val (.int p1), .unset, .unset, .unset] [(.int ((p1 &&& (2147483647 : Int32)) % (13 : Int32))), (.int (239 : Int32))])) t → Steps p.tables e below (s₁.setTop (entryFrame m #[(.int p0), (.int p1)] maxLocals)) t := fun t k => pre1 t (by
    show Steps p.tables e below (s₁.setTop (mkF m 3 La [(.int (1 : Int32))])) _
    refine XS.ifYes X0.here hx rfl (pc0 := 3) (pc' := 10) rfl (hb hby at_3) rfl (by decide) (by decide) (by decide) ?_
    refine XS.sipush X0.here hx rfl (hb hby at_10) ?_
    refine sI X0 hx hby at_13 rfl ?_
    refine X0.ldcInt hx hown (mvT hZ (wk10 hw)) (g := (mkF m 14 La [(.int p1), (.int (239 : Int32))])) rfl (hb hby at_14) _ ?_
    refine XS.iand X0.here hx rfl (hb hby at_16) rfl ?_
    show Steps p.tables e below (s₁.setTop (mkF m 17 La [(.int (p1 &&& (2147483647 : Int32))), (.int (239 : Int32))])) _
    refine XS.bipush X0.here hx rfl (hb hby at_17) ?_
    refine iremM X0 hx rfl (hb hby at_19) rfl (by decide) ?_
    exact k)
   rcases (own_rem13 p1) with hs102 | hs102 | hs102 | hs102 | hs102 | hs102 | hs102 | hs102 | hs102 | hs102 | hs102 | hs102 | hs102
   ·
    rw [hs102] at pre101
    let Lb103 : Array Slot := #[.val (.int p0), .val (.int p1), .val (.int (239 : Int32)), .unset, .unset]
    obtain ⟨_, _, ⟨T104, L104, kk104, nn104⟩, -, X104, ⟨Lc104, hQ104, l104, y104, z104⟩, st104⟩ := Jvm.LawKit.callS X0 hx (y := ym0) hown (mvT hZ (wk0 hw)) (mvT hZ (wk1 hw)) (mvT hZ (wk2 hw)) (mvT hZ (wk3 hw)) (by decide) (backOf (W := 0) (rm1_23 l Z a0 hw w hW [] (239 : Int32) h0 n0 O0 (by decide)) hZ (wk3 hw) (wk2 hw) (by decide) (by decide)) (g := (mkF m 23 Lb103 [(.int (239 : Int32))])) rfl (by rw [hml]; rfl) (argsL := [(.int (239 : Int32))]) (rest := []) (lenOf pds_0 rfl) rfl (by show 2 * 0 + _ ≤ _; exact Nat.le_of_eq rfl) (hb hby at_23) (fun _ _ => ⟨rfl, e0, (by decide : 0 + 0 ≤ _), (by decide : 0 + 0 ≤ _)⟩)
    dsimp only [Pt.U, Pt.locs, Pt.cells, Pt.slots] at X104 l104 y104 z104 st104 hQ104
    subst l104 y104 z104
    obtain ⟨rfl, N104q, e104⟩ := hQ104
    have N104 := Fr.app N0 N104q
    let Lb105 : Array Slot := #[.val (.int p0), .val (.int p1), .val (.int (239 : Int32)), .val .null, .unset]
    let Lb106 : Array Slot := #[.val (.int p0), .val (.int p1), .val (.int (239 : Int32)), .val .null, .val (.int (0 : Int32))]
    obtain ⟨fs, hr, hrun, hended, hWm, hsame⟩ := X104.leave (v := some (.int (1 : Int32))) (fun h => by rw [Bd.returns] at h; cases h)
    refine ⟨_, _, pre101 _ ?_, hrun, hended, _, _, rfl, ?_, ⟨_, rfl⟩, hWm, hsame.mono (by decide) (by decide)⟩
    · show Steps p.tables e below (s₁.setTop (mkF m 20 La [(.int (0 : Int32)), (.int (239 : Int32))])) _
      refine XS.iadd X0.here hx rfl (hb hby at_20) rfl ?_
      refine XS.istoreN X0.here hx rfl (hb hby at_21) rfl (l' := Lb103) rfl ?_
      refine sI X0 hx hby at_22 rfl ?_
      refine st104 _ ?_
      refine XS.astoreN X104.here hx rfl (hb hby at_26) rfl rfl (l' := Lb105) rfl ?_
      refine sI X104 hx hby at_27 rfl ?_
      refine XS.sipush X104.here hx rfl (hb hby at_28) ?_
      refine XS.icmpYes X104.here hx rfl (pc0 := 31) (pc' := 45) rfl (hb hby at_31) rfl (by decide) (by decide) (by decide) ?_
      refine sc X104 hx hby at_45 ?_
      show Steps p.tables e below (T104.setTop (mkF m 46 Lb105 [(.int (0 : Int32))])) _
      refine XS.istore X104.here hx rfl (hb hby at_46) rfl (l' := Lb106) rfl ?_
      refine si X104 hx hby at_48 rfl ?_
      refine sN X104 hx hby at_50 (by decide) ?_
      refine sA X104 hx hby at_53 rfl rfl ?_
      refine XS.ifnonnullNo X104.here hx rfl (hb hby at_54) rfl ?_
      show Steps p.tables e below (T104.setTop (mkF m 57 Lb106 [])) _
      refine sc X104 hx hby at_57 ?_
      refine sg (pc := 58) (pc' := 62) X104 hx hby at_58 (by decide) (by decide) ?_
      exact retN X104 hx (t := .boolean) Bd.returns (by simp) (hb hby at_62) hr
    · show Q0 n0 _ T104.heap _
      rw [e104]
      exact ⟨rfl, N104⟩
   ·
    rw [hs102] at pre101
    let Lb107 : Array Slot := #[.val (.int p0), .val (.int p1), .val (.int (240 : Int32)), .unset, .unset]
    obtain ⟨_, _, ⟨T108, L108, kk108, nn108⟩, -, X108, ⟨Lc108, hQ108, l108, y108, z108⟩, st108⟩ := Jvm.LawKit.callS X0 hx (y := ym0) hown (mvT hZ (wk0 hw)) (mvT hZ (wk1 hw)) (mvT hZ (wk2 hw)) (mvT hZ (wk3 hw)) (by decide) (backOf (W := 0) (rm1_1 l Z a0 hw w hW []  h0 n0 O0 ) hZ (wk3 hw) (wk2 hw) (by decide) (by decide)) (g := (mkF m 23 Lb107 [(.int (240 : Int32))])) rfl (by rw [hml]; rfl) (argsL := [(.int (240 : Int32))]) (rest := []) (lenOf pds_0 rfl) rfl (by show 2 * 0 + _ ≤ _; exact Nat.le_of_eq rfl) (hb hby at_23) (fun _ _ => ⟨rfl, e0, (by decide : 0 + 0 ≤ _), (by decide : 0 + 0 ≤ _)⟩)
    dsimp only [Pt.U, Pt.locs, Pt.cells, Pt.slots] at X108 l108 y108 z108 st108 hQ108
    subst l108 y108 z108
    obtain ⟨rfl, N108q, e108⟩ := hQ108
    have N108 := Fr.app N0 N108q
    let Lb109 : Array Slot := #[.val (.int p0), .val (.int p1), .val (.int (240 : Int32)), .val (.ref (w 0)), .unset]
    let Lb110 : Array Slot := #[.val (.int p0), .val (.int p1), .val (.int (240 : Int32)), .val (.ref (w 0)), .val (.int (1 : Int32))]
    obtain ⟨cq111, kq111, q111a, q111b, q111c⟩ := isOf hZ e108 ((wd1 hW).ext O0.2)
    obtain ⟨_, _, ⟨T111, L111, kk111, nn111⟩, -, X111, ⟨Lc111, hQ111, l111, y111, z111⟩, st111⟩ := X108.virtualBack hx (y := ym1) (z := ym1) hown (mvT hZ (wk12 hw)) (mvT hZ (wk13 hw)) (notFace_of_selects (args := #[]) (mvT hZ (wk15 hw))) (mvT hZ (wk15 hw)) (mvT hZ (wk14 hw)) (by decide) (backOf (W := 0) (rm2_2 l Z a0 hw w hW []  h0 n0 O0 ) hZ (wk16 hw) (wk2 hw) (by decide) (by decide)) q111a q111c (g := (mkF m 68 Lb110 [(.ref (w 0))])) rfl (by rw [hml]; rfl) (Steps.refl _) (argsL := []) (rest := []) (lenOf pds_1 rfl) rfl (by show 2 * 0 + _ ≤ _; exact Nat.le_of_eq rfl) (hb hby at_68) (fun _ _ => ⟨rfl, e108, (by decide : 0 + 0 ≤ _), (by decide : 0 + 0 ≤ _)⟩)
    dsimp only [Pt.U, Pt.locs, Pt.cells, Pt.slots] at X111 l111 y111 z111 st111 hQ111
    subst l111 y111 z111
    obtain ⟨rfl, N111q, e111⟩ := hQ111
    have N111 := Fr.app N108 N111q
    obtain ⟨fs, hr, hrun, hended, hWm, hsame⟩ := X111.leave (v := some (.int (1 : Int32))) (fun h => by rw [Bd.returns] at h; cases h)
    refine ⟨_, _, pre101 _ ?_, hrun, hended, _, _, rfl, ?_, ⟨_, rfl⟩, hWm, hsame.mono (by decide) (by decide)⟩
    · show Steps p.tables e below (s₁.setTop (mkF m 20 La [(.int (1 : Int32)), (.int (239 : Int32))])) _
      refine XS.iadd X0.here hx rfl (hb hby at_20) rfl ?_
      refine XS.istoreN X0.here hx rfl (hb hby at_21) rfl (l' := Lb107) rfl ?_
      refine sI X0 hx hby at_22 rfl ?_
      refine st108 _ ?_
      refine XS.astoreN X108.here hx rfl (hb hby at_26) rfl rfl (l' := Lb109) rfl ?_
      refine sI X108 hx hby at_27 rfl ?_
      refine XS.sipush X108.here hx rfl (hb hby at_28) ?_
      refine sn X108 hx hby at_31 (by decide) ?_
      refine sI X108 hx hby at_34 rfl ?_
      show Steps p.tables e below (T108.setTop (mkF m 35 Lb109 [(.int (240 : Int32))])) _
      refine XS.sipush X108.here hx rfl (hb hby at_35) ?_
      refine sn X108 hx hby at_38 (by decide) ?_
      refine sc X108 hx hby at_41 ?_
      refine sg (pc := 42) (pc' := 46) X108 hx hby at_42 (by decide) (by decide) ?_
      refine XS.istore X108.here hx rfl (hb hby at_46) rfl (l' := Lb110) rfl ?_
      show Steps p.tables e below (T108.setTop (mkF m 48 Lb110 [])) _
      refine si X108 hx hby at_48 rfl ?_
      refine XS.ifYes X108.here hx rfl (pc0 := 50) (pc' := 63) rfl (hb hby at_50) rfl (by decide) (by decide) (by decide) ?_
      refine sA X108 hx hby at_63 rfl rfl ?_
      refine XS.ifnullNo X108.here hx rfl (hb hby at_64) rfl ?_
      refine sA X108 hx hby at_67 rfl rfl ?_
      show Steps p.tables e below (T108.setTop (mkF m 68 Lb110 [(.ref (w 0))])) _
      refine st111.trans ?_
      refine sI X111 hx hby at_71 rfl ?_
      refine sn X111 hx hby at_72 (by decide) ?_
      refine sc X111 hx hby at_75 ?_
      refine sg (pc := 76) (pc' := 80) X111 hx hby at_76 (by decide) (by decide) ?_
      exact retN X111 hx (t := .boolean) Bd.returns (by simp) (hb hby at_80) hr
    · show Q0 n0 _ T111.heap _
      rw [e111]
      exact ⟨rfl, N111⟩
   ·
    rw [hs102] at pre101
    let Lb112 : Array Slot := #[.val (.int p0), .val (.int p1), .val (.int (241 : Int32)), .unset, .unset]
    obtain ⟨_, _, ⟨T113, L113, kk113, nn113⟩, -, X113, ⟨Lc113, hQ113, l113, y113, z113⟩, st113⟩ := Jvm.LawKit.callS X0 hx (y := ym0) hown (mvT hZ (wk0 hw)) (mvT hZ (wk1 hw)) (mvT hZ (wk2 hw)) (mvT hZ (wk3 hw)) (by decide) (backOf (W := 0) (rm1_3 l Z a0 hw w hW []  h0 n0 O0 ) hZ (wk3 hw) (wk2 hw) (by decide) (by decide)) (g := (mkF m 23 Lb112 [(.int (241 : Int32))])) rfl (by rw [hml]; rfl) (argsL := [(.int (241 : Int32))]) (rest := []) (lenOf pds_0 rfl) rfl (by show 2 * 0 + _ ≤ _; exact Nat.le_of_eq rfl) (hb hby at_23) (fun _ _ => ⟨rfl, e0, (by decide : 0 + 0 ≤ _), (by decide : 0 + 0 ≤ _)⟩)
    dsimp only [Pt.U, Pt.locs, Pt.cells, Pt.slots] at X113 l113 y113 z113 st113 hQ113
    subst l113 y113 z113
    obtain ⟨rfl, N113q, e113⟩ := hQ113
    have N113 := Fr.app N0 N113q
    let Lb114 : Array Slot := #[.val (.int p0), .val (.int p1), .val (.int (241 : Int32)), .val (.ref (w 6)), .unset]
    let Lb115 : Array Slot := #[.val (.int p0), .val (.int p1), .val (.int (241 : Int32)), .val (.ref (w 6)), .val (.int (1 : Int32))]
    obtain ⟨cq116, kq116, q116a, q116b, q116c⟩ := isOf hZ e113 ((wd12 hW).ext O0.2)
    obtain ⟨_, _, ⟨T116, L116, kk116, nn116⟩, -, X116, ⟨Lc116, hQ116, l116, y116, z116⟩, st116⟩ := X113.virtualBack hx (y := ym1) (z := ym1) hown (mvT hZ (wk12 hw)) (mvT hZ (wk13 hw)) (notFace_of_selects (args := #[]) (mvT hZ (wk15 hw))) (mvT hZ (wk15 hw)) (mvT hZ (wk14 hw)) (by decide) (backOf (W := 0) (rm2_4 l Z a0 hw w hW []  h0 n0 O0 ) hZ (wk16 hw) (wk2 hw) (by decide) (by decide)) q116a q116c (g := (mkF m 68 Lb115 [(.ref (w 6))])) rfl (by rw [hml]; rfl) (Steps.refl _) (argsL := []) (rest := []) (lenOf pds_1 rfl) rfl (by show 2 * 0 + _ ≤ _; exact Nat.le_of_eq rfl) (hb hby at_68) (fun _ _ => ⟨rfl, e113, (by decide : 0 + 0 ≤ _), (by decide : 0 + 0 ≤ _)⟩)
    dsimp only [Pt.U, Pt.locs, Pt.cells, Pt.slots] at X116 l116 y116 z116 st116 hQ116
    subst l116 y116 z116
    obtain ⟨rfl, N116q, e116⟩ := hQ116
    have N116 := Fr.app N113 N116q
    obtain ⟨fs, hr, hrun, hended, hWm, hsame⟩ := X116.leave (v := some (.int (1 : Int32))) (fun h => by rw [Bd.returns] at h; cases h)
    refine ⟨_, _, pre101 _ ?_, hrun, hended, _, _, rfl, ?_, ⟨_, rfl⟩, hWm, hsame.mono (by decide) (by decide)⟩
    · show Steps p.tables e below (s₁.setTop (mkF m 20 La [(.int (2 : Int32)), (.int (239 : Int32))])) _
      refine XS.iadd X0.here hx rfl (hb hby at_20) rfl ?_
      refine XS.istoreN X0.here hx rfl (hb hby at_21) rfl (l' := Lb112) rfl ?_
      refine sI X0 hx hby at_22 rfl ?_
      refine st113 _ ?_
      refine XS.astoreN X113.here hx rfl (hb hby at_26) rfl rfl (l' := Lb114) rfl ?_
      refine sI X113 hx hby at_27 rfl ?_
      refine XS.sipush X113.here hx rfl (hb hby at_28) ?_
      refine sn X113 hx hby at_31 (by decide) ?_
      refine sI X113 hx hby at_34 rfl ?_
      show Steps p.tables e below (T113.setTop (mkF m 35 Lb114 [(.int (241 : Int32))])) _
      refine XS.sipush X113.here hx rfl (hb hby at_35) ?_
      refine sn X113 hx hby at_38 (by decide) ?_
      refine sc X113 hx hby at_41 ?_
      refine sg (pc := 42) (pc' := 46) X113 hx hby at_42 (by decide) (by decide) ?_
      refine XS.istore X113.here hx rfl (hb hby at_46) rfl (l' := Lb115) rfl ?_
      show Steps p.tables e below (T113.setTop (mkF m 48 Lb115 [])) _
      refine si X113 hx hby at_48 rfl ?_
      refine XS.ifYes X113.here hx rfl (pc0 := 50) (pc' := 63) rfl (hb hby at_50) rfl (by decide) (by decide) (by decide) ?_
      refine sA X113 hx hby at_63 rfl rfl ?_
      refine XS.ifnullNo X113.here hx rfl (hb hby at_64) rfl ?_
      refine sA X113 hx hby at_67 rfl rfl ?_
      show Steps p.tables e below (T113.setTop (mkF m 68 Lb115 [(.ref (w 6))])) _
      refine st116.trans ?_
      refine sI X116 hx hby at_71 rfl ?_
      refine sn X116 hx hby at_72 (by decide) ?_
      refine sc X116 hx hby at_75 ?_
      refine sg (pc := 76) (pc' := 80) X116 hx hby at_76 (by decide) (by decide) ?_
      exact retN X116 hx (t := .boolean) Bd.returns (by simp) (hb hby at_80) hr
    · show Q0 n0 _ T116.heap _
      rw [e116]
      exact ⟨rfl, N116⟩
   ·
    rw [hs102] at pre101
    let Lb117 : Array Slot := #[.val (.int p0), .val (.int p1), .val (.int (242 : Int32)), .unset, .unset]
    obtain ⟨_, _, ⟨T118, L118, kk118, nn118⟩, -, X118, ⟨Lc118, hQ118, l118, y118, z118⟩, st118⟩ := Jvm.LawKit.callS X0 hx (y := ym0) hown (mvT hZ (wk0 hw)) (mvT hZ (wk1 hw)) (mvT hZ (wk2 hw)) (mvT hZ (wk3 hw)) (by decide) (backOf (W := 0) (rm1_5 l Z a0 hw w hW []  h0 n0 O0 ) hZ (wk3 hw) (wk2 hw) (by decide) (by decide)) (g := (mkF m 23 Lb117 [(.int (242 : Int32))])) rfl (by rw [hml]; rfl) (argsL := [(.int (242 : Int32))]) (rest := []) (lenOf pds_0 rfl) rfl (by show 2 * 0 + _ ≤ _; exact Nat.le_of_eq rfl) (hb hby at_23) (fun _ _ => ⟨rfl, e0, (by decide : 0 + 0 ≤ _), (by decide : 0 + 0 ≤ _)⟩)
    dsimp only [Pt.U, Pt.locs, Pt.cells, Pt.slots] at X118 l118 y118 z118 st118 hQ118
    subst l118 y118 z118
    obtain ⟨rfl, N118q, e118⟩ := hQ118
    have N118 := Fr.app N0 N118q
    let Lb119 : Array Slot := #[.val (.int p0), .val (.int p1), .val (.int (242 : Int32)), .val (.ref (w 9)), .unset]
    let Lb120 : Array Slot := #[.val (.int p0), .val (.int p1), .val (.int (242 : Int32)), .val (.ref (w 9)), .val (.int (1 : Int32))]
    obtain ⟨cq121, kq121, q121a, q121b, q121c⟩ := isOf hZ e118 ((wd18 hW).ext O0.2)
    obtain ⟨_, _, ⟨T121, L121, kk121, nn121⟩, -, X121, ⟨Lc121, hQ121, l121, y121, z121⟩, st121⟩ := X118.virtualBack hx (y := ym1) (z := ym1) hown (mvT hZ (wk12 hw)) (mvT hZ (wk13 hw)) (notFace_of_selects (args := #[]) (mvT hZ (wk15 hw))) (mvT hZ (wk15 hw)) (mvT hZ (wk14 hw)) (by decide) (backOf (W := 0) (rm2_6 l Z a0 hw w hW []  h0 n0 O0 ) hZ (wk16 hw) (wk2 hw) (by decide) (by decide)) q121a q121c (g := (mkF m 68 Lb120 [(.ref (w 9))])) rfl (by rw [hml]; rfl) (Steps.refl _) (argsL := []) (rest := []) (lenOf pds_1 rfl) rfl (by show 2 * 0 + _ ≤ _; exact Nat.le_of_eq rfl) (hb hby at_68) (fun _ _ => ⟨rfl, e118, (by decide : 0 + 0 ≤ _), (by decide : 0 + 0 ≤ _)⟩)
    dsimp only [Pt.U, Pt.locs, Pt.cells, Pt.slots] at X121 l121 y121 z121 st121 hQ121
    subst l121 y121 z121
    obtain ⟨rfl, N121q, e121⟩ := hQ121
    have N121 := Fr.app N118 N121q
    obtain ⟨fs, hr, hrun, hended, hWm, hsame⟩ := X121.leave (v := some (.int (1 : Int32))) (fun h => by rw [Bd.returns] at h; cases h)
    refine ⟨_, _, pre101 _ ?_, hrun, hended, _, _, rfl, ?_, ⟨_, rfl⟩, hWm, hsame.mono (by decide) (by decide)⟩
    · show Steps p.tables e below (s₁.setTop (mkF m 20 La [(.int (3 : Int32)), (.int (239 : Int32))])) _
      refine XS.iadd X0.here hx rfl (hb hby at_20) rfl ?_
      refine XS.istoreN X0.here hx rfl (hb hby at_21) rfl (l' := Lb117) rfl ?_
      refine sI X0 hx hby at_22 rfl ?_
      refine st118 _ ?_
      refine XS.astoreN X118.here hx rfl (hb hby at_26) rfl rfl (l' := Lb119) rfl ?_
      refine sI X118 hx hby at_27 rfl ?_
      refine XS.sipush X118.here hx rfl (hb hby at_28) ?_
      refine sn X118 hx hby at_31 (by decide) ?_
      refine sI X118 hx hby at_34 rfl ?_
      show Steps p.tables e below (T118.setTop (mkF m 35 Lb119 [(.int (242 : Int32))])) _
      refine XS.sipush X118.here hx rfl (hb hby at_35) ?_
      refine sn X118 hx hby at_38 (by decide) ?_
      refine sc X118 hx hby at_41 ?_
      refine sg (pc := 42) (pc' := 46) X118 hx hby at_42 (by decide) (by decide) ?_
      refine XS.istore X118.here hx rfl (hb hby at_46) rfl (l' := Lb120) rfl ?_
      show Steps p.tables e below (T118.setTop (mkF m 48 Lb120 [])) _
      refine si X118 hx hby at_48 rfl ?_
      refine XS.ifYes X118.here hx rfl (pc0 := 50) (pc' := 63) rfl (hb hby at_50) rfl (by decide) (by decide) (by decide) ?_
      refine sA X118 hx hby at_63 rfl rfl ?_
      refine XS.ifnullNo X118.here hx rfl (hb hby at_64) rfl ?_
      refine sA X118 hx hby at_67 rfl rfl ?_
      show Steps p.tables e below (T118.setTop (mkF m 68 Lb120 [(.ref (w 9))])) _
      refine st121.trans ?_
      refine sI X121 hx hby at_71 rfl ?_
      refine sn X121 hx hby at_72 (by decide) ?_
      refine sc X121 hx hby at_75 ?_
      refine sg (pc := 76) (pc' := 80) X121 hx hby at_76 (by decide) (by decide) ?_
      exact retN X121 hx (t := .boolean) Bd.returns (by simp) (hb hby at_80) hr
    · show Q0 n0 _ T121.heap _
      rw [e121]
      exact ⟨rfl, N121⟩
   ·
    rw [hs102] at pre101
    let Lb122 : Array Slot := #[.val (.int p0), .val (.int p1), .val (.int (243 : Int32)), .unset, .unset]
    obtain ⟨_, _, ⟨T123, L123, kk123, nn123⟩, -, X123, ⟨Lc123, hQ123, l123, y123, z123⟩, st123⟩ := Jvm.LawKit.callS X0 hx (y := ym0) hown (mvT hZ (wk0 hw)) (mvT hZ (wk1 hw)) (mvT hZ (wk2 hw)) (mvT hZ (wk3 hw)) (by decide) (backOf (W := 0) (rm1_7 l Z a0 hw w hW []  h0 n0 O0 ) hZ (wk3 hw) (wk2 hw) (by decide) (by decide)) (g := (mkF m 23 Lb122 [(.int (243 : Int32))])) rfl (by rw [hml]; rfl) (argsL := [(.int (243 : Int32))]) (rest := []) (lenOf pds_0 rfl) rfl (by show 2 * 0 + _ ≤ _; exact Nat.le_of_eq rfl) (hb hby at_23) (fun _ _ => ⟨rfl, e0, (by decide : 0 + 0 ≤ _), (by decide : 0 + 0 ≤ _)⟩)
    dsimp only [Pt.U, Pt.locs, Pt.cells, Pt.slots] at X123 l123 y123 z123 st123 hQ123
    subst l123 y123 z123
    obtain ⟨rfl, N123q, e123⟩ := hQ123
    have N123 := Fr.app N0 N123q
    let Lb124 : Array Slot := #[.val (.int p0), .val (.int p1), .val (.int (243 : Int32)), .val (.ref (w 7)), .unset]
    let Lb125 : Array Slot := #[.val (.int p0), .val (.int p1), .val (.int (243 : Int32)), .val (.ref (w 7)), .val (.int (1 : Int32))]
    obtain ⟨cq126, kq126, q126a, q126b, q126c⟩ := isOf hZ e123 ((wd14 hW).ext O0.2)
    obtain ⟨_, _, ⟨T126, L126, kk126, nn126⟩, -, X126, ⟨Lc126, hQ126, l126, y126, z126⟩, st126⟩ := X123.virtualBack hx (y := ym1) (z := ym1) hown (mvT hZ (wk12 hw)) (mvT hZ (wk13 hw)) (notFace_of_selects (args := #[]) (mvT hZ (wk15 hw))) (mvT hZ (wk15 hw)) (mvT hZ (wk14 hw)) (by decide) (backOf (W := 0) (rm2_8 l Z a0 hw w hW []  h0 n0 O0 ) hZ (wk16 hw) (wk2 hw) (by decide) (by decide)) q126a q126c (g := (mkF m 68 Lb125 [(.ref (w 7))])) rfl (by rw [hml]; rfl) (Steps.refl _) (argsL := []) (rest := []) (lenOf pds_1 rfl) rfl (by show 2 * 0 + _ ≤ _; exact Nat.le_of_eq rfl) (hb hby at_68) (fun _ _ => ⟨rfl, e123, (by decide : 0 + 0 ≤ _), (by decide : 0 + 0 ≤ _)⟩)
    dsimp only [Pt.U, Pt.locs, Pt.cells, Pt.slots] at X126 l126 y126 z126 st126 hQ126
    subst l126 y126 z126
    obtain ⟨rfl, N126q, e126⟩ := hQ126
    have N126 := Fr.app N123 N126q
    obtain ⟨fs, hr, hrun, hended, hWm, hsame⟩ := X126.leave (v := some (.int (1 : Int32))) (fun h => by rw [Bd.returns] at h; cases h)
    refine ⟨_, _, pre101 _ ?_, hrun, hended, _, _, rfl, ?_, ⟨_, rfl⟩, hWm, hsame.mono (by decide) (by decide)⟩
    · show Steps p.tables e below (s₁.setTop (mkF m 20 La [(.int (4 : Int32)), (.int (239 : Int32))])) _
      refine XS.iadd X0.here hx rfl (hb hby at_20) rfl ?_
      refine XS.istoreN X0.here hx rfl (hb hby at_21) rfl (l' := Lb122) rfl ?_
      refine sI X0 hx hby at_22 rfl ?_
      refine st123 _ ?_
      refine XS.astoreN X123.here hx rfl (hb hby at_26) rfl rfl (l' := Lb124) rfl ?_
      refine sI X123 hx hby at_27 rfl ?_
      refine XS.sipush X123.here hx rfl (hb hby at_28) ?_
      refine sn X123 hx hby at_31 (by decide) ?_
      refine sI X123 hx hby at_34 rfl ?_
      show Steps p.tables e below (T123.setTop (mkF m 35 Lb124 [(.int (243 : Int32))])) _
      refine XS.sipush X123.here hx rfl (hb hby at_35) ?_
      refine sn X123 hx hby at_38 (by decide) ?_
      refine sc X123 hx hby at_41 ?_
      refine sg (pc := 42) (pc' := 46) X123 hx hby at_42 (by decide) (by decide) ?_
      refine XS.istore X123.here hx rfl (hb hby at_46) rfl (l' := Lb125) rfl ?_
      show Steps p.tables e below (T123.setTop (mkF m 48 Lb125 [])) _
      refine si X123 hx hby at_48 rfl ?_
      refine XS.ifYes X123.here hx rfl (pc0 := 50) (pc' := 63) rfl (hb hby at_50) rfl (by decide) (by decide) (by decide) ?_
      refine sA X123 hx hby at_63 rfl rfl ?_
      refine XS.ifnullNo X123.here hx rfl (hb hby at_64) rfl ?_
      refine sA X123 hx hby at_67 rfl rfl ?_
      show Steps p.tables e below (T123.setTop (mkF m 68 Lb125 [(.ref (w 7))])) _
      refine st126.trans ?_
      refine sI X126 hx hby at_71 rfl ?_
      refine sn X126 hx hby at_72 (by decide) ?_
      refine sc X126 hx hby at_75 ?_
      refine sg (pc := 76) (pc' := 80) X126 hx hby at_76 (by decide) (by decide) ?_
      exact retN X126 hx (t := .boolean) Bd.returns (by simp) (hb hby at_80) hr
    · show Q0 n0 _ T126.heap _
      rw [e126]
      exact ⟨rfl, N126⟩
   ·
    rw [hs102] at pre101
    let Lb127 : Array Slot := #[.val (.int p0), .val (.int p1), .val (.int (244 : Int32)), .unset, .unset]
    obtain ⟨_, _, ⟨T128, L128, kk128, nn128⟩, -, X128, ⟨Lc128, hQ128, l128, y128, z128⟩, st128⟩ := Jvm.LawKit.callS X0 hx (y := ym0) hown (mvT hZ (wk0 hw)) (mvT hZ (wk1 hw)) (mvT hZ (wk2 hw)) (mvT hZ (wk3 hw)) (by decide) (backOf (W := 0) (rm1_9 l Z a0 hw w hW []  h0 n0 O0 ) hZ (wk3 hw) (wk2 hw) (by decide) (by decide)) (g := (mkF m 23 Lb127 [(.int (244 : Int32))])) rfl (by rw [hml]; rfl) (argsL := [(.int (244 : Int32))]) (rest := []) (lenOf pds_0 rfl) rfl (by show 2 * 0 + _ ≤ _; exact Nat.le_of_eq rfl) (hb hby at_23) (fun _ _ => ⟨rfl, e0, (by decide : 0 + 0 ≤ _), (by decide : 0 + 0 ≤ _)⟩)
    dsimp only [Pt.U, Pt.locs, Pt.cells, Pt.slots] at X128 l128 y128 z128 st128 hQ128
    subst l128 y128 z128
    obtain ⟨rfl, N128q, e128⟩ := hQ128
    have N128 := Fr.app N0 N128q
    let Lb129 : Array Slot := #[.val (.int p0), .val (.int p1), .val (.int (244 : Int32)), .val (.ref (w 3)), .unset]
    let Lb130 : Array Slot := #[.val (.int p0), .val (.int p1), .val (.int (244 : Int32)), .val (.ref (w 3)), .val (.int (1 : Int32))]
    obtain ⟨cq131, kq131, q131a, q131b, q131c⟩ := isOf hZ e128 ((wd6 hW).ext O0.2)
    obtain ⟨_, _, ⟨T131, L131, kk131, nn131⟩, -, X131, ⟨Lc131, hQ131, l131, y131, z131⟩, st131⟩ := X128.virtualBack hx (y := ym1) (z := ym1) hown (mvT hZ (wk12 hw)) (mvT hZ (wk13 hw)) (notFace_of_selects (args := #[]) (mvT hZ (wk15 hw))) (mvT hZ (wk15 hw)) (mvT hZ (wk14 hw)) (by decide) (backOf (W := 0) (rm2_10 l Z a0 hw w hW []  h0 n0 O0 ) hZ (wk16 hw) (wk2 hw) (by decide) (by decide)) q131a q131c (g := (mkF m 68 Lb130 [(.ref (w 3))])) rfl (by rw [hml]; rfl) (Steps.refl _) (argsL := []) (rest := []) (lenOf pds_1 rfl) rfl (by show 2 * 0 + _ ≤ _; exact Nat.le_of_eq rfl) (hb hby at_68) (fun _ _ => ⟨rfl, e128, (by decide : 0 + 0 ≤ _), (by decide : 0 + 0 ≤ _)⟩)
    dsimp only [Pt.U, Pt.locs, Pt.cells, Pt.slots] at X131 l131 y131 z131 st131 hQ131
    subst l131 y131 z131
    obtain ⟨rfl, N131q, e131⟩ := hQ131
    have N131 := Fr.app N128 N131q
    obtain ⟨fs, hr, hrun, hended, hWm, hsame⟩ := X131.leave (v := some (.int (1 : Int32))) (fun h => by rw [Bd.returns] at h; cases h)
    refine ⟨_, _, pre101 _ ?_, hrun, hended, _, _, rfl, ?_, ⟨_, rfl⟩, hWm, hsame.mono (by decide) (by decide)⟩
    · show Steps p.tables e below (s₁.setTop (mkF m 20 La [(.int (5 : Int32)), (.int (239 : Int32))])) _
      refine XS.iadd X0.here hx rfl (hb hby at_20) rfl ?_
      refine XS.istoreN X0.here hx rfl (hb hby at_21) rfl (l' := Lb127) rfl ?_
      refine sI X0 hx hby at_22 rfl ?_
      refine st128 _ ?_
      refine XS.astoreN X128.here hx rfl (hb hby at_26) rfl rfl (l' := Lb129) rfl ?_
      refine sI X128 hx hby at_27 rfl ?_
      refine XS.sipush X128.here hx rfl (hb hby at_28) ?_
      refine sn X128 hx hby at_31 (by decide) ?_
      refine sI X128 hx hby at_34 rfl ?_
      show Steps p.tables e below (T128.setTop (mkF m 35 Lb129 [(.int (244 : Int32))])) _
      refine XS.sipush X128.here hx rfl (hb hby at_35) ?_
      refine sn X128 hx hby at_38 (by decide) ?_
      refine sc X128 hx hby at_41 ?_
      refine sg (pc := 42) (pc' := 46) X128 hx hby at_42 (by decide) (by decide) ?_
      refine XS.istore X128.here hx rfl (hb hby at_46) rfl (l' := Lb130) rfl ?_
      show Steps p.tables e below (T128.setTop (mkF m 48 Lb130 [])) _
      refine si X128 hx hby at_48 rfl ?_
      refine XS.ifYes X128.here hx rfl (pc0 := 50) (pc' := 63) rfl (hb hby at_50) rfl (by decide) (by decide) (by decide) ?_
      refine sA X128 hx hby at_63 rfl rfl ?_
      refine XS.ifnullNo X128.here hx rfl (hb hby at_64) rfl ?_
      refine sA X128 hx hby at_67 rfl rfl ?_
      show Steps p.tables e below (T128.setTop (mkF m 68 Lb130 [(.ref (w 3))])) _
      refine st131.trans ?_
      refine sI X131 hx hby at_71 rfl ?_
      refine sn X131 hx hby at_72 (by decide) ?_
      refine sc X131 hx hby at_75 ?_
      refine sg (pc := 76) (pc' := 80) X131 hx hby at_76 (by decide) (by decide) ?_
      exact retN X131 hx (t := .boolean) Bd.returns (by simp) (hb hby at_80) hr
    · show Q0 n0 _ T131.heap _
      rw [e131]
      exact ⟨rfl, N131⟩
   ·
    rw [hs102] at pre101
    let Lb132 : Array Slot := #[.val (.int p0), .val (.int p1), .val (.int (245 : Int32)), .unset, .unset]
    obtain ⟨_, _, ⟨T133, L133, kk133, nn133⟩, -, X133, ⟨Lc133, hQ133, l133, y133, z133⟩, st133⟩ := Jvm.LawKit.callS X0 hx (y := ym0) hown (mvT hZ (wk0 hw)) (mvT hZ (wk1 hw)) (mvT hZ (wk2 hw)) (mvT hZ (wk3 hw)) (by decide) (backOf (W := 0) (rm1_11 l Z a0 hw w hW []  h0 n0 O0 ) hZ (wk3 hw) (wk2 hw) (by decide) (by decide)) (g := (mkF m 23 Lb132 [(.int (245 : Int32))])) rfl (by rw [hml]; rfl) (argsL := [(.int (245 : Int32))]) (rest := []) (lenOf pds_0 rfl) rfl (by show 2 * 0 + _ ≤ _; exact Nat.le_of_eq rfl) (hb hby at_23) (fun _ _ => ⟨rfl, e0, (by decide : 0 + 0 ≤ _), (by decide : 0 + 0 ≤ _)⟩)
    dsimp only [Pt.U, Pt.locs, Pt.cells, Pt.slots] at X133 l133 y133 z133 st133 hQ133
    subst l133 y133 z133
    obtain ⟨rfl, N133q, e133⟩ := hQ133
    have N133 := Fr.app N0 N133q
    let Lb134 : Array Slot := #[.val (.int p0), .val (.int p1), .val (.int (245 : Int32)), .val (.ref (w 4)), .unset]
    let Lb135 : Array Slot := #[.val (.int p0), .val (.int p1), .val (.int (245 : Int32)), .val (.ref (w 4)), .val (.int (1 : Int32))]
    obtain ⟨cq136, kq136, q136a, q136b, q136c⟩ := isOf hZ e133 ((wd8 hW).ext O0.2)
    obtain ⟨_, _, ⟨T136, L136, kk136, nn136⟩, -, X136, ⟨Lc136, hQ136, l136, y136, z136⟩, st136⟩ := X133.virtualBack hx (y := ym1) (z := ym1) hown (mvT hZ (wk12 hw)) (mvT hZ (wk13 hw)) (notFace_of_selects (args := #[]) (mvT hZ (wk15 hw))) (mvT hZ (wk15 hw)) (mvT hZ (wk14 hw)) (by decide) (backOf (W := 0) (rm2_12 l Z a0 hw w hW []  h0 n0 O0 ) hZ (wk16 hw) (wk2 hw) (by decide) (by decide)) q136a q136c (g := (mkF m 68 Lb135 [(.ref (w 4))])) rfl (by rw [hml]; rfl) (Steps.refl _) (argsL := []) (rest := []) (lenOf pds_1 rfl) rfl (by show 2 * 0 + _ ≤ _; exact Nat.le_of_eq rfl) (hb hby at_68) (fun _ _ => ⟨rfl, e133, (by decide : 0 + 0 ≤ _), (by decide : 0 + 0 ≤ _)⟩)
    dsimp only [Pt.U, Pt.locs, Pt.cells, Pt.slots] at X136 l136 y136 z136 st136 hQ136
    subst l136 y136 z136
    obtain ⟨rfl, N136q, e136⟩ := hQ136
    have N136 := Fr.app N133 N136q
    obtain ⟨fs, hr, hrun, hended, hWm, hsame⟩ := X136.leave (v := some (.int (1 : Int32))) (fun h => by rw [Bd.returns] at h; cases h)
    refine ⟨_, _, pre101 _ ?_, hrun, hended, _, _, rfl, ?_, ⟨_, rfl⟩, hWm, hsame.mono (by decide) (by decide)⟩
    · show Steps p.tables e below (s₁.setTop (mkF m 20 La [(.int (6 : Int32)), (.int (239 : Int32))])) _
      refine XS.iadd X0.here hx rfl (hb hby at_20) rfl ?_
      refine XS.istoreN X0.here hx rfl (hb hby at_21) rfl (l' := Lb132) rfl ?_
      refine sI X0 hx hby at_22 rfl ?_
      refine st133 _ ?_
      refine XS.astoreN X133.here hx rfl (hb hby at_26) rfl rfl (l' := Lb134) rfl ?_
      refine sI X133 hx hby at_27 rfl ?_
      refine XS.sipush X133.here hx rfl (hb hby at_28) ?_
      refine sn X133 hx hby at_31 (by decide) ?_
      refine sI X133 hx hby at_34 rfl ?_
      show Steps p.tables e below (T133.setTop (mkF m 35 Lb134 [(.int (245 : Int32))])) _
      refine XS.sipush X133.here hx rfl (hb hby at_35) ?_
      refine sn X133 hx hby at_38 (by decide) ?_
      refine sc X133 hx hby at_41 ?_
      refine sg (pc := 42) (pc' := 46) X133 hx hby at_42 (by decide) (by decide) ?_
      refine XS.istore X133.here hx rfl (hb hby at_46) rfl (l' := Lb135) rfl ?_
      show Steps p.tables e below (T133.setTop (mkF m 48 Lb135 [])) _
      refine si X133 hx hby at_48 rfl ?_
      refine XS.ifYes X133.here hx rfl (pc0 := 50) (pc' := 63) rfl (hb hby at_50) rfl (by decide) (by decide) (by decide) ?_
      refine sA X133 hx hby at_63 rfl rfl ?_
      refine XS.ifnullNo X133.here hx rfl (hb hby at_64) rfl ?_
      refine sA X133 hx hby at_67 rfl rfl ?_
      show Steps p.tables e below (T133.setTop (mkF m 68 Lb135 [(.ref (w 4))])) _
      refine st136.trans ?_
      refine sI X136 hx hby at_71 rfl ?_
      refine sn X136 hx hby at_72 (by decide) ?_
      refine sc X136 hx hby at_75 ?_
      refine sg (pc := 76) (pc' := 80) X136 hx hby at_76 (by decide) (by decide) ?_
      exact retN X136 hx (t := .boolean) Bd.returns (by simp) (hb hby at_80) hr
    · show Q0 n0 _ T136.heap _
      rw [e136]
      exact ⟨rfl, N136⟩
   ·
    rw [hs102] at pre101
    let Lb137 : Array Slot := #[.val (.int p0), .val (.int p1), .val (.int (246 : Int32)), .unset, .unset]
    obtain ⟨_, _, ⟨T138, L138, kk138, nn138⟩, -, X138, ⟨Lc138, hQ138, l138, y138, z138⟩, st138⟩ := Jvm.LawKit.callS X0 hx (y := ym0) hown (mvT hZ (wk0 hw)) (mvT hZ (wk1 hw)) (mvT hZ (wk2 hw)) (mvT hZ (wk3 hw)) (by decide) (backOf (W := 0) (rm1_13 l Z a0 hw w hW []  h0 n0 O0 ) hZ (wk3 hw) (wk2 hw) (by decide) (by decide)) (g := (mkF m 23 Lb137 [(.int (246 : Int32))])) rfl (by rw [hml]; rfl) (argsL := [(.int (246 : Int32))]) (rest := []) (lenOf pds_0 rfl) rfl (by show 2 * 0 + _ ≤ _; exact Nat.le_of_eq rfl) (hb hby at_23) (fun _ _ => ⟨rfl, e0, (by decide : 0 + 0 ≤ _), (by decide : 0 + 0 ≤ _)⟩)
    dsimp only [Pt.U, Pt.locs, Pt.cells, Pt.slots] at X138 l138 y138 z138 st138 hQ138
    subst l138 y138 z138
    obtain ⟨rfl, N138q, e138⟩ := hQ138
    have N138 := Fr.app N0 N138q
    let Lb139 : Array Slot := #[.val (.int p0), .val (.int p1), .val (.int (246 : Int32)), .val (.ref (w 10)), .unset]
    let Lb140 : Array Slot := #[.val (.int p0), .val (.int p1), .val (.int (246 : Int32)), .val (.ref (w 10)), .val (.int (1 : Int32))]
    obtain ⟨cq141, kq141, q141a, q141b, q141c⟩ := isOf hZ e138 ((wd20 hW).ext O0.2)
    obtain ⟨_, _, ⟨T141, L141, kk141, nn141⟩, -, X141, ⟨Lc141, hQ141, l141, y141, z141⟩, st141⟩ := X138.virtualBack hx (y := ym1) (z := ym1) hown (mvT hZ (wk12 hw)) (mvT hZ (wk13 hw)) (notFace_of_selects (args := #[]) (mvT hZ (wk15 hw))) (mvT hZ (wk15 hw)) (mvT hZ (wk14 hw)) (by decide) (backOf (W := 0) (rm2_14 l Z a0 hw w hW []  h0 n0 O0 ) hZ (wk16 hw) (wk2 hw) (by decide) (by decide)) q141a q141c (g := (mkF m 68 Lb140 [(.ref (w 10))])) rfl (by rw [hml]; rfl) (Steps.refl _) (argsL := []) (rest := []) (lenOf pds_1 rfl) rfl (by show 2 * 0 + _ ≤ _; exact Nat.le_of_eq rfl) (hb hby at_68) (fun _ _ => ⟨rfl, e138, (by decide : 0 + 0 ≤ _), (by decide : 0 + 0 ≤ _)⟩)
    dsimp only [Pt.U, Pt.locs, Pt.cells, Pt.slots] at X141 l141 y141 z141 st141 hQ141
    subst l141 y141 z141
    obtain ⟨rfl, N141q, e141⟩ := hQ141
    have N141 := Fr.app N138 N141q
    obtain ⟨fs, hr, hrun, hended, hWm, hsame⟩ := X141.leave (v := some (.int (1 : Int32))) (fun h => by rw [Bd.returns] at h; cases h)
    refine ⟨_, _, pre101 _ ?_, hrun, hended, _, _, rfl, ?_, ⟨_, rfl⟩, hWm, hsame.mono (by decide) (by decide)⟩
    · show Steps p.tables e below (s₁.setTop (mkF m 20 La [(.int (7 : Int32)), (.int (239 : Int32))])) _
      refine XS.iadd X0.here hx rfl (hb hby at_20) rfl ?_
      refine XS.istoreN X0.here hx rfl (hb hby at_21) rfl (l' := Lb137) rfl ?_
      refine sI X0 hx hby at_22 rfl ?_
      refine st138 _ ?_
      refine XS.astoreN X138.here hx rfl (hb hby at_26) rfl rfl (l' := Lb139) rfl ?_
      refine sI X138 hx hby at_27 rfl ?_
      refine XS.sipush X138.here hx rfl (hb hby at_28) ?_
      refine sn X138 hx hby at_31 (by decide) ?_
      refine sI X138 hx hby at_34 rfl ?_
      show Steps p.tables e below (T138.setTop (mkF m 35 Lb139 [(.int (246 : Int32))])) _
      refine XS.sipush X138.here hx rfl (hb hby at_35) ?_
      refine sn X138 hx hby at_38 (by decide) ?_
      refine sc X138 hx hby at_41 ?_
      refine sg (pc := 42) (pc' := 46) X138 hx hby at_42 (by decide) (by decide) ?_
      refine XS.istore X138.here hx rfl (hb hby at_46) rfl (l' := Lb140) rfl ?_
      show Steps p.tables e below (T138.setTop (mkF m 48 Lb140 [])) _
      refine si X138 hx hby at_48 rfl ?_
      refine XS.ifYes X138.here hx rfl (pc0 := 50) (pc' := 63) rfl (hb hby at_50) rfl (by decide) (by decide) (by decide) ?_
      refine sA X138 hx hby at_63 rfl rfl ?_
      refine XS.ifnullNo X138.here hx rfl (hb hby at_64) rfl ?_
      refine sA X138 hx hby at_67 rfl rfl ?_
      show Steps p.tables e below (T138.setTop (mkF m 68 Lb140 [(.ref (w 10))])) _
      refine st141.trans ?_
      refine sI X141 hx hby at_71 rfl ?_
      refine sn X141 hx hby at_72 (by decide) ?_
      refine sc X141 hx hby at_75 ?_
      refine sg (pc := 76) (pc' := 80) X141 hx hby at_76 (by decide) (by decide) ?_
      exact retN X141 hx (t := .boolean) Bd.returns (by simp) (hb hby at_80) hr
    · show Q0 n0 _ T141.heap _
      rw [e141]
      exact ⟨rfl, N141⟩
   ·
    rw [hs102] at pre101
    let Lb142 : Array Slot := #[.val (.int p0), .val (.int p1), .val (.int (247 : Int32)), .unset, .unset]
    obtain ⟨_, _, ⟨T143, L143, kk143, nn143⟩, -, X143, ⟨Lc143, hQ143, l143, y143, z143⟩, st143⟩ := Jvm.LawKit.callS X0 hx (y := ym0) hown (mvT hZ (wk0 hw)) (mvT hZ (wk1 hw)) (mvT hZ (wk2 hw)) (mvT hZ (wk3 hw)) (by decide) (backOf (W := 0) (rm1_15 l Z a0 hw w hW []  h0 n0 O0 ) hZ (wk3 hw) (wk2 hw) (by decide) (by decide)) (g := (mkF m 23 Lb142 [(.int (247 : Int32))])) rfl (by rw [hml]; rfl) (argsL := [(.int (247 : Int32))]) (rest := []) (lenOf pds_0 rfl) rfl (by show 2 * 0 + _ ≤ _; exact Nat.le_of_eq rfl) (hb hby at_23) (fun _ _ => ⟨rfl, e0, (by decide : 0 + 0 ≤ _), (by decide : 0 + 0 ≤ _)⟩)
    dsimp only [Pt.U, Pt.locs, Pt.cells, Pt.slots] at X143 l143 y143 z143 st143 hQ143
    subst l143 y143 z143
    obtain ⟨rfl, N143q, e143⟩ := hQ143
    have N143 := Fr.app N0 N143q
    let Lb144 : Array Slot := #[.val (.int p0), .val (.int p1), .val (.int (247 : Int32)), .val (.ref (w 2)), .unset]
    let Lb145 : Array Slot := #[.val (.int p0), .val (.int p1), .val (.int (247 : Int32)), .val (.ref (w 2)), .val (.int (1 : Int32))]
    obtain ⟨cq146, kq146, q146a, q146b, q146c⟩ := isOf hZ e143 ((wd4 hW).ext O0.2)
    obtain ⟨_, _, ⟨T146, L146, kk146, nn146⟩, -, X146, ⟨Lc146, hQ146, l146, y146, z146⟩, st146⟩ := X143.virtualBack hx (y := ym1) (z := ym1) hown (mvT hZ (wk12 hw)) (mvT hZ (wk13 hw)) (notFace_of_selects (args := #[]) (mvT hZ (wk15 hw))) (mvT hZ (wk15 hw)) (mvT hZ (wk14 hw)) (by decide) (backOf (W := 0) (rm2_16 l Z a0 hw w hW []  h0 n0 O0 ) hZ (wk16 hw) (wk2 hw) (by decide) (by decide)) q146a q146c (g := (mkF m 68 Lb145 [(.ref (w 2))])) rfl (by rw [hml]; rfl) (Steps.refl _) (argsL := []) (rest := []) (lenOf pds_1 rfl) rfl (by show 2 * 0 + _ ≤ _; exact Nat.le_of_eq rfl) (hb hby at_68) (fun _ _ => ⟨rfl, e143, (by decide : 0 + 0 ≤ _), (by decide : 0 + 0 ≤ _)⟩)
    dsimp only [Pt.U, Pt.locs, Pt.cells, Pt.slots] at X146 l146 y146 z146 st146 hQ146
    subst l146 y146 z146
    obtain ⟨rfl, N146q, e146⟩ := hQ146
    have N146 := Fr.app N143 N146q
    obtain ⟨fs, hr, hrun, hended, hWm, hsame⟩ := X146.leave (v := some (.int (1 : Int32))) (fun h => by rw [Bd.returns] at h; cases h)
    refine ⟨_, _, pre101 _ ?_, hrun, hended, _, _, rfl, ?_, ⟨_, rfl⟩, hWm, hsame.mono (by decide) (by decide)⟩
    · show Steps p.tables e below (s₁.setTop (mkF m 20 La [(.int (8 : Int32)), (.int (239 : Int32))])) _
      refine XS.iadd X0.here hx rfl (hb hby at_20) rfl ?_
      refine XS.istoreN X0.here hx rfl (hb hby at_21) rfl (l' := Lb142) rfl ?_
      refine sI X0 hx hby at_22 rfl ?_
      refine st143 _ ?_
      refine XS.astoreN X143.here hx rfl (hb hby at_26) rfl rfl (l' := Lb144) rfl ?_
      refine sI X143 hx hby at_27 rfl ?_
      refine XS.sipush X143.here hx rfl (hb hby at_28) ?_
      refine sn X143 hx hby at_31 (by decide) ?_
      refine sI X143 hx hby at_34 rfl ?_
      show Steps p.tables e below (T143.setTop (mkF m 35 Lb144 [(.int (247 : Int32))])) _
      refine XS.sipush X143.here hx rfl (hb hby at_35) ?_
      refine sn X143 hx hby at_38 (by decide) ?_
      refine sc X143 hx hby at_41 ?_
      refine sg (pc := 42) (pc' := 46) X143 hx hby at_42 (by decide) (by decide) ?_
      refine XS.istore X143.here hx rfl (hb hby at_46) rfl (l' := Lb145) rfl ?_
      show Steps p.tables e below (T143.setTop (mkF m 48 Lb145 [])) _
      refine si X143 hx hby at_48 rfl ?_
      refine XS.ifYes X143.here hx rfl (pc0 := 50) (pc' := 63) rfl (hb hby at_50) rfl (by decide) (by decide) (by decide) ?_
      refine sA X143 hx hby at_63 rfl rfl ?_
      refine XS.ifnullNo X143.here hx rfl (hb hby at_64) rfl ?_
      refine sA X143 hx hby at_67 rfl rfl ?_
      show Steps p.tables e below (T143.setTop (mkF m 68 Lb145 [(.ref (w 2))])) _
      refine st146.trans ?_
      refine sI X146 hx hby at_71 rfl ?_
      refine sn X146 hx hby at_72 (by decide) ?_
      refine sc X146 hx hby at_75 ?_
      refine sg (pc := 76) (pc' := 80) X146 hx hby at_76 (by decide) (by decide) ?_
      exact retN X146 hx (t := .boolean) Bd.returns (by simp) (hb hby at_80) hr
    · show Q0 n0 _ T146.heap _
      rw [e146]
      exact ⟨rfl, N146⟩
   ·
    rw [hs102] at pre101
    let Lb147 : Array Slot := #[.val (.int p0), .val (.int p1), .val (.int (248 : Int32)), .unset, .unset]
    obtain ⟨_, _, ⟨T148, L148, kk148, nn148⟩, -, X148, ⟨Lc148, hQ148, l148, y148, z148⟩, st148⟩ := Jvm.LawKit.callS X0 hx (y := ym0) hown (mvT hZ (wk0 hw)) (mvT hZ (wk1 hw)) (mvT hZ (wk2 hw)) (mvT hZ (wk3 hw)) (by decide) (backOf (W := 0) (rm1_17 l Z a0 hw w hW []  h0 n0 O0 ) hZ (wk3 hw) (wk2 hw) (by decide) (by decide)) (g := (mkF m 23 Lb147 [(.int (248 : Int32))])) rfl (by rw [hml]; rfl) (argsL := [(.int (248 : Int32))]) (rest := []) (lenOf pds_0 rfl) rfl (by show 2 * 0 + _ ≤ _; exact Nat.le_of_eq rfl) (hb hby at_23) (fun _ _ => ⟨rfl, e0, (by decide : 0 + 0 ≤ _), (by decide : 0 + 0 ≤ _)⟩)
    dsimp only [Pt.U, Pt.locs, Pt.cells, Pt.slots] at X148 l148 y148 z148 st148 hQ148
    subst l148 y148 z148
    obtain ⟨rfl, N148q, e148⟩ := hQ148
    have N148 := Fr.app N0 N148q
    let Lb149 : Array Slot := #[.val (.int p0), .val (.int p1), .val (.int (248 : Int32)), .val (.ref (w 8)), .unset]
    let Lb150 : Array Slot := #[.val (.int p0), .val (.int p1), .val (.int (248 : Int32)), .val (.ref (w 8)), .val (.int (1 : Int32))]
    obtain ⟨cq151, kq151, q151a, q151b, q151c⟩ := isOf hZ e148 ((wd16 hW).ext O0.2)
    obtain ⟨_, _, ⟨T151, L151, kk151, nn151⟩, -, X151, ⟨Lc151, hQ151, l151, y151, z151⟩, st151⟩ := X148.virtualBack hx (y := ym1) (z := ym1) hown (mvT hZ (wk12 hw)) (mvT hZ (wk13 hw)) (notFace_of_selects (args := #[]) (mvT hZ (wk15 hw))) (mvT hZ (wk15 hw)) (mvT hZ (wk14 hw)) (by decide) (backOf (W := 0) (rm2_18 l Z a0 hw w hW []  h0 n0 O0 ) hZ (wk16 hw) (wk2 hw) (by decide) (by decide)) q151a q151c (g := (mkF m 68 Lb150 [(.ref (w 8))])) rfl (by rw [hml]; rfl) (Steps.refl _) (argsL := []) (rest := []) (lenOf pds_1 rfl) rfl (by show 2 * 0 + _ ≤ _; exact Nat.le_of_eq rfl) (hb hby at_68) (fun _ _ => ⟨rfl, e148, (by decide : 0 + 0 ≤ _), (by decide : 0 + 0 ≤ _)⟩)
    dsimp only [Pt.U, Pt.locs, Pt.cells, Pt.slots] at X151 l151 y151 z151 st151 hQ151
    subst l151 y151 z151
    obtain ⟨rfl, N151q, e151⟩ := hQ151
    have N151 := Fr.app N148 N151q
    obtain ⟨fs, hr, hrun, hended, hWm, hsame⟩ := X151.leave (v := some (.int (1 : Int32))) (fun h => by rw [Bd.returns] at h; cases h)
    refine ⟨_, _, pre101 _ ?_, hrun, hended, _, _, rfl, ?_, ⟨_, rfl⟩, hWm, hsame.mono (by decide) (by decide)⟩
    · show Steps p.tables e below (s₁.setTop (mkF m 20 La [(.int (9 : Int32)), (.int (239 : Int32))])) _
      refine XS.iadd X0.here hx rfl (hb hby at_20) rfl ?_
      refine XS.istoreN X0.here hx rfl (hb hby at_21) rfl (l' := Lb147) rfl ?_
      refine sI X0 hx hby at_22 rfl ?_
      refine st148 _ ?_
      refine XS.astoreN X148.here hx rfl (hb hby at_26) rfl rfl (l' := Lb149) rfl ?_
      refine sI X148 hx hby at_27 rfl ?_
      refine XS.sipush X148.here hx rfl (hb hby at_28) ?_
      refine sn X148 hx hby at_31 (by decide) ?_
      refine sI X148 hx hby at_34 rfl ?_
      show Steps p.tables e below (T148.setTop (mkF m 35 Lb149 [(.int (248 : Int32))])) _
      refine XS.sipush X148.here hx rfl (hb hby at_35) ?_
      refine sn X148 hx hby at_38 (by decide) ?_
      refine sc X148 hx hby at_41 ?_
      refine sg (pc := 42) (pc' := 46) X148 hx hby at_42 (by decide) (by decide) ?_
      refine XS.istore X148.here hx rfl (hb hby at_46) rfl (l' := Lb150) rfl ?_
      show Steps p.tables e below (T148.setTop (mkF m 48 Lb150 [])) _
      refine si X148 hx hby at_48 rfl ?_
      refine XS.ifYes X148.here hx rfl (pc0 := 50) (pc' := 63) rfl (hb hby at_50) rfl (by decide) (by decide) (by decide) ?_
      refine sA X148 hx hby at_63 rfl rfl ?_
      refine XS.ifnullNo X148.here hx rfl (hb hby at_64) rfl ?_
      refine sA X148 hx hby at_67 rfl rfl ?_
      show Steps p.tables e below (T148.setTop (mkF m 68 Lb150 [(.ref (w 8))])) _
      refine st151.trans ?_
      refine sI X151 hx hby at_71 rfl ?_
      refine sn X151 hx hby at_72 (by decide) ?_
      refine sc X151 hx hby at_75 ?_
      refine sg (pc := 76) (pc' := 80) X151 hx hby at_76 (by decide) (by decide) ?_
      exact retN X151 hx (t := .boolean) Bd.returns (by simp) (hb hby at_80) hr
    · show Q0 n0 _ T151.heap _
      rw [e151]
      exact ⟨rfl, N151⟩
   ·
    rw [hs102] at pre101
    let Lb152 : Array Slot := #[.val (.int p0), .val (.int p1), .val (.int (249 : Int32)), .unset, .unset]
    obtain ⟨_, _, ⟨T153, L153, kk153, nn153⟩, -, X153, ⟨Lc153, hQ153, l153, y153, z153⟩, st153⟩ := Jvm.LawKit.callS X0 hx (y := ym0) hown (mvT hZ (wk0 hw)) (mvT hZ (wk1 hw)) (mvT hZ (wk2 hw)) (mvT hZ (wk3 hw)) (by decide) (backOf (W := 0) (rm1_19 l Z a0 hw w hW []  h0 n0 O0 ) hZ (wk3 hw) (wk2 hw) (by decide) (by decide)) (g := (mkF m 23 Lb152 [(.int (249 : Int32))])) rfl (by rw [hml]; rfl) (argsL := [(.int (249 : Int32))]) (rest := []) (lenOf pds_0 rfl) rfl (by show 2 * 0 + _ ≤ _; exact Nat.le_of_eq rfl) (hb hby at_23) (fun _ _ => ⟨rfl, e0, (by decide : 0 + 0 ≤ _), (by decide : 0 + 0 ≤ _)⟩)
    dsimp only [Pt.U, Pt.locs, Pt.cells, Pt.slots] at X153 l153 y153 z153 st153 hQ153
    subst l153 y153 z153
    obtain ⟨rfl, N153q, e153⟩ := hQ153
    have N153 := Fr.app N0 N153q
    let Lb154 : Array Slot := #[.val (.int p0), .val (.int p1), .val (.int (249 : Int32)), .val (.ref (w 5)), .unset]
    let Lb155 : Array Slot := #[.val (.int p0), .val (.int p1), .val (.int (249 : Int32)), .val (.ref (w 5)), .val (.int (1 : Int32))]
    obtain ⟨cq156, kq156, q156a, q156b, q156c⟩ := isOf hZ e153 ((wd10 hW).ext O0.2)
    obtain ⟨_, _, ⟨T156, L156, kk156, nn156⟩, -, X156, ⟨Lc156, hQ156, l156, y156, z156⟩, st156⟩ := X153.virtualBack hx (y := ym1) (z := ym1) hown (mvT hZ (wk12 hw)) (mvT hZ (wk13 hw)) (notFace_of_selects (args := #[]) (mvT hZ (wk15 hw))) (mvT hZ (wk15 hw)) (mvT hZ (wk14 hw)) (by decide) (backOf (W := 0) (rm2_20 l Z a0 hw w hW []  h0 n0 O0 ) hZ (wk16 hw) (wk2 hw) (by decide) (by decide)) q156a q156c (g := (mkF m 68 Lb155 [(.ref (w 5))])) rfl (by rw [hml]; rfl) (Steps.refl _) (argsL := []) (rest := []) (lenOf pds_1 rfl) rfl (by show 2 * 0 + _ ≤ _; exact Nat.le_of_eq rfl) (hb hby at_68) (fun _ _ => ⟨rfl, e153, (by decide : 0 + 0 ≤ _), (by decide : 0 + 0 ≤ _)⟩)
    dsimp only [Pt.U, Pt.locs, Pt.cells, Pt.slots] at X156 l156 y156 z156 st156 hQ156
    subst l156 y156 z156
    obtain ⟨rfl, N156q, e156⟩ := hQ156
    have N156 := Fr.app N153 N156q
    obtain ⟨fs, hr, hrun, hended, hWm, hsame⟩ := X156.leave (v := some (.int (1 : Int32))) (fun h => by rw [Bd.returns] at h; cases h)
    refine ⟨_, _, pre101 _ ?_, hrun, hended, _, _, rfl, ?_, ⟨_, rfl⟩, hWm, hsame.mono (by decide) (by decide)⟩
    · show Steps p.tables e below (s₁.setTop (mkF m 20 La [(.int (10 : Int32)), (.int (239 : Int32))])) _
      refine XS.iadd X0.here hx rfl (hb hby at_20) rfl ?_
      refine XS.istoreN X0.here hx rfl (hb hby at_21) rfl (l' := Lb152) rfl ?_
      refine sI X0 hx hby at_22 rfl ?_
      refine st153 _ ?_
      refine XS.astoreN X153.here hx rfl (hb hby at_26) rfl rfl (l' := Lb154) rfl ?_
      refine sI X153 hx hby at_27 rfl ?_
      refine XS.sipush X153.here hx rfl (hb hby at_28) ?_
      refine sn X153 hx hby at_31 (by decide) ?_
      refine sI X153 hx hby at_34 rfl ?_
      show Steps p.tables e below (T153.setTop (mkF m 35 Lb154 [(.int (249 : Int32))])) _
      refine XS.sipush X153.here hx rfl (hb hby at_35) ?_
      refine sn X153 hx hby at_38 (by decide) ?_
      refine sc X153 hx hby at_41 ?_
      refine sg (pc := 42) (pc' := 46) X153 hx hby at_42 (by decide) (by decide) ?_
      refine XS.istore X153.here hx rfl (hb hby at_46) rfl (l' := Lb155) rfl ?_
      show Steps p.tables e below (T153.setTop (mkF m 48 Lb155 [])) _
      refine si X153 hx hby at_48 rfl ?_
      refine XS.ifYes X153.here hx rfl (pc0 := 50) (pc' := 63) rfl (hb hby at_50) rfl (by decide) (by decide) (by decide) ?_
      refine sA X153 hx hby at_63 rfl rfl ?_
      refine XS.ifnullNo X153.here hx rfl (hb hby at_64) rfl ?_
      refine sA X153 hx hby at_67 rfl rfl ?_
      show Steps p.tables e below (T153.setTop (mkF m 68 Lb155 [(.ref (w 5))])) _
      refine st156.trans ?_
      refine sI X156 hx hby at_71 rfl ?_
      refine sn X156 hx hby at_72 (by decide) ?_
      refine sc X156 hx hby at_75 ?_
      refine sg (pc := 76) (pc' := 80) X156 hx hby at_76 (by decide) (by decide) ?_
      exact retN X156 hx (t := .boolean) Bd.returns (by simp) (hb hby at_80) hr
    · show Q0 n0 _ T156.heap _
      rw [e156]
      exact ⟨rfl, N156⟩
   ·
    rw [hs102] at pre101
    let Lb157 : Array Slot := #[.val (.int p0), .val (.int p1), .val (.int (250 : Int32)), .unset, .unset]
    obtain ⟨_, _, ⟨T158, L158, kk158, nn158⟩, -, X158, ⟨Lc158, hQ158, l158, y158, z158⟩, st158⟩ := Jvm.LawKit.callS X0 hx (y := ym0) hown (mvT hZ (wk0 hw)) (mvT hZ (wk1 hw)) (mvT hZ (wk2 hw)) (mvT hZ (wk3 hw)) (by decide) (backOf (W := 0) (rm1_21 l Z a0 hw w hW []  h0 n0 O0 ) hZ (wk3 hw) (wk2 hw) (by decide) (by decide)) (g := (mkF m 23 Lb157 [(.int (250 : Int32))])) rfl (by rw [hml]; rfl) (argsL := [(.int (250 : Int32))]) (rest := []) (lenOf pds_0 rfl) rfl (by show 2 * 0 + _ ≤ _; exact Nat.le_of_eq rfl) (hb hby at_23) (fun _ _ => ⟨rfl, e0, (by decide : 0 + 0 ≤ _), (by decide : 0 + 0 ≤ _)⟩)
    dsimp only [Pt.U, Pt.locs, Pt.cells, Pt.slots] at X158 l158 y158 z158 st158 hQ158
    subst l158 y158 z158
    obtain ⟨rfl, N158q, e158⟩ := hQ158
    have N158 := Fr.app N0 N158q
    let Lb159 : Array Slot := #[.val (.int p0), .val (.int p1), .val (.int (250 : Int32)), .val (.ref (w 11)), .unset]
    let Lb160 : Array Slot := #[.val (.int p0), .val (.int p1), .val (.int (250 : Int32)), .val (.ref (w 11)), .val (.int (1 : Int32))]
    obtain ⟨cq161, kq161, q161a, q161b, q161c⟩ := isOf hZ e158 ((wd22 hW).ext O0.2)
    obtain ⟨_, _, ⟨T161, L161, kk161, nn161⟩, -, X161, ⟨Lc161, hQ161, l161, y161, z161⟩, st161⟩ := X158.virtualBack hx (y := ym1) (z := ym1) hown (mvT hZ (wk12 hw)) (mvT hZ (wk13 hw)) (notFace_of_selects (args := #[]) (mvT hZ (wk15 hw))) (mvT hZ (wk15 hw)) (mvT hZ (wk14 hw)) (by decide) (backOf (W := 0) (rm2_22 l Z a0 hw w hW []  h0 n0 O0 ) hZ (wk16 hw) (wk2 hw) (by decide) (by decide)) q161a q161c (g := (mkF m 68 Lb160 [(.ref (w 11))])) rfl (by rw [hml]; rfl) (Steps.refl _) (argsL := []) (rest := []) (lenOf pds_1 rfl) rfl (by show 2 * 0 + _ ≤ _; exact Nat.le_of_eq rfl) (hb hby at_68) (fun _ _ => ⟨rfl, e158, (by decide : 0 + 0 ≤ _), (by decide : 0 + 0 ≤ _)⟩)
    dsimp only [Pt.U, Pt.locs, Pt.cells, Pt.slots] at X161 l161 y161 z161 st161 hQ161
    subst l161 y161 z161
    obtain ⟨rfl, N161q, e161⟩ := hQ161
    have N161 := Fr.app N158 N161q
    obtain ⟨fs, hr, hrun, hended, hWm, hsame⟩ := X161.leave (v := some (.int (1 : Int32))) (fun h => by rw [Bd.returns] at h; cases h)
    refine ⟨_, _, pre101 _ ?_, hrun, hended, _, _, rfl, ?_, ⟨_, rfl⟩, hWm, hsame.mono (by decide) (by decide)⟩
    · show Steps p.tables e below (s₁.setTop (mkF m 20 La [(.int (11 : Int32)), (.int (239 : Int32))])) _
      refine XS.iadd X0.here hx rfl (hb hby at_20) rfl ?_
      refine XS.istoreN X0.here hx rfl (hb hby at_21) rfl (l' := Lb157) rfl ?_
      refine sI X0 hx hby at_22 rfl ?_
      refine st158 _ ?_
      refine XS.astoreN X158.here hx rfl (hb hby at_26) rfl rfl (l' := Lb159) rfl ?_
      refine sI X158 hx hby at_27 rfl ?_
      refine XS.sipush X158.here hx rfl (hb hby at_28) ?_
      refine sn X158 hx hby at_31 (by decide) ?_
      refine sI X158 hx hby at_34 rfl ?_
      show Steps p.tables e below (T158.setTop (mkF m 35 Lb159 [(.int (250 : Int32))])) _
      refine XS.sipush X158.here hx rfl (hb hby at_35) ?_
      refine sn X158 hx hby at_38 (by decide) ?_
      refine sc X158 hx hby at_41 ?_
      refine sg (pc := 42) (pc' := 46) X158 hx hby at_42 (by decide) (by decide) ?_
      refine XS.istore X158.here hx rfl (hb hby at_46) rfl (l' := Lb160) rfl ?_
      show Steps p.tables e below (T158.setTop (mkF m 48 Lb160 [])) _
      refine si X158 hx hby at_48 rfl ?_
      refine XS.ifYes X158.here hx rfl (pc0 := 50) (pc' := 63) rfl (hb hby at_50) rfl (by decide) (by decide) (by decide) ?_
      refine sA X158 hx hby at_63 rfl rfl ?_
      refine XS.ifnullNo X158.here hx rfl (hb hby at_64) rfl ?_
      refine sA X158 hx hby at_67 rfl rfl ?_
      show Steps p.tables e below (T158.setTop (mkF m 68 Lb160 [(.ref (w 11))])) _
      refine st161.trans ?_
      refine sI X161 hx hby at_71 rfl ?_
      refine sn X161 hx hby at_72 (by decide) ?_
      refine sc X161 hx hby at_75 ?_
      refine sg (pc := 76) (pc' := 80) X161 hx hby at_76 (by decide) (by decide) ?_
      exact retN X161 hx (t := .boolean) Bd.returns (by simp) (hb hby at_80) hr
    · show Q0 n0 _ T161.heap _
      rw [e161]
      exact ⟨rfl, N161⟩
   ·
    rw [hs102] at pre101
    let Lb162 : Array Slot := #[.val (.int p0), .val (.int p1), .val (.int (251 : Int32)), .unset, .unset]
    obtain ⟨_, _, ⟨T163, L163, kk163, nn163⟩, -, X163, ⟨Lc163, hQ163, l163, y163, z163⟩, st163⟩ := Jvm.LawKit.callS X0 hx (y := ym0) hown (mvT hZ (wk0 hw)) (mvT hZ (wk1 hw)) (mvT hZ (wk2 hw)) (mvT hZ (wk3 hw)) (by decide) (backOf (W := 0) (rm1_24 l Z a0 hw w hW [] (251 : Int32) h0 n0 O0 (by decide) (by decide)) hZ (wk3 hw) (wk2 hw) (by decide) (by decide)) (g := (mkF m 23 Lb162 [(.int (251 : Int32))])) rfl (by rw [hml]; rfl) (argsL := [(.int (251 : Int32))]) (rest := []) (lenOf pds_0 rfl) rfl (by show 2 * 0 + _ ≤ _; exact Nat.le_of_eq rfl) (hb hby at_23) (fun _ _ => ⟨rfl, e0, (by decide : 0 + 0 ≤ _), (by decide : 0 + 0 ≤ _)⟩)
    dsimp only [Pt.U, Pt.locs, Pt.cells, Pt.slots] at X163 l163 y163 z163 st163 hQ163
    subst l163 y163 z163
    obtain ⟨rfl, N163q, e163⟩ := hQ163
    have N163 := Fr.app N0 N163q
    let Lb164 : Array Slot := #[.val (.int p0), .val (.int p1), .val (.int (251 : Int32)), .val .null, .unset]
    let Lb165 : Array Slot := #[.val (.int p0), .val (.int p1), .val (.int (251 : Int32)), .val .null, .val (.int (0 : Int32))]
    obtain ⟨fs, hr, hrun, hended, hWm, hsame⟩ := X163.leave (v := some (.int (1 : Int32))) (fun h => by rw [Bd.returns] at h; cases h)
    refine ⟨_, _, pre101 _ ?_, hrun, hended, _, _, rfl, ?_, ⟨_, rfl⟩, hWm, hsame.mono (by decide) (by decide)⟩
    · show Steps p.tables e below (s₁.setTop (mkF m 20 La [(.int (12 : Int32)), (.int (239 : Int32))])) _
      refine XS.iadd X0.here hx rfl (hb hby at_20) rfl ?_
      refine XS.istoreN X0.here hx rfl (hb hby at_21) rfl (l' := Lb162) rfl ?_
      refine sI X0 hx hby at_22 rfl ?_
      refine st163 _ ?_
      refine XS.astoreN X163.here hx rfl (hb hby at_26) rfl rfl (l' := Lb164) rfl ?_
      refine sI X163 hx hby at_27 rfl ?_
      refine XS.sipush X163.here hx rfl (hb hby at_28) ?_
      refine sn X163 hx hby at_31 (by decide) ?_
      refine sI X163 hx hby at_34 rfl ?_
      show Steps p.tables e below (T163.setTop (mkF m 35 Lb164 [(.int (251 : Int32))])) _
      refine XS.sipush X163.here hx rfl (hb hby at_35) ?_
      refine XS.icmpYes X163.here hx rfl (pc0 := 38) (pc' := 45) rfl (hb hby at_38) rfl (by decide) (by decide) (by decide) ?_
      refine sc X163 hx hby at_45 ?_
      refine XS.istore X163.here hx rfl (hb hby at_46) rfl (l' := Lb165) rfl ?_
      refine si X163 hx hby at_48 rfl ?_
      show Steps p.tables e below (T163.setTop (mkF m 50 Lb165 [(.int (0 : Int32))])) _
      refine sN X163 hx hby at_50 (by decide) ?_
      refine sA X163 hx hby at_53 rfl rfl ?_
      refine XS.ifnonnullNo X163.here hx rfl (hb hby at_54) rfl ?_
      refine sc X163 hx hby at_57 ?_
      refine sg (pc := 58) (pc' := 62) X163 hx hby at_58 (by decide) (by decide) ?_
      show Steps p.tables e below (T163.setTop (mkF m 62 Lb165 [(.int (1 : Int32))])) _
      exact retN X163 hx (t := .boolean) Bd.returns (by simp) (hb hby at_62) hr
    · show Q0 n0 _ T163.heap _
      rw [e163]
      exact ⟨rfl, N163⟩
set_option maxRecDepth 65536 in
set_option maxHeartbeats 400000000 in
theorem comes_1 {Post : Tables → Env → Array Value → State → Outcome → State → Prop} (hpost : ∀ tb e args s v u, (limb_1_1.after args s (.returned v) u = true ∧ limb_1_2.after args s (.returned v) u = true ∧ True) → FrameEnd s (.returned v) u (Jvm.fieldLocs frame_1_writes args s ++ Jvm.arrayLocs frame_1_arrays args s ++ Jvm.staticLocs frame_1_statics s) 0 0 → Post tb e args s (.returned v) u) :
    ArmFor flags0 classFile x code maxLocals ret World_1 tables_1 room_1 Calls_1 rest_1 Pre_1 Post := by
  intro l hfl _ _ p e ha hc hk s m args below hf hA hF happ hP
  obtain ⟨hcalls, hrest, hpre⟩ := hP
  obtain ⟨-, -, -, hnamed, -, -, -, hat⟩ := (Spec.applies_iff hf).mp happ
  obtain ⟨hg, hn⟩ := and_e (Cond.before_iff.mp (show (Jvm.Cond.and given_1 narrow_1).before args s = true from hpre))
  obtain ⟨ga4, gb4⟩ := and_e hg
  obtain ⟨ga5, gb5⟩ := and_e gb4
  obtain ⟨v0, v1, rfl⟩ : ∃ v0 v1 : Value, args = #[v0, v1] := by
    have hs : args.size = 2 := by simpa [Cond.value, given_1] using ga4
    obtain ⟨L⟩ := args
    match L, hs with
    | [v0, v1], _ => exact ⟨v0, v1, rfl⟩
  have hw := fun d (hd : d ∈ tables_1) => atoms_spec (ws := Jvm.Cond.code x code maxLocals ret :: tables_1) hat d (List.mem_cons_of_mem _ hd)
  have hfit : Fit s := fun {y c} hc i hi => by
    obtain ⟨ha, rfl⟩ := Array.getElem?_eq_some_iff.mp hc
    have q := List.all_eq_true.mp ((Array.all_eq_true_iff_forall_mem.mp hF) _ (Array.getElem_mem ha)) i (List.mem_range.mpr hi)
    simpa [Array.getElem?_eq_getElem hi] using q
  obtain ⟨i0, ei0⟩ := is_v ga5
  obtain rfl : v0 = (.int i0) := Option.some.inj ei0
  obtain ⟨i1, ei1⟩ := is_v gb5
  obtain rfl : v1 = (.int i1) := Option.some.inj ei1
  obtain ⟨na0, nb0⟩ := and_e hn
  obtain ⟨na1, nb1⟩ := and_e nb0
  obtain ⟨na2, nb2⟩ := and_e nb1
  obtain ⟨na3, nb3⟩ := and_e nb2
  obtain ⟨na4, nb4⟩ := and_e nb3
  obtain ⟨na5, nb5⟩ := and_e nb4
  obtain ⟨na6, nb6⟩ := and_e nb5
  obtain ⟨na7, nb7⟩ := and_e nb6
  obtain ⟨na8, nb8⟩ := and_e nb7
  obtain ⟨na9, nb9⟩ := and_e nb8
  obtain ⟨na10, nb10⟩ := and_e nb9
  obtain ⟨na11, nb11⟩ := and_e nb10
  obtain ⟨na12, nb12⟩ := and_e nb11
  obtain ⟨na13, nb13⟩ := and_e nb12
  obtain ⟨na14, nb14⟩ := and_e nb13
  obtain ⟨na15, nb15⟩ := and_e nb14
  obtain ⟨na16, nb16⟩ := and_e nb15
  obtain ⟨na17, nb17⟩ := and_e nb16
  obtain ⟨na18, nb18⟩ := and_e nb17
  obtain ⟨na19, nb19⟩ := and_e nb18
  obtain ⟨na20, nb20⟩ := and_e nb19
  obtain ⟨na21, nb21⟩ := and_e nb20
  obtain ⟨na22, nb22⟩ := and_e nb21
  obtain ⟨na23, nb23⟩ := and_e nb22
  obtain ⟨na24, nb24⟩ := and_e nb23
  obtain ⟨na25, nb25⟩ := and_e nb24
  obtain ⟨na26, nb26⟩ := and_e nb25
  obtain ⟨na27, nb27⟩ := and_e nb26
  obtain ⟨na28, nb28⟩ := and_e nb27
  obtain ⟨na29, nb29⟩ := and_e nb28
  obtain ⟨na30, nb30⟩ := and_e nb29
  obtain ⟨na31, nb31⟩ := and_e nb30
  obtain ⟨na32, nb32⟩ := and_e nb31
  obtain ⟨na33, nb33⟩ := and_e nb32
  obtain ⟨x0, ev0⟩ := exa_v na0
  obtain ⟨x1, ev1⟩ := arr_v na2
  obtain ⟨cl1, A1⟩ := Arr.start ev1 na2
  obtain ⟨x2, ev2⟩ := exa_v na4
  obtain ⟨x3, ev3⟩ := exa_v na8
  obtain ⟨x4, ev4⟩ := exa_v na11
  obtain ⟨x5, ev5⟩ := exa_v na14
  obtain ⟨x6, ev6⟩ := exa_v na17
  obtain ⟨x7, ev7⟩ := exa_v na20
  obtain ⟨x8, ev8⟩ := exa_v na23
  obtain ⟨x9, ev9⟩ := exa_v na26
  obtain ⟨x10, ev10⟩ := exa_v na29
  obtain ⟨x11, ev11⟩ := exa_v na32
  have len1 := own_len ev1 A1 na3
  have el1_0 := own_elem ev1 A1 ev0 rfl na7
  have el1_1 := own_elem ev1 A1 ev6 rfl na18
  have el1_2 := own_elem ev1 A1 ev9 rfl na27
  have el1_3 := own_elem ev1 A1 ev7 rfl na21
  have el1_4 := own_elem ev1 A1 ev3 rfl na9
  have el1_5 := own_elem ev1 A1 ev4 rfl na12
  have el1_6 := own_elem ev1 A1 ev10 rfl na30
  have el1_7 := own_elem ev1 A1 ev2 rfl na5
  have el1_8 := own_elem ev1 A1 ev8 rfl na24
  have el1_9 := own_elem ev1 A1 ev5 rfl na15
  have el1_10 := own_elem ev1 A1 ev11 rfl na33
  have V1 : Arv s s.heap x1 cl1.cls (.object "com/example/ferrule/ferrule/io/PickleTag") (11 : Int32) [(.ref x0), (.ref x6), (.ref x9), (.ref x7), (.ref x3), (.ref x4), (.ref x10), (.ref x2), (.ref x8), (.ref x5), (.ref x11)] .null := Arv.start hfit A1 len1.2 len1.1 (by decide) rfl ⟨el1_0, el1_1, el1_2, el1_3, el1_4, el1_5, el1_6, el1_7, el1_8, el1_9, el1_10, trivial⟩
  have hW : Wd s (fun i => ([x0, x1, x2, x3, x4, x5, x6, x7, x8, x9, x10, x11, cl1.cls] : List Addr).getD i 0) := ⟨(Sta.start ev0 (Or.inr ⟨(wk2 hw), (wk5 hw)⟩)), (Exa.start ev0 na0), (Sta.start ev1 (Or.inr ⟨(wk2 hw), (wk9 hw)⟩)), (Sta.start ev2 (Or.inr ⟨(wk2 hw), (wk11 hw)⟩)), (Exa.start ev2 na4), (Sta.start ev3 (Or.inr ⟨(wk2 hw), (wk17 hw)⟩)), (Exa.start ev3 na8), (Sta.start ev4 (Or.inr ⟨(wk2 hw), (wk18 hw)⟩)), (Exa.start ev4 na11), (Sta.start ev5 (Or.inr ⟨(wk2 hw), (wk19 hw)⟩)), (Exa.start ev5 na14), (Sta.start ev6 (Or.inr ⟨(wk2 hw), (wk20 hw)⟩)), (Exa.start ev6 na17), (Sta.start ev7 (Or.inr ⟨(wk2 hw), (wk21 hw)⟩)), (Exa.start ev7 na20), (Sta.start ev8 (Or.inr ⟨(wk2 hw), (wk22 hw)⟩)), (Exa.start ev8 na23), (Sta.start ev9 (Or.inr ⟨(wk2 hw), (wk23 hw)⟩)), (Exa.start ev9 na26), (Sta.start ev10 (Or.inr ⟨(wk2 hw), (wk24 hw)⟩)), (Exa.start ev10 na29), (Sta.start ev11 (Or.inr ⟨(wk2 hw), (wk25 hw)⟩)), (Exa.start ev11 na32), (own_fldI ev0 na1), (own_fldI ev2 na6), (own_fldI ev3 na10), (own_fldI ev4 na13), (own_fldI ev5 na16), (own_fldI ev6 na19), (own_fldI ev7 na22), (own_fldI ev8 na25), (own_fldI ev9 na28), (own_fldI ev10 na31), (own_fldI ev11 nb33), V1, trivial⟩
  obtain ⟨n, o, h1, h2, h3, _, L, rfl, ⟨rfl, N⟩, hq⟩ := rm0 l s _ hw _ hW tables_1 i0 i1 s.heap s.heap.size (Old.start s) p e ha hc hk s m _ below hf ((Spec.applies_iff_loose hf).mp happ).1 ⟨rfl, State.Warmed39.refl s, rfl⟩ trivial
  refine ⟨n, _, h1, h2, h3, hpost _ _ _ _ _ _ ⟨Cond.after_iff.mpr rfl, Cond.after_iff.mpr (eq_i res_at (Term.int_eval (1)) rfl), trivial⟩ ⟨hq.1, hq.2.1, (hq.2.2.sift fun y hy => Or.inr (N y hy)).mono (by decide) (by decide)⟩⟩
theorem main_1_1 : Claimed_1_1 := comes_1 fun _ _ _ _ _ _ h hF => ⟨h.1, hF⟩
theorem main_1_2 : Claimed_1_2 := comes_1 fun _ _ _ _ _ _ h hF => ⟨h.2.1, hF⟩
end Jvm.Pilot.@@N@@
namespace Jvm.Pilot.@@N@@
open Jvm Jvm.ClassFile Sem Op Lib Jvm.Free Jvm.Stand Jvm.Pilot.@@N@@.Jvm.D
/-! MADE BY PROGRAM (witnessworld.py) out of the Statement's table words and the real class files: 13 classes; the members and pool entries that the words name. The judged class is class 1, her method 1. -/
namespace start1
open Jvm.ClassFile
def u (s : String) : CpInfo := .utf8 (stringToUtf16 s)
/-- a pool by its gaps: so many unusable entries, then the entry; so many at the end -/
def gap : Nat → List CpInfo → List CpInfo
  | 0, r => r
  | n + 1, r => .unusable :: gap n r
def poolList (es : List (Nat × CpInfo)) (last : Nat) : List CpInfo := es.foldr (fun e r => gap e.1 (e.2 :: r)) (gap last [])
def pool (es : List (Nat × CpInfo)) (last : Nat) : Array CpInfo := ⟨poolList es last⟩
def fileOf (pool : Array CpInfo) (this : Nat) (attrs : Array Attribute := #[]) (ms : Array MethodInfo := #[]) (fl : Nat := 33) (sup : Nat := 0) (ifs : Array Nat := #[]) (fds : Array FieldInfo := #[]) : ClassFile where
  minorVersion := 0
  majorVersion := 65
  constantPool := pool
  accessFlags := fl
  thisClass := this
  superClass := sup
  interfaces := ifs
  fields := fds
  methods := ms
  attributes := attrs
def plain (name : String) (sup : Option ClassId) : Class where
  name := name
  kind := .ordinary
  loader := none
  accessFlags := 33
  super := sup
  interfaces := #[]
  cf := none
  fields := #[]
  methods := #[]
  instanceTypes := #[]
  staticTypes := #[]
  resolved := #[]
  callSites := []
  init := .initialized
  statics := none
  mirror := none

def pool0 : Array CpInfo := pool [(5, u "<init>"), (0, u "()V"), (1, .class_ 10), (1, u "java/lang/Object")] 113

def k0m0 : Method := { name := "<init>", desc := "()V", sig := { parameters := [], returnType := none }, accessFlags := 1, code := none }
/-- java/lang/Object -/
def k0 : Class := { plain "java/lang/Object" none with
  accessFlags := 33
  interfaces := #[]
  cf := some (fileOf pool0 8 #[] #[{ accessFlags := 1, nameIndex := 5, descriptorIndex := 6, attributes := #[] }] 33 0 #[] #[])
  fields := #[]
  methods := #[k0m0]
  instanceTypes := #[]
  staticTypes := #[]
  resolved := Array.replicate 124 none
  statics := none }

def pool1 : Array CpInfo := pool [(2, .class_ 4), (1, u "java/lang/Object"), (0, u "<init>"), (0, u "()V"), (0, .integer 2147483647), (0, .methodref 9 10), (0, .class_ 11), (0, .nameAndType 12 13), (0, u "com/example/ferrule/ferrule/io/PickleTag"), (0, u "of"), (0, u "(I)Lcom/example/ferrule/ferrule/io/PickleTag;"), (0, .methodref 9 15), (0, .nameAndType 16 17), (0, u "code"), (0, u "()I"), (0, .class_ 19), (0, u "com/example/ferrule/ferrule/io/PickleTagOfPinLaw"), (2, u "law"), (0, u "(II)Z")] 3

def k1m0 : Method := { name := "<init>", desc := "()V", sig := { parameters := [], returnType := none }, accessFlags := 1, code := none }
def k1c1 : Code := { maxStack := 3, maxLocals := 5, code := code, exceptionTable := #[], attributes := #[] }
def k1m1 : Method := { name := "law", desc := "(II)Z", sig := { parameters := [.int, .int], returnType := some .boolean }, accessFlags := 9, code := some k1c1 }
/-- com/example/ferrule/ferrule/io/PickleTagOfPinLaw -/
def k1 : Class := { plain "com/example/ferrule/ferrule/io/PickleTagOfPinLaw" (some 0) with
  accessFlags := 49
  interfaces := #[]
  cf := some (fileOf pool1 18 #[] #[{ accessFlags := 1, nameIndex := 5, descriptorIndex := 6, attributes := #[] }, { accessFlags := 9, nameIndex := 22, descriptorIndex := 23, attributes := #[] }] 49 2 #[] #[])
  fields := #[]
  methods := #[k1m0, k1m1]
  instanceTypes := #[]
  staticTypes := #[]
  resolved := Array.replicate 27 none
  statics := none }

def pool2 : Array CpInfo := pool [(1, .class_ 2), (0, u "java/lang/constant/Constable"), (0, .class_ 4), (0, u "java/lang/Object")] 6

/-- java/lang/constant/Constable -/
def k2 : Class := { plain "java/lang/constant/Constable" (some 0) with
  accessFlags := 1537
  interfaces := #[]
  cf := some (fileOf pool2 1 #[] #[] 1537 3 #[] #[])
  fields := #[]
  methods := #[]
  instanceTypes := #[]
  staticTypes := #[]
  resolved := Array.replicate 11 none
  statics := none }

def pool3 : Array CpInfo := pool [(1, .class_ 2), (0, u "java/lang/Comparable"), (0, .class_ 4), (0, u "java/lang/Object")] 7

/-- java/lang/Comparable -/
def k3 : Class := { plain "java/lang/Comparable" (some 0) with
  accessFlags := 1537
  interfaces := #[]
  cf := some (fileOf pool3 1 #[] #[] 1537 3 #[] #[])
  fields := #[]
  methods := #[]
  instanceTypes := #[]
  staticTypes := #[]
  resolved := Array.replicate 12 none
  statics := none }

def pool4 : Array CpInfo := pool [(1, .class_ 2), (0, u "java/io/Serializable"), (0, .class_ 4), (0, u "java/lang/Object")] 2

/-- java/io/Serializable -/
def k4 : Class := { plain "java/io/Serializable" (some 0) with
  accessFlags := 1537
  interfaces := #[]
  cf := some (fileOf pool4 1 #[] #[] 1537 3 #[] #[])
  fields := #[]
  methods := #[]
  instanceTypes := #[]
  staticTypes := #[]
  resolved := Array.replicate 7 none
  statics := none }

def pool5 : Array CpInfo := pool [(2, .class_ 4), (1, u "java/lang/Enum"), (0, u "name"), (0, u "Ljava/lang/String;"), (2, u "ordinal"), (0, u "I"), (1, .class_ 14), (1, u "java/lang/Object"), (4, u "hash"), (86, .class_ 108), (1, u "java/lang/Enum$EnumDesc"), (2, .class_ 112), (0, u "java/lang/constant/Constable"), (0, .class_ 114), (0, u "java/lang/Comparable"), (0, .class_ 116), (0, u "java/io/Serializable")] 87

/-- java/lang/Enum -/
def k5 : Class := { plain "java/lang/Enum" (some 0) with
  accessFlags := 1057
  interfaces := #[2, 3, 4]
  cf := some (fileOf pool5 2 #[.nestMembers #[106]] #[] 1057 12 #[111, 113, 115] #[{ accessFlags := 18, nameIndex := 5, descriptorIndex := 6, attributes := #[] }, { accessFlags := 18, nameIndex := 9, descriptorIndex := 10, attributes := #[] }, { accessFlags := 2, nameIndex := 19, descriptorIndex := 10, attributes := #[] }])
  fields := #[{ name := "name", type := (.object "java/lang/String"), accessFlags := 18, slot := 0, constantValue := 0 }, { name := "ordinal", type := .int, accessFlags := 18, slot := 1, constantValue := 0 }, { name := "hash", type := .int, accessFlags := 2, slot := 2, constantValue := 0 }]
  methods := #[]
  instanceTypes := #[(.object "java/lang/String"), .int, .int]
  staticTypes := #[]
  resolved := Array.replicate 204 none
  statics := none }

def pool6 : Array CpInfo := pool [(1, .class_ 2), (0, u "com/example/ferrule/ferrule/io/PickleTag"), (0, .fieldref 1 4), (0, .nameAndType 5 6), (0, u "NIL"), (0, u "Lcom/example/ferrule/ferrule/io/PickleTag;"), (2, u "UINT8"), (2, u "NEG8"), (2, u "UINT16"), (2, u "NEG16"), (2, u "UINT32"), (2, u "NEG32"), (2, u "DOUBLE"), (2, u "STRING"), (2, u "LIST"), (2, u "LIST_REFERENCE"), (2, u "$VALUES"), (0, u "[Lcom/example/ferrule/ferrule/io/PickleTag;"), (6, .class_ 49), (1, u "java/lang/Enum"), (6, .fieldref 1 57), (0, .nameAndType 58 59), (0, u "code"), (0, u "I"), (2, u "width"), (2, u "min"), (0, u "J"), (2, u "max"), (0, .fieldref 1 71), (0, .nameAndType 72 40), (0, u "BY_CODE"), (49, u "INTEGERS"), (0, u "Ljava/util/List;"), (7, u "of"), (0, u "(I)Lcom/example/ferrule/ferrule/io/PickleTag;"), (1, u "()I")] 30

def k6c0 : Code := { maxStack := 2, maxLocals := 2, code := prog_39_method_4_code, exceptionTable := #[], attributes := #[] }
def k6m0 : Method := { name := "of", desc := "(I)Lcom/example/ferrule/ferrule/io/PickleTag;", sig := { parameters := [.int], returnType := some (.object "com/example/ferrule/ferrule/io/PickleTag") }, accessFlags := 8, code := some k6c0 }
def k6c1 : Code := { maxStack := 1, maxLocals := 1, code := prog_39_method_5_code, exceptionTable := #[], attributes := #[] }
def k6m1 : Method := { name := "code", desc := "()I", sig := { parameters := [], returnType := some .int }, accessFlags := 0, code := some k6c1 }
/-- com/example/ferrule/ferrule/io/PickleTag -/
def k6 : Class := { plain "com/example/ferrule/ferrule/io/PickleTag" (some 5) with
  accessFlags := 16432
  interfaces := #[]
  cf := some (fileOf pool6 1 #[] #[{ accessFlags := 8, nameIndex := 131, descriptorIndex := 132, attributes := #[] }, { accessFlags := 0, nameIndex := 58, descriptorIndex := 134, attributes := #[] }] 16432 47 #[] #[{ accessFlags := 16409, nameIndex := 5, descriptorIndex := 6, attributes := #[] }, { accessFlags := 16409, nameIndex := 9, descriptorIndex := 6, attributes := #[] }, { accessFlags := 16409, nameIndex := 12, descriptorIndex := 6, attributes := #[] }, { accessFlags := 16409, nameIndex := 15, descriptorIndex := 6, attributes := #[] }, { accessFlags := 16409, nameIndex := 18, descriptorIndex := 6, attributes := #[] }, { accessFlags := 16409, nameIndex := 21, descriptorIndex := 6, attributes := #[] }, { accessFlags := 16409, nameIndex := 24, descriptorIndex := 6, attributes := #[] }, { accessFlags := 16409, nameIndex := 27, descriptorIndex := 6, attributes := #[] }, { accessFlags := 16409, nameIndex := 30, descriptorIndex := 6, attributes := #[] }, { accessFlags := 16409, nameIndex := 33, descriptorIndex := 6, attributes := #[] }, { accessFlags := 16409, nameIndex := 36, descriptorIndex := 6, attributes := #[] }, { accessFlags := 24, nameIndex := 122, descriptorIndex := 123, attributes := #[] }, { accessFlags := 26, nameIndex := 72, descriptorIndex := 40, attributes := #[] }, { accessFlags := 18, nameIndex := 58, descriptorIndex := 59, attributes := #[] }, { accessFlags := 18, nameIndex := 62, descriptorIndex := 59, attributes := #[] }, { accessFlags := 18, nameIndex := 65, descriptorIndex := 66, attributes := #[] }, { accessFlags := 18, nameIndex := 69, descriptorIndex := 66, attributes := #[] }, { accessFlags := 4122, nameIndex := 39, descriptorIndex := 40, attributes := #[] }])
  fields := #[{ name := "NIL", type := (.object "com/example/ferrule/ferrule/io/PickleTag"), accessFlags := 16409, slot := 0, constantValue := 0 }, { name := "UINT8", type := (.object "com/example/ferrule/ferrule/io/PickleTag"), accessFlags := 16409, slot := 1, constantValue := 0 }, { name := "NEG8", type := (.object "com/example/ferrule/ferrule/io/PickleTag"), accessFlags := 16409, slot := 2, constantValue := 0 }, { name := "UINT16", type := (.object "com/example/ferrule/ferrule/io/PickleTag"), accessFlags := 16409, slot := 3, constantValue := 0 }, { name := "NEG16", type := (.object "com/example/ferrule/ferrule/io/PickleTag"), accessFlags := 16409, slot := 4, constantValue := 0 }, { name := "UINT32", type := (.object "com/example/ferrule/ferrule/io/PickleTag"), accessFlags := 16409, slot := 5, constantValue := 0 }, { name := "NEG32", type := (.object "com/example/ferrule/ferrule/io/PickleTag"), accessFlags := 16409, slot := 6, constantValue := 0 }, { name := "DOUBLE", type := (.object "com/example/ferrule/ferrule/io/PickleTag"), accessFlags := 16409, slot := 7, constantValue := 0 }, { name := "STRING", type := (.object "com/example/ferrule/ferrule/io/PickleTag"), accessFlags := 16409, slot := 8, constantValue := 0 }, { name := "LIST", type := (.object "com/example/ferrule/ferrule/io/PickleTag"), accessFlags := 16409, slot := 9, constantValue := 0 }, { name := "LIST_REFERENCE", type := (.object "com/example/ferrule/ferrule/io/PickleTag"), accessFlags := 16409, slot := 10, constantValue := 0 }, { name := "INTEGERS", type := (.object "java/util/List"), accessFlags := 24, slot := 11, constantValue := 0 }, { name := "BY_CODE", type := (.array (.object "com/example/ferrule/ferrule/io/PickleTag")), accessFlags := 26, slot := 12, constantValue := 0 }, { name := "code", type := .int, accessFlags := 18, slot := 3, constantValue := 0 }, { name := "width", type := .int, accessFlags := 18, slot := 4, constantValue := 0 }, { name := "min", type := .long, accessFlags := 18, slot := 5, constantValue := 0 }, { name := "max", type := .long, accessFlags := 18, slot := 6, constantValue := 0 }, { name := "$VALUES", type := (.array (.object "com/example/ferrule/ferrule/io/PickleTag")), accessFlags := 4122, slot := 13, constantValue := 0 }]
  methods := #[k6m0, k6m1]
  instanceTypes := #[(.object "java/lang/String"), .int, .int, .int, .int, .long, .long]
  staticTypes := #[(.object "com/example/ferrule/ferrule/io/PickleTag"), (.object "com/example/ferrule/ferrule/io/PickleTag"), (.object "com/example/ferrule/ferrule/io/PickleTag"), (.object "com/example/ferrule/ferrule/io/PickleTag"), (.object "com/example/ferrule/ferrule/io/PickleTag"), (.object "com/example/ferrule/ferrule/io/PickleTag"), (.object "com/example/ferrule/ferrule/io/PickleTag"), (.object "com/example/ferrule/ferrule/io/PickleTag"), (.object "com/example/ferrule/ferrule/io/PickleTag"), (.object "com/example/ferrule/ferrule/io/PickleTag"), (.object "com/example/ferrule/ferrule/io/PickleTag"), (.object "java/util/List"), (.array (.object "com/example/ferrule/ferrule/io/PickleTag")), (.array (.object "com/example/ferrule/ferrule/io/PickleTag"))]
  resolved := Array.replicate 165 none
  statics := some 0 }

def pool7 : Array CpInfo := pool [(1, u "java/lang/Cloneable"), (0, .class_ 1), (0, u "java/lang/Object"), (0, .class_ 3)] 3

/-- java/lang/Cloneable -/
def k7 : Class := { plain "java/lang/Cloneable" (some 0) with
  accessFlags := 1537
  interfaces := #[]
  cf := some (fileOf pool7 2 #[] #[] 1537 4 #[] #[])
  fields := #[]
  methods := #[]
  instanceTypes := #[]
  staticTypes := #[]
  resolved := Array.replicate 8 none
  statics := none }

/-- the primitive byte -/
def k8 : Class := { plain "byte" none with kind := .primitive 'B', accessFlags := 0x411 }
/-- [B -/
def k9 : Class := { plain "[B" (some 0) with kind := .array 8 .byte, interfaces := #[7, 4], accessFlags := 1041 }

/-- the primitive int -/
def k10 : Class := { plain "int" none with kind := .primitive 'I', accessFlags := 0x411 }
/-- [I -/
def k11 : Class := { plain "[I" (some 0) with kind := .array 10 .int, interfaces := #[7, 4], accessFlags := 1041 }

/-- [Lcom/example/ferrule/ferrule/io/PickleTag; -/
def k12 : Class := { plain "[Lcom/example/ferrule/ferrule/io/PickleTag;" (some 0) with kind := .array 6 (.object "com/example/ferrule/ferrule/io/PickleTag"), interfaces := #[7, 4], accessFlags := 1041 }

def heap : Heap := #[{ cls := 6, slots := #[.ref 2, .ref 7, .ref 10, .ref 8, .ref 4, .ref 5, .ref 11, .ref 3, .ref 9, .ref 6, .ref 12, .null, .ref 1, .null], vm := .statics 6 },
  { cls := 12, slots := #[.ref 2, .ref 7, .ref 10, .ref 8, .ref 4, .ref 5, .ref 11, .ref 3, .ref 9, .ref 6, .ref 12], vm := .none },
  { cls := 6, slots := #[.null, .int 0, .int 0, .int 240, .int 0, .long 0, .long 0], vm := .none },
  { cls := 6, slots := #[.null, .int 0, .int 0, .int 247, .int 0, .long 0, .long 0], vm := .none },
  { cls := 6, slots := #[.null, .int 0, .int 0, .int 244, .int 0, .long 0, .long 0], vm := .none },
  { cls := 6, slots := #[.null, .int 0, .int 0, .int 245, .int 0, .long 0, .long 0], vm := .none },
  { cls := 6, slots := #[.null, .int 0, .int 0, .int 249, .int 0, .long 0, .long 0], vm := .none },
  { cls := 6, slots := #[.null, .int 0, .int 0, .int 241, .int 0, .long 0, .long 0], vm := .none },
  { cls := 6, slots := #[.null, .int 0, .int 0, .int 243, .int 0, .long 0, .long 0], vm := .none },
  { cls := 6, slots := #[.null, .int 0, .int 0, .int 248, .int 0, .long 0, .long 0], vm := .none },
  { cls := 6, slots := #[.null, .int 0, .int 0, .int 242, .int 0, .long 0, .long 0], vm := .none },
  { cls := 6, slots := #[.null, .int 0, .int 0, .int 246, .int 0, .long 0, .long 0], vm := .none },
  { cls := 6, slots := #[.null, .int 0, .int 0, .int 250, .int 0, .long 0, .long 0], vm := .none }]
def classes : Array Class := #[k0, k1, k2, k3, k4, k5, k6, k7, k8, k9, k10, k11, k12]
def interned : List (Array UInt16 × Addr) := []
def slotsUsed : Nat := 102
def theMethod : MethodId := ⟨1, 1⟩
def args0 : Array Value := #[.int 5, .int 6]
def aboutOver (below : List Frame) : State where
  vm := { classes := classes, interned := interned.toArray }
  heap := heap
  slotsUsed := slotsUsed
  threads := #[{ frames := .invoking theMethod args0 :: below }]
def below0 : List Frame := [.native { method := ⟨0, 0⟩, args := #[] }]
def about1 : State := aboutOver below0
def p0 : Program := .bare "" "" ""
def e0 : Env := launch0.env 0 0 0
theorem w_frames : about1.frames = Frame.invoking theMethod args0 :: below0 := rfl
set_option maxRecDepth 65536 in
theorem w_args : argsFit about1.vm theMethod args0 = true := by decide +kernel
set_option maxRecDepth 65536 in
theorem w_heap : heapFits about1 = true := by decide +kernel
set_option maxRecDepth 65536 in
theorem w_runnable : about1.curStatus? = some .runnable := by decide +kernel
set_option maxRecDepth 65536 in
theorem w_alone : about1.alone = true := by decide +kernel
set_option maxRecDepth 65536 in
theorem w_named : about1.methodNamed? x = some theMethod := by decide +kernel
set_option maxRecDepth 65536 in
theorem w_hears : about1.hears theMethod below0 = true := by decide +kernel
set_option maxRecDepth 65536 in
theorem w_ripe : about1.ripe theMethod args0 below0 = true := by decide +kernel
theorem w_running : about1.status = .running := rfl
set_option maxRecDepth 65536 in
theorem w_room : about1.hasRoom e0.platform room_1 = true :=
  launch0.hasRoom_least _ room_1 (by decide +kernel) (by decide +kernel) (by decide +kernel) (by decide +kernel) (by decide +kernel) (by decide +kernel)
theorem allAtoms_all (ts : List Jvm.Cond) (a : Array Jvm.Value) (st : Jvm.State) : (allAtoms ts).before a st = ts.all (fun c => c.before a st) := by
  induction ts with
  | nil => rfl
  | cons c t ih =>
    show (Jvm.Cond.and c (allAtoms t)).before a st = _
    rw [Jvm.Cond.before_and, ih, List.all_cons]
def words1 : List Jvm.Cond := Jvm.Cond.code x code maxLocals ret :: tables_1
/-- a 'code' word, met by the world's own term for the bytes: nothing is compared byte by byte -/
theorem code_word {y : MethodName} {bytes : ByteArray} {mx : Nat} {rt : Option FieldType} {a : Array Value} {s : State} {m : MethodId} {meth : Method} {c : Code} (h1 : s.methodNamed? y = some m) (h2 : s.vm.method? m = some meth) (h3 : meth.code = some c) (h4 : c.code = bytes)
    (h5 : (c.maxLocals == mx && c.exceptionTable.isEmpty && decide (c.maxStack ≤ mostOperands) && decide (meth.sig.returnType = rt) && !meth.locks && decide (parseMethodDescriptor y.desc = some meth.sig)) = true) : (Jvm.Cond.code y bytes mx rt).before a s = true := by
  simp only [Bool.and_eq_true, beq_iff_eq, Bool.not_eq_true', decide_eq_true_eq] at h5
  obtain ⟨⟨⟨⟨⟨g1, g2⟩, g3⟩, g4⟩, g5⟩, g6⟩ := h5
  simp [Cond.before, Cond.holds, Cond.value, h1, h2, h3, h4, g1, g2, g3, g4, g5, g6]
def isCode : Jvm.Cond → Bool
  | .code _ _ _ _ => true
  | _ => false
theorem all_split {L : List Jvm.Cond} {P : Jvm.Cond → Bool} (h1 : L.all (fun c => isCode c || P c) = true) (h2 : ∀ c ∈ L.filter isCode, P c = true) : L.all P = true := by
  refine List.all_eq_true.mpr fun c hc => ?_
  have h := List.all_eq_true.mp h1 c hc
  rcases Bool.eq_false_or_eq_true (isCode c) with hi | hi
  · exact h2 c (List.mem_filter.mpr ⟨hc, hi⟩)
  · simpa [hi] using h
set_option maxRecDepth 65536 in
theorem w_c0 : (Jvm.Cond.code x code maxLocals ret).before args0 about1 = true := code_word (m := ⟨1, 1⟩) (meth := k1m1) (c := k1c1) (by decide +kernel) rfl rfl rfl (by decide +kernel)
set_option maxRecDepth 65536 in
theorem w_c1 : (Jvm.Cond.code ({ cls := "com/example/ferrule/ferrule/io/PickleTag", name := "of", desc := "(I)Lcom/example/ferrule/ferrule/io/PickleTag;" } : Jvm.MethodName) prog_39_method_4_code (2 : Nat) (Option.some (Jvm.ClassFile.FieldType.object "com/example/ferrule/ferrule/io/PickleTag"))).before args0 about1 = true := code_word (m := ⟨6, 0⟩) (meth := k6m0) (c := k6c0) (by decide +kernel) rfl rfl rfl (by decide +kernel)
set_option maxRecDepth 65536 in
theorem w_c2 : (Jvm.Cond.code ({ cls := "com/example/ferrule/ferrule/io/PickleTag", name := "code", desc := "()I" } : Jvm.MethodName) prog_39_method_5_code (1 : Nat) (Option.some Jvm.ClassFile.FieldType.int)).before args0 about1 = true := code_word (m := ⟨6, 1⟩) (meth := k6m1) (c := k6c1) (by decide +kernel) rfl rfl rfl (by decide +kernel)
def codes1 : List Jvm.Cond := [Jvm.Cond.code x code maxLocals ret, Jvm.Cond.code ({ cls := "com/example/ferrule/ferrule/io/PickleTag", name := "of", desc := "(I)Lcom/example/ferrule/ferrule/io/PickleTag;" } : Jvm.MethodName) prog_39_method_4_code (2 : Nat) (Option.some (Jvm.ClassFile.FieldType.object "com/example/ferrule/ferrule/io/PickleTag")), Jvm.Cond.code ({ cls := "com/example/ferrule/ferrule/io/PickleTag", name := "code", desc := "()I" } : Jvm.MethodName) prog_39_method_5_code (1 : Nat) (Option.some Jvm.ClassFile.FieldType.int)]
set_option maxRecDepth 65536 in
theorem codes_eq : words1.filter isCode = codes1 := rfl
theorem w_codes : ∀ c ∈ words1.filter isCode, c.before args0 about1 = true := by
  rw [codes_eq]
  intro c hc
  simp only [codes1, List.mem_cons, List.not_mem_nil, or_false] at hc
  rcases hc with rfl | rfl | rfl
  · exact w_c0
  · exact w_c1
  · exact w_c2
set_option maxRecDepth 65536 in
theorem w_t1 : (words1.take 24).all (fun c => isCode c || c.before args0 about1) = true := by decide +kernel
set_option maxRecDepth 65536 in
theorem w_t2 : (words1.drop 24).all (fun c => isCode c || c.before args0 about1) = true := by decide +kernel
theorem w_tables : (allAtoms (Jvm.Cond.code x code maxLocals ret :: tables_1)).before args0 about1 = true := by
  rw [allAtoms_all]
  show words1.all (fun c => c.before args0 about1) = true
  refine all_split ?_ w_codes
  rw [← List.take_append_drop 24 words1, List.all_append, w_t1, w_t2]
  rfl
set_option maxRecDepth 65536 in
theorem w_case : (Jvm.Cond.and given_1 narrow_1).before args0 about1 = true := by decide +kernel
theorem w_applies : (headSpec (Jvm.Cond.code x code maxLocals ret :: tables_1) room_1).applies x e0.platform about1 = true :=
  (Spec.applies_iff w_frames).mpr ⟨w_running, w_runnable, w_alone, w_named, w_hears, w_ripe, w_room, w_tables⟩
theorem atStart : AtStart classFile x code maxLocals ret World_1 tables_1 room_1 Calls_1 rest_1 Pre_1 launch0 p0 e0 about1 theMethod args0 below0 :=
  ⟨lists_1, trivial, launch0.admits_env _ _ _, launch0.least_env, fairChoices_fair.cas, fairChoices_fair.clock, w_frames, w_args, w_heap, w_applies, trivial, trivial, w_case⟩
end start1
theorem witness_1 : WitnessClaimed_1 := ⟨start1.p0, start1.e0, start1.about1, start1.theMethod, start1.args0, start1.below0, start1.atStart⟩
end Jvm.Pilot.@@N@@
