import JvmDerived
import JvmDerived.Pilot.@@N@@Statement
import JvmDerived.Pilot.@@N@@Code
set_option linter.unusedVariables false
set_option linter.unusedSimpArgs false
namespace Jvm.RoadKit
open Sem ClassFile Op Lib Jvm.Stand Jvm.Free Jvm.LawKit
section New
variable {p : Program} {l : Launch} {e : Env} {R : Room} {s : State} {m : MethodId} {args : Array Value} {below : List Frame} {meth : Method} {c : Code} {T : State} {locs : List Loc} {cells slots : Nat}
theorem retI (X : Stand p l e R s m args below meth c T locs cells slots) (hx : p.tables.exec = Jvm.exec) {pc : Nat} {Ls : Array Slot} {z : Int32} {rest : List Value} (hret : meth.sig.returnType = some .int) (hd : decode c.code pc = .ok (.ireturn, 1)) {fs : List Frame}
    (hl : ∀ (f : JFrame) (acts : List Action), f.method = m → f.locked = none → f.entered = [] → (doReturn e (T.setTop f) acts (some (.int z))).1 = T.setFrames fs) : Steps p.tables e below (T.setTop (mkF m pc Ls (.int z :: rest))) (T.setFrames fs) := by
  have hm' : T.vm.method? m = some meth := X.method'
  have hn : narrow .int (.int z) = .int z := rfl
  show Steps p.tables e below (T.setTop { method := m, pc := pc, locals := Ls, stack := _ :: rest, locked := none }) _
  jvm_step X.here [X.here.top, hx, hd, hm', hret, hn]
  first | (intro acts; rw [hl _ acts rfl rfl rfl]) | rw [hl _ _ rfl rfl rfl]
  exact Steps.refl _
end New
end Jvm.RoadKit
namespace Jvm.Pilot.@@N@@
open Jvm Jvm.ClassFile Sem Op Lib Jvm.Free Jvm.Stand Jvm.LawKit Jvm.RoadKit Bundle Jvm.Pilot.@@N@@.Jvm.D
theorem own_set {Z : State} {h h' : Heap} {a : Addr} {k : ClassId} {ty : FieldType} {z j : Int32} {vs : List Value} {dv v : Value} {c : Cell} (A : Arr Z h a c ty) (q1 : c.cls = k) (S : c.slots.size = z.toNatClampNeg) (q3 : ¬ z < 0) (H : Has c vs dv) (G : ∀ i, i < c.slots.size → fits ty (vs.getD i dv) = true) (hv : fits ty v = true) (W : Wr h h' a j.toNatClampNeg v) (i : Nat) (hj : j.toNatClampNeg = i) (hi : i < vs.length) (v' : Value) (e1 : v = v') (vs' : List Value) (e2 : vs.set i v' = vs') : Arv Z h' a k ty z vs' dv := by
  subst e1; subst e2; exact Arv.set A q1 S q3 H G hv W i hj hi
theorem own_pad {Z : State} {h : Heap} {a : Addr} {k : ClassId} {ty : FieldType} {z : Int32} {dv : Value} (F : Arv Z h a k ty z [] dv) (n : Nat) (vs : List Value) (e : vs = List.replicate n dv) : Arv Z h a k ty z vs dv := e ▸ F.pad (pad_rep [] dv n)
theorem own_irr32 (x : Int32) : ¬ x < x := Int32.lt_irrefl
theorem own_irr64 (x : Int64) : ¬ x < x := Int64.lt_irrefl
theorem own_fldI {args : Array Value} {s : State} {t : Term} {C n d : String} {x : Addr} {k : Int32} (ht : t.eval args s none [] s = some (.ref x)) (h : (Cond.eq (Term.field t C n d) (Term.int k)).value args s none s [] = some true) : Fld s s.heap x C n d (.int k) := Fld.start ((fld_at ht).symm.trans (eqv_i (Term.int_eval k) h))
theorem own_fldJ {args : Array Value} {s : State} {t : Term} {C n d : String} {x : Addr} {k : Int64} (ht : t.eval args s none [] s = some (.ref x)) (h : (Cond.eq (Term.field t C n d) (Term.long k)).value args s none s [] = some true) : Fld s s.heap x C n d (.long k) := Fld.start ((fld_at ht).symm.trans (eqv_l (long_at k) h))
theorem own_len {args : Array Value} {s : State} {t : Term} {x : Addr} {cl : Cell} {ty : FieldType} {k : Int32} (ht : t.eval args s none [] s = some (.ref x)) (A : Arr s s.heap x cl ty) (h : (Cond.eq (Term.length t) (Term.int k)).value args s none s [] = some true) : cl.slots.size.toInt32 = k ∧ cl.slots.size < 2 ^ 31 := by
  have e := eqv_i (Term.int_eval k) h
  have ha := A.fin (Vm.Alike.refl _)
  by_cases q : cl.slots.size < 2 ^ 31
  · have e2 := (len_f ht ha q).symm.trans e
    exact ⟨Value.int.inj (Option.some.inj e2), q⟩
  · simp [Term.eval, ht, ha, q] at e
theorem own_elem {args : Array Value} {s : State} {t u : Term} {x : Addr} {cl : Cell} {ty : FieldType} {k : Int32} {v : Value} (ht : t.eval args s none [] s = some (.ref x)) (A : Arr s s.heap x cl ty) (hu : u.eval args s none [] s = some v) (hv : v.isRef = true) (h : (Cond.eq (Term.elem t (Term.int k)) u).value args s none s [] = some true) : cl.slots[k.toNatClampNeg]? = some v := by
  obtain ⟨a, b, h1, h2, h3, h4⟩ := cmp_v (Or.inl h)
  have hb := Option.some.inj (h2.symm.trans hu)
  subst hb
  obtain ⟨c', e1, e2, e3⟩ := elem_at h1 ht (Term.int_eval k)
  have ec := Option.some.inj (e1.symm.trans A.1)
  subst ec
  have ha : a.isRef = true := by
    rcases ref_cases hv with rfl | ⟨y, rfl⟩
    · exact h4.2
    · exact h4.2
  rw [e3, gotT (eq_R h1 h2 ha hv) h]
def own_KL (h h' : Heap) (ls : List Loc) : Prop := h.size ≤ h'.size ∧ ∀ (x : Addr) (c : Cell), h[x]? = some c → ∃ c' : Cell, h'[x]? = some c' ∧ c'.cls = c.cls ∧ c'.vm = c.vm ∧ c'.slots.size = c.slots.size ∧ ((∀ y ∈ ls, y.base ≠ x) → c' = c) ∧ ∀ i, (⟨x, i⟩ : Loc) ∉ ls → c'.slots[i]? = c.slots[i]?
section OwnKL
variable {Z : State} {h0 h h' : Heap} {ls ls' : List Loc} {a b x : Addr} {i j sl n0 : Nat} {v : Value} {C n d : String}
theorem own_kl0 (h : Heap) (ls : List Loc) : own_KL h h ls := ⟨Nat.le_refl _, fun x c q => ⟨c, q, rfl, rfl, rfl, fun _ => rfl, fun _ _ => rfl⟩⟩
theorem own_klE (K : own_KL h0 h ls) (E : Ext h h') : own_KL h0 h' ls := ⟨Nat.le_trans K.1 E.1, fun x c q => by obtain ⟨c', q', r⟩ := K.2 x c q; exact ⟨c', E.2 x c' q', r⟩⟩
theorem own_klT (K : own_KL h0 h ls) (K' : own_KL h h' ls') (q : ∀ y ∈ ls', y ∈ ls ∨ h0.size ≤ y.base) : own_KL h0 h' ls := by
  refine ⟨Nat.le_trans K.1 K'.1, fun x c hc => ?_⟩
  obtain ⟨c1, a1, a2, a3, a4, a5, a6⟩ := K.2 x c hc
  obtain ⟨c2, b1, b2, b3, b4, b5, b6⟩ := K'.2 x c1 a1
  have hx : x < h0.size := (Array.getElem?_eq_some_iff.mp hc).1
  refine ⟨c2, b1, b2.trans a2, b3.trans a3, b4.trans a4, fun hn => ?_, fun i hi => ?_⟩
  · rw [← a5 hn]; exact b5 fun y hy e => (q y hy).elim (fun z => hn y z e) (fun z => absurd hx (Nat.not_lt.mpr (e ▸ z)))
  · rw [← a6 i hi]; exact b6 i fun z => (q _ z).elim hi (fun u => absurd hx (Nat.not_lt.mpr u))
theorem own_klofW (W : Wr h h' a sl v) : own_KL h h' [⟨a, sl⟩] := by
  refine ⟨Nat.le_of_eq W.size.symm, fun x c hc => ?_⟩
  obtain ⟨c', e1, e2, e3, e4, e5, e6, -⟩ := wr_at W hc
  refine ⟨c', e1, e2, e3, e4, fun hn => e5 fun q => hn _ (List.mem_singleton.mpr rfl) q.symm, fun i hi => ?_⟩
  by_cases q : x = a
  · exact e6 i fun r => hi (by rw [q, r]; exact List.mem_singleton.mpr rfl)
  · rw [e5 q]
theorem own_klW (K : own_KL h0 h ls) (W : Wr h h' a sl v) (q : (⟨a, sl⟩ : Loc) ∈ ls ∨ h0.size ≤ a) : own_KL h0 h' ls := own_klT K (own_klofW W) fun y hy => by cases List.mem_singleton.mp hy; exact q
theorem own_ka0 : ∀ y ∈ ([] : List Loc), y ∈ ls ∨ n0 ≤ y.base := fun _ q => nomatch q
theorem own_kac (q : (⟨a, sl⟩ : Loc) ∈ ls ∨ n0 ≤ a) (r : ∀ y ∈ ls', y ∈ ls ∨ n0 ≤ y.base) : ∀ y ∈ (⟨a, sl⟩ : Loc) :: ls', y ∈ ls ∨ n0 ≤ y.base := fun y z => (List.mem_cons.mp z).elim (fun u => u ▸ q) (r y)
theorem own_ng0 : ∀ y ∈ ([] : List Loc), n0 ≤ y.base := fun _ q => nomatch q
theorem own_ngc (q : n0 ≤ a) (r : ∀ y ∈ ls', n0 ≤ y.base) : ∀ y ∈ (⟨a, sl⟩ : Loc) :: ls', n0 ≤ y.base := fun y z => (List.mem_cons.mp z).elim (fun u => u ▸ q) (r y)
theorem own_nb0 : ∀ y ∈ ([] : List Loc), y.base ≠ a := fun _ q => nomatch q
theorem own_nbc (q : b ≠ a) (r : ∀ y ∈ ls', y.base ≠ a) : ∀ y ∈ (⟨b, sl⟩ : Loc) :: ls', y.base ≠ a := fun y z => (List.mem_cons.mp z).elim (fun u => u ▸ q) (r y)
theorem own_nl0 : (⟨a, i⟩ : Loc) ∉ ([] : List Loc) := fun q => nomatch q
theorem own_nlb (q : a ≠ b) (r : (⟨a, i⟩ : Loc) ∉ ls) : (⟨a, i⟩ : Loc) ∉ (⟨b, j⟩ : Loc) :: ls := fun z => (List.mem_cons.mp z).elim (fun u => q (congrArg Loc.base u)) r
theorem own_nls (q : i ≠ j) (r : (⟨a, i⟩ : Loc) ∉ ls) : (⟨a, i⟩ : Loc) ∉ (⟨b, j⟩ : Loc) :: ls := fun z => (List.mem_cons.mp z).elim (fun u => q (congrArg Loc.slot u)) r
theorem own_exa (F : Exa Z h a C) (K : own_KL h h' ls) : Exa Z h' a C := by
  obtain ⟨cell, k, h1, h2, h3, h4, h5⟩ := F
  obtain ⟨c', e1, e2, e3, e4, -⟩ := K.2 _ _ h1
  exact ⟨c', k, e1, by rw [e2]; exact h2, by rw [e2]; exact h3, by rw [e3]; exact h4, by rw [e4]; exact h5⟩
theorem own_fld (F : Fld Z h a C n d v) (K : own_KL h h' ls) (q : (⟨a, Jvm.RoadKit.slotOf Z C n d⟩ : Loc) ∉ ls) : Fld Z h' a C n d v := by
  obtain ⟨cell, cf, k, i, f, h1, h2, h3, h4, h5, h6, h7⟩ := F
  obtain ⟨c', e1, e2, e3, e4, -, e6⟩ := K.2 _ _ h1
  refine ⟨c', cf, k, i, f, e1, h2, h3, by rw [e3]; exact h4, by rw [e3]; exact h5, by rw [e2]; exact h6, ?_⟩
  rw [e6 _ (by simpa [Jvm.RoadKit.slotOf, h2] using q)]; exact h7
theorem own_arv {k : ClassId} {ty : FieldType} {z : Int32} {vs : List Value} {dv : Value} (F : Arv Z h a k ty z vs dv) (K : own_KL h h' ls) (q : ∀ y ∈ ls, y.base ≠ a) : Arv Z h' a k ty z vs dv := by
  obtain ⟨c, A, r⟩ := F
  obtain ⟨c', e1, -, -, -, e5, -⟩ := K.2 _ _ A.1
  cases e5 q
  exact ⟨c, ⟨e1, A.2⟩, r⟩
theorem own_old (O : Old Z n0 h) (K : own_KL h h' ls) (q : ∀ y ∈ ls, n0 ≤ y.base) : Old Z n0 h' := ⟨O.1, Nat.le_trans O.2.1 K.1, fun x c r => by
  obtain ⟨c', e1, -, -, -, e5, -⟩ := K.2 x c (O.2.2 x c r)
  have hx : x < n0 := O.1 ▸ (Array.getElem?_eq_some_iff.mp r).1
  rw [e1, e5 fun y hy e => absurd hx (Nat.not_lt.mpr (e ▸ q y hy))]⟩
end OwnKL
theorem own_NSroot {Z : State} {a0 : Array Value} {O K : String} {n : Nat} (w : (Cond.noSuperclass O).before a0 Z = true) (wk : (Cond.instantiable K n).before a0 Z = true) (hn : O ≠ K) : NS Z O K := by
  obtain ⟨c, k, h1, h2, h3, -, -⟩ := Cond.noSuperclass_spec w
  obtain ⟨t, -, g1, -⟩ := Cond.instantiable_spec wk
  have ne := ids_ne h1 g1 hn
  refine ⟨c, t, h1, g1, fun fuel => ?_⟩
  cases fuel with
  | zero => rfl
  | succ f => simp [Vm.isSubclassAux, ne, h2, h3]
theorem own_NSno {Z : State} {a0 : Array Value} {C S K : String} {n : Nat} (w : (Cond.superclass C S).before a0 Z = true) (wk : (Cond.instantiable K n).before a0 Z = true) (u : NS Z C K) (hn : C ≠ K) : ∃ c t, Z.vm.findClass C = some c ∧ Z.vm.findClass K = some t ∧ Z.vm.assignable c t = false := by
  obtain ⟨c, t, h0, g0, n3⟩ := u
  obtain ⟨p, k, kp, h1, h2, h3, h4, h5, -, h7⟩ := Cond.superclass_spec h0 w
  obtain ⟨t', k', g1, g2, g5, g7, -⟩ := Cond.instantiable_spec wk
  cases g0.symm.trans g1
  have ne := ids_ne h0 g0 hn
  have g8 : k'.isInterface = false := by cases hI : k'.isInterface <;> simp [hI] at g7 ⊢
  refine ⟨c, t, h0, g0, ?_⟩
  show Z.vm.assignableAux (255 + 1) c t = false
  simp [Vm.assignableAux, ne, h2, g2, h5, g5, g8, Vm.isSubclass, n3]
theorem own_boxI {Z : State} {args : Array Value} {t : Term} {a : Addr} {c : Cell} {K : String} {z : Int32} (et : ∀ idx, t.eval args Z none idx Z = some (.ref a)) (A : Arr Z Z.heap a c (.object K)) (q : c.slots.size.toInt32 = z ∧ c.slots.size < 2 ^ 31) (hz : ¬ z < 0)
    (h : (Cond.all t (.and (.exactly (.elem t (.index 0)) K) (.eq (.field (.elem t (.index 0)) K "value" "I") (.sub (.index 0) (.int 128))))).value args Z none Z [] = some true) : Bxs Z a c K "I" z (fun j => .int (j - 128)) :=
  Bxs.start et A q.2 q.1 hz h fun X j nn hh => eqv_i (by simp [Term.eval, idx_at nn, (back32 nn).1]) hh
theorem own_boxJ {Z : State} {args : Array Value} {t : Term} {a : Addr} {c : Cell} {K : String} {z : Int32} (et : ∀ idx, t.eval args Z none idx Z = some (.ref a)) (A : Arr Z Z.heap a c (.object K)) (q : c.slots.size.toInt32 = z ∧ c.slots.size < 2 ^ 31) (hz : ¬ z < 0)
    (h : (Cond.all t (.and (.exactly (.elem t (.index 0)) K) (.eq (.field (.elem t (.index 0)) K "value" "J") (.op1 .i2l (.sub (.index 0) (.int 128)))))).value args Z none Z [] = some true) : Bxs Z a c K "J" z (fun j => .long (j - 128).toInt64) :=
  Bxs.start et A q.2 q.1 hz h fun X j nn hh => eqv_l (i2l_at (by simp [Term.eval, idx_at nn, (back32 nn).1])) hh
theorem own_staI {s : State} {args : Array Value} {C n d : String} {k : Int32} (h : (Cond.eq (Term.static C n d) (Term.int k)).value args s none s [] = some true) : (Term.static C n d).eval args s none [] s = some (.int k) := eqv_i (Term.int_eval k) h
theorem own_selp {Z : State} {a0 : Array Value} {y : MethodName} {n : Nat} (wi : (Cond.instantiable y.cls n).before a0 Z = true) (wp : (Cond.privateMethod y).before a0 Z = true) (wm : (Cond.instanceMethod y).before a0 Z = true) (hy : y.cls ≠ "java/lang/invoke/MethodHandle" ∧ y.cls ≠ "java/lang/invoke/VarHandle") : (Cond.selects y.cls y y).before a0 Z = true := by
  obtain ⟨c, k, h1, h2, -, h4, -⟩ := Cond.instantiable_spec wi
  exact selects_self_of_private h1 h2 (by cases hI : k.isInterface <;> simp [hI] at h4 ⊢) (Cond.privateMethod_at wp) wm hy
def own_Gk (Z : State) (h : Heap) (a : Addr) (k : ClassId) (ty : FieldType) (n j : Int32) (v : Value) : Prop := ∃ c : Cell, Arr Z h a c ty ∧ c.cls = k ∧ c.slots.size = n.toNatClampNeg ∧ ¬ n < 0 ∧ c.slots[j.toNatClampNeg]? = some v
section OwnGk
variable {Z : State} {h h' : Heap} {ls : List Loc} {a b : Addr} {k : ClassId} {ty : FieldType} {n j : Int32} {v u : Value} {sl : Nat}
theorem own_Gk.lt (F : own_Gk Z h a k ty n j v) : a < h.size := by obtain ⟨c, A, -⟩ := F; exact A.lt
theorem own_gk_ext (F : own_Gk Z h a k ty n j v) (E : Ext h h') : own_Gk Z h' a k ty n j v := by obtain ⟨c, A, r⟩ := F; exact ⟨c, A.ext E, r⟩
theorem own_gk_oth (F : own_Gk Z h a k ty n j v) (W : Wr h h' b sl u) (q : a ≠ b) : own_Gk Z h' a k ty n j v := by obtain ⟨c, A, r⟩ := F; exact ⟨c, A.other W q, r⟩
theorem own_gk_kl (F : own_Gk Z h a k ty n j v) (K : own_KL h h' ls) (q : ∀ y ∈ ls, y.base ≠ a) : own_Gk Z h' a k ty n j v := by
  obtain ⟨c, A, r⟩ := F
  obtain ⟨c', e1, -, -, -, e5, -⟩ := K.2 _ _ A.1
  cases e5 q
  exact ⟨c, ⟨e1, A.2⟩, r⟩
theorem own_gk_set {c : Cell} (A : Arr Z h a c ty) (q1 : c.cls = k) (S : c.slots.size = n.toNatClampNeg) (N : ¬ n < 0) (W : Wr h h' a j.toNatClampNeg v) : own_Gk Z h' a k ty n j v := by
  obtain ⟨c', e1, e2, e3, e4, -, -, e7⟩ := wr_at W A.1
  have e8 := (e7 rfl).1
  exact ⟨_, A.same W, q1, by rw [sz_set]; exact S, N, by rw [← e8]; exact (e7 rfl).2.1⟩
end OwnGk
section OwnSteps
variable {p : Program} {l : Launch} {e : Env} {R : Room} {s : State} {m : MethodId} {args : Array Value} {below : List Frame} {meth : Method} {c : Code} {T target : State} {locs : List Loc} {cells slots : Nat} {code : ByteArray} {pc : Nat} {Ls : Array Slot} {K : List Value}
theorem sc (X : Stand p l e R s m args below meth c T locs cells slots) (hx : p.tables.exec = Jvm.exec) (hby : c.code = code) {i : Int} (hd : decode code pc = .ok (.iconst i, 1)) (hr : Steps p.tables e below (T.setTop (mkF m (pc + 1) Ls (.int (Int32.ofInt i) :: K))) target) : Steps p.tables e below (T.setTop (mkF m pc Ls K)) target := XS.iconst X.here hx rfl (hb hby hd) hr
theorem sa (X : Stand p l e R s m args below meth c T locs cells slots) (hx : p.tables.exec = Jvm.exec) (hby : c.code = code) {k : Nat} {v : Value} (hd : decode code pc = .ok (.aload k, 2)) (hl : Ls[k]? = some (.val v)) (hv : v.isRef = true) (hr : Steps p.tables e below (T.setTop (mkF m (pc + 2) Ls (v :: K))) target) : Steps p.tables e below (T.setTop (mkF m pc Ls K)) target := XS.aload X.here hx rfl (hb hby hd) hl hv hr
theorem sA (X : Stand p l e R s m args below meth c T locs cells slots) (hx : p.tables.exec = Jvm.exec) (hby : c.code = code) {k : Fin 4} {v : Value} (hd : decode code pc = .ok (.aload_n k, 1)) (hl : Ls[k.val]? = some (.val v)) (hv : v.isRef = true) (hr : Steps p.tables e below (T.setTop (mkF m (pc + 1) Ls (v :: K))) target) : Steps p.tables e below (T.setTop (mkF m pc Ls K)) target := XS.aloadN X.here hx rfl (hb hby hd) hl hv hr
theorem si (X : Stand p l e R s m args below meth c T locs cells slots) (hx : p.tables.exec = Jvm.exec) (hby : c.code = code) {k : Nat} {v : Int32} (hd : decode code pc = .ok (.iload k, 2)) (hl : Ls[k]? = some (.val (.int v))) (hr : Steps p.tables e below (T.setTop (mkF m (pc + 2) Ls (.int v :: K))) target) : Steps p.tables e below (T.setTop (mkF m pc Ls K)) target := XS.iload X.here hx rfl (hb hby hd) hl hr
theorem sI (X : Stand p l e R s m args below meth c T locs cells slots) (hx : p.tables.exec = Jvm.exec) (hby : c.code = code) {k : Fin 4} {v : Int32} (hd : decode code pc = .ok (.iload_n k, 1)) (hl : Ls[k.val]? = some (.val (.int v))) (hr : Steps p.tables e below (T.setTop (mkF m (pc + 1) Ls (.int v :: K))) target) : Steps p.tables e below (T.setTop (mkF m pc Ls K)) target := XS.iloadN X.here hx rfl (hb hby hd) hl hr
theorem sL (X : Stand p l e R s m args below meth c T locs cells slots) (hx : p.tables.exec = Jvm.exec) (hby : c.code = code) {k : Fin 4} {v : Int64} (hd : decode code pc = .ok (.lload_n k, 1)) (hl : Ls[k.val]? = some (.val (.long v))) (hr : Steps p.tables e below (T.setTop (mkF m (pc + 1) Ls (.long v :: K))) target) : Steps p.tables e below (T.setTop (mkF m pc Ls K)) target := XS.lloadN X.here hx rfl (hb hby hd) hl hr
theorem sg (X : Stand p l e R s m args below meth c T locs cells slots) (hx : p.tables.exec = Jvm.exec) (hby : c.code = code) {o : Int} {pc' : Nat} (hd : decode code pc = .ok (.goto o, 3)) (ho : 0 ≤ (pc : Int) + o) (hp : ((pc : Int) + o).toNat = pc') (hr : Steps p.tables e below (T.setTop (mkF m pc' Ls K)) target) : Steps p.tables e below (T.setTop (mkF m pc Ls K)) target := XS.goto X.here hx rfl rfl (hb hby hd) ho hp hr
theorem sn (X : Stand p l e R s m args below meth c T locs cells slots) (hx : p.tables.exec = Jvm.exec) (hby : c.code = code) {cd : ClassFile.Cond} {o : Int} {x y : Int32} (hd : decode code pc = .ok (.if_icmp cd o, 3)) (hc : if_icmp.holds cd x y = false) (hr : Steps p.tables e below (T.setTop (mkF m (pc + 3) Ls K)) target) : Steps p.tables e below (T.setTop (mkF m pc Ls (.int y :: .int x :: K))) target := XS.icmpNo X.here hx rfl (hb hby hd) rfl hc hr
theorem sN (X : Stand p l e R s m args below meth c T locs cells slots) (hx : p.tables.exec = Jvm.exec) (hby : c.code = code) {cd : ClassFile.Cond} {o : Int} {x : Int32} (hd : decode code pc = .ok (.ifCond cd o, 3)) (hc : ifCond.holds cd x = false) (hr : Steps p.tables e below (T.setTop (mkF m (pc + 3) Ls K)) target) : Steps p.tables e below (T.setTop (mkF m pc Ls (.int x :: K))) target := XS.ifNo X.here hx rfl (hb hby hd) rfl hc hr
end OwnSteps

theorem own_rem19 (x : Int32) : (x &&& 2147483647) % 19 = 0 ∨ (x &&& 2147483647) % 19 = 1 ∨ (x &&& 2147483647) % 19 = 2 ∨ (x &&& 2147483647) % 19 = 3 ∨ (x &&& 2147483647) % 19 = 4 ∨ (x &&& 2147483647) % 19 = 5 ∨ (x &&& 2147483647) % 19 = 6 ∨ (x &&& 2147483647) % 19 = 7 ∨ (x &&& 2147483647) % 19 = 8 ∨ (x &&& 2147483647) % 19 = 9 ∨ (x &&& 2147483647) % 19 = 10 ∨ (x &&& 2147483647) % 19 = 11 ∨ (x &&& 2147483647) % 19 = 12 ∨ (x &&& 2147483647) % 19 = 13 ∨ (x &&& 2147483647) % 19 = 14 ∨ (x &&& 2147483647) % 19 = 15 ∨ (x &&& 2147483647) % 19 = 16 ∨ (x &&& 2147483647) % 19 = 17 ∨ (x &&& 2147483647) % 19 = 18 := by
  have h : (x &&& 2147483647).toInt = x.toInt % 2147483648 := c_mask x 2147483647 31 (by decide) (by decide)
  have h2 : ((x &&& 2147483647) % 19).toInt = (x &&& 2147483647).toInt % 19 := by
    rw [Int32.toInt_mod, Int.tmod_eq_emod_of_nonneg (by rw [h]; omega)]; rfl
  have hr : ((x &&& 2147483647) % 19).toInt = 0 ∨ ((x &&& 2147483647) % 19).toInt = 1 ∨ ((x &&& 2147483647) % 19).toInt = 2 ∨ ((x &&& 2147483647) % 19).toInt = 3 ∨ ((x &&& 2147483647) % 19).toInt = 4 ∨ ((x &&& 2147483647) % 19).toInt = 5 ∨ ((x &&& 2147483647) % 19).toInt = 6 ∨ ((x &&& 2147483647) % 19).toInt = 7 ∨ ((x &&& 2147483647) % 19).toInt = 8 ∨ ((x &&& 2147483647) % 19).toInt = 9 ∨ ((x &&& 2147483647) % 19).toInt = 10 ∨ ((x &&& 2147483647) % 19).toInt = 11 ∨ ((x &&& 2147483647) % 19).toInt = 12 ∨ ((x &&& 2147483647) % 19).toInt = 13 ∨ ((x &&& 2147483647) % 19).toInt = 14 ∨ ((x &&& 2147483647) % 19).toInt = 15 ∨ ((x &&& 2147483647) % 19).toInt = 16 ∨ ((x &&& 2147483647) % 19).toInt = 17 ∨ ((x &&& 2147483647) % 19).toInt = 18 := by omega
  rcases hr with q | q | q | q | q | q | q | q | q | q | q | q | q | q | q | q | q | q | q
  · exact Or.inl (Int32.toInt_inj.mp q)
  · exact Or.inr (Or.inl (Int32.toInt_inj.mp q))
  · exact Or.inr (Or.inr (Or.inl (Int32.toInt_inj.mp q)))
  · exact Or.inr (Or.inr (Or.inr (Or.inl (Int32.toInt_inj.mp q))))
  · exact Or.inr (Or.inr (Or.inr (Or.inr (Or.inl (Int32.toInt_inj.mp q)))))
  · exact Or.inr (Or.inr (Or.inr (Or.inr (Or.inr (Or.inl (Int32.toInt_inj.mp q))))))
  · exact Or.inr (Or.inr (Or.inr (Or.inr (Or.inr (Or.inr (Or.inl (Int32.toInt_inj.mp q)))))))
  · exact Or.inr (Or.inr (Or.inr (Or.inr (Or.inr (Or.inr (Or.inr (Or.inl (Int32.toInt_inj.mp q))))))))
  · exact Or.inr (Or.inr (Or.inr (Or.inr (Or.inr (Or.inr (Or.inr (Or.inr (Or.inl (Int32.toInt_inj.mp q)))))))))
  · exact Or.inr (Or.inr (Or.inr (Or.inr (Or.inr (Or.inr (Or.inr (Or.inr (Or.inr (Or.inl (Int32.toInt_inj.mp q))))))))))
  · exact Or.inr (Or.inr (Or.inr (Or.inr (Or.inr (Or.inr (Or.inr (Or.inr (Or.inr (Or.inr (Or.inl (Int32.toInt_inj.mp q)))))))))))
  · exact Or.inr (Or.inr (Or.inr (Or.inr (Or.inr (Or.inr (Or.inr (Or.inr (Or.inr (Or.inr (Or.inr (Or.inl (Int32.toInt_inj.mp q))))))))))))
  · exact Or.inr (Or.inr (Or.inr (Or.inr (Or.inr (Or.inr (Or.inr (Or.inr (Or.inr (Or.inr (Or.inr (Or.inr (Or.inl (Int32.toInt_inj.mp q)))))))))))))
  · exact Or.inr (Or.inr (Or.inr (Or.inr (Or.inr (Or.inr (Or.inr (Or.inr (Or.inr (Or.inr (Or.inr (Or.inr (Or.inr (Or.inl (Int32.toInt_inj.mp q))))))))))))))
  · exact Or.inr (Or.inr (Or.inr (Or.inr (Or.inr (Or.inr (Or.inr (Or.inr (Or.inr (Or.inr (Or.inr (Or.inr (Or.inr (Or.inr (Or.inl (Int32.toInt_inj.mp q)))))))))))))))
  · exact Or.inr (Or.inr (Or.inr (Or.inr (Or.inr (Or.inr (Or.inr (Or.inr (Or.inr (Or.inr (Or.inr (Or.inr (Or.inr (Or.inr (Or.inr (Or.inl (Int32.toInt_inj.mp q))))))))))))))))
  · exact Or.inr (Or.inr (Or.inr (Or.inr (Or.inr (Or.inr (Or.inr (Or.inr (Or.inr (Or.inr (Or.inr (Or.inr (Or.inr (Or.inr (Or.inr (Or.inr (Or.inl (Int32.toInt_inj.mp q)))))))))))))))))
  · exact Or.inr (Or.inr (Or.inr (Or.inr (Or.inr (Or.inr (Or.inr (Or.inr (Or.inr (Or.inr (Or.inr (Or.inr (Or.inr (Or.inr (Or.inr (Or.inr (Or.inr (Or.inl (Int32.toInt_inj.mp q))))))))))))))))))
  · exact Or.inr (Or.inr (Or.inr (Or.inr (Or.inr (Or.inr (Or.inr (Or.inr (Or.inr (Or.inr (Or.inr (Or.inr (Or.inr (Or.inr (Or.inr (Or.inr (Or.inr (Or.inr (Int32.toInt_inj.mp q))))))))))))))))))
abbrev ym0 : MethodName := ⟨"com/example/ferrule/ferrule/io/TypeCode", "code", "()I"⟩
abbrev ym1 : MethodName := ⟨"com/example/ferrule/ferrule/io/TypeCode", "isMember", "()Z"⟩
theorem wk0 {Z : State} {a0 : Array Value} (hw : ∀ d ∈ tables_1, d.before a0 Z = true) : (Jvm.Cond.classLink "com/example/ferrule/ferrule/io/TypeCodeIsMemberPinLaw" (7 : Nat) "com/example/ferrule/ferrule/io/TypeCode").before a0 Z = true := hw _ (List.mem_of_getElem? (i := 0) rfl)
theorem wk1 {Z : State} {a0 : Array Value} (hw : ∀ d ∈ tables_1, d.before a0 Z = true) : (Jvm.Cond.arrayOver (Jvm.ClassFile.FieldType.object "com/example/ferrule/ferrule/io/TypeCode")).before a0 Z = true := hw _ (List.mem_of_getElem? (i := 1) rfl)
theorem wk2 {Z : State} {a0 : Array Value} (hw : ∀ d ∈ tables_1, d.before a0 Z = true) : (Jvm.Cond.fieldLink "com/example/ferrule/ferrule/io/TypeCodeIsMemberPinLaw" (9 : Nat) "com/example/ferrule/ferrule/io/TypeCode" "OBJECT" "Lcom/example/ferrule/ferrule/io/TypeCode;").before a0 Z = true := hw _ (List.mem_of_getElem? (i := 2) rfl)
theorem wk3 {Z : State} {a0 : Array Value} (hw : ∀ d ∈ tables_1, d.before a0 Z = true) : (Jvm.Cond.initialized "com/example/ferrule/ferrule/io/TypeCode").before a0 Z = true := hw _ (List.mem_of_getElem? (i := 3) rfl)
theorem wk4 {Z : State} {a0 : Array Value} (hw : ∀ d ∈ tables_1, d.before a0 Z = true) : (Jvm.Cond.laysStatic "com/example/ferrule/ferrule/io/TypeCode" "OBJECT" "Lcom/example/ferrule/ferrule/io/TypeCode;").before a0 Z = true := hw _ (List.mem_of_getElem? (i := 4) rfl)
theorem wk6 {Z : State} {a0 : Array Value} (hw : ∀ d ∈ tables_1, d.before a0 Z = true) : (Jvm.Cond.fieldLink "com/example/ferrule/ferrule/io/TypeCodeIsMemberPinLaw" (13 : Nat) "com/example/ferrule/ferrule/io/TypeCode" "MAP" "Lcom/example/ferrule/ferrule/io/TypeCode;").before a0 Z = true := hw _ (List.mem_of_getElem? (i := 6) rfl)
theorem wk7 {Z : State} {a0 : Array Value} (hw : ∀ d ∈ tables_1, d.before a0 Z = true) : (Jvm.Cond.laysStatic "com/example/ferrule/ferrule/io/TypeCode" "MAP" "Lcom/example/ferrule/ferrule/io/TypeCode;").before a0 Z = true := hw _ (List.mem_of_getElem? (i := 7) rfl)
theorem wk8 {Z : State} {a0 : Array Value} (hw : ∀ d ∈ tables_1, d.before a0 Z = true) : (Jvm.Cond.fieldLink "com/example/ferrule/ferrule/io/TypeCodeIsMemberPinLaw" (16 : Nat) "com/example/ferrule/ferrule/io/TypeCode" "MAPPING" "Lcom/example/ferrule/ferrule/io/TypeCode;").before a0 Z = true := hw _ (List.mem_of_getElem? (i := 8) rfl)
theorem wk9 {Z : State} {a0 : Array Value} (hw : ∀ d ∈ tables_1, d.before a0 Z = true) : (Jvm.Cond.laysStatic "com/example/ferrule/ferrule/io/TypeCode" "MAPPING" "Lcom/example/ferrule/ferrule/io/TypeCode;").before a0 Z = true := hw _ (List.mem_of_getElem? (i := 9) rfl)
theorem wk10 {Z : State} {a0 : Array Value} (hw : ∀ d ∈ tables_1, d.before a0 Z = true) : (Jvm.Cond.fieldLink "com/example/ferrule/ferrule/io/TypeCodeIsMemberPinLaw" (19 : Nat) "com/example/ferrule/ferrule/io/TypeCode" "LIST" "Lcom/example/ferrule/ferrule/io/TypeCode;").before a0 Z = true := hw _ (List.mem_of_getElem? (i := 10) rfl)
theorem wk11 {Z : State} {a0 : Array Value} (hw : ∀ d ∈ tables_1, d.before a0 Z = true) : (Jvm.Cond.laysStatic "com/example/ferrule/ferrule/io/TypeCode" "LIST" "Lcom/example/ferrule/ferrule/io/TypeCode;").before a0 Z = true := hw _ (List.mem_of_getElem? (i := 11) rfl)
theorem wk12 {Z : State} {a0 : Array Value} (hw : ∀ d ∈ tables_1, d.before a0 Z = true) : (Jvm.Cond.fieldLink "com/example/ferrule/ferrule/io/TypeCodeIsMemberPinLaw" (22 : Nat) "com/example/ferrule/ferrule/io/TypeCode" "LISTING" "Lcom/example/ferrule/ferrule/io/TypeCode;").before a0 Z = true := hw _ (List.mem_of_getElem? (i := 12) rfl)
theorem wk13 {Z : State} {a0 : Array Value} (hw : ∀ d ∈ tables_1, d.before a0 Z = true) : (Jvm.Cond.laysStatic "com/example/ferrule/ferrule/io/TypeCode" "LISTING" "Lcom/example/ferrule/ferrule/io/TypeCode;").before a0 Z = true := hw _ (List.mem_of_getElem? (i := 13) rfl)
theorem wk14 {Z : State} {a0 : Array Value} (hw : ∀ d ∈ tables_1, d.before a0 Z = true) : (Jvm.Cond.fieldLink "com/example/ferrule/ferrule/io/TypeCodeIsMemberPinLaw" (25 : Nat) "com/example/ferrule/ferrule/io/TypeCode" "SET" "Lcom/example/ferrule/ferrule/io/TypeCode;").before a0 Z = true := hw _ (List.mem_of_getElem? (i := 14) rfl)
theorem wk15 {Z : State} {a0 : Array Value} (hw : ∀ d ∈ tables_1, d.before a0 Z = true) : (Jvm.Cond.laysStatic "com/example/ferrule/ferrule/io/TypeCode" "SET" "Lcom/example/ferrule/ferrule/io/TypeCode;").before a0 Z = true := hw _ (List.mem_of_getElem? (i := 15) rfl)
theorem wk16 {Z : State} {a0 : Array Value} (hw : ∀ d ∈ tables_1, d.before a0 Z = true) : (Jvm.Cond.fieldLink "com/example/ferrule/ferrule/io/TypeCodeIsMemberPinLaw" (28 : Nat) "com/example/ferrule/ferrule/io/TypeCode" "DURATION" "Lcom/example/ferrule/ferrule/io/TypeCode;").before a0 Z = true := hw _ (List.mem_of_getElem? (i := 16) rfl)
theorem wk17 {Z : State} {a0 : Array Value} (hw : ∀ d ∈ tables_1, d.before a0 Z = true) : (Jvm.Cond.laysStatic "com/example/ferrule/ferrule/io/TypeCode" "DURATION" "Lcom/example/ferrule/ferrule/io/TypeCode;").before a0 Z = true := hw _ (List.mem_of_getElem? (i := 17) rfl)
theorem wk18 {Z : State} {a0 : Array Value} (hw : ∀ d ∈ tables_1, d.before a0 Z = true) : (Jvm.Cond.fieldLink "com/example/ferrule/ferrule/io/TypeCodeIsMemberPinLaw" (31 : Nat) "com/example/ferrule/ferrule/io/TypeCode" "DATA_SIZE" "Lcom/example/ferrule/ferrule/io/TypeCode;").before a0 Z = true := hw _ (List.mem_of_getElem? (i := 18) rfl)
theorem wk19 {Z : State} {a0 : Array Value} (hw : ∀ d ∈ tables_1, d.before a0 Z = true) : (Jvm.Cond.laysStatic "com/example/ferrule/ferrule/io/TypeCode" "DATA_SIZE" "Lcom/example/ferrule/ferrule/io/TypeCode;").before a0 Z = true := hw _ (List.mem_of_getElem? (i := 19) rfl)
theorem wk20 {Z : State} {a0 : Array Value} (hw : ∀ d ∈ tables_1, d.before a0 Z = true) : (Jvm.Cond.fieldLink "com/example/ferrule/ferrule/io/TypeCodeIsMemberPinLaw" (34 : Nat) "com/example/ferrule/ferrule/io/TypeCode" "PAIR" "Lcom/example/ferrule/ferrule/io/TypeCode;").before a0 Z = true := hw _ (List.mem_of_getElem? (i := 20) rfl)
theorem wk21 {Z : State} {a0 : Array Value} (hw : ∀ d ∈ tables_1, d.before a0 Z = true) : (Jvm.Cond.laysStatic "com/example/ferrule/ferrule/io/TypeCode" "PAIR" "Lcom/example/ferrule/ferrule/io/TypeCode;").before a0 Z = true := hw _ (List.mem_of_getElem? (i := 21) rfl)
theorem wk22 {Z : State} {a0 : Array Value} (hw : ∀ d ∈ tables_1, d.before a0 Z = true) : (Jvm.Cond.fieldLink "com/example/ferrule/ferrule/io/TypeCodeIsMemberPinLaw" (37 : Nat) "com/example/ferrule/ferrule/io/TypeCode" "INT_SEQ" "Lcom/example/ferrule/ferrule/io/TypeCode;").before a0 Z = true := hw _ (List.mem_of_getElem? (i := 22) rfl)
theorem wk23 {Z : State} {a0 : Array Value} (hw : ∀ d ∈ tables_1, d.before a0 Z = true) : (Jvm.Cond.laysStatic "com/example/ferrule/ferrule/io/TypeCode" "INT_SEQ" "Lcom/example/ferrule/ferrule/io/TypeCode;").before a0 Z = true := hw _ (List.mem_of_getElem? (i := 23) rfl)
theorem wk24 {Z : State} {a0 : Array Value} (hw : ∀ d ∈ tables_1, d.before a0 Z = true) : (Jvm.Cond.fieldLink "com/example/ferrule/ferrule/io/TypeCodeIsMemberPinLaw" (40 : Nat) "com/example/ferrule/ferrule/io/TypeCode" "REGEX" "Lcom/example/ferrule/ferrule/io/TypeCode;").before a0 Z = true := hw _ (List.mem_of_getElem? (i := 24) rfl)
theorem wk25 {Z : State} {a0 : Array Value} (hw : ∀ d ∈ tables_1, d.before a0 Z = true) : (Jvm.Cond.laysStatic "com/example/ferrule/ferrule/io/TypeCode" "REGEX" "Lcom/example/ferrule/ferrule/io/TypeCode;").before a0 Z = true := hw _ (List.mem_of_getElem? (i := 25) rfl)
theorem wk26 {Z : State} {a0 : Array Value} (hw : ∀ d ∈ tables_1, d.before a0 Z = true) : (Jvm.Cond.fieldLink "com/example/ferrule/ferrule/io/TypeCodeIsMemberPinLaw" (43 : Nat) "com/example/ferrule/ferrule/io/TypeCode" "CLASS" "Lcom/example/ferrule/ferrule/io/TypeCode;").before a0 Z = true := hw _ (List.mem_of_getElem? (i := 26) rfl)
theorem wk27 {Z : State} {a0 : Array Value} (hw : ∀ d ∈ tables_1, d.before a0 Z = true) : (Jvm.Cond.laysStatic "com/example/ferrule/ferrule/io/TypeCode" "CLASS" "Lcom/example/ferrule/ferrule/io/TypeCode;").before a0 Z = true := hw _ (List.mem_of_getElem? (i := 27) rfl)
theorem wk28 {Z : State} {a0 : Array Value} (hw : ∀ d ∈ tables_1, d.before a0 Z = true) : (Jvm.Cond.fieldLink "com/example/ferrule/ferrule/io/TypeCodeIsMemberPinLaw" (46 : Nat) "com/example/ferrule/ferrule/io/TypeCode" "TYPE_ALIAS" "Lcom/example/ferrule/ferrule/io/TypeCode;").before a0 Z = true := hw _ (List.mem_of_getElem? (i := 28) rfl)
theorem wk29 {Z : State} {a0 : Array Value} (hw : ∀ d ∈ tables_1, d.before a0 Z = true) : (Jvm.Cond.laysStatic "com/example/ferrule/ferrule/io/TypeCode" "TYPE_ALIAS" "Lcom/example/ferrule/ferrule/io/TypeCode;").before a0 Z = true := hw _ (List.mem_of_getElem? (i := 29) rfl)
theorem wk30 {Z : State} {a0 : Array Value} (hw : ∀ d ∈ tables_1, d.before a0 Z = true) : (Jvm.Cond.fieldLink "com/example/ferrule/ferrule/io/TypeCodeIsMemberPinLaw" (49 : Nat) "com/example/ferrule/ferrule/io/TypeCode" "FUNCTION" "Lcom/example/ferrule/ferrule/io/TypeCode;").before a0 Z = true := hw _ (List.mem_of_getElem? (i := 30) rfl)
theorem wk31 {Z : State} {a0 : Array Value} (hw : ∀ d ∈ tables_1, d.before a0 Z = true) : (Jvm.Cond.laysStatic "com/example/ferrule/ferrule/io/TypeCode" "FUNCTION" "Lcom/example/ferrule/ferrule/io/TypeCode;").before a0 Z = true := hw _ (List.mem_of_getElem? (i := 31) rfl)
theorem wk32 {Z : State} {a0 : Array Value} (hw : ∀ d ∈ tables_1, d.before a0 Z = true) : (Jvm.Cond.fieldLink "com/example/ferrule/ferrule/io/TypeCodeIsMemberPinLaw" (52 : Nat) "com/example/ferrule/ferrule/io/TypeCode" "BYTES" "Lcom/example/ferrule/ferrule/io/TypeCode;").before a0 Z = true := hw _ (List.mem_of_getElem? (i := 32) rfl)
theorem wk33 {Z : State} {a0 : Array Value} (hw : ∀ d ∈ tables_1, d.before a0 Z = true) : (Jvm.Cond.laysStatic "com/example/ferrule/ferrule/io/TypeCode" "BYTES" "Lcom/example/ferrule/ferrule/io/TypeCode;").before a0 Z = true := hw _ (List.mem_of_getElem? (i := 33) rfl)
theorem wk34 {Z : State} {a0 : Array Value} (hw : ∀ d ∈ tables_1, d.before a0 Z = true) : (Jvm.Cond.fieldLink "com/example/ferrule/ferrule/io/TypeCodeIsMemberPinLaw" (55 : Nat) "com/example/ferrule/ferrule/io/TypeCode" "PROPERTY" "Lcom/example/ferrule/ferrule/io/TypeCode;").before a0 Z = true := hw _ (List.mem_of_getElem? (i := 34) rfl)
theorem wk35 {Z : State} {a0 : Array Value} (hw : ∀ d ∈ tables_1, d.before a0 Z = true) : (Jvm.Cond.laysStatic "com/example/ferrule/ferrule/io/TypeCode" "PROPERTY" "Lcom/example/ferrule/ferrule/io/TypeCode;").before a0 Z = true := hw _ (List.mem_of_getElem? (i := 35) rfl)
theorem wk36 {Z : State} {a0 : Array Value} (hw : ∀ d ∈ tables_1, d.before a0 Z = true) : (Jvm.Cond.fieldLink "com/example/ferrule/ferrule/io/TypeCodeIsMemberPinLaw" (58 : Nat) "com/example/ferrule/ferrule/io/TypeCode" "ENTRY" "Lcom/example/ferrule/ferrule/io/TypeCode;").before a0 Z = true := hw _ (List.mem_of_getElem? (i := 36) rfl)
theorem wk37 {Z : State} {a0 : Array Value} (hw : ∀ d ∈ tables_1, d.before a0 Z = true) : (Jvm.Cond.laysStatic "com/example/ferrule/ferrule/io/TypeCode" "ENTRY" "Lcom/example/ferrule/ferrule/io/TypeCode;").before a0 Z = true := hw _ (List.mem_of_getElem? (i := 37) rfl)
theorem wk38 {Z : State} {a0 : Array Value} (hw : ∀ d ∈ tables_1, d.before a0 Z = true) : (Jvm.Cond.fieldLink "com/example/ferrule/ferrule/io/TypeCodeIsMemberPinLaw" (61 : Nat) "com/example/ferrule/ferrule/io/TypeCode" "ELEMENT" "Lcom/example/ferrule/ferrule/io/TypeCode;").before a0 Z = true := hw _ (List.mem_of_getElem? (i := 38) rfl)
theorem wk39 {Z : State} {a0 : Array Value} (hw : ∀ d ∈ tables_1, d.before a0 Z = true) : (Jvm.Cond.laysStatic "com/example/ferrule/ferrule/io/TypeCode" "ELEMENT" "Lcom/example/ferrule/ferrule/io/TypeCode;").before a0 Z = true := hw _ (List.mem_of_getElem? (i := 39) rfl)
theorem wk40 {Z : State} {a0 : Array Value} (hw : ∀ d ∈ tables_1, d.before a0 Z = true) : (Jvm.Cond.fieldLink "com/example/ferrule/ferrule/io/TypeCodeIsMemberPinLaw" (64 : Nat) "com/example/ferrule/ferrule/io/TypeCode" "REFERENCE" "Lcom/example/ferrule/ferrule/io/TypeCode;").before a0 Z = true := hw _ (List.mem_of_getElem? (i := 40) rfl)
theorem wk41 {Z : State} {a0 : Array Value} (hw : ∀ d ∈ tables_1, d.before a0 Z = true) : (Jvm.Cond.laysStatic "com/example/ferrule/ferrule/io/TypeCode" "REFERENCE" "Lcom/example/ferrule/ferrule/io/TypeCode;").before a0 Z = true := hw _ (List.mem_of_getElem? (i := 41) rfl)
theorem wk42 {Z : State} {a0 : Array Value} (hw : ∀ d ∈ tables_1, d.before a0 Z = true) : (Jvm.Cond.constant "com/example/ferrule/ferrule/io/TypeCodeIsMemberPinLaw" (67 : Nat) (2147483647 : Int32)).before a0 Z = true := hw _ (List.mem_of_getElem? (i := 42) rfl)
theorem wk43 {Z : State} {a0 : Array Value} (hw : ∀ d ∈ tables_1, d.before a0 Z = true) : (Jvm.Cond.methodLink "com/example/ferrule/ferrule/io/TypeCodeIsMemberPinLaw" (68 : Nat) ({ cls := "com/example/ferrule/ferrule/io/TypeCode", name := "code", desc := "()I" } : Jvm.MethodName)).before a0 Z = true := hw _ (List.mem_of_getElem? (i := 43) rfl)
theorem wk44 {Z : State} {a0 : Array Value} (hw : ∀ d ∈ tables_1, d.before a0 Z = true) : (Jvm.Cond.declares ({ cls := "com/example/ferrule/ferrule/io/TypeCode", name := "code", desc := "()I" } : Jvm.MethodName)).before a0 Z = true := hw _ (List.mem_of_getElem? (i := 44) rfl)
theorem wk45 {Z : State} {a0 : Array Value} (hw : ∀ d ∈ tables_1, d.before a0 Z = true) : (Jvm.Cond.instanceMethod ({ cls := "com/example/ferrule/ferrule/io/TypeCode", name := "code", desc := "()I" } : Jvm.MethodName)).before a0 Z = true := hw _ (List.mem_of_getElem? (i := 45) rfl)
theorem wk46 {Z : State} {a0 : Array Value} (hw : ∀ d ∈ tables_1, d.before a0 Z = true) : (Jvm.Cond.selects "com/example/ferrule/ferrule/io/TypeCode" ({ cls := "com/example/ferrule/ferrule/io/TypeCode", name := "code", desc := "()I" } : Jvm.MethodName) ({ cls := "com/example/ferrule/ferrule/io/TypeCode", name := "code", desc := "()I" } : Jvm.MethodName)).before a0 Z = true := hw _ (List.mem_of_getElem? (i := 46) rfl)
theorem wk47 {Z : State} {a0 : Array Value} (hw : ∀ d ∈ tables_1, d.before a0 Z = true) : (Jvm.Cond.code ({ cls := "com/example/ferrule/ferrule/io/TypeCode", name := "code", desc := "()I" } : Jvm.MethodName) prog_47_method_10_code (1 : Nat) (Option.some Jvm.ClassFile.FieldType.int)).before a0 Z = true := hw _ (List.mem_of_getElem? (i := 47) rfl)
theorem wk48 {Z : State} {a0 : Array Value} (hw : ∀ d ∈ tables_1, d.before a0 Z = true) : (Jvm.Cond.fieldLink "com/example/ferrule/ferrule/io/TypeCode" (80 : Nat) "com/example/ferrule/ferrule/io/TypeCode" "code" "I").before a0 Z = true := hw _ (List.mem_of_getElem? (i := 48) rfl)
theorem wk50 {Z : State} {a0 : Array Value} (hw : ∀ d ∈ tables_1, d.before a0 Z = true) : (Jvm.Cond.methodLink "com/example/ferrule/ferrule/io/TypeCodeIsMemberPinLaw" (72 : Nat) ({ cls := "com/example/ferrule/ferrule/io/TypeCode", name := "isMember", desc := "()Z" } : Jvm.MethodName)).before a0 Z = true := hw _ (List.mem_of_getElem? (i := 50) rfl)
theorem wk51 {Z : State} {a0 : Array Value} (hw : ∀ d ∈ tables_1, d.before a0 Z = true) : (Jvm.Cond.declares ({ cls := "com/example/ferrule/ferrule/io/TypeCode", name := "isMember", desc := "()Z" } : Jvm.MethodName)).before a0 Z = true := hw _ (List.mem_of_getElem? (i := 51) rfl)
theorem wk52 {Z : State} {a0 : Array Value} (hw : ∀ d ∈ tables_1, d.before a0 Z = true) : (Jvm.Cond.instanceMethod ({ cls := "com/example/ferrule/ferrule/io/TypeCode", name := "isMember", desc := "()Z" } : Jvm.MethodName)).before a0 Z = true := hw _ (List.mem_of_getElem? (i := 52) rfl)
theorem wk53 {Z : State} {a0 : Array Value} (hw : ∀ d ∈ tables_1, d.before a0 Z = true) : (Jvm.Cond.selects "com/example/ferrule/ferrule/io/TypeCode" ({ cls := "com/example/ferrule/ferrule/io/TypeCode", name := "isMember", desc := "()Z" } : Jvm.MethodName) ({ cls := "com/example/ferrule/ferrule/io/TypeCode", name := "isMember", desc := "()Z" } : Jvm.MethodName)).before a0 Z = true := hw _ (List.mem_of_getElem? (i := 53) rfl)
theorem wk54 {Z : State} {a0 : Array Value} (hw : ∀ d ∈ tables_1, d.before a0 Z = true) : (Jvm.Cond.code ({ cls := "com/example/ferrule/ferrule/io/TypeCode", name := "isMember", desc := "()Z" } : Jvm.MethodName) prog_47_method_8_code (1 : Nat) (Option.some Jvm.ClassFile.FieldType.boolean)).before a0 Z = true := hw _ (List.mem_of_getElem? (i := 54) rfl)
theorem wk55 {Z : State} {a0 : Array Value} (hw : ∀ d ∈ tables_1, d.before a0 Z = true) : (Jvm.Cond.fieldLink "com/example/ferrule/ferrule/io/TypeCode" (49 : Nat) "com/example/ferrule/ferrule/io/TypeCode" "PROPERTY" "Lcom/example/ferrule/ferrule/io/TypeCode;").before a0 Z = true := hw _ (List.mem_of_getElem? (i := 55) rfl)
theorem wk56 {Z : State} {a0 : Array Value} (hw : ∀ d ∈ tables_1, d.before a0 Z = true) : (Jvm.Cond.fieldLink "com/example/ferrule/ferrule/io/TypeCode" (52 : Nat) "com/example/ferrule/ferrule/io/TypeCode" "ENTRY" "Lcom/example/ferrule/ferrule/io/TypeCode;").before a0 Z = true := hw _ (List.mem_of_getElem? (i := 56) rfl)
theorem wk57 {Z : State} {a0 : Array Value} (hw : ∀ d ∈ tables_1, d.before a0 Z = true) : (Jvm.Cond.fieldLink "com/example/ferrule/ferrule/io/TypeCode" (55 : Nat) "com/example/ferrule/ferrule/io/TypeCode" "ELEMENT" "Lcom/example/ferrule/ferrule/io/TypeCode;").before a0 Z = true := hw _ (List.mem_of_getElem? (i := 57) rfl)
def Wd (Z : State) (w : Nat → Addr) : Prop := Sta Z Z.heap "com/example/ferrule/ferrule/io/TypeCode" "OBJECT" "Lcom/example/ferrule/ferrule/io/TypeCode;" (.ref (w 0)) ∧ Exa Z Z.heap (w 0) "com/example/ferrule/ferrule/io/TypeCode" ∧ Sta Z Z.heap "com/example/ferrule/ferrule/io/TypeCode" "MAP" "Lcom/example/ferrule/ferrule/io/TypeCode;" (.ref (w 1)) ∧ Exa Z Z.heap (w 1) "com/example/ferrule/ferrule/io/TypeCode" ∧ Sta Z Z.heap "com/example/ferrule/ferrule/io/TypeCode" "MAPPING" "Lcom/example/ferrule/ferrule/io/TypeCode;" (.ref (w 2)) ∧ Exa Z Z.heap (w 2) "com/example/ferrule/ferrule/io/TypeCode" ∧ Sta Z Z.heap "com/example/ferrule/ferrule/io/TypeCode" "LIST" "Lcom/example/ferrule/ferrule/io/TypeCode;" (.ref (w 3)) ∧ Exa Z Z.heap (w 3) "com/example/ferrule/ferrule/io/TypeCode" ∧ Sta Z Z.heap "com/example/ferrule/ferrule/io/TypeCode" "LISTING" "Lcom/example/ferrule/ferrule/io/TypeCode;" (.ref (w 4)) ∧ Exa Z Z.heap (w 4) "com/example/ferrule/ferrule/io/TypeCode" ∧ Sta Z Z.heap "com/example/ferrule/ferrule/io/TypeCode" "SET" "Lcom/example/ferrule/ferrule/io/TypeCode;" (.ref (w 5)) ∧ Exa Z Z.heap (w 5) "com/example/ferrule/ferrule/io/TypeCode" ∧ Sta Z Z.heap "com/example/ferrule/ferrule/io/TypeCode" "DURATION" "Lcom/example/ferrule/ferrule/io/TypeCode;" (.ref (w 6)) ∧ Exa Z Z.heap (w 6) "com/example/ferrule/ferrule/io/TypeCode" ∧ Sta Z Z.heap "com/example/ferrule/ferrule/io/TypeCode" "DATA_SIZE" "Lcom/example/ferrule/ferrule/io/TypeCode;" (.ref (w 7)) ∧ Exa Z Z.heap (w 7) "com/example/ferrule/ferrule/io/TypeCode" ∧ Sta Z Z.heap "com/example/ferrule/ferrule/io/TypeCode" "PAIR" "Lcom/example/ferrule/ferrule/io/TypeCode;" (.ref (w 8)) ∧ Exa Z Z.heap (w 8) "com/example/ferrule/ferrule/io/TypeCode" ∧ Sta Z Z.heap "com/example/ferrule/ferrule/io/TypeCode" "INT_SEQ" "Lcom/example/ferrule/ferrule/io/TypeCode;" (.ref (w 9)) ∧ Exa Z Z.heap (w 9) "com/example/ferrule/ferrule/io/TypeCode" ∧ Sta Z Z.heap "com/example/ferrule/ferrule/io/TypeCode" "REGEX" "Lcom/example/ferrule/ferrule/io/TypeCode;" (.ref (w 10)) ∧ Exa Z Z.heap (w 10) "com/example/ferrule/ferrule/io/TypeCode" ∧ Sta Z Z.heap "com/example/ferrule/ferrule/io/TypeCode" "CLASS" "Lcom/example/ferrule/ferrule/io/TypeCode;" (.ref (w 11)) ∧ Exa Z Z.heap (w 11) "com/example/ferrule/ferrule/io/TypeCode" ∧ Sta Z Z.heap "com/example/ferrule/ferrule/io/TypeCode" "TYPE_ALIAS" "Lcom/example/ferrule/ferrule/io/TypeCode;" (.ref (w 12)) ∧ Exa Z Z.heap (w 12) "com/example/ferrule/ferrule/io/TypeCode" ∧ Sta Z Z.heap "com/example/ferrule/ferrule/io/TypeCode" "FUNCTION" "Lcom/example/ferrule/ferrule/io/TypeCode;" (.ref (w 13)) ∧ Exa Z Z.heap (w 13) "com/example/ferrule/ferrule/io/TypeCode" ∧ Sta Z Z.heap "com/example/ferrule/ferrule/io/TypeCode" "BYTES" "Lcom/example/ferrule/ferrule/io/TypeCode;" (.ref (w 14)) ∧ Exa Z Z.heap (w 14) "com/example/ferrule/ferrule/io/TypeCode" ∧ Sta Z Z.heap "com/example/ferrule/ferrule/io/TypeCode" "PROPERTY" "Lcom/example/ferrule/ferrule/io/TypeCode;" (.ref (w 15)) ∧ Exa Z Z.heap (w 15) "com/example/ferrule/ferrule/io/TypeCode" ∧ Sta Z Z.heap "com/example/ferrule/ferrule/io/TypeCode" "ENTRY" "Lcom/example/ferrule/ferrule/io/TypeCode;" (.ref (w 16)) ∧ Exa Z Z.heap (w 16) "com/example/ferrule/ferrule/io/TypeCode" ∧ Sta Z Z.heap "com/example/ferrule/ferrule/io/TypeCode" "ELEMENT" "Lcom/example/ferrule/ferrule/io/TypeCode;" (.ref (w 17)) ∧ Exa Z Z.heap (w 17) "com/example/ferrule/ferrule/io/TypeCode" ∧ Sta Z Z.heap "com/example/ferrule/ferrule/io/TypeCode" "REFERENCE" "Lcom/example/ferrule/ferrule/io/TypeCode;" (.ref (w 18)) ∧ Exa Z Z.heap (w 18) "com/example/ferrule/ferrule/io/TypeCode" ∧ Fld Z Z.heap (w 0) "com/example/ferrule/ferrule/io/TypeCode" "code" "I" (.int (1 : Int32)) ∧ Fld Z Z.heap (w 0) "java/lang/Enum" "ordinal" "I" (.int (0 : Int32)) ∧ Fld Z Z.heap (w 15) "java/lang/Enum" "ordinal" "I" (.int (15 : Int32)) ∧ Fld Z Z.heap (w 16) "java/lang/Enum" "ordinal" "I" (.int (16 : Int32)) ∧ Fld Z Z.heap (w 17) "java/lang/Enum" "ordinal" "I" (.int (17 : Int32)) ∧ Fld Z Z.heap (w 3) "com/example/ferrule/ferrule/io/TypeCode" "code" "I" (.int (4 : Int32)) ∧ Fld Z Z.heap (w 3) "java/lang/Enum" "ordinal" "I" (.int (3 : Int32)) ∧ Fld Z Z.heap (w 15) "com/example/ferrule/ferrule/io/TypeCode" "code" "I" (.int (16 : Int32)) ∧ Fld Z Z.heap (w 5) "com/example/ferrule/ferrule/io/TypeCode" "code" "I" (.int (6 : Int32)) ∧ Fld Z Z.heap (w 5) "java/lang/Enum" "ordinal" "I" (.int (5 : Int32)) ∧ Fld Z Z.heap (w 17) "com/example/ferrule/ferrule/io/TypeCode" "code" "I" (.int (18 : Int32)) ∧ Fld Z Z.heap (w 7) "com/example/ferrule/ferrule/io/TypeCode" "code" "I" (.int (8 : Int32)) ∧ Fld Z Z.heap (w 7) "java/lang/Enum" "ordinal" "I" (.int (7 : Int32)) ∧ Fld Z Z.heap (w 2) "com/example/ferrule/ferrule/io/TypeCode" "code" "I" (.int (3 : Int32)) ∧ Fld Z Z.heap (w 2) "java/lang/Enum" "ordinal" "I" (.int (2 : Int32)) ∧ Fld Z Z.heap (w 11) "com/example/ferrule/ferrule/io/TypeCode" "code" "I" (.int (12 : Int32)) ∧ Fld Z Z.heap (w 11) "java/lang/Enum" "ordinal" "I" (.int (11 : Int32)) ∧ Fld Z Z.heap (w 10) "com/example/ferrule/ferrule/io/TypeCode" "code" "I" (.int (11 : Int32)) ∧ Fld Z Z.heap (w 10) "java/lang/Enum" "ordinal" "I" (.int (10 : Int32)) ∧ Fld Z Z.heap (w 8) "com/example/ferrule/ferrule/io/TypeCode" "code" "I" (.int (9 : Int32)) ∧ Fld Z Z.heap (w 8) "java/lang/Enum" "ordinal" "I" (.int (8 : Int32)) ∧ Fld Z Z.heap (w 1) "com/example/ferrule/ferrule/io/TypeCode" "code" "I" (.int (2 : Int32)) ∧ Fld Z Z.heap (w 1) "java/lang/Enum" "ordinal" "I" (.int (1 : Int32)) ∧ Fld Z Z.heap (w 14) "com/example/ferrule/ferrule/io/TypeCode" "code" "I" (.int (15 : Int32)) ∧ Fld Z Z.heap (w 14) "java/lang/Enum" "ordinal" "I" (.int (14 : Int32)) ∧ Fld Z Z.heap (w 18) "com/example/ferrule/ferrule/io/TypeCode" "code" "I" (.int (32 : Int32)) ∧ Fld Z Z.heap (w 18) "java/lang/Enum" "ordinal" "I" (.int (18 : Int32)) ∧ Fld Z Z.heap (w 6) "com/example/ferrule/ferrule/io/TypeCode" "code" "I" (.int (7 : Int32)) ∧ Fld Z Z.heap (w 6) "java/lang/Enum" "ordinal" "I" (.int (6 : Int32)) ∧ Fld Z Z.heap (w 16) "com/example/ferrule/ferrule/io/TypeCode" "code" "I" (.int (17 : Int32)) ∧ Fld Z Z.heap (w 4) "com/example/ferrule/ferrule/io/TypeCode" "code" "I" (.int (5 : Int32)) ∧ Fld Z Z.heap (w 4) "java/lang/Enum" "ordinal" "I" (.int (4 : Int32)) ∧ Fld Z Z.heap (w 9) "com/example/ferrule/ferrule/io/TypeCode" "code" "I" (.int (10 : Int32)) ∧ Fld Z Z.heap (w 9) "java/lang/Enum" "ordinal" "I" (.int (9 : Int32)) ∧ Fld Z Z.heap (w 12) "com/example/ferrule/ferrule/io/TypeCode" "code" "I" (.int (13 : Int32)) ∧ Fld Z Z.heap (w 12) "java/lang/Enum" "ordinal" "I" (.int (12 : Int32)) ∧ Fld Z Z.heap (w 13) "com/example/ferrule/ferrule/io/TypeCode" "code" "I" (.int (14 : Int32)) ∧ Fld Z Z.heap (w 13) "java/lang/Enum" "ordinal" "I" (.int (13 : Int32)) ∧ True
theorem wd0 {Z : State} {w : Nat → Addr} (hW : Wd Z w) : Sta Z Z.heap "com/example/ferrule/ferrule/io/TypeCode" "OBJECT" "Lcom/example/ferrule/ferrule/io/TypeCode;" (.ref (w 0)) := hW.1
theorem wd1 {Z : State} {w : Nat → Addr} (hW : Wd Z w) : Exa Z Z.heap (w 0) "com/example/ferrule/ferrule/io/TypeCode" := hW.2.1
theorem wd2 {Z : State} {w : Nat → Addr} (hW : Wd Z w) : Sta Z Z.heap "com/example/ferrule/ferrule/io/TypeCode" "MAP" "Lcom/example/ferrule/ferrule/io/TypeCode;" (.ref (w 1)) := hW.2.2.1
theorem wd3 {Z : State} {w : Nat → Addr} (hW : Wd Z w) : Exa Z Z.heap (w 1) "com/example/ferrule/ferrule/io/TypeCode" := hW.2.2.2.1
theorem wd4 {Z : State} {w : Nat → Addr} (hW : Wd Z w) : Sta Z Z.heap "com/example/ferrule/ferrule/io/TypeCode" "MAPPING" "Lcom/example/ferrule/ferrule/io/TypeCode;" (.ref (w 2)) := hW.2.2.2.2.1
theorem wd5 {Z : State} {w : Nat → Addr} (hW : Wd Z w) : Exa Z Z.heap (w 2) "com/example/ferrule/ferrule/io/TypeCode" := hW.2.2.2.2.2.1
theorem wd6 {Z : State} {w : Nat → Addr} (hW : Wd Z w) : Sta Z Z.heap "com/example/ferrule/ferrule/io/TypeCode" "LIST" "Lcom/example/ferrule/ferrule/io/TypeCode;" (.ref (w 3)) := hW.2.2.2.2.2.2.1
theorem wd7 {Z : State} {w : Nat → Addr} (hW : Wd Z w) : Exa Z Z.heap (w 3) "com/example/ferrule/ferrule/io/TypeCode" := hW.2.2.2.2.2.2.2.1
theorem wd8 {Z : State} {w : Nat → Addr} (hW : Wd Z w) : Sta Z Z.heap "com/example/ferrule/ferrule/io/TypeCode" "LISTING" "Lcom/example/ferrule/ferrule/io/TypeCode;" (.ref (w 4)) := hW.2.2.2.2.2.2.2.2.1
theorem wd9 {Z : State} {w : Nat → Addr} (hW : Wd Z w) : Exa Z Z.heap (w 4) "com/example/ferrule/ferrule/io/TypeCode" := hW.2.2.2.2.2.2.2.2.2.1
theorem wd10 {Z : State} {w : Nat → Addr} (hW : Wd Z w) : Sta Z Z.heap "com/example/ferrule/ferrule/io/TypeCode" "SET" "Lcom/example/ferrule/ferrule/io/TypeCode;" (.ref (w 5)) := hW.2.2.2.2.2.2.2.2.2.2.1
theorem wd11 {Z : State} {w : Nat → Addr} (hW : Wd Z w) : Exa Z Z.heap (w 5) "com/example/ferrule/ferrule/io/TypeCode" := hW.2.2.2.2.2.2.2.2.2.2.2.1
theorem wd12 {Z : State} {w : Nat → Addr} (hW : Wd Z w) : Sta Z Z.heap "com/example/ferrule/ferrule/io/TypeCode" "DURATION" "Lcom/example/ferrule/ferrule/io/TypeCode;" (.ref (w 6)) := hW.2.2.2.2.2.2.2.2.2.2.2.2.1
theorem wd13 {Z : State} {w : Nat → Addr} (hW : Wd Z w) : Exa Z Z.heap (w 6) "com/example/ferrule/ferrule/io/TypeCode" := hW.2.2.2.2.2.2.2.2.2.2.2.2.2.1
theorem wd14 {Z : State} {w : Nat → Addr} (hW : Wd Z w) : Sta Z Z.heap "com/example/ferrule/ferrule/io/TypeCode" "DATA_SIZE" "Lcom/example/ferrule/ferrule/io/TypeCode;" (.ref (w 7)) := hW.2.2.2.2.2.2.2.2.2.2.2.2.2.2.1
theorem wd15 {Z : State} {w : Nat → Addr} (hW : Wd Z w) : Exa Z Z.heap (w 7) "com/example/ferrule/ferrule/io/TypeCode" := hW.2.2.2.2.2.2.2.2.2.2.2.2.2.2.2.1
theorem wd16 {Z : State} {w : Nat → Addr} (hW : Wd Z w) : Sta Z Z.heap "com/example/ferrule/ferrule/io/TypeCode" "PAIR" "Lcom/example/ferrule/ferrule/io/TypeCode;" (.ref (w 8)) := hW.2.2.2.2.2.2.2.2.2.2.2.2.2.2.2.2.1
theorem wd17 {Z : State} {w : Nat → Addr} (hW : Wd Z w) : Exa Z Z.heap (w 8) "com/example/ferrule/ferrule/io/TypeCode" := hW.2.2.2.2.2.2.2.2.2.2.2.2.2.2.2.2.2.1
theorem wd18 {Z : State} {w : Nat → Addr} (hW : Wd Z w) : Sta Z Z.heap "com/example/ferrule/ferrule/io/TypeCode" "INT_SEQ" "Lcom/example/ferrule/ferrule/io/TypeCode;" (.ref (w 9)) := hW.2.2.2.2.2.2.2.2.2.2.2.2.2.2.2.2.2.2.1
theorem wd19 {Z : State} {w : Nat → Addr} (hW : Wd Z w) : Exa Z Z.heap (w 9) "com/example/ferrule/ferrule/io/TypeCode" := hW.2.2.2.2.2.2.2.2.2.2.2.2.2.2.2.2.2.2.2.1
theorem wd20 {Z : State} {w : Nat → Addr} (hW : Wd Z w) : Sta Z Z.heap "com/example/ferrule/ferrule/io/TypeCode" "REGEX" "Lcom/example/ferrule/ferrule/io/TypeCode;" (.ref (w 10)) := hW.2.2.2.2.2.2.2.2.2.2.2.2.2.2.2.2.2.2.2.2.1
theorem wd21 {Z : State} {w : Nat → Addr} (hW : Wd Z w) : Exa Z Z.heap (w 10) "com/example/ferrule/ferrule/io/TypeCode" := hW.2.2.2.2.2.2.2.2.2.2.2.2.2.2.2.2.2.2.2.2.2.1
theorem wd22 {Z : State} {w : Nat → Addr} (hW : Wd Z w) : Sta Z Z.heap "com/example/ferrule/ferrule/io/TypeCode" "CLASS" "Lcom/example/ferrule/ferrule/io/TypeCode;" (.ref (w 11)) := hW.2.2.2.2.2.2.2.2.2.2.2.2.2.2.2.2.2.2.2.2.2.2.1
theorem wd23 {Z : State} {w : Nat → Addr} (hW : Wd Z w) : Exa Z Z.heap (w 11) "com/example/ferrule/ferrule/io/TypeCode" := hW.2.2.2.2.2.2.2.2.2.2.2.2.2.2.2.2.2.2.2.2.2.2.2.1
theorem wd24 {Z : State} {w : Nat → Addr} (hW : Wd Z w) : Sta Z Z.heap "com/example/ferrule/ferrule/io/TypeCode" "TYPE_ALIAS" "Lcom/example/ferrule/ferrule/io/TypeCode;" (.ref (w 12)) := hW.2.2.2.2.2.2.2.2.2.2.2.2.2.2.2.2.2.2.2.2.2.2.2.2.1
theorem wd25 {Z : State} {w : Nat → Addr} (hW : Wd Z w) : Exa Z Z.heap (w 12) "com/example/ferrule/ferrule/io/TypeCode" := hW.2.2.2.2.2.2.2.2.2.2.2.2.2.2.2.2.2.2.2.2.2.2.2.2.2.1
theorem wd26 {Z : State} {w : Nat → Addr} (hW : Wd Z w) : Sta Z Z.heap "com/example/ferrule/ferrule/io/TypeCode" "FUNCTION" "Lcom/example/ferrule/ferrule/io/TypeCode;" (.ref (w 13)) := hW.2.2.2.2.2.2.2.2.2.2.2.2.2.2.2.2.2.2.2.2.2.2.2.2.2.2.1
theorem wd27 {Z : State} {w : Nat → Addr} (hW : Wd Z w) : Exa Z Z.heap (w 13) "com/example/ferrule/ferrule/io/TypeCode" := hW.2.2.2.2.2.2.2.2.2.2.2.2.2.2.2.2.2.2.2.2.2.2.2.2.2.2.2.1
theorem wd28 {Z : State} {w : Nat → Addr} (hW : Wd Z w) : Sta Z Z.heap "com/example/ferrule/ferrule/io/TypeCode" "BYTES" "Lcom/example/ferrule/ferrule/io/TypeCode;" (.ref (w 14)) := hW.2.2.2.2.2.2.2.2.2.2.2.2.2.2.2.2.2.2.2.2.2.2.2.2.2.2.2.2.1
theorem wd29 {Z : State} {w : Nat → Addr} (hW : Wd Z w) : Exa Z Z.heap (w 14) "com/example/ferrule/ferrule/io/TypeCode" := hW.2.2.2.2.2.2.2.2.2.2.2.2.2.2.2.2.2.2.2.2.2.2.2.2.2.2.2.2.2.1
theorem wd30 {Z : State} {w : Nat → Addr} (hW : Wd Z w) : Sta Z Z.heap "com/example/ferrule/ferrule/io/TypeCode" "PROPERTY" "Lcom/example/ferrule/ferrule/io/TypeCode;" (.ref (w 15)) := hW.2.2.2.2.2.2.2.2.2.2.2.2.2.2.2.2.2.2.2.2.2.2.2.2.2.2.2.2.2.2.1
theorem wd31 {Z : State} {w : Nat → Addr} (hW : Wd Z w) : Exa Z Z.heap (w 15) "com/example/ferrule/ferrule/io/TypeCode" := hW.2.2.2.2.2.2.2.2.2.2.2.2.2.2.2.2.2.2.2.2.2.2.2.2.2.2.2.2.2.2.2.1
theorem wd32 {Z : State} {w : Nat → Addr} (hW : Wd Z w) : Sta Z Z.heap "com/example/ferrule/ferrule/io/TypeCode" "ENTRY" "Lcom/example/ferrule/ferrule/io/TypeCode;" (.ref (w 16)) := hW.2.2.2.2.2.2.2.2.2.2.2.2.2.2.2.2.2.2.2.2.2.2.2.2.2.2.2.2.2.2.2.2.1
theorem wd33 {Z : State} {w : Nat → Addr} (hW : Wd Z w) : Exa Z Z.heap (w 16) "com/example/ferrule/ferrule/io/TypeCode" := hW.2.2.2.2.2.2.2.2.2.2.2.2.2.2.2.2.2.2.2.2.2.2.2.2.2.2.2.2.2.2.2.2.2.1
theorem wd34 {Z : State} {w : Nat → Addr} (hW : Wd Z w) : Sta Z Z.heap "com/example/ferrule/ferrule/io/TypeCode" "ELEMENT" "Lcom/example/ferrule/ferrule/io/TypeCode;" (.ref (w 17)) := hW.2.2.2.2.2.2.2.2.2.2.2.2.2.2.2.2.2.2.2.2.2.2.2.2.2.2.2.2.2.2.2.2.2.2.1
theorem wd35 {Z : State} {w : Nat → Addr} (hW : Wd Z w) : Exa Z Z.heap (w 17) "com/example/ferrule/ferrule/io/TypeCode" := hW.2.2.2.2.2.2.2.2.2.2.2.2.2.2.2.2.2.2.2.2.2.2.2.2.2.2.2.2.2.2.2.2.2.2.2.1
theorem wd36 {Z : State} {w : Nat → Addr} (hW : Wd Z w) : Sta Z Z.heap "com/example/ferrule/ferrule/io/TypeCode" "REFERENCE" "Lcom/example/ferrule/ferrule/io/TypeCode;" (.ref (w 18)) := hW.2.2.2.2.2.2.2.2.2.2.2.2.2.2.2.2.2.2.2.2.2.2.2.2.2.2.2.2.2.2.2.2.2.2.2.2.1
theorem wd37 {Z : State} {w : Nat → Addr} (hW : Wd Z w) : Exa Z Z.heap (w 18) "com/example/ferrule/ferrule/io/TypeCode" := hW.2.2.2.2.2.2.2.2.2.2.2.2.2.2.2.2.2.2.2.2.2.2.2.2.2.2.2.2.2.2.2.2.2.2.2.2.2.1
theorem wd38 {Z : State} {w : Nat → Addr} (hW : Wd Z w) : Fld Z Z.heap (w 0) "com/example/ferrule/ferrule/io/TypeCode" "code" "I" (.int (1 : Int32)) := hW.2.2.2.2.2.2.2.2.2.2.2.2.2.2.2.2.2.2.2.2.2.2.2.2.2.2.2.2.2.2.2.2.2.2.2.2.2.2.1
theorem wd39 {Z : State} {w : Nat → Addr} (hW : Wd Z w) : Fld Z Z.heap (w 0) "java/lang/Enum" "ordinal" "I" (.int (0 : Int32)) := hW.2.2.2.2.2.2.2.2.2.2.2.2.2.2.2.2.2.2.2.2.2.2.2.2.2.2.2.2.2.2.2.2.2.2.2.2.2.2.2.1
theorem wd40 {Z : State} {w : Nat → Addr} (hW : Wd Z w) : Fld Z Z.heap (w 15) "java/lang/Enum" "ordinal" "I" (.int (15 : Int32)) := hW.2.2.2.2.2.2.2.2.2.2.2.2.2.2.2.2.2.2.2.2.2.2.2.2.2.2.2.2.2.2.2.2.2.2.2.2.2.2.2.2.1
theorem wd41 {Z : State} {w : Nat → Addr} (hW : Wd Z w) : Fld Z Z.heap (w 16) "java/lang/Enum" "ordinal" "I" (.int (16 : Int32)) := hW.2.2.2.2.2.2.2.2.2.2.2.2.2.2.2.2.2.2.2.2.2.2.2.2.2.2.2.2.2.2.2.2.2.2.2.2.2.2.2.2.2.1
theorem wd42 {Z : State} {w : Nat → Addr} (hW : Wd Z w) : Fld Z Z.heap (w 17) "java/lang/Enum" "ordinal" "I" (.int (17 : Int32)) := hW.2.2.2.2.2.2.2.2.2.2.2.2.2.2.2.2.2.2.2.2.2.2.2.2.2.2.2.2.2.2.2.2.2.2.2.2.2.2.2.2.2.2.1
theorem wd43 {Z : State} {w : Nat → Addr} (hW : Wd Z w) : Fld Z Z.heap (w 3) "com/example/ferrule/ferrule/io/TypeCode" "code" "I" (.int (4 : Int32)) := hW.2.2.2.2.2.2.2.2.2.2.2.2.2.2.2.2.2.2.2.2.2.2.2.2.2.2.2.2.2.2.2.2.2.2.2.2.2.2.2.2.2.2.2.1
theorem wd44 {Z : State} {w : Nat → Addr} (hW : Wd Z w) : Fld Z Z.heap (w 3) "java/lang/Enum" "ordinal" "I" (.int (3 : Int32)) := hW.2.2.2.2.2.2.2.2.2.2.2.2.2.2.2.2.2.2.2.2.2.2.2.2.2.2.2.2.2.2.2.2.2.2.2.2.2.2.2.2.2.2.2.2.1
theorem wd45 {Z : State} {w : Nat → Addr} (hW : Wd Z w) : Fld Z Z.heap (w 15) "com/example/ferrule/ferrule/io/TypeCode" "code" "I" (.int (16 : Int32)) := hW.2.2.2.2.2.2.2.2.2.2.2.2.2.2.2.2.2.2.2.2.2.2.2.2.2.2.2.2.2.2.2.2.2.2.2.2.2.2.2.2.2.2.2.2.2.1
theorem wd46 {Z : State} {w : Nat → Addr} (hW : Wd Z w) : Fld Z Z.heap (w 5) "com/example/ferrule/ferrule/io/TypeCode" "code" "I" (.int (6 : Int32)) := hW.2.2.2.2.2.2.2.2.2.2.2.2.2.2.2.2.2.2.2.2.2.2.2.2.2.2.2.2.2.2.2.2.2.2.2.2.2.2.2.2.2.2.2.2.2.2.1
theorem wd47 {Z : State} {w : Nat → Addr} (hW : Wd Z w) : Fld Z Z.heap (w 5) "java/lang/Enum" "ordinal" "I" (.int (5 : Int32)) := hW.2.2.2.2.2.2.2.2.2.2.2.2.2.2.2.2.2.2.2.2.2.2.2.2.2.2.2.2.2.2.2.2.2.2.2.2.2.2.2.2.2.2.2.2.2.2.2.1
theorem wd48 {Z : State} {w : Nat → Addr} (hW : Wd Z w) : Fld Z Z.heap (w 17) "com/example/ferrule/ferrule/io/TypeCode" "code" "I" (.int (18 : Int32)) := hW.2.2.2.2.2.2.2.2.2.2.2.2.2.2.2.2.2.2.2.2.2.2.2.2.2.2.2.2.2.2.2.2.2.2.2.2.2.2.2.2.2.2.2.2.2.2.2.2.1
theorem wd49 {Z : State} {w : Nat → Addr} (hW : Wd Z w) : Fld Z Z.heap (w 7) "com/example/ferrule/ferrule/io/TypeCode" "code" "I" (.int (8 : Int32)) := hW.2.2.2.2.2.2.2.2.2.2.2.2.2.2.2.2.2.2.2.2.2.2.2.2.2.2.2.2.2.2.2.2.2.2.2.2.2.2.2.2.2.2.2.2.2.2.2.2.2.1
theorem wd50 {Z : State} {w : Nat → Addr} (hW : Wd Z w) : Fld Z Z.heap (w 7) "java/lang/Enum" "ordinal" "I" (.int (7 : Int32)) := hW.2.2.2.2.2.2.2.2.2.2.2.2.2.2.2.2.2.2.2.2.2.2.2.2.2.2.2.2.2.2.2.2.2.2.2.2.2.2.2.2.2.2.2.2.2.2.2.2.2.2.1
theorem wd51 {Z : State} {w : Nat → Addr} (hW : Wd Z w) : Fld Z Z.heap (w 2) "com/example/ferrule/ferrule/io/TypeCode" "code" "I" (.int (3 : Int32)) := hW.2.2.2.2.2.2.2.2.2.2.2.2.2.2.2.2.2.2.2.2.2.2.2.2.2.2.2.2.2.2.2.2.2.2.2.2.2.2.2.2.2.2.2.2.2.2.2.2.2.2.2.1
theorem wd52 {Z : State} {w : Nat → Addr} (hW : Wd Z w) : Fld Z Z.heap (w 2) "java/lang/Enum" "ordinal" "I" (.int (2 : Int32)) := hW.2.2.2.2.2.2.2.2.2.2.2.2.2.2.2.2.2.2.2.2.2.2.2.2.2.2.2.2.2.2.2.2.2.2.2.2.2.2.2.2.2.2.2.2.2.2.2.2.2.2.2.2.1
theorem wd53 {Z : State} {w : Nat → Addr} (hW : Wd Z w) : Fld Z Z.heap (w 11) "com/example/ferrule/ferrule/io/TypeCode" "code" "I" (.int (12 : Int32)) := hW.2.2.2.2.2.2.2.2.2.2.2.2.2.2.2.2.2.2.2.2.2.2.2.2.2.2.2.2.2.2.2.2.2.2.2.2.2.2.2.2.2.2.2.2.2.2.2.2.2.2.2.2.2.1
theorem wd54 {Z : State} {w : Nat → Addr} (hW : Wd Z w) : Fld Z Z.heap (w 11) "java/lang/Enum" "ordinal" "I" (.int (11 : Int32)) := hW.2.2.2.2.2.2.2.2.2.2.2.2.2.2.2.2.2.2.2.2.2.2.2.2.2.2.2.2.2.2.2.2.2.2.2.2.2.2.2.2.2.2.2.2.2.2.2.2.2.2.2.2.2.2.1
theorem wd55 {Z : State} {w : Nat → Addr} (hW : Wd Z w) : Fld Z Z.heap (w 10) "com/example/ferrule/ferrule/io/TypeCode" "code" "I" (.int (11 : Int32)) := hW.2.2.2.2.2.2.2.2.2.2.2.2.2.2.2.2.2.2.2.2.2.2.2.2.2.2.2.2.2.2.2.2.2.2.2.2.2.2.2.2.2.2.2.2.2.2.2.2.2.2.2.2.2.2.2.1
theorem wd56 {Z : State} {w : Nat → Addr} (hW : Wd Z w) : Fld Z Z.heap (w 10) "java/lang/Enum" "ordinal" "I" (.int (10 : Int32)) := hW.2.2.2.2.2.2.2.2.2.2.2.2.2.2.2.2.2.2.2.2.2.2.2.2.2.2.2.2.2.2.2.2.2.2.2.2.2.2.2.2.2.2.2.2.2.2.2.2.2.2.2.2.2.2.2.2.1
theorem wd57 {Z : State} {w : Nat → Addr} (hW : Wd Z w) : Fld Z Z.heap (w 8) "com/example/ferrule/ferrule/io/TypeCode" "code" "I" (.int (9 : Int32)) := hW.2.2.2.2.2.2.2.2.2.2.2.2.2.2.2.2.2.2.2.2.2.2.2.2.2.2.2.2.2.2.2.2.2.2.2.2.2.2.2.2.2.2.2.2.2.2.2.2.2.2.2.2.2.2.2.2.2.1
theorem wd58 {Z : State} {w : Nat → Addr} (hW : Wd Z w) : Fld Z Z.heap (w 8) "java/lang/Enum" "ordinal" "I" (.int (8 : Int32)) := hW.2.2.2.2.2.2.2.2.2.2.2.2.2.2.2.2.2.2.2.2.2.2.2.2.2.2.2.2.2.2.2.2.2.2.2.2.2.2.2.2.2.2.2.2.2.2.2.2.2.2.2.2.2.2.2.2.2.2.1
theorem wd59 {Z : State} {w : Nat → Addr} (hW : Wd Z w) : Fld Z Z.heap (w 1) "com/example/ferrule/ferrule/io/TypeCode" "code" "I" (.int (2 : Int32)) := hW.2.2.2.2.2.2.2.2.2.2.2.2.2.2.2.2.2.2.2.2.2.2.2.2.2.2.2.2.2.2.2.2.2.2.2.2.2.2.2.2.2.2.2.2.2.2.2.2.2.2.2.2.2.2.2.2.2.2.2.1
theorem wd60 {Z : State} {w : Nat → Addr} (hW : Wd Z w) : Fld Z Z.heap (w 1) "java/lang/Enum" "ordinal" "I" (.int (1 : Int32)) := hW.2.2.2.2.2.2.2.2.2.2.2.2.2.2.2.2.2.2.2.2.2.2.2.2.2.2.2.2.2.2.2.2.2.2.2.2.2.2.2.2.2.2.2.2.2.2.2.2.2.2.2.2.2.2.2.2.2.2.2.2.1
theorem wd61 {Z : State} {w : Nat → Addr} (hW : Wd Z w) : Fld Z Z.heap (w 14) "com/example/ferrule/ferrule/io/TypeCode" "code" "I" (.int (15 : Int32)) := hW.2.2.2.2.2.2.2.2.2.2.2.2.2.2.2.2.2.2.2.2.2.2.2.2.2.2.2.2.2.2.2.2.2.2.2.2.2.2.2.2.2.2.2.2.2.2.2.2.2.2.2.2.2.2.2.2.2.2.2.2.2.1
theorem wd62 {Z : State} {w : Nat → Addr} (hW : Wd Z w) : Fld Z Z.heap (w 14) "java/lang/Enum" "ordinal" "I" (.int (14 : Int32)) := hW.2.2.2.2.2.2.2.2.2.2.2.2.2.2.2.2.2.2.2.2.2.2.2.2.2.2.2.2.2.2.2.2.2.2.2.2.2.2.2.2.2.2.2.2.2.2.2.2.2.2.2.2.2.2.2.2.2.2.2.2.2.2.1
theorem wd63 {Z : State} {w : Nat → Addr} (hW : Wd Z w) : Fld Z Z.heap (w 18) "com/example/ferrule/ferrule/io/TypeCode" "code" "I" (.int (32 : Int32)) := hW.2.2.2.2.2.2.2.2.2.2.2.2.2.2.2.2.2.2.2.2.2.2.2.2.2.2.2.2.2.2.2.2.2.2.2.2.2.2.2.2.2.2.2.2.2.2.2.2.2.2.2.2.2.2.2.2.2.2.2.2.2.2.2.1
theorem wd64 {Z : State} {w : Nat → Addr} (hW : Wd Z w) : Fld Z Z.heap (w 18) "java/lang/Enum" "ordinal" "I" (.int (18 : Int32)) := hW.2.2.2.2.2.2.2.2.2.2.2.2.2.2.2.2.2.2.2.2.2.2.2.2.2.2.2.2.2.2.2.2.2.2.2.2.2.2.2.2.2.2.2.2.2.2.2.2.2.2.2.2.2.2.2.2.2.2.2.2.2.2.2.2.1
theorem wd65 {Z : State} {w : Nat → Addr} (hW : Wd Z w) : Fld Z Z.heap (w 6) "com/example/ferrule/ferrule/io/TypeCode" "code" "I" (.int (7 : Int32)) := hW.2.2.2.2.2.2.2.2.2.2.2.2.2.2.2.2.2.2.2.2.2.2.2.2.2.2.2.2.2.2.2.2.2.2.2.2.2.2.2.2.2.2.2.2.2.2.2.2.2.2.2.2.2.2.2.2.2.2.2.2.2.2.2.2.2.1
theorem wd66 {Z : State} {w : Nat → Addr} (hW : Wd Z w) : Fld Z Z.heap (w 6) "java/lang/Enum" "ordinal" "I" (.int (6 : Int32)) := hW.2.2.2.2.2.2.2.2.2.2.2.2.2.2.2.2.2.2.2.2.2.2.2.2.2.2.2.2.2.2.2.2.2.2.2.2.2.2.2.2.2.2.2.2.2.2.2.2.2.2.2.2.2.2.2.2.2.2.2.2.2.2.2.2.2.2.1
theorem wd67 {Z : State} {w : Nat → Addr} (hW : Wd Z w) : Fld Z Z.heap (w 16) "com/example/ferrule/ferrule/io/TypeCode" "code" "I" (.int (17 : Int32)) := hW.2.2.2.2.2.2.2.2.2.2.2.2.2.2.2.2.2.2.2.2.2.2.2.2.2.2.2.2.2.2.2.2.2.2.2.2.2.2.2.2.2.2.2.2.2.2.2.2.2.2.2.2.2.2.2.2.2.2.2.2.2.2.2.2.2.2.2.1
theorem wd68 {Z : State} {w : Nat → Addr} (hW : Wd Z w) : Fld Z Z.heap (w 4) "com/example/ferrule/ferrule/io/TypeCode" "code" "I" (.int (5 : Int32)) := hW.2.2.2.2.2.2.2.2.2.2.2.2.2.2.2.2.2.2.2.2.2.2.2.2.2.2.2.2.2.2.2.2.2.2.2.2.2.2.2.2.2.2.2.2.2.2.2.2.2.2.2.2.2.2.2.2.2.2.2.2.2.2.2.2.2.2.2.2.1
theorem wd69 {Z : State} {w : Nat → Addr} (hW : Wd Z w) : Fld Z Z.heap (w 4) "java/lang/Enum" "ordinal" "I" (.int (4 : Int32)) := hW.2.2.2.2.2.2.2.2.2.2.2.2.2.2.2.2.2.2.2.2.2.2.2.2.2.2.2.2.2.2.2.2.2.2.2.2.2.2.2.2.2.2.2.2.2.2.2.2.2.2.2.2.2.2.2.2.2.2.2.2.2.2.2.2.2.2.2.2.2.1
theorem wd70 {Z : State} {w : Nat → Addr} (hW : Wd Z w) : Fld Z Z.heap (w 9) "com/example/ferrule/ferrule/io/TypeCode" "code" "I" (.int (10 : Int32)) := hW.2.2.2.2.2.2.2.2.2.2.2.2.2.2.2.2.2.2.2.2.2.2.2.2.2.2.2.2.2.2.2.2.2.2.2.2.2.2.2.2.2.2.2.2.2.2.2.2.2.2.2.2.2.2.2.2.2.2.2.2.2.2.2.2.2.2.2.2.2.2.1
theorem wd71 {Z : State} {w : Nat → Addr} (hW : Wd Z w) : Fld Z Z.heap (w 9) "java/lang/Enum" "ordinal" "I" (.int (9 : Int32)) := hW.2.2.2.2.2.2.2.2.2.2.2.2.2.2.2.2.2.2.2.2.2.2.2.2.2.2.2.2.2.2.2.2.2.2.2.2.2.2.2.2.2.2.2.2.2.2.2.2.2.2.2.2.2.2.2.2.2.2.2.2.2.2.2.2.2.2.2.2.2.2.2.1
theorem wd72 {Z : State} {w : Nat → Addr} (hW : Wd Z w) : Fld Z Z.heap (w 12) "com/example/ferrule/ferrule/io/TypeCode" "code" "I" (.int (13 : Int32)) := hW.2.2.2.2.2.2.2.2.2.2.2.2.2.2.2.2.2.2.2.2.2.2.2.2.2.2.2.2.2.2.2.2.2.2.2.2.2.2.2.2.2.2.2.2.2.2.2.2.2.2.2.2.2.2.2.2.2.2.2.2.2.2.2.2.2.2.2.2.2.2.2.2.1
theorem wd73 {Z : State} {w : Nat → Addr} (hW : Wd Z w) : Fld Z Z.heap (w 12) "java/lang/Enum" "ordinal" "I" (.int (12 : Int32)) := hW.2.2.2.2.2.2.2.2.2.2.2.2.2.2.2.2.2.2.2.2.2.2.2.2.2.2.2.2.2.2.2.2.2.2.2.2.2.2.2.2.2.2.2.2.2.2.2.2.2.2.2.2.2.2.2.2.2.2.2.2.2.2.2.2.2.2.2.2.2.2.2.2.2.1
theorem wd74 {Z : State} {w : Nat → Addr} (hW : Wd Z w) : Fld Z Z.heap (w 13) "com/example/ferrule/ferrule/io/TypeCode" "code" "I" (.int (14 : Int32)) := hW.2.2.2.2.2.2.2.2.2.2.2.2.2.2.2.2.2.2.2.2.2.2.2.2.2.2.2.2.2.2.2.2.2.2.2.2.2.2.2.2.2.2.2.2.2.2.2.2.2.2.2.2.2.2.2.2.2.2.2.2.2.2.2.2.2.2.2.2.2.2.2.2.2.2.1
theorem wd75 {Z : State} {w : Nat → Addr} (hW : Wd Z w) : Fld Z Z.heap (w 13) "java/lang/Enum" "ordinal" "I" (.int (13 : Int32)) := hW.2.2.2.2.2.2.2.2.2.2.2.2.2.2.2.2.2.2.2.2.2.2.2.2.2.2.2.2.2.2.2.2.2.2.2.2.2.2.2.2.2.2.2.2.2.2.2.2.2.2.2.2.2.2.2.2.2.2.2.2.2.2.2.2.2.2.2.2.2.2.2.2.2.2.2.1
theorem d1_0 : decode prog_47_method_10_code 0 = .ok (.aload_n 0, 1) := by decide +kernel
theorem d1_1 : decode prog_47_method_10_code 1 = .ok (.getfield 80, 3) := by decide +kernel
theorem d1_4 : decode prog_47_method_10_code 4 = .ok (.ireturn, 1) := by decide +kernel
theorem ef_1_1 (m : MethodId) (w : Nat → Addr) : entryFrame m #[(.ref (w 0))] 1 = mkF m 0 #[.val (.ref (w 0))] [] := by first | (simp [entryFrame, mkF, argsToLocals, Value.category]; done) | rfl
theorem pnc_0 : plainName "com/example/ferrule/ferrule/io/TypeCode" = true := by first | (simp [plainName, overriddenIn]; done) | decide +kernel
def Q1_1 (Z : State) (w : Nat → Addr) (h0 : Heap) (n0 : Nat) (v : Option Value) (h : Heap) (L : List Loc) : Prop := v = some (.int (1 : Int32)) ∧ Fr n0 L ∧ h = h0
set_option maxRecDepth 65536 in
set_option maxHeartbeats 40000000 in
theorem rm1_1 (l : Launch) (Z : State) (a0 : Array Value) (hw : ∀ d ∈ tables_1, d.before a0 Z = true) (w : Nat → Addr) (hW : Wd Z w) (ws : List Jvm.Cond) (h0 : Heap) (n0 : Nat) (O0 : Old Z n0 h0) :
    MetFree l ym0 (head1 (Jvm.Cond.code ym0 prog_47_method_10_code 1 (some .int) :: ws) ({ frames := 0, cells := 0, slots := 0, locals := 0 } : Room)) (fun a U => a = #[(.ref (w 0))] ∧ Z.Warmed39 U.vm ∧ U.heap = h0) (fun _ _ _ _ _ => True) (fun _ U o U' => ∃ v L, o = .returned v ∧ Q1_1 Z w h0 n0 v U'.heap L ∧ FrameEnd U o U' L ({ frames := 0, cells := 0, slots := 0, locals := 0 } : Room).cells ({ frames := 0, cells := 0, slots := 0, locals := 0 } : Room).slots) := by
  refine MetFree.of_bodySF (plainFor_of_name pnc_0) hisR ?_
  intro p e s m args below meth c s₁ Bd hml0 hP hK
  obtain ⟨rfl, hZ, hh⟩ := hP
  have hx := Bd.exec
  have hby := Bd.bytes
  have hml : c.maxLocals = 1 := hml0
  have hown : s.vm.findClass "com/example/ferrule/ferrule/io/TypeCode" = some m.cls := findClass_of_methodNamed Bd.named
  have hnm := (name_of_methodNamed Bd.named Bd.method).1
  have X0 : Stand p l e ({ frames := 0, cells := 0, slots := 0, locals := 0 } : Room) s m #[(.ref (w 0))] below meth c s₁ [] 0 0 := Stand.of_body Bd
  have e0 : s₁.heap = h0 := by rw [← hh, Bd.state]; rfl
  have N0 := Fr.nil n0
  skip
  have pre0 : ∀ t, Steps p.tables e below (s₁.setTop (mkF m 0 #[.val (.ref (w 0))] [])) t → Steps p.tables e below (s₁.setTop (entryFrame m #[(.ref (w 0))] 1)) t := fun t k => castTop (ef_1_1 m w) k
  obtain ⟨T1, X1, e1, st1⟩ := getF X0 hx hZ hown (host := "") (Or.inl (wk48 hw)) Via.refl e0 ((wd38 hW).ext O0.2) (g := (mkF m 1 #[.val (.ref (w 0))] [(.ref (w 0))])) rfl rfl (hb hby d1_1)
  obtain ⟨fs, hr, hrun, hended, hWm, hsame⟩ := X1.leave (v := some (.int (1 : Int32))) (fun h => by rw [Bd.returns] at h; cases h)
  refine ⟨_, _, pre0 _ ?_, hrun, hended, _, _, rfl, ?_, ⟨_, rfl⟩, hWm, hsame.mono (by decide) (by decide)⟩
  · show Steps p.tables e below (s₁.setTop (mkF m 0 #[.val (.ref (w 0))] [])) _
    refine sA X0 hx hby d1_0 rfl rfl ?_
    refine st1 _ ?_
    exact retI X1 hx Bd.returns (hb hby d1_4) hr
  · show Q1_1 Z w h0 n0 _ T1.heap _
    rw [e1]
    exact ⟨rfl, N0, rfl⟩
theorem pds_0 : parseMethodDescriptor "()I" = some ⟨[], some .int⟩ := by decide +kernel
theorem d2_0 : decode prog_47_method_8_code 0 = .ok (.aload_n 0, 1) := by decide +kernel
theorem d2_1 : decode prog_47_method_8_code 1 = .ok (.getstatic 49, 3) := by decide +kernel
theorem d2_4 : decode prog_47_method_8_code 4 = .ok (.if_acmp .eq 17, 3) := by decide +kernel
theorem d2_7 : decode prog_47_method_8_code 7 = .ok (.aload_n 0, 1) := by decide +kernel
theorem d2_8 : decode prog_47_method_8_code 8 = .ok (.getstatic 52, 3) := by decide +kernel
theorem d2_11 : decode prog_47_method_8_code 11 = .ok (.if_acmp .eq 10, 3) := by decide +kernel
theorem d2_14 : decode prog_47_method_8_code 14 = .ok (.aload_n 0, 1) := by decide +kernel
theorem d2_15 : decode prog_47_method_8_code 15 = .ok (.getstatic 55, 3) := by decide +kernel
theorem d2_18 : decode prog_47_method_8_code 18 = .ok (.if_acmp .ne 7, 3) := by decide +kernel
theorem d2_25 : decode prog_47_method_8_code 25 = .ok (.iconst 0, 1) := by decide +kernel
theorem d2_26 : decode prog_47_method_8_code 26 = .ok (.ireturn, 1) := by decide +kernel
theorem ef_2_2 (m : MethodId) (w : Nat → Addr) : entryFrame m #[(.ref (w 0))] 1 = mkF m 0 #[.val (.ref (w 0))] [] := by first | (simp [entryFrame, mkF, argsToLocals, Value.category]; done) | rfl
def Q2_2 (Z : State) (w : Nat → Addr) (h0 : Heap) (n0 : Nat) (v : Option Value) (h : Heap) (L : List Loc) : Prop := v = some (.int (0 : Int32)) ∧ Fr n0 L ∧ h = h0
set_option maxRecDepth 65536 in
set_option maxHeartbeats 40000000 in
theorem rm2_2 (l : Launch) (Z : State) (a0 : Array Value) (hw : ∀ d ∈ tables_1, d.before a0 Z = true) (w : Nat → Addr) (hW : Wd Z w) (ws : List Jvm.Cond) (h0 : Heap) (n0 : Nat) (O0 : Old Z n0 h0) :
    MetFree l ym1 (head1 (Jvm.Cond.code ym1 prog_47_method_8_code 1 (some .boolean) :: ws) ({ frames := 0, cells := 0, slots := 0, locals := 0 } : Room)) (fun a U => a = #[(.ref (w 0))] ∧ Z.Warmed39 U.vm ∧ U.heap = h0) (fun _ _ _ _ _ => True) (fun _ U o U' => ∃ v L, o = .returned v ∧ Q2_2 Z w h0 n0 v U'.heap L ∧ FrameEnd U o U' L ({ frames := 0, cells := 0, slots := 0, locals := 0 } : Room).cells ({ frames := 0, cells := 0, slots := 0, locals := 0 } : Room).slots) := by
  refine MetFree.of_bodySF (plainFor_of_name pnc_0) hisR ?_
  intro p e s m args below meth c s₁ Bd hml0 hP hK
  obtain ⟨rfl, hZ, hh⟩ := hP
  have hx := Bd.exec
  have hby := Bd.bytes
  have hml : c.maxLocals = 1 := hml0
  have hown : s.vm.findClass "com/example/ferrule/ferrule/io/TypeCode" = some m.cls := findClass_of_methodNamed Bd.named
  have hnm := (name_of_methodNamed Bd.named Bd.method).1
  have X0 : Stand p l e ({ frames := 0, cells := 0, slots := 0, locals := 0 } : Room) s m #[(.ref (w 0))] below meth c s₁ [] 0 0 := Stand.of_body Bd
  have e0 : s₁.heap = h0 := by rw [← hh, Bd.state]; rfl
  have N0 := Fr.nil n0
  skip
  have pre0 : ∀ t, Steps p.tables e below (s₁.setTop (mkF m 0 #[.val (.ref (w 0))] [])) t → Steps p.tables e below (s₁.setTop (entryFrame m #[(.ref (w 0))] 1)) t := fun t k => castTop (ef_2_2 m w) k
  obtain ⟨T1, X1, e1, st1⟩ := getS2 X0 hx hZ hown (host := "") (Or.inl (wk55 hw)) Via.refl e0 ((wd30 hW).ext O0.2) (g := (mkF m 1 #[.val (.ref (w 0))] [(.ref (w 0))])) rfl (hb hby d2_1)
  obtain ⟨T2, X2, e2, st2⟩ := getS2 X1 hx hZ hown (host := "") (Or.inl (wk56 hw)) Via.refl e1 ((wd32 hW).ext O0.2) (g := (mkF m 8 #[.val (.ref (w 0))] [(.ref (w 0))])) rfl (hb hby d2_8)
  obtain ⟨T3, X3, e3, st3⟩ := getS2 X2 hx hZ hown (host := "") (Or.inl (wk57 hw)) Via.refl e2 ((wd34 hW).ext O0.2) (g := (mkF m 15 #[.val (.ref (w 0))] [(.ref (w 0))])) rfl (hb hby d2_15)
  obtain ⟨fs, hr, hrun, hended, hWm, hsame⟩ := X3.leave (v := some (.int (0 : Int32))) (fun h => by rw [Bd.returns] at h; cases h)
  refine ⟨_, _, pre0 _ ?_, hrun, hended, _, _, rfl, ?_, ⟨_, rfl⟩, hWm, hsame.mono (by decide) (by decide)⟩
  · show Steps p.tables e below (s₁.setTop (mkF m 0 #[.val (.ref (w 0))] [])) _
    refine sA X0 hx hby d2_0 rfl rfl ?_
    refine st1 _ ?_
    refine Jvm.RoadKit.acmp (g := (mkF m 4 #[.val (.ref (w 0))] [(.ref (w 15)), (.ref (w 0))])) X1 hx rfl rfl rfl (pc0 := 4) (pc' := 7) (same := false) rfl (hb hby d2_4) rfl (decide_eq_false fun q => (Fld.ne (wd38 hW) (wd45 hW) (by decide)) (Value.ref.inj q)) (by decide) (by decide) ?_
    refine sA X1 hx hby d2_7 rfl rfl ?_
    refine st2 _ ?_
    refine Jvm.RoadKit.acmp (g := (mkF m 11 #[.val (.ref (w 0))] [(.ref (w 16)), (.ref (w 0))])) X2 hx rfl rfl rfl (pc0 := 11) (pc' := 14) (same := false) rfl (hb hby d2_11) rfl (decide_eq_false fun q => (Fld.ne (wd38 hW) (wd67 hW) (by decide)) (Value.ref.inj q)) (by decide) (by decide) ?_
    refine sA X2 hx hby d2_14 rfl rfl ?_
    refine st3 _ ?_
    refine Jvm.RoadKit.acmp (g := (mkF m 18 #[.val (.ref (w 0))] [(.ref (w 17)), (.ref (w 0))])) X3 hx rfl rfl rfl (pc0 := 18) (pc' := 25) (same := false) rfl (hb hby d2_18) rfl (decide_eq_false fun q => (Fld.ne (wd38 hW) (wd48 hW) (by decide)) (Value.ref.inj q)) (by decide) (by decide) ?_
    refine sc X3 hx hby d2_25 ?_
    exact retN X3 hx (t := .boolean) Bd.returns (by simp) (hb hby d2_26) hr
  · show Q2_2 Z w h0 n0 _ T3.heap _
    rw [e3]
    exact ⟨rfl, N0, rfl⟩
theorem pds_1 : parseMethodDescriptor "()Z" = some ⟨[], some .boolean⟩ := by decide +kernel
theorem ef_1_3 (m : MethodId) (w : Nat → Addr) : entryFrame m #[(.ref (w 1))] 1 = mkF m 0 #[.val (.ref (w 1))] [] := by first | (simp [entryFrame, mkF, argsToLocals, Value.category]; done) | rfl
def Q1_3 (Z : State) (w : Nat → Addr) (h0 : Heap) (n0 : Nat) (v : Option Value) (h : Heap) (L : List Loc) : Prop := v = some (.int (2 : Int32)) ∧ Fr n0 L ∧ h = h0
set_option maxRecDepth 65536 in
set_option maxHeartbeats 40000000 in
theorem rm1_3 (l : Launch) (Z : State) (a0 : Array Value) (hw : ∀ d ∈ tables_1, d.before a0 Z = true) (w : Nat → Addr) (hW : Wd Z w) (ws : List Jvm.Cond) (h0 : Heap) (n0 : Nat) (O0 : Old Z n0 h0) :
    MetFree l ym0 (head1 (Jvm.Cond.code ym0 prog_47_method_10_code 1 (some .int) :: ws) ({ frames := 0, cells := 0, slots := 0, locals := 0 } : Room)) (fun a U => a = #[(.ref (w 1))] ∧ Z.Warmed39 U.vm ∧ U.heap = h0) (fun _ _ _ _ _ => True) (fun _ U o U' => ∃ v L, o = .returned v ∧ Q1_3 Z w h0 n0 v U'.heap L ∧ FrameEnd U o U' L ({ frames := 0, cells := 0, slots := 0, locals := 0 } : Room).cells ({ frames := 0, cells := 0, slots := 0, locals := 0 } : Room).slots) := by
  refine MetFree.of_bodySF (plainFor_of_name pnc_0) hisR ?_
  intro p e s m args below meth c s₁ Bd hml0 hP hK
  obtain ⟨rfl, hZ, hh⟩ := hP
  have hx := Bd.exec
  have hby := Bd.bytes
  have hml : c.maxLocals = 1 := hml0
  have hown : s.vm.findClass "com/example/ferrule/ferrule/io/TypeCode" = some m.cls := findClass_of_methodNamed Bd.named
  have hnm := (name_of_methodNamed Bd.named Bd.method).1
  have X0 : Stand p l e ({ frames := 0, cells := 0, slots := 0, locals := 0 } : Room) s m #[(.ref (w 1))] below meth c s₁ [] 0 0 := Stand.of_body Bd
  have e0 : s₁.heap = h0 := by rw [← hh, Bd.state]; rfl
  have N0 := Fr.nil n0
  skip
  have pre0 : ∀ t, Steps p.tables e below (s₁.setTop (mkF m 0 #[.val (.ref (w 1))] [])) t → Steps p.tables e below (s₁.setTop (entryFrame m #[(.ref (w 1))] 1)) t := fun t k => castTop (ef_1_3 m w) k
  obtain ⟨T1, X1, e1, st1⟩ := getF X0 hx hZ hown (host := "") (Or.inl (wk48 hw)) Via.refl e0 ((wd59 hW).ext O0.2) (g := (mkF m 1 #[.val (.ref (w 1))] [(.ref (w 1))])) rfl rfl (hb hby d1_1)
  obtain ⟨fs, hr, hrun, hended, hWm, hsame⟩ := X1.leave (v := some (.int (2 : Int32))) (fun h => by rw [Bd.returns] at h; cases h)
  refine ⟨_, _, pre0 _ ?_, hrun, hended, _, _, rfl, ?_, ⟨_, rfl⟩, hWm, hsame.mono (by decide) (by decide)⟩
  · show Steps p.tables e below (s₁.setTop (mkF m 0 #[.val (.ref (w 1))] [])) _
    refine sA X0 hx hby d1_0 rfl rfl ?_
    refine st1 _ ?_
    exact retI X1 hx Bd.returns (hb hby d1_4) hr
  · show Q1_3 Z w h0 n0 _ T1.heap _
    rw [e1]
    exact ⟨rfl, N0, rfl⟩
theorem ef_2_4 (m : MethodId) (w : Nat → Addr) : entryFrame m #[(.ref (w 1))] 1 = mkF m 0 #[.val (.ref (w 1))] [] := by first | (simp [entryFrame, mkF, argsToLocals, Value.category]; done) | rfl
def Q2_4 (Z : State) (w : Nat → Addr) (h0 : Heap) (n0 : Nat) (v : Option Value) (h : Heap) (L : List Loc) : Prop := v = some (.int (0 : Int32)) ∧ Fr n0 L ∧ h = h0
set_option maxRecDepth 65536 in
set_option maxHeartbeats 40000000 in
theorem rm2_4 (l : Launch) (Z : State) (a0 : Array Value) (hw : ∀ d ∈ tables_1, d.before a0 Z = true) (w : Nat → Addr) (hW : Wd Z w) (ws : List Jvm.Cond) (h0 : Heap) (n0 : Nat) (O0 : Old Z n0 h0) :
    MetFree l ym1 (head1 (Jvm.Cond.code ym1 prog_47_method_8_code 1 (some .boolean) :: ws) ({ frames := 0, cells := 0, slots := 0, locals := 0 } : Room)) (fun a U => a = #[(.ref (w 1))] ∧ Z.Warmed39 U.vm ∧ U.heap = h0) (fun _ _ _ _ _ => True) (fun _ U o U' => ∃ v L, o = .returned v ∧ Q2_4 Z w h0 n0 v U'.heap L ∧ FrameEnd U o U' L ({ frames := 0, cells := 0, slots := 0, locals := 0 } : Room).cells ({ frames := 0, cells := 0, slots := 0, locals := 0 } : Room).slots) := by
  refine MetFree.of_bodySF (plainFor_of_name pnc_0) hisR ?_
  intro p e s m args below meth c s₁ Bd hml0 hP hK
  obtain ⟨rfl, hZ, hh⟩ := hP
  have hx := Bd.exec
  have hby := Bd.bytes
  have hml : c.maxLocals = 1 := hml0
  have hown : s.vm.findClass "com/example/ferrule/ferrule/io/TypeCode" = some m.cls := findClass_of_methodNamed Bd.named
  have hnm := (name_of_methodNamed Bd.named Bd.method).1
  have X0 : Stand p l e ({ frames := 0, cells := 0, slots := 0, locals := 0 } : Room) s m #[(.ref (w 1))] below meth c s₁ [] 0 0 := Stand.of_body Bd
  have e0 : s₁.heap = h0 := by rw [← hh, Bd.state]; rfl
  have N0 := Fr.nil n0
  skip
  have pre0 : ∀ t, Steps p.tables e below (s₁.setTop (mkF m 0 #[.val (.ref (w 1))] [])) t → Steps p.tables e below (s₁.setTop (entryFrame m #[(.ref (w 1))] 1)) t := fun t k => castTop (ef_2_4 m w) k
  obtain ⟨T1, X1, e1, st1⟩ := getS2 X0 hx hZ hown (host := "") (Or.inl (wk55 hw)) Via.refl e0 ((wd30 hW).ext O0.2) (g := (mkF m 1 #[.val (.ref (w 1))] [(.ref (w 1))])) rfl (hb hby d2_1)
  obtain ⟨T2, X2, e2, st2⟩ := getS2 X1 hx hZ hown (host := "") (Or.inl (wk56 hw)) Via.refl e1 ((wd32 hW).ext O0.2) (g := (mkF m 8 #[.val (.ref (w 1))] [(.ref (w 1))])) rfl (hb hby d2_8)
  obtain ⟨T3, X3, e3, st3⟩ := getS2 X2 hx hZ hown (host := "") (Or.inl (wk57 hw)) Via.refl e2 ((wd34 hW).ext O0.2) (g := (mkF m 15 #[.val (.ref (w 1))] [(.ref (w 1))])) rfl (hb hby d2_15)
  obtain ⟨fs, hr, hrun, hended, hWm, hsame⟩ := X3.leave (v := some (.int (0 : Int32))) (fun h => by rw [Bd.returns] at h; cases h)
  refine ⟨_, _, pre0 _ ?_, hrun, hended, _, _, rfl, ?_, ⟨_, rfl⟩, hWm, hsame.mono (by decide) (by decide)⟩
  · show Steps p.tables e below (s₁.setTop (mkF m 0 #[.val (.ref (w 1))] [])) _
    refine sA X0 hx hby d2_0 rfl rfl ?_
    refine st1 _ ?_
    refine Jvm.RoadKit.acmp (g := (mkF m 4 #[.val (.ref (w 1))] [(.ref (w 15)), (.ref (w 1))])) X1 hx rfl rfl rfl (pc0 := 4) (pc' := 7) (same := false) rfl (hb hby d2_4) rfl (decide_eq_false fun q => (Fld.ne (wd59 hW) (wd45 hW) (by decide)) (Value.ref.inj q)) (by decide) (by decide) ?_
    refine sA X1 hx hby d2_7 rfl rfl ?_
    refine st2 _ ?_
    refine Jvm.RoadKit.acmp (g := (mkF m 11 #[.val (.ref (w 1))] [(.ref (w 16)), (.ref (w 1))])) X2 hx rfl rfl rfl (pc0 := 11) (pc' := 14) (same := false) rfl (hb hby d2_11) rfl (decide_eq_false fun q => (Fld.ne (wd59 hW) (wd67 hW) (by decide)) (Value.ref.inj q)) (by decide) (by decide) ?_
    refine sA X2 hx hby d2_14 rfl rfl ?_
    refine st3 _ ?_
    refine Jvm.RoadKit.acmp (g := (mkF m 18 #[.val (.ref (w 1))] [(.ref (w 17)), (.ref (w 1))])) X3 hx rfl rfl rfl (pc0 := 18) (pc' := 25) (same := false) rfl (hb hby d2_18) rfl (decide_eq_false fun q => (Fld.ne (wd59 hW) (wd48 hW) (by decide)) (Value.ref.inj q)) (by decide) (by decide) ?_
    refine sc X3 hx hby d2_25 ?_
    exact retN X3 hx (t := .boolean) Bd.returns (by simp) (hb hby d2_26) hr
  · show Q2_4 Z w h0 n0 _ T3.heap _
    rw [e3]
    exact ⟨rfl, N0, rfl⟩
theorem ef_1_5 (m : MethodId) (w : Nat → Addr) : entryFrame m #[(.ref (w 2))] 1 = mkF m 0 #[.val (.ref (w 2))] [] := by first | (simp [entryFrame, mkF, argsToLocals, Value.category]; done) | rfl
def Q1_5 (Z : State) (w : Nat → Addr) (h0 : Heap) (n0 : Nat) (v : Option Value) (h : Heap) (L : List Loc) : Prop := v = some (.int (3 : Int32)) ∧ Fr n0 L ∧ h = h0
set_option maxRecDepth 65536 in
set_option maxHeartbeats 40000000 in
theorem rm1_5 (l : Launch) (Z : State) (a0 : Array Value) (hw : ∀ d ∈ tables_1, d.before a0 Z = true) (w : Nat → Addr) (hW : Wd Z w) (ws : List Jvm.Cond) (h0 : Heap) (n0 : Nat) (O0 : Old Z n0 h0) :
    MetFree l ym0 (head1 (Jvm.Cond.code ym0 prog_47_method_10_code 1 (some .int) :: ws) ({ frames := 0, cells := 0, slots := 0, locals := 0 } : Room)) (fun a U => a = #[(.ref (w 2))] ∧ Z.Warmed39 U.vm ∧ U.heap = h0) (fun _ _ _ _ _ => True) (fun _ U o U' => ∃ v L, o = .returned v ∧ Q1_5 Z w h0 n0 v U'.heap L ∧ FrameEnd U o U' L ({ frames := 0, cells := 0, slots := 0, locals := 0 } : Room).cells ({ frames := 0, cells := 0, slots := 0, locals := 0 } : Room).slots) := by
  refine MetFree.of_bodySF (plainFor_of_name pnc_0) hisR ?_
  intro p e s m args below meth c s₁ Bd hml0 hP hK
  obtain ⟨rfl, hZ, hh⟩ := hP
  have hx := Bd.exec
  have hby := Bd.bytes
  have hml : c.maxLocals = 1 := hml0
  have hown : s.vm.findClass "com/example/ferrule/ferrule/io/TypeCode" = some m.cls := findClass_of_methodNamed Bd.named
  have hnm := (name_of_methodNamed Bd.named Bd.method).1
  have X0 : Stand p l e ({ frames := 0, cells := 0, slots := 0, locals := 0 } : Room) s m #[(.ref (w 2))] below meth c s₁ [] 0 0 := Stand.of_body Bd
  have e0 : s₁.heap = h0 := by rw [← hh, Bd.state]; rfl
  have N0 := Fr.nil n0
  skip
  have pre0 : ∀ t, Steps p.tables e below (s₁.setTop (mkF m 0 #[.val (.ref (w 2))] [])) t → Steps p.tables e below (s₁.setTop (entryFrame m #[(.ref (w 2))] 1)) t := fun t k => castTop (ef_1_5 m w) k
  obtain ⟨T1, X1, e1, st1⟩ := getF X0 hx hZ hown (host := "") (Or.inl (wk48 hw)) Via.refl e0 ((wd51 hW).ext O0.2) (g := (mkF m 1 #[.val (.ref (w 2))] [(.ref (w 2))])) rfl rfl (hb hby d1_1)
  obtain ⟨fs, hr, hrun, hended, hWm, hsame⟩ := X1.leave (v := some (.int (3 : Int32))) (fun h => by rw [Bd.returns] at h; cases h)
  refine ⟨_, _, pre0 _ ?_, hrun, hended, _, _, rfl, ?_, ⟨_, rfl⟩, hWm, hsame.mono (by decide) (by decide)⟩
  · show Steps p.tables e below (s₁.setTop (mkF m 0 #[.val (.ref (w 2))] [])) _
    refine sA X0 hx hby d1_0 rfl rfl ?_
    refine st1 _ ?_
    exact retI X1 hx Bd.returns (hb hby d1_4) hr
  · show Q1_5 Z w h0 n0 _ T1.heap _
    rw [e1]
    exact ⟨rfl, N0, rfl⟩
theorem ef_2_6 (m : MethodId) (w : Nat → Addr) : entryFrame m #[(.ref (w 2))] 1 = mkF m 0 #[.val (.ref (w 2))] [] := by first | (simp [entryFrame, mkF, argsToLocals, Value.category]; done) | rfl
def Q2_6 (Z : State) (w : Nat → Addr) (h0 : Heap) (n0 : Nat) (v : Option Value) (h : Heap) (L : List Loc) : Prop := v = some (.int (0 : Int32)) ∧ Fr n0 L ∧ h = h0
set_option maxRecDepth 65536 in
set_option maxHeartbeats 40000000 in
theorem rm2_6 (l : Launch) (Z : State) (a0 : Array Value) (hw : ∀ d ∈ tables_1, d.before a0 Z = true) (w : Nat → Addr) (hW : Wd Z w) (ws : List Jvm.Cond) (h0 : Heap) (n0 : Nat) (O0 : Old Z n0 h0) :
    MetFree l ym1 (head1 (Jvm.Cond.code ym1 prog_47_method_8_code 1 (some .boolean) :: ws) ({ frames := 0, cells := 0, slots := 0, locals := 0 } : Room)) (fun a U => a = #[(.ref (w 2))] ∧ Z.Warmed39 U.vm ∧ U.heap = h0) (fun _ _ _ _ _ => True) (fun _ U o U' => ∃ v L, o = .returned v ∧ Q2_6 Z w h0 n0 v U'.heap L ∧ FrameEnd U o U' L ({ frames := 0, cells := 0, slots := 0, locals := 0 } : Room).cells ({ frames := 0, cells := 0, slots := 0, locals := 0 } : Room).slots) := by
  refine MetFree.of_bodySF (plainFor_of_name pnc_0) hisR ?_
  intro p e s m args below meth c s₁ Bd hml0 hP hK
  obtain ⟨rfl, hZ, hh⟩ := hP
  have hx := Bd.exec
  have hby := Bd.bytes
  have hml : c.maxLocals = 1 := hml0
  have hown : s.vm.findClass "com/example/ferrule/ferrule/io/TypeCode" = some m.cls := findClass_of_methodNamed Bd.named
  have hnm := (name_of_methodNamed Bd.named Bd.method).1
  have X0 : Stand p l e ({ frames := 0, cells := 0, slots := 0, locals := 0 } : Room) s m #[(.ref (w 2))] below meth c s₁ [] 0 0 := Stand.of_body Bd
  have e0 : s₁.heap = h0 := by rw [← hh, Bd.state]; rfl
  have N0 := Fr.nil n0
  skip
  have pre0 : ∀ t, Steps p.tables e below (s₁.setTop (mkF m 0 #[.val (.ref (w 2))] [])) t → Steps p.tables e below (s₁.setTop (entryFrame m #[(.ref (w 2))] 1)) t := fun t k => castTop (ef_2_6 m w) k
  obtain ⟨T1, X1, e1, st1⟩ := getS2 X0 hx hZ hown (host := "") (Or.inl (wk55 hw)) Via.refl e0 ((wd30 hW).ext O0.2) (g := (mkF m 1 #[.val (.ref (w 2))] [(.ref (w 2))])) rfl (hb hby d2_1)
  obtain ⟨T2, X2, e2, st2⟩ := getS2 X1 hx hZ hown (host := "") (Or.inl (wk56 hw)) Via.refl e1 ((wd32 hW).ext O0.2) (g := (mkF m 8 #[.val (.ref (w 2))] [(.ref (w 2))])) rfl (hb hby d2_8)
  obtain ⟨T3, X3, e3, st3⟩ := getS2 X2 hx hZ hown (host := "") (Or.inl (wk57 hw)) Via.refl e2 ((wd34 hW).ext O0.2) (g := (mkF m 15 #[.val (.ref (w 2))] [(.ref (w 2))])) rfl (hb hby d2_15)
  obtain ⟨fs, hr, hrun, hended, hWm, hsame⟩ := X3.leave (v := some (.int (0 : Int32))) (fun h => by rw [Bd.returns] at h; cases h)
  refine ⟨_, _, pre0 _ ?_, hrun, hended, _, _, rfl, ?_, ⟨_, rfl⟩, hWm, hsame.mono (by decide) (by decide)⟩
  · show Steps p.tables e below (s₁.setTop (mkF m 0 #[.val (.ref (w 2))] [])) _
    refine sA X0 hx hby d2_0 rfl rfl ?_
    refine st1 _ ?_
    refine Jvm.RoadKit.acmp (g := (mkF m 4 #[.val (.ref (w 2))] [(.ref (w 15)), (.ref (w 2))])) X1 hx rfl rfl rfl (pc0 := 4) (pc' := 7) (same := false) rfl (hb hby d2_4) rfl (decide_eq_false fun q => (Fld.ne (wd51 hW) (wd45 hW) (by decide)) (Value.ref.inj q)) (by decide) (by decide) ?_
    refine sA X1 hx hby d2_7 rfl rfl ?_
    refine st2 _ ?_
    refine Jvm.RoadKit.acmp (g := (mkF m 11 #[.val (.ref (w 2))] [(.ref (w 16)), (.ref (w 2))])) X2 hx rfl rfl rfl (pc0 := 11) (pc' := 14) (same := false) rfl (hb hby d2_11) rfl (decide_eq_false fun q => (Fld.ne (wd51 hW) (wd67 hW) (by decide)) (Value.ref.inj q)) (by decide) (by decide) ?_
    refine sA X2 hx hby d2_14 rfl rfl ?_
    refine st3 _ ?_
    refine Jvm.RoadKit.acmp (g := (mkF m 18 #[.val (.ref (w 2))] [(.ref (w 17)), (.ref (w 2))])) X3 hx rfl rfl rfl (pc0 := 18) (pc' := 25) (same := false) rfl (hb hby d2_18) rfl (decide_eq_false fun q => (Fld.ne (wd51 hW) (wd48 hW) (by decide)) (Value.ref.inj q)) (by decide) (by decide) ?_
    refine sc X3 hx hby d2_25 ?_
    exact retN X3 hx (t := .boolean) Bd.returns (by simp) (hb hby d2_26) hr
  · show Q2_6 Z w h0 n0 _ T3.heap _
    rw [e3]
    exact ⟨rfl, N0, rfl⟩
theorem ef_1_7 (m : MethodId) (w : Nat → Addr) : entryFrame m #[(.ref (w 3))] 1 = mkF m 0 #[.val (.ref (w 3))] [] := by first | (simp [entryFrame, mkF, argsToLocals, Value.category]; done) | rfl
def Q1_7 (Z : State) (w : Nat → Addr) (h0 : Heap) (n0 : Nat) (v : Option Value) (h : Heap) (L : List Loc) : Prop := v = some (.int (4 : Int32)) ∧ Fr n0 L ∧ h = h0
set_option maxRecDepth 65536 in
set_option maxHeartbeats 40000000 in
theorem rm1_7 (l : Launch) (Z : State) (a0 : Array Value) (hw : ∀ d ∈ tables_1, d.before a0 Z = true) (w : Nat → Addr) (hW : Wd Z w) (ws : List Jvm.Cond) (h0 : Heap) (n0 : Nat) (O0 : Old Z n0 h0) :
    MetFree l ym0 (head1 (Jvm.Cond.code ym0 prog_47_method_10_code 1 (some .int) :: ws) ({ frames := 0, cells := 0, slots := 0, locals := 0 } : Room)) (fun a U => a = #[(.ref (w 3))] ∧ Z.Warmed39 U.vm ∧ U.heap = h0) (fun _ _ _ _ _ => True) (fun _ U o U' => ∃ v L, o = .returned v ∧ Q1_7 Z w h0 n0 v U'.heap L ∧ FrameEnd U o U' L ({ frames := 0, cells := 0, slots := 0, locals := 0 } : Room).cells ({ frames := 0, cells := 0, slots := 0, locals := 0 } : Room).slots) := by
  refine MetFree.of_bodySF (plainFor_of_name pnc_0) hisR ?_
  intro p e s m args below meth c s₁ Bd hml0 hP hK
  obtain ⟨rfl, hZ, hh⟩ := hP
  have hx := Bd.exec
  have hby := Bd.bytes
  have hml : c.maxLocals = 1 := hml0
  have hown : s.vm.findClass "com/example/ferrule/ferrule/io/TypeCode" = some m.cls := findClass_of_methodNamed Bd.named
  have hnm := (name_of_methodNamed Bd.named Bd.method).1
  have X0 : Stand p l e ({ frames := 0, cells := 0, slots := 0, locals := 0 } : Room) s m #[(.ref (w 3))] below meth c s₁ [] 0 0 := Stand.of_body Bd
  have e0 : s₁.heap = h0 := by rw [← hh, Bd.state]; rfl
  have N0 := Fr.nil n0
  skip
  have pre0 : ∀ t, Steps p.tables e below (s₁.setTop (mkF m 0 #[.val (.ref (w 3))] [])) t → Steps p.tables e below (s₁.setTop (entryFrame m #[(.ref (w 3))] 1)) t := fun t k => castTop (ef_1_7 m w) k
  obtain ⟨T1, X1, e1, st1⟩ := getF X0 hx hZ hown (host := "") (Or.inl (wk48 hw)) Via.refl e0 ((wd43 hW).ext O0.2) (g := (mkF m 1 #[.val (.ref (w 3))] [(.ref (w 3))])) rfl rfl (hb hby d1_1)
  obtain ⟨fs, hr, hrun, hended, hWm, hsame⟩ := X1.leave (v := some (.int (4 : Int32))) (fun h => by rw [Bd.returns] at h; cases h)
  refine ⟨_, _, pre0 _ ?_, hrun, hended, _, _, rfl, ?_, ⟨_, rfl⟩, hWm, hsame.mono (by decide) (by decide)⟩
  · show Steps p.tables e below (s₁.setTop (mkF m 0 #[.val (.ref (w 3))] [])) _
    refine sA X0 hx hby d1_0 rfl rfl ?_
    refine st1 _ ?_
    exact retI X1 hx Bd.returns (hb hby d1_4) hr
  · show Q1_7 Z w h0 n0 _ T1.heap _
    rw [e1]
    exact ⟨rfl, N0, rfl⟩
theorem ef_2_8 (m : MethodId) (w : Nat → Addr) : entryFrame m #[(.ref (w 3))] 1 = mkF m 0 #[.val (.ref (w 3))] [] := by first | (simp [entryFrame, mkF, argsToLocals, Value.category]; done) | rfl
def Q2_8 (Z : State) (w : Nat → Addr) (h0 : Heap) (n0 : Nat) (v : Option Value) (h : Heap) (L : List Loc) : Prop := v = some (.int (0 : Int32)) ∧ Fr n0 L ∧ h = h0
set_option maxRecDepth 65536 in
set_option maxHeartbeats 40000000 in
theorem rm2_8 (l : Launch) (Z : State) (a0 : Array Value) (hw : ∀ d ∈ tables_1, d.before a0 Z = true) (w : Nat → Addr) (hW : Wd Z w) (ws : List Jvm.Cond) (h0 : Heap) (n0 : Nat) (O0 : Old Z n0 h0) :
    MetFree l ym1 (head1 (Jvm.Cond.code ym1 prog_47_method_8_code 1 (some .boolean) :: ws) ({ frames := 0, cells := 0, slots := 0, locals := 0 } : Room)) (fun a U => a = #[(.ref (w 3))] ∧ Z.Warmed39 U.vm ∧ U.heap = h0) (fun _ _ _ _ _ => True) (fun _ U o U' => ∃ v L, o = .returned v ∧ Q2_8 Z w h0 n0 v U'.heap L ∧ FrameEnd U o U' L ({ frames := 0, cells := 0, slots := 0, locals := 0 } : Room).cells ({ frames := 0, cells := 0, slots := 0, locals := 0 } : Room).slots) := by
  refine MetFree.of_bodySF (plainFor_of_name pnc_0) hisR ?_
  intro p e s m args below meth c s₁ Bd hml0 hP hK
  obtain ⟨rfl, hZ, hh⟩ := hP
  have hx := Bd.exec
  have hby := Bd.bytes
  have hml : c.maxLocals = 1 := hml0
  have hown : s.vm.findClass "com/example/ferrule/ferrule/io/TypeCode" = some m.cls := findClass_of_methodNamed Bd.named
  have hnm := (name_of_methodNamed Bd.named Bd.method).1
  have X0 : Stand p l e ({ frames := 0, cells := 0, slots := 0, locals := 0 } : Room) s m #[(.ref (w 3))] below meth c s₁ [] 0 0 := Stand.of_body Bd
  have e0 : s₁.heap = h0 := by rw [← hh, Bd.state]; rfl
  have N0 := Fr.nil n0
  skip
  have pre0 : ∀ t, Steps p.tables e below (s₁.setTop (mkF m 0 #[.val (.ref (w 3))] [])) t → Steps p.tables e below (s₁.setTop (entryFrame m #[(.ref (w 3))] 1)) t := fun t k => castTop (ef_2_8 m w) k
  obtain ⟨T1, X1, e1, st1⟩ := getS2 X0 hx hZ hown (host := "") (Or.inl (wk55 hw)) Via.refl e0 ((wd30 hW).ext O0.2) (g := (mkF m 1 #[.val (.ref (w 3))] [(.ref (w 3))])) rfl (hb hby d2_1)
  obtain ⟨T2, X2, e2, st2⟩ := getS2 X1 hx hZ hown (host := "") (Or.inl (wk56 hw)) Via.refl e1 ((wd32 hW).ext O0.2) (g := (mkF m 8 #[.val (.ref (w 3))] [(.ref (w 3))])) rfl (hb hby d2_8)
  obtain ⟨T3, X3, e3, st3⟩ := getS2 X2 hx hZ hown (host := "") (Or.inl (wk57 hw)) Via.refl e2 ((wd34 hW).ext O0.2) (g := (mkF m 15 #[.val (.ref (w 3))] [(.ref (w 3))])) rfl (hb hby d2_15)
  obtain ⟨fs, hr, hrun, hended, hWm, hsame⟩ := X3.leave (v := some (.int (0 : Int32))) (fun h => by rw [Bd.returns] at h; cases h)
  refine ⟨_, _, pre0 _ ?_, hrun, hended, _, _, rfl, ?_, ⟨_, rfl⟩, hWm, hsame.mono (by decide) (by decide)⟩
  · show Steps p.tables e below (s₁.setTop (mkF m 0 #[.val (.ref (w 3))] [])) _
    refine sA X0 hx hby d2_0 rfl rfl ?_
    refine st1 _ ?_
    refine Jvm.RoadKit.acmp (g := (mkF m 4 #[.val (.ref (w 3))] [(.ref (w 15)), (.ref (w 3))])) X1 hx rfl rfl rfl (pc0 := 4) (pc' := 7) (same := false) rfl (hb hby d2_4) rfl (decide_eq_false fun q => (Fld.ne (wd43 hW) (wd45 hW) (by decide)) (Value.ref.inj q)) (by decide) (by decide) ?_
    refine sA X1 hx hby d2_7 rfl rfl ?_
    refine st2 _ ?_
    refine Jvm.RoadKit.acmp (g := (mkF m 11 #[.val (.ref (w 3))] [(.ref (w 16)), (.ref (w 3))])) X2 hx rfl rfl rfl (pc0 := 11) (pc' := 14) (same := false) rfl (hb hby d2_11) rfl (decide_eq_false fun q => (Fld.ne (wd43 hW) (wd67 hW) (by decide)) (Value.ref.inj q)) (by decide) (by decide) ?_
    refine sA X2 hx hby d2_14 rfl rfl ?_
    refine st3 _ ?_
    refine Jvm.RoadKit.acmp (g := (mkF m 18 #[.val (.ref (w 3))] [(.ref (w 17)), (.ref (w 3))])) X3 hx rfl rfl rfl (pc0 := 18) (pc' := 25) (same := false) rfl (hb hby d2_18) rfl (decide_eq_false fun q => (Fld.ne (wd43 hW) (wd48 hW) (by decide)) (Value.ref.inj q)) (by decide) (by decide) ?_
    refine sc X3 hx hby d2_25 ?_
    exact retN X3 hx (t := .boolean) Bd.returns (by simp) (hb hby d2_26) hr
  · show Q2_8 Z w h0 n0 _ T3.heap _
    rw [e3]
    exact ⟨rfl, N0, rfl⟩
theorem ef_1_9 (m : MethodId) (w : Nat → Addr) : entryFrame m #[(.ref (w 4))] 1 = mkF m 0 #[.val (.ref (w 4))] [] := by first | (simp [entryFrame, mkF, argsToLocals, Value.category]; done) | rfl
def Q1_9 (Z : State) (w : Nat → Addr) (h0 : Heap) (n0 : Nat) (v : Option Value) (h : Heap) (L : List Loc) : Prop := v = some (.int (5 : Int32)) ∧ Fr n0 L ∧ h = h0
set_option maxRecDepth 65536 in
set_option maxHeartbeats 40000000 in
theorem rm1_9 (l : Launch) (Z : State) (a0 : Array Value) (hw : ∀ d ∈ tables_1, d.before a0 Z = true) (w : Nat → Addr) (hW : Wd Z w) (ws : List Jvm.Cond) (h0 : Heap) (n0 : Nat) (O0 : Old Z n0 h0) :
    MetFree l ym0 (head1 (Jvm.Cond.code ym0 prog_47_method_10_code 1 (some .int) :: ws) ({ frames := 0, cells := 0, slots := 0, locals := 0 } : Room)) (fun a U => a = #[(.ref (w 4))] ∧ Z.Warmed39 U.vm ∧ U.heap = h0) (fun _ _ _ _ _ => True) (fun _ U o U' => ∃ v L, o = .returned v ∧ Q1_9 Z w h0 n0 v U'.heap L ∧ FrameEnd U o U' L ({ frames := 0, cells := 0, slots := 0, locals := 0 } : Room).cells ({ frames := 0, cells := 0, slots := 0, locals := 0 } : Room).slots) := by
  refine MetFree.of_bodySF (plainFor_of_name pnc_0) hisR ?_
  intro p e s m args below meth c s₁ Bd hml0 hP hK
  obtain ⟨rfl, hZ, hh⟩ := hP
  have hx := Bd.exec
  have hby := Bd.bytes
  have hml : c.maxLocals = 1 := hml0
  have hown : s.vm.findClass "com/example/ferrule/ferrule/io/TypeCode" = some m.cls := findClass_of_methodNamed Bd.named
  have hnm := (name_of_methodNamed Bd.named Bd.method).1
  have X0 : Stand p l e ({ frames := 0, cells := 0, slots := 0, locals := 0 } : Room) s m #[(.ref (w 4))] below meth c s₁ [] 0 0 := Stand.of_body Bd
  have e0 : s₁.heap = h0 := by rw [← hh, Bd.state]; rfl
  have N0 := Fr.nil n0
  skip
  have pre0 : ∀ t, Steps p.tables e below (s₁.setTop (mkF m 0 #[.val (.ref (w 4))] [])) t → Steps p.tables e below (s₁.setTop (entryFrame m #[(.ref (w 4))] 1)) t := fun t k => castTop (ef_1_9 m w) k
  obtain ⟨T1, X1, e1, st1⟩ := getF X0 hx hZ hown (host := "") (Or.inl (wk48 hw)) Via.refl e0 ((wd68 hW).ext O0.2) (g := (mkF m 1 #[.val (.ref (w 4))] [(.ref (w 4))])) rfl rfl (hb hby d1_1)
  obtain ⟨fs, hr, hrun, hended, hWm, hsame⟩ := X1.leave (v := some (.int (5 : Int32))) (fun h => by rw [Bd.returns] at h; cases h)
  refine ⟨_, _, pre0 _ ?_, hrun, hended, _, _, rfl, ?_, ⟨_, rfl⟩, hWm, hsame.mono (by decide) (by decide)⟩
  · show Steps p.tables e below (s₁.setTop (mkF m 0 #[.val (.ref (w 4))] [])) _
    refine sA X0 hx hby d1_0 rfl rfl ?_
    refine st1 _ ?_
    exact retI X1 hx Bd.returns (hb hby d1_4) hr
  · show Q1_9 Z w h0 n0 _ T1.heap _
    rw [e1]
    exact ⟨rfl, N0, rfl⟩
theorem ef_2_10 (m : MethodId) (w : Nat → Addr) : entryFrame m #[(.ref (w 4))] 1 = mkF m 0 #[.val (.ref (w 4))] [] := by first | (simp [entryFrame, mkF, argsToLocals, Value.category]; done) | rfl
def Q2_10 (Z : State) (w : Nat → Addr) (h0 : Heap) (n0 : Nat) (v : Option Value) (h : Heap) (L : List Loc) : Prop := v = some (.int (0 : Int32)) ∧ Fr n0 L ∧ h = h0
set_option maxRecDepth 65536 in
set_option maxHeartbeats 40000000 in
theorem rm2_10 (l : Launch) (Z : State) (a0 : Array Value) (hw : ∀ d ∈ tables_1, d.before a0 Z = true) (w : Nat → Addr) (hW : Wd Z w) (ws : List Jvm.Cond) (h0 : Heap) (n0 : Nat) (O0 : Old Z n0 h0) :
    MetFree l ym1 (head1 (Jvm.Cond.code ym1 prog_47_method_8_code 1 (some .boolean) :: ws) ({ frames := 0, cells := 0, slots := 0, locals := 0 } : Room)) (fun a U => a = #[(.ref (w 4))] ∧ Z.Warmed39 U.vm ∧ U.heap = h0) (fun _ _ _ _ _ => True) (fun _ U o U' => ∃ v L, o = .returned v ∧ Q2_10 Z w h0 n0 v U'.heap L ∧ FrameEnd U o U' L ({ frames := 0, cells := 0, slots := 0, locals := 0 } : Room).cells ({ frames := 0, cells := 0, slots := 0, locals := 0 } : Room).slots) := by
  refine MetFree.of_bodySF (plainFor_of_name pnc_0) hisR ?_
  intro p e s m args below meth c s₁ Bd hml0 hP hK
  obtain ⟨rfl, hZ, hh⟩ := hP
  have hx := Bd.exec
  have hby := Bd.bytes
  have hml : c.maxLocals = 1 := hml0
  have hown : s.vm.findClass "com/example/ferrule/ferrule/io/TypeCode" = some m.cls := findClass_of_methodNamed Bd.named
  have hnm := (name_of_methodNamed Bd.named Bd.method).1
  have X0 : Stand p l e ({ frames := 0, cells := 0, slots := 0, locals := 0 } : Room) s m #[(.ref (w 4))] below meth c s₁ [] 0 0 := Stand.of_body Bd
  have e0 : s₁.heap = h0 := by rw [← hh, Bd.state]; rfl
  have N0 := Fr.nil n0
  skip
  have pre0 : ∀ t, Steps p.tables e below (s₁.setTop (mkF m 0 #[.val (.ref (w 4))] [])) t → Steps p.tables e below (s₁.setTop (entryFrame m #[(.ref (w 4))] 1)) t := fun t k => castTop (ef_2_10 m w) k
  obtain ⟨T1, X1, e1, st1⟩ := getS2 X0 hx hZ hown (host := "") (Or.inl (wk55 hw)) Via.refl e0 ((wd30 hW).ext O0.2) (g := (mkF m 1 #[.val (.ref (w 4))] [(.ref (w 4))])) rfl (hb hby d2_1)
  obtain ⟨T2, X2, e2, st2⟩ := getS2 X1 hx hZ hown (host := "") (Or.inl (wk56 hw)) Via.refl e1 ((wd32 hW).ext O0.2) (g := (mkF m 8 #[.val (.ref (w 4))] [(.ref (w 4))])) rfl (hb hby d2_8)
  obtain ⟨T3, X3, e3, st3⟩ := getS2 X2 hx hZ hown (host := "") (Or.inl (wk57 hw)) Via.refl e2 ((wd34 hW).ext O0.2) (g := (mkF m 15 #[.val (.ref (w 4))] [(.ref (w 4))])) rfl (hb hby d2_15)
  obtain ⟨fs, hr, hrun, hended, hWm, hsame⟩ := X3.leave (v := some (.int (0 : Int32))) (fun h => by rw [Bd.returns] at h; cases h)
  refine ⟨_, _, pre0 _ ?_, hrun, hended, _, _, rfl, ?_, ⟨_, rfl⟩, hWm, hsame.mono (by decide) (by decide)⟩
  · show Steps p.tables e below (s₁.setTop (mkF m 0 #[.val (.ref (w 4))] [])) _
    refine sA X0 hx hby d2_0 rfl rfl ?_
    refine st1 _ ?_
    refine Jvm.RoadKit.acmp (g := (mkF m 4 #[.val (.ref (w 4))] [(.ref (w 15)), (.ref (w 4))])) X1 hx rfl rfl rfl (pc0 := 4) (pc' := 7) (same := false) rfl (hb hby d2_4) rfl (decide_eq_false fun q => (Fld.ne (wd68 hW) (wd45 hW) (by decide)) (Value.ref.inj q)) (by decide) (by decide) ?_
    refine sA X1 hx hby d2_7 rfl rfl ?_
    refine st2 _ ?_
    refine Jvm.RoadKit.acmp (g := (mkF m 11 #[.val (.ref (w 4))] [(.ref (w 16)), (.ref (w 4))])) X2 hx rfl rfl rfl (pc0 := 11) (pc' := 14) (same := false) rfl (hb hby d2_11) rfl (decide_eq_false fun q => (Fld.ne (wd68 hW) (wd67 hW) (by decide)) (Value.ref.inj q)) (by decide) (by decide) ?_
    refine sA X2 hx hby d2_14 rfl rfl ?_
    refine st3 _ ?_
    refine Jvm.RoadKit.acmp (g := (mkF m 18 #[.val (.ref (w 4))] [(.ref (w 17)), (.ref (w 4))])) X3 hx rfl rfl rfl (pc0 := 18) (pc' := 25) (same := false) rfl (hb hby d2_18) rfl (decide_eq_false fun q => (Fld.ne (wd68 hW) (wd48 hW) (by decide)) (Value.ref.inj q)) (by decide) (by decide) ?_
    refine sc X3 hx hby d2_25 ?_
    exact retN X3 hx (t := .boolean) Bd.returns (by simp) (hb hby d2_26) hr
  · show Q2_10 Z w h0 n0 _ T3.heap _
    rw [e3]
    exact ⟨rfl, N0, rfl⟩
theorem ef_1_11 (m : MethodId) (w : Nat → Addr) : entryFrame m #[(.ref (w 5))] 1 = mkF m 0 #[.val (.ref (w 5))] [] := by first | (simp [entryFrame, mkF, argsToLocals, Value.category]; done) | rfl
def Q1_11 (Z : State) (w : Nat → Addr) (h0 : Heap) (n0 : Nat) (v : Option Value) (h : Heap) (L : List Loc) : Prop := v = some (.int (6 : Int32)) ∧ Fr n0 L ∧ h = h0
set_option maxRecDepth 65536 in
set_option maxHeartbeats 40000000 in
theorem rm1_11 (l : Launch) (Z : State) (a0 : Array Value) (hw : ∀ d ∈ tables_1, d.before a0 Z = true) (w : Nat → Addr) (hW : Wd Z w) (ws : List Jvm.Cond) (h0 : Heap) (n0 : Nat) (O0 : Old Z n0 h0) :
    MetFree l ym0 (head1 (Jvm.Cond.code ym0 prog_47_method_10_code 1 (some .int) :: ws) ({ frames := 0, cells := 0, slots := 0, locals := 0 } : Room)) (fun a U => a = #[(.ref (w 5))] ∧ Z.Warmed39 U.vm ∧ U.heap = h0) (fun _ _ _ _ _ => True) (fun _ U o U' => ∃ v L, o = .returned v ∧ Q1_11 Z w h0 n0 v U'.heap L ∧ FrameEnd U o U' L ({ frames := 0, cells := 0, slots := 0, locals := 0 } : Room).cells ({ frames := 0, cells := 0, slots := 0, locals := 0 } : Room).slots) := by
  refine MetFree.of_bodySF (plainFor_of_name pnc_0) hisR ?_
  intro p e s m args below meth c s₁ Bd hml0 hP hK
  obtain ⟨rfl, hZ, hh⟩ := hP
  have hx := Bd.exec
  have hby := Bd.bytes
  have hml : c.maxLocals = 1 := hml0
  have hown : s.vm.findClass "com/example/ferrule/ferrule/io/TypeCode" = some m.cls := findClass_of_methodNamed Bd.named
  have hnm := (name_of_methodNamed Bd.named Bd.method).1
  have X0 : Stand p l e ({ frames := 0, cells := 0, slots := 0, locals := 0 } : Room) s m #[(.ref (w 5))] below meth c s₁ [] 0 0 := Stand.of_body Bd
  have e0 : s₁.heap = h0 := by rw [← hh, Bd.state]; rfl
  have N0 := Fr.nil n0
  skip
  have pre0 : ∀ t, Steps p.tables e below (s₁.setTop (mkF m 0 #[.val (.ref (w 5))] [])) t → Steps p.tables e below (s₁.setTop (entryFrame m #[(.ref (w 5))] 1)) t := fun t k => castTop (ef_1_11 m w) k
  obtain ⟨T1, X1, e1, st1⟩ := getF X0 hx hZ hown (host := "") (Or.inl (wk48 hw)) Via.refl e0 ((wd46 hW).ext O0.2) (g := (mkF m 1 #[.val (.ref (w 5))] [(.ref (w 5))])) rfl rfl (hb hby d1_1)
  obtain ⟨fs, hr, hrun, hended, hWm, hsame⟩ := X1.leave (v := some (.int (6 : Int32))) (fun h => by rw [Bd.returns] at h; cases h)
  refine ⟨_, _, pre0 _ ?_, hrun, hended, _, _, rfl, ?_, ⟨_, rfl⟩, hWm, hsame.mono (by decide) (by decide)⟩
  · show Steps p.tables e below (s₁.setTop (mkF m 0 #[.val (.ref (w 5))] [])) _
    refine sA X0 hx hby d1_0 rfl rfl ?_
    refine st1 _ ?_
    exact retI X1 hx Bd.returns (hb hby d1_4) hr
  · show Q1_11 Z w h0 n0 _ T1.heap _
    rw [e1]
    exact ⟨rfl, N0, rfl⟩
theorem ef_2_12 (m : MethodId) (w : Nat → Addr) : entryFrame m #[(.ref (w 5))] 1 = mkF m 0 #[.val (.ref (w 5))] [] := by first | (simp [entryFrame, mkF, argsToLocals, Value.category]; done) | rfl
def Q2_12 (Z : State) (w : Nat → Addr) (h0 : Heap) (n0 : Nat) (v : Option Value) (h : Heap) (L : List Loc) : Prop := v = some (.int (0 : Int32)) ∧ Fr n0 L ∧ h = h0
set_option maxRecDepth 65536 in
set_option maxHeartbeats 40000000 in
theorem rm2_12 (l : Launch) (Z : State) (a0 : Array Value) (hw : ∀ d ∈ tables_1, d.before a0 Z = true) (w : Nat → Addr) (hW : Wd Z w) (ws : List Jvm.Cond) (h0 : Heap) (n0 : Nat) (O0 : Old Z n0 h0) :
    MetFree l ym1 (head1 (Jvm.Cond.code ym1 prog_47_method_8_code 1 (some .boolean) :: ws) ({ frames := 0, cells := 0, slots := 0, locals := 0 } : Room)) (fun a U => a = #[(.ref (w 5))] ∧ Z.Warmed39 U.vm ∧ U.heap = h0) (fun _ _ _ _ _ => True) (fun _ U o U' => ∃ v L, o = .returned v ∧ Q2_12 Z w h0 n0 v U'.heap L ∧ FrameEnd U o U' L ({ frames := 0, cells := 0, slots := 0, locals := 0 } : Room).cells ({ frames := 0, cells := 0, slots := 0, locals := 0 } : Room).slots) := by
  refine MetFree.of_bodySF (plainFor_of_name pnc_0) hisR ?_
  intro p e s m args below meth c s₁ Bd hml0 hP hK
  obtain ⟨rfl, hZ, hh⟩ := hP
  have hx := Bd.exec
  have hby := Bd.bytes
  have hml : c.maxLocals = 1 := hml0
  have hown : s.vm.findClass "com/example/ferrule/ferrule/io/TypeCode" = some m.cls := findClass_of_methodNamed Bd.named
  have hnm := (name_of_methodNamed Bd.named Bd.method).1
  have X0 : Stand p l e ({ frames := 0, cells := 0, slots := 0, locals := 0 } : Room) s m #[(.ref (w 5))] below meth c s₁ [] 0 0 := Stand.of_body Bd
  have e0 : s₁.heap = h0 := by rw [← hh, Bd.state]; rfl
  have N0 := Fr.nil n0
  skip
  have pre0 : ∀ t, Steps p.tables e below (s₁.setTop (mkF m 0 #[.val (.ref (w 5))] [])) t → Steps p.tables e below (s₁.setTop (entryFrame m #[(.ref (w 5))] 1)) t := fun t k => castTop (ef_2_12 m w) k
  obtain ⟨T1, X1, e1, st1⟩ := getS2 X0 hx hZ hown (host := "") (Or.inl (wk55 hw)) Via.refl e0 ((wd30 hW).ext O0.2) (g := (mkF m 1 #[.val (.ref (w 5))] [(.ref (w 5))])) rfl (hb hby d2_1)
  obtain ⟨T2, X2, e2, st2⟩ := getS2 X1 hx hZ hown (host := "") (Or.inl (wk56 hw)) Via.refl e1 ((wd32 hW).ext O0.2) (g := (mkF m 8 #[.val (.ref (w 5))] [(.ref (w 5))])) rfl (hb hby d2_8)
  obtain ⟨T3, X3, e3, st3⟩ := getS2 X2 hx hZ hown (host := "") (Or.inl (wk57 hw)) Via.refl e2 ((wd34 hW).ext O0.2) (g := (mkF m 15 #[.val (.ref (w 5))] [(.ref (w 5))])) rfl (hb hby d2_15)
  obtain ⟨fs, hr, hrun, hended, hWm, hsame⟩ := X3.leave (v := some (.int (0 : Int32))) (fun h => by rw [Bd.returns] at h; cases h)
  refine ⟨_, _, pre0 _ ?_, hrun, hended, _, _, rfl, ?_, ⟨_, rfl⟩, hWm, hsame.mono (by decide) (by decide)⟩
  · show Steps p.tables e below (s₁.setTop (mkF m 0 #[.val (.ref (w 5))] [])) _
    refine sA X0 hx hby d2_0 rfl rfl ?_
    refine st1 _ ?_
    refine Jvm.RoadKit.acmp (g := (mkF m 4 #[.val (.ref (w 5))] [(.ref (w 15)), (.ref (w 5))])) X1 hx rfl rfl rfl (pc0 := 4) (pc' := 7) (same := false) rfl (hb hby d2_4) rfl (decide_eq_false fun q => (Fld.ne (wd46 hW) (wd45 hW) (by decide)) (Value.ref.inj q)) (by decide) (by decide) ?_
    refine sA X1 hx hby d2_7 rfl rfl ?_
    refine st2 _ ?_
    refine Jvm.RoadKit.acmp (g := (mkF m 11 #[.val (.ref (w 5))] [(.ref (w 16)), (.ref (w 5))])) X2 hx rfl rfl rfl (pc0 := 11) (pc' := 14) (same := false) rfl (hb hby d2_11) rfl (decide_eq_false fun q => (Fld.ne (wd46 hW) (wd67 hW) (by decide)) (Value.ref.inj q)) (by decide) (by decide) ?_
    refine sA X2 hx hby d2_14 rfl rfl ?_
    refine st3 _ ?_
    refine Jvm.RoadKit.acmp (g := (mkF m 18 #[.val (.ref (w 5))] [(.ref (w 17)), (.ref (w 5))])) X3 hx rfl rfl rfl (pc0 := 18) (pc' := 25) (same := false) rfl (hb hby d2_18) rfl (decide_eq_false fun q => (Fld.ne (wd46 hW) (wd48 hW) (by decide)) (Value.ref.inj q)) (by decide) (by decide) ?_
    refine sc X3 hx hby d2_25 ?_
    exact retN X3 hx (t := .boolean) Bd.returns (by simp) (hb hby d2_26) hr
  · show Q2_12 Z w h0 n0 _ T3.heap _
    rw [e3]
    exact ⟨rfl, N0, rfl⟩
theorem ef_1_13 (m : MethodId) (w : Nat → Addr) : entryFrame m #[(.ref (w 6))] 1 = mkF m 0 #[.val (.ref (w 6))] [] := by first | (simp [entryFrame, mkF, argsToLocals, Value.category]; done) | rfl
def Q1_13 (Z : State) (w : Nat → Addr) (h0 : Heap) (n0 : Nat) (v : Option Value) (h : Heap) (L : List Loc) : Prop := v = some (.int (7 : Int32)) ∧ Fr n0 L ∧ h = h0
set_option maxRecDepth 65536 in
set_option maxHeartbeats 40000000 in
theorem rm1_13 (l : Launch) (Z : State) (a0 : Array Value) (hw : ∀ d ∈ tables_1, d.before a0 Z = true) (w : Nat → Addr) (hW : Wd Z w) (ws : List Jvm.Cond) (h0 : Heap) (n0 : Nat) (O0 : Old Z n0 h0) :
    MetFree l ym0 (head1 (Jvm.Cond.code ym0 prog_47_method_10_code 1 (some .int) :: ws) ({ frames := 0, cells := 0, slots := 0, locals := 0 } : Room)) (fun a U => a = #[(.ref (w 6))] ∧ Z.Warmed39 U.vm ∧ U.heap = h0) (fun _ _ _ _ _ => True) (fun _ U o U' => ∃ v L, o = .returned v ∧ Q1_13 Z w h0 n0 v U'.heap L ∧ FrameEnd U o U' L ({ frames := 0, cells := 0, slots := 0, locals := 0 } : Room).cells ({ frames := 0, cells := 0, slots := 0, locals := 0 } : Room).slots) := by
  refine MetFree.of_bodySF (plainFor_of_name pnc_0) hisR ?_
  intro p e s m args below meth c s₁ Bd hml0 hP hK
  obtain ⟨rfl, hZ, hh⟩ := hP
  have hx := Bd.exec
  have hby := Bd.bytes
  have hml : c.maxLocals = 1 := hml0
  have hown : s.vm.findClass "com/example/ferrule/ferrule/io/TypeCode" = some m.cls := findClass_of_methodNamed Bd.named
  have hnm := (name_of_methodNamed Bd.named Bd.method).1
  have X0 : Stand p l e ({ frames := 0, cells := 0, slots := 0, locals := 0 } : Room) s m #[(.ref (w 6))] below meth c s₁ [] 0 0 := Stand.of_body Bd
  have e0 : s₁.heap = h0 := by rw [← hh, Bd.state]; rfl
  have N0 := Fr.nil n0
  skip
  have pre0 : ∀ t, Steps p.tables e below (s₁.setTop (mkF m 0 #[.val (.ref (w 6))] [])) t → Steps p.tables e below (s₁.setTop (entryFrame m #[(.ref (w 6))] 1)) t := fun t k => castTop (ef_1_13 m w) k
  obtain ⟨T1, X1, e1, st1⟩ := getF X0 hx hZ hown (host := "") (Or.inl (wk48 hw)) Via.refl e0 ((wd65 hW).ext O0.2) (g := (mkF m 1 #[.val (.ref (w 6))] [(.ref (w 6))])) rfl rfl (hb hby d1_1)
  obtain ⟨fs, hr, hrun, hended, hWm, hsame⟩ := X1.leave (v := some (.int (7 : Int32))) (fun h => by rw [Bd.returns] at h; cases h)
  refine ⟨_, _, pre0 _ ?_, hrun, hended, _, _, rfl, ?_, ⟨_, rfl⟩, hWm, hsame.mono (by decide) (by decide)⟩
  · show Steps p.tables e below (s₁.setTop (mkF m 0 #[.val (.ref (w 6))] [])) _
    refine sA X0 hx hby d1_0 rfl rfl ?_
    refine st1 _ ?_
    exact retI X1 hx Bd.returns (hb hby d1_4) hr
  · show Q1_13 Z w h0 n0 _ T1.heap _
    rw [e1]
    exact ⟨rfl, N0, rfl⟩
theorem ef_2_14 (m : MethodId) (w : Nat → Addr) : entryFrame m #[(.ref (w 6))] 1 = mkF m 0 #[.val (.ref (w 6))] [] := by first | (simp [entryFrame, mkF, argsToLocals, Value.category]; done) | rfl
def Q2_14 (Z : State) (w : Nat → Addr) (h0 : Heap) (n0 : Nat) (v : Option Value) (h : Heap) (L : List Loc) : Prop := v = some (.int (0 : Int32)) ∧ Fr n0 L ∧ h = h0
set_option maxRecDepth 65536 in
set_option maxHeartbeats 40000000 in
theorem rm2_14 (l : Launch) (Z : State) (a0 : Array Value) (hw : ∀ d ∈ tables_1, d.before a0 Z = true) (w : Nat → Addr) (hW : Wd Z w) (ws : List Jvm.Cond) (h0 : Heap) (n0 : Nat) (O0 : Old Z n0 h0) :
    MetFree l ym1 (head1 (Jvm.Cond.code ym1 prog_47_method_8_code 1 (some .boolean) :: ws) ({ frames := 0, cells := 0, slots := 0, locals := 0 } : Room)) (fun a U => a = #[(.ref (w 6))] ∧ Z.Warmed39 U.vm ∧ U.heap = h0) (fun _ _ _ _ _ => True) (fun _ U o U' => ∃ v L, o = .returned v ∧ Q2_14 Z w h0 n0 v U'.heap L ∧ FrameEnd U o U' L ({ frames := 0, cells := 0, slots := 0, locals := 0 } : Room).cells ({ frames := 0, cells := 0, slots := 0, locals := 0 } : Room).slots) := by
  refine MetFree.of_bodySF (plainFor_of_name pnc_0) hisR ?_
  intro p e s m args below meth c s₁ Bd hml0 hP hK
  obtain ⟨rfl, hZ, hh⟩ := hP
  have hx := Bd.exec
  have hby := Bd.bytes
  have hml : c.maxLocals = 1 := hml0
  have hown : s.vm.findClass "com/example/ferrule/ferrule/io/TypeCode" = some m.cls := findClass_of_methodNamed Bd.named
  have hnm := (name_of_methodNamed Bd.named Bd.method).1
  have X0 : Stand p l e ({ frames := 0, cells := 0, slots := 0, locals := 0 } : Room) s m #[(.ref (w 6))] below meth c s₁ [] 0 0 := Stand.of_body Bd
  have e0 : s₁.heap = h0 := by rw [← hh, Bd.state]; rfl
  have N0 := Fr.nil n0
  skip
  have pre0 : ∀ t, Steps p.tables e below (s₁.setTop (mkF m 0 #[.val (.ref (w 6))] [])) t → Steps p.tables e below (s₁.setTop (entryFrame m #[(.ref (w 6))] 1)) t := fun t k => castTop (ef_2_14 m w) k
  obtain ⟨T1, X1, e1, st1⟩ := getS2 X0 hx hZ hown (host := "") (Or.inl (wk55 hw)) Via.refl e0 ((wd30 hW).ext O0.2) (g := (mkF m 1 #[.val (.ref (w 6))] [(.ref (w 6))])) rfl (hb hby d2_1)
  obtain ⟨T2, X2, e2, st2⟩ := getS2 X1 hx hZ hown (host := "") (Or.inl (wk56 hw)) Via.refl e1 ((wd32 hW).ext O0.2) (g := (mkF m 8 #[.val (.ref (w 6))] [(.ref (w 6))])) rfl (hb hby d2_8)
  obtain ⟨T3, X3, e3, st3⟩ := getS2 X2 hx hZ hown (host := "") (Or.inl (wk57 hw)) Via.refl e2 ((wd34 hW).ext O0.2) (g := (mkF m 15 #[.val (.ref (w 6))] [(.ref (w 6))])) rfl (hb hby d2_15)
  obtain ⟨fs, hr, hrun, hended, hWm, hsame⟩ := X3.leave (v := some (.int (0 : Int32))) (fun h => by rw [Bd.returns] at h; cases h)
  refine ⟨_, _, pre0 _ ?_, hrun, hended, _, _, rfl, ?_, ⟨_, rfl⟩, hWm, hsame.mono (by decide) (by decide)⟩
  · show Steps p.tables e below (s₁.setTop (mkF m 0 #[.val (.ref (w 6))] [])) _
    refine sA X0 hx hby d2_0 rfl rfl ?_
    refine st1 _ ?_
    refine Jvm.RoadKit.acmp (g := (mkF m 4 #[.val (.ref (w 6))] [(.ref (w 15)), (.ref (w 6))])) X1 hx rfl rfl rfl (pc0 := 4) (pc' := 7) (same := false) rfl (hb hby d2_4) rfl (decide_eq_false fun q => (Fld.ne (wd65 hW) (wd45 hW) (by decide)) (Value.ref.inj q)) (by decide) (by decide) ?_
    refine sA X1 hx hby d2_7 rfl rfl ?_
    refine st2 _ ?_
    refine Jvm.RoadKit.acmp (g := (mkF m 11 #[.val (.ref (w 6))] [(.ref (w 16)), (.ref (w 6))])) X2 hx rfl rfl rfl (pc0 := 11) (pc' := 14) (same := false) rfl (hb hby d2_11) rfl (decide_eq_false fun q => (Fld.ne (wd65 hW) (wd67 hW) (by decide)) (Value.ref.inj q)) (by decide) (by decide) ?_
    refine sA X2 hx hby d2_14 rfl rfl ?_
    refine st3 _ ?_
    refine Jvm.RoadKit.acmp (g := (mkF m 18 #[.val (.ref (w 6))] [(.ref (w 17)), (.ref (w 6))])) X3 hx rfl rfl rfl (pc0 := 18) (pc' := 25) (same := false) rfl (hb hby d2_18) rfl (decide_eq_false fun q => (Fld.ne (wd65 hW) (wd48 hW) (by decide)) (Value.ref.inj q)) (by decide) (by decide) ?_
    refine sc X3 hx hby d2_25 ?_
    exact retN X3 hx (t := .boolean) Bd.returns (by simp) (hb hby d2_26) hr
  · show Q2_14 Z w h0 n0 _ T3.heap _
    rw [e3]
    exact ⟨rfl, N0, rfl⟩
theorem ef_1_15 (m : MethodId) (w : Nat → Addr) : entryFrame m #[(.ref (w 7))] 1 = mkF m 0 #[.val (.ref (w 7))] [] := by first | (simp [entryFrame, mkF, argsToLocals, Value.category]; done) | rfl
def Q1_15 (Z : State) (w : Nat → Addr) (h0 : Heap) (n0 : Nat) (v : Option Value) (h : Heap) (L : List Loc) : Prop := v = some (.int (8 : Int32)) ∧ Fr n0 L ∧ h = h0
set_option maxRecDepth 65536 in
set_option maxHeartbeats 40000000 in
theorem rm1_15 (l : Launch) (Z : State) (a0 : Array Value) (hw : ∀ d ∈ tables_1, d.before a0 Z = true) (w : Nat → Addr) (hW : Wd Z w) (ws : List Jvm.Cond) (h0 : Heap) (n0 : Nat) (O0 : Old Z n0 h0) :
    MetFree l ym0 (head1 (Jvm.Cond.code ym0 prog_47_method_10_code 1 (some .int) :: ws) ({ frames := 0, cells := 0, slots := 0, locals := 0 } : Room)) (fun a U => a = #[(.ref (w 7))] ∧ Z.Warmed39 U.vm ∧ U.heap = h0) (fun _ _ _ _ _ => True) (fun _ U o U' => ∃ v L, o = .returned v ∧ Q1_15 Z w h0 n0 v U'.heap L ∧ FrameEnd U o U' L ({ frames := 0, cells := 0, slots := 0, locals := 0 } : Room).cells ({ frames := 0, cells := 0, slots := 0, locals := 0 } : Room).slots) := by
  refine MetFree.of_bodySF (plainFor_of_name pnc_0) hisR ?_
  intro p e s m args below meth c s₁ Bd hml0 hP hK
  obtain ⟨rfl, hZ, hh⟩ := hP
  have hx := Bd.exec
  have hby := Bd.bytes
  have hml : c.maxLocals = 1 := hml0
  have hown : s.vm.findClass "com/example/ferrule/ferrule/io/TypeCode" = some m.cls := findClass_of_methodNamed Bd.named
  have hnm := (name_of_methodNamed Bd.named Bd.method).1
  have X0 : Stand p l e ({ frames := 0, cells := 0, slots := 0, locals := 0 } : Room) s m #[(.ref (w 7))] below meth c s₁ [] 0 0 := Stand.of_body Bd
  have e0 : s₁.heap = h0 := by rw [← hh, Bd.state]; rfl
  have N0 := Fr.nil n0
  skip
  have pre0 : ∀ t, Steps p.tables e below (s₁.setTop (mkF m 0 #[.val (.ref (w 7))] [])) t → Steps p.tables e below (s₁.setTop (entryFrame m #[(.ref (w 7))] 1)) t := fun t k => castTop (ef_1_15 m w) k
  obtain ⟨T1, X1, e1, st1⟩ := getF X0 hx hZ hown (host := "") (Or.inl (wk48 hw)) Via.refl e0 ((wd49 hW).ext O0.2) (g := (mkF m 1 #[.val (.ref (w 7))] [(.ref (w 7))])) rfl rfl (hb hby d1_1)
  obtain ⟨fs, hr, hrun, hended, hWm, hsame⟩ := X1.leave (v := some (.int (8 : Int32))) (fun h => by rw [Bd.returns] at h; cases h)
  refine ⟨_, _, pre0 _ ?_, hrun, hended, _, _, rfl, ?_, ⟨_, rfl⟩, hWm, hsame.mono (by decide) (by decide)⟩
  · show Steps p.tables e below (s₁.setTop (mkF m 0 #[.val (.ref (w 7))] [])) _
    refine sA X0 hx hby d1_0 rfl rfl ?_
    refine st1 _ ?_
    exact retI X1 hx Bd.returns (hb hby d1_4) hr
  · show Q1_15 Z w h0 n0 _ T1.heap _
    rw [e1]
    exact ⟨rfl, N0, rfl⟩
theorem ef_2_16 (m : MethodId) (w : Nat → Addr) : entryFrame m #[(.ref (w 7))] 1 = mkF m 0 #[.val (.ref (w 7))] [] := by first | (simp [entryFrame, mkF, argsToLocals, Value.category]; done) | rfl
def Q2_16 (Z : State) (w : Nat → Addr) (h0 : Heap) (n0 : Nat) (v : Option Value) (h : Heap) (L : List Loc) : Prop := v = some (.int (0 : Int32)) ∧ Fr n0 L ∧ h = h0
set_option maxRecDepth 65536 in
set_option maxHeartbeats 40000000 in
theorem rm2_16 (l : Launch) (Z : State) (a0 : Array Value) (hw : ∀ d ∈ tables_1, d.before a0 Z = true) (w : Nat → Addr) (hW : Wd Z w) (ws : List Jvm.Cond) (h0 : Heap) (n0 : Nat) (O0 : Old Z n0 h0) :
    MetFree l ym1 (head1 (Jvm.Cond.code ym1 prog_47_method_8_code 1 (some .boolean) :: ws) ({ frames := 0, cells := 0, slots := 0, locals := 0 } : Room)) (fun a U => a = #[(.ref (w 7))] ∧ Z.Warmed39 U.vm ∧ U.heap = h0) (fun _ _ _ _ _ => True) (fun _ U o U' => ∃ v L, o = .returned v ∧ Q2_16 Z w h0 n0 v U'.heap L ∧ FrameEnd U o U' L ({ frames := 0, cells := 0, slots := 0, locals := 0 } : Room).cells ({ frames := 0, cells := 0, slots := 0, locals := 0 } : Room).slots) := by
  refine MetFree.of_bodySF (plainFor_of_name pnc_0) hisR ?_
  intro p e s m args below meth c s₁ Bd hml0 hP hK
  obtain ⟨rfl, hZ, hh⟩ := hP
  have hx := Bd.exec
  have hby := Bd.bytes
  have hml : c.maxLocals = 1 := hml0
  have hown : s.vm.findClass "com/example/ferrule/ferrule/io/TypeCode" = some m.cls := findClass_of_methodNamed Bd.named
  have hnm := (name_of_methodNamed Bd.named Bd.method).1
  have X0 : Stand p l e ({ frames := 0, cells := 0, slots := 0, locals := 0 } : Room) s m #[(.ref (w 7))] below meth c s₁ [] 0 0 := Stand.of_body Bd
  have e0 : s₁.heap = h0 := by rw [← hh, Bd.state]; rfl
  have N0 := Fr.nil n0
  skip
  have pre0 : ∀ t, Steps p.tables e below (s₁.setTop (mkF m 0 #[.val (.ref (w 7))] [])) t → Steps p.tables e below (s₁.setTop (entryFrame m #[(.ref (w 7))] 1)) t := fun t k => castTop (ef_2_16 m w) k
  obtain ⟨T1, X1, e1, st1⟩ := getS2 X0 hx hZ hown (host := "") (Or.inl (wk55 hw)) Via.refl e0 ((wd30 hW).ext O0.2) (g := (mkF m 1 #[.val (.ref (w 7))] [(.ref (w 7))])) rfl (hb hby d2_1)
  obtain ⟨T2, X2, e2, st2⟩ := getS2 X1 hx hZ hown (host := "") (Or.inl (wk56 hw)) Via.refl e1 ((wd32 hW).ext O0.2) (g := (mkF m 8 #[.val (.ref (w 7))] [(.ref (w 7))])) rfl (hb hby d2_8)
  obtain ⟨T3, X3, e3, st3⟩ := getS2 X2 hx hZ hown (host := "") (Or.inl (wk57 hw)) Via.refl e2 ((wd34 hW).ext O0.2) (g := (mkF m 15 #[.val (.ref (w 7))] [(.ref (w 7))])) rfl (hb hby d2_15)
  obtain ⟨fs, hr, hrun, hended, hWm, hsame⟩ := X3.leave (v := some (.int (0 : Int32))) (fun h => by rw [Bd.returns] at h; cases h)
  refine ⟨_, _, pre0 _ ?_, hrun, hended, _, _, rfl, ?_, ⟨_, rfl⟩, hWm, hsame.mono (by decide) (by decide)⟩
  · show Steps p.tables e below (s₁.setTop (mkF m 0 #[.val (.ref (w 7))] [])) _
    refine sA X0 hx hby d2_0 rfl rfl ?_
    refine st1 _ ?_
    refine Jvm.RoadKit.acmp (g := (mkF m 4 #[.val (.ref (w 7))] [(.ref (w 15)), (.ref (w 7))])) X1 hx rfl rfl rfl (pc0 := 4) (pc' := 7) (same := false) rfl (hb hby d2_4) rfl (decide_eq_false fun q => (Fld.ne (wd49 hW) (wd45 hW) (by decide)) (Value.ref.inj q)) (by decide) (by decide) ?_
    refine sA X1 hx hby d2_7 rfl rfl ?_
    refine st2 _ ?_
    refine Jvm.RoadKit.acmp (g := (mkF m 11 #[.val (.ref (w 7))] [(.ref (w 16)), (.ref (w 7))])) X2 hx rfl rfl rfl (pc0 := 11) (pc' := 14) (same := false) rfl (hb hby d2_11) rfl (decide_eq_false fun q => (Fld.ne (wd49 hW) (wd67 hW) (by decide)) (Value.ref.inj q)) (by decide) (by decide) ?_
    refine sA X2 hx hby d2_14 rfl rfl ?_
    refine st3 _ ?_
    refine Jvm.RoadKit.acmp (g := (mkF m 18 #[.val (.ref (w 7))] [(.ref (w 17)), (.ref (w 7))])) X3 hx rfl rfl rfl (pc0 := 18) (pc' := 25) (same := false) rfl (hb hby d2_18) rfl (decide_eq_false fun q => (Fld.ne (wd49 hW) (wd48 hW) (by decide)) (Value.ref.inj q)) (by decide) (by decide) ?_
    refine sc X3 hx hby d2_25 ?_
    exact retN X3 hx (t := .boolean) Bd.returns (by simp) (hb hby d2_26) hr
  · show Q2_16 Z w h0 n0 _ T3.heap _
    rw [e3]
    exact ⟨rfl, N0, rfl⟩
theorem ef_1_17 (m : MethodId) (w : Nat → Addr) : entryFrame m #[(.ref (w 8))] 1 = mkF m 0 #[.val (.ref (w 8))] [] := by first | (simp [entryFrame, mkF, argsToLocals, Value.category]; done) | rfl
def Q1_17 (Z : State) (w : Nat → Addr) (h0 : Heap) (n0 : Nat) (v : Option Value) (h : Heap) (L : List Loc) : Prop := v = some (.int (9 : Int32)) ∧ Fr n0 L ∧ h = h0
set_option maxRecDepth 65536 in
set_option maxHeartbeats 40000000 in
theorem rm1_17 (l : Launch) (Z : State) (a0 : Array Value) (hw : ∀ d ∈ tables_1, d.before a0 Z = true) (w : Nat → Addr) (hW : Wd Z w) (ws : List Jvm.Cond) (h0 : Heap) (n0 : Nat) (O0 : Old Z n0 h0) :
    MetFree l ym0 (head1 (Jvm.Cond.code ym0 prog_47_method_10_code 1 (some .int) :: ws) ({ frames := 0, cells := 0, slots := 0, locals := 0 } : Room)) (fun a U => a = #[(.ref (w 8))] ∧ Z.Warmed39 U.vm ∧ U.heap = h0) (fun _ _ _ _ _ => True) (fun _ U o U' => ∃ v L, o = .returned v ∧ Q1_17 Z w h0 n0 v U'.heap L ∧ FrameEnd U o U' L ({ frames := 0, cells := 0, slots := 0, locals := 0 } : Room).cells ({ frames := 0, cells := 0, slots := 0, locals := 0 } : Room).slots) := by
  refine MetFree.of_bodySF (plainFor_of_name pnc_0) hisR ?_
  intro p e s m args below meth c s₁ Bd hml0 hP hK
  obtain ⟨rfl, hZ, hh⟩ := hP
  have hx := Bd.exec
  have hby := Bd.bytes
  have hml : c.maxLocals = 1 := hml0
  have hown : s.vm.findClass "com/example/ferrule/ferrule/io/TypeCode" = some m.cls := findClass_of_methodNamed Bd.named
  have hnm := (name_of_methodNamed Bd.named Bd.method).1
  have X0 : Stand p l e ({ frames := 0, cells := 0, slots := 0, locals := 0 } : Room) s m #[(.ref (w 8))] below meth c s₁ [] 0 0 := Stand.of_body Bd
  have e0 : s₁.heap = h0 := by rw [← hh, Bd.state]; rfl
  have N0 := Fr.nil n0
  skip
  have pre0 : ∀ t, Steps p.tables e below (s₁.setTop (mkF m 0 #[.val (.ref (w 8))] [])) t → Steps p.tables e below (s₁.setTop (entryFrame m #[(.ref (w 8))] 1)) t := fun t k => castTop (ef_1_17 m w) k
  obtain ⟨T1, X1, e1, st1⟩ := getF X0 hx hZ hown (host := "") (Or.inl (wk48 hw)) Via.refl e0 ((wd57 hW).ext O0.2) (g := (mkF m 1 #[.val (.ref (w 8))] [(.ref (w 8))])) rfl rfl (hb hby d1_1)
  obtain ⟨fs, hr, hrun, hended, hWm, hsame⟩ := X1.leave (v := some (.int (9 : Int32))) (fun h => by rw [Bd.returns] at h; cases h)
  refine ⟨_, _, pre0 _ ?_, hrun, hended, _, _, rfl, ?_, ⟨_, rfl⟩, hWm, hsame.mono (by decide) (by decide)⟩
  · show Steps p.tables e below (s₁.setTop (mkF m 0 #[.val (.ref (w 8))] [])) _
    refine sA X0 hx hby d1_0 rfl rfl ?_
    refine st1 _ ?_
    exact retI X1 hx Bd.returns (hb hby d1_4) hr
  · show Q1_17 Z w h0 n0 _ T1.heap _
    rw [e1]
    exact ⟨rfl, N0, rfl⟩
theorem ef_2_18 (m : MethodId) (w : Nat → Addr) : entryFrame m #[(.ref (w 8))] 1 = mkF m 0 #[.val (.ref (w 8))] [] := by first | (simp [entryFrame, mkF, argsToLocals, Value.category]; done) | rfl
def Q2_18 (Z : State) (w : Nat → Addr) (h0 : Heap) (n0 : Nat) (v : Option Value) (h : Heap) (L : List Loc) : Prop := v = some (.int (0 : Int32)) ∧ Fr n0 L ∧ h = h0
set_option maxRecDepth 65536 in
set_option maxHeartbeats 40000000 in
theorem rm2_18 (l : Launch) (Z : State) (a0 : Array Value) (hw : ∀ d ∈ tables_1, d.before a0 Z = true) (w : Nat → Addr) (hW : Wd Z w) (ws : List Jvm.Cond) (h0 : Heap) (n0 : Nat) (O0 : Old Z n0 h0) :
    MetFree l ym1 (head1 (Jvm.Cond.code ym1 prog_47_method_8_code 1 (some .boolean) :: ws) ({ frames := 0, cells := 0, slots := 0, locals := 0 } : Room)) (fun a U => a = #[(.ref (w 8))] ∧ Z.Warmed39 U.vm ∧ U.heap = h0) (fun _ _ _ _ _ => True) (fun _ U o U' => ∃ v L, o = .returned v ∧ Q2_18 Z w h0 n0 v U'.heap L ∧ FrameEnd U o U' L ({ frames := 0, cells := 0, slots := 0, locals := 0 } : Room).cells ({ frames := 0, cells := 0, slots := 0, locals := 0 } : Room).slots) := by
  refine MetFree.of_bodySF (plainFor_of_name pnc_0) hisR ?_
  intro p e s m args below meth c s₁ Bd hml0 hP hK
  obtain ⟨rfl, hZ, hh⟩ := hP
  have hx := Bd.exec
  have hby := Bd.bytes
  have hml : c.maxLocals = 1 := hml0
  have hown : s.vm.findClass "com/example/ferrule/ferrule/io/TypeCode" = some m.cls := findClass_of_methodNamed Bd.named
  have hnm := (name_of_methodNamed Bd.named Bd.method).1
  have X0 : Stand p l e ({ frames := 0, cells := 0, slots := 0, locals := 0 } : Room) s m #[(.ref (w 8))] below meth c s₁ [] 0 0 := Stand.of_body Bd
  have e0 : s₁.heap = h0 := by rw [← hh, Bd.state]; rfl
  have N0 := Fr.nil n0
  skip
  have pre0 : ∀ t, Steps p.tables e below (s₁.setTop (mkF m 0 #[.val (.ref (w 8))] [])) t → Steps p.tables e below (s₁.setTop (entryFrame m #[(.ref (w 8))] 1)) t := fun t k => castTop (ef_2_18 m w) k
  obtain ⟨T1, X1, e1, st1⟩ := getS2 X0 hx hZ hown (host := "") (Or.inl (wk55 hw)) Via.refl e0 ((wd30 hW).ext O0.2) (g := (mkF m 1 #[.val (.ref (w 8))] [(.ref (w 8))])) rfl (hb hby d2_1)
  obtain ⟨T2, X2, e2, st2⟩ := getS2 X1 hx hZ hown (host := "") (Or.inl (wk56 hw)) Via.refl e1 ((wd32 hW).ext O0.2) (g := (mkF m 8 #[.val (.ref (w 8))] [(.ref (w 8))])) rfl (hb hby d2_8)
  obtain ⟨T3, X3, e3, st3⟩ := getS2 X2 hx hZ hown (host := "") (Or.inl (wk57 hw)) Via.refl e2 ((wd34 hW).ext O0.2) (g := (mkF m 15 #[.val (.ref (w 8))] [(.ref (w 8))])) rfl (hb hby d2_15)
  obtain ⟨fs, hr, hrun, hended, hWm, hsame⟩ := X3.leave (v := some (.int (0 : Int32))) (fun h => by rw [Bd.returns] at h; cases h)
  refine ⟨_, _, pre0 _ ?_, hrun, hended, _, _, rfl, ?_, ⟨_, rfl⟩, hWm, hsame.mono (by decide) (by decide)⟩
  · show Steps p.tables e below (s₁.setTop (mkF m 0 #[.val (.ref (w 8))] [])) _
    refine sA X0 hx hby d2_0 rfl rfl ?_
    refine st1 _ ?_
    refine Jvm.RoadKit.acmp (g := (mkF m 4 #[.val (.ref (w 8))] [(.ref (w 15)), (.ref (w 8))])) X1 hx rfl rfl rfl (pc0 := 4) (pc' := 7) (same := false) rfl (hb hby d2_4) rfl (decide_eq_false fun q => (Fld.ne (wd57 hW) (wd45 hW) (by decide)) (Value.ref.inj q)) (by decide) (by decide) ?_
    refine sA X1 hx hby d2_7 rfl rfl ?_
    refine st2 _ ?_
    refine Jvm.RoadKit.acmp (g := (mkF m 11 #[.val (.ref (w 8))] [(.ref (w 16)), (.ref (w 8))])) X2 hx rfl rfl rfl (pc0 := 11) (pc' := 14) (same := false) rfl (hb hby d2_11) rfl (decide_eq_false fun q => (Fld.ne (wd57 hW) (wd67 hW) (by decide)) (Value.ref.inj q)) (by decide) (by decide) ?_
    refine sA X2 hx hby d2_14 rfl rfl ?_
    refine st3 _ ?_
    refine Jvm.RoadKit.acmp (g := (mkF m 18 #[.val (.ref (w 8))] [(.ref (w 17)), (.ref (w 8))])) X3 hx rfl rfl rfl (pc0 := 18) (pc' := 25) (same := false) rfl (hb hby d2_18) rfl (decide_eq_false fun q => (Fld.ne (wd57 hW) (wd48 hW) (by decide)) (Value.ref.inj q)) (by decide) (by decide) ?_
    refine sc X3 hx hby d2_25 ?_
    exact retN X3 hx (t := .boolean) Bd.returns (by simp) (hb hby d2_26) hr
  · show Q2_18 Z w h0 n0 _ T3.heap _
    rw [e3]
    exact ⟨rfl, N0, rfl⟩
theorem ef_1_19 (m : MethodId) (w : Nat → Addr) : entryFrame m #[(.ref (w 9))] 1 = mkF m 0 #[.val (.ref (w 9))] [] := by first | (simp [entryFrame, mkF, argsToLocals, Value.category]; done) | rfl
def Q1_19 (Z : State) (w : Nat → Addr) (h0 : Heap) (n0 : Nat) (v : Option Value) (h : Heap) (L : List Loc) : Prop := v = some (.int (10 : Int32)) ∧ Fr n0 L ∧ h = h0
set_option maxRecDepth 65536 in
set_option maxHeartbeats 40000000 in
theorem rm1_19 (l : Launch) (Z : State) (a0 : Array Value) (hw : ∀ d ∈ tables_1, d.before a0 Z = true) (w : Nat → Addr) (hW : Wd Z w) (ws : List Jvm.Cond) (h0 : Heap) (n0 : Nat) (O0 : Old Z n0 h0) :
    MetFree l ym0 (head1 (Jvm.Cond.code ym0 prog_47_method_10_code 1 (some .int) :: ws) ({ frames := 0, cells := 0, slots := 0, locals := 0 } : Room)) (fun a U => a = #[(.ref (w 9))] ∧ Z.Warmed39 U.vm ∧ U.heap = h0) (fun _ _ _ _ _ => True) (fun _ U o U' => ∃ v L, o = .returned v ∧ Q1_19 Z w h0 n0 v U'.heap L ∧ FrameEnd U o U' L ({ frames := 0, cells := 0, slots := 0, locals := 0 } : Room).cells ({ frames := 0, cells := 0, slots := 0, locals := 0 } : Room).slots) := by
  refine MetFree.of_bodySF (plainFor_of_name pnc_0) hisR ?_
  intro p e s m args below meth c s₁ Bd hml0 hP hK
  obtain ⟨rfl, hZ, hh⟩ := hP
  have hx := Bd.exec
  have hby := Bd.bytes
  have hml : c.maxLocals = 1 := hml0
  have hown : s.vm.findClass "com/example/ferrule/ferrule/io/TypeCode" = some m.cls := findClass_of_methodNamed Bd.named
  have hnm := (name_of_methodNamed Bd.named Bd.method).1
  have X0 : Stand p l e ({ frames := 0, cells := 0, slots := 0, locals := 0 } : Room) s m #[(.ref (w 9))] below meth c s₁ [] 0 0 := Stand.of_body Bd
  have e0 : s₁.heap = h0 := by rw [← hh, Bd.state]; rfl
  have N0 := Fr.nil n0
  skip
  have pre0 : ∀ t, Steps p.tables e below (s₁.setTop (mkF m 0 #[.val (.ref (w 9))] [])) t → Steps p.tables e below (s₁.setTop (entryFrame m #[(.ref (w 9))] 1)) t := fun t k => castTop (ef_1_19 m w) k
  obtain ⟨T1, X1, e1, st1⟩ := getF X0 hx hZ hown (host := "") (Or.inl (wk48 hw)) Via.refl e0 ((wd70 hW).ext O0.2) (g := (mkF m 1 #[.val (.ref (w 9))] [(.ref (w 9))])) rfl rfl (hb hby d1_1)
  obtain ⟨fs, hr, hrun, hended, hWm, hsame⟩ := X1.leave (v := some (.int (10 : Int32))) (fun h => by rw [Bd.returns] at h; cases h)
  refine ⟨_, _, pre0 _ ?_, hrun, hended, _, _, rfl, ?_, ⟨_, rfl⟩, hWm, hsame.mono (by decide) (by decide)⟩
  · show Steps p.tables e below (s₁.setTop (mkF m 0 #[.val (.ref (w 9))] [])) _
    refine sA X0 hx hby d1_0 rfl rfl ?_
    refine st1 _ ?_
    exact retI X1 hx Bd.returns (hb hby d1_4) hr
  · show Q1_19 Z w h0 n0 _ T1.heap _
    rw [e1]
    exact ⟨rfl, N0, rfl⟩
theorem ef_2_20 (m : MethodId) (w : Nat → Addr) : entryFrame m #[(.ref (w 9))] 1 = mkF m 0 #[.val (.ref (w 9))] [] := by first | (simp [entryFrame, mkF, argsToLocals, Value.category]; done) | rfl
def Q2_20 (Z : State) (w : Nat → Addr) (h0 : Heap) (n0 : Nat) (v : Option Value) (h : Heap) (L : List Loc) : Prop := v = some (.int (0 : Int32)) ∧ Fr n0 L ∧ h = h0
set_option maxRecDepth 65536 in
set_option maxHeartbeats 40000000 in
theorem rm2_20 (l : Launch) (Z : State) (a0 : Array Value) (hw : ∀ d ∈ tables_1, d.before a0 Z = true) (w : Nat → Addr) (hW : Wd Z w) (ws : List Jvm.Cond) (h0 : Heap) (n0 : Nat) (O0 : Old Z n0 h0) :
    MetFree l ym1 (head1 (Jvm.Cond.code ym1 prog_47_method_8_code 1 (some .boolean) :: ws) ({ frames := 0, cells := 0, slots := 0, locals := 0 } : Room)) (fun a U => a = #[(.ref (w 9))] ∧ Z.Warmed39 U.vm ∧ U.heap = h0) (fun _ _ _ _ _ => True) (fun _ U o U' => ∃ v L, o = .returned v ∧ Q2_20 Z w h0 n0 v U'.heap L ∧ FrameEnd U o U' L ({ frames := 0, cells := 0, slots := 0, locals := 0 } : Room).cells ({ frames := 0, cells := 0, slots := 0, locals := 0 } : Room).slots) := by
  refine MetFree.of_bodySF (plainFor_of_name pnc_0) hisR ?_
  intro p e s m args below meth c s₁ Bd hml0 hP hK
  obtain ⟨rfl, hZ, hh⟩ := hP
  have hx := Bd.exec
  have hby := Bd.bytes
  have hml : c.maxLocals = 1 := hml0
  have hown : s.vm.findClass "com/example/ferrule/ferrule/io/TypeCode" = some m.cls := findClass_of_methodNamed Bd.named
  have hnm := (name_of_methodNamed Bd.named Bd.method).1
  have X0 : Stand p l e ({ frames := 0, cells := 0, slots := 0, locals := 0 } : Room) s m #[(.ref (w 9))] below meth c s₁ [] 0 0 := Stand.of_body Bd
  have e0 : s₁.heap = h0 := by rw [← hh, Bd.state]; rfl
  have N0 := Fr.nil n0
  skip
  have pre0 : ∀ t, Steps p.tables e below (s₁.setTop (mkF m 0 #[.val (.ref (w 9))] [])) t → Steps p.tables e below (s₁.setTop (entryFrame m #[(.ref (w 9))] 1)) t := fun t k => castTop (ef_2_20 m w) k
  obtain ⟨T1, X1, e1, st1⟩ := getS2 X0 hx hZ hown (host := "") (Or.inl (wk55 hw)) Via.refl e0 ((wd30 hW).ext O0.2) (g := (mkF m 1 #[.val (.ref (w 9))] [(.ref (w 9))])) rfl (hb hby d2_1)
  obtain ⟨T2, X2, e2, st2⟩ := getS2 X1 hx hZ hown (host := "") (Or.inl (wk56 hw)) Via.refl e1 ((wd32 hW).ext O0.2) (g := (mkF m 8 #[.val (.ref (w 9))] [(.ref (w 9))])) rfl (hb hby d2_8)
  obtain ⟨T3, X3, e3, st3⟩ := getS2 X2 hx hZ hown (host := "") (Or.inl (wk57 hw)) Via.refl e2 ((wd34 hW).ext O0.2) (g := (mkF m 15 #[.val (.ref (w 9))] [(.ref (w 9))])) rfl (hb hby d2_15)
  obtain ⟨fs, hr, hrun, hended, hWm, hsame⟩ := X3.leave (v := some (.int (0 : Int32))) (fun h => by rw [Bd.returns] at h; cases h)
  refine ⟨_, _, pre0 _ ?_, hrun, hended, _, _, rfl, ?_, ⟨_, rfl⟩, hWm, hsame.mono (by decide) (by decide)⟩
  · show Steps p.tables e below (s₁.setTop (mkF m 0 #[.val (.ref (w 9))] [])) _
    refine sA X0 hx hby d2_0 rfl rfl ?_
    refine st1 _ ?_
    refine Jvm.RoadKit.acmp (g := (mkF m 4 #[.val (.ref (w 9))] [(.ref (w 15)), (.ref (w 9))])) X1 hx rfl rfl rfl (pc0 := 4) (pc' := 7) (same := false) rfl (hb hby d2_4) rfl (decide_eq_false fun q => (Fld.ne (wd70 hW) (wd45 hW) (by decide)) (Value.ref.inj q)) (by decide) (by decide) ?_
    refine sA X1 hx hby d2_7 rfl rfl ?_
    refine st2 _ ?_
    refine Jvm.RoadKit.acmp (g := (mkF m 11 #[.val (.ref (w 9))] [(.ref (w 16)), (.ref (w 9))])) X2 hx rfl rfl rfl (pc0 := 11) (pc' := 14) (same := false) rfl (hb hby d2_11) rfl (decide_eq_false fun q => (Fld.ne (wd70 hW) (wd67 hW) (by decide)) (Value.ref.inj q)) (by decide) (by decide) ?_
    refine sA X2 hx hby d2_14 rfl rfl ?_
    refine st3 _ ?_
    refine Jvm.RoadKit.acmp (g := (mkF m 18 #[.val (.ref (w 9))] [(.ref (w 17)), (.ref (w 9))])) X3 hx rfl rfl rfl (pc0 := 18) (pc' := 25) (same := false) rfl (hb hby d2_18) rfl (decide_eq_false fun q => (Fld.ne (wd70 hW) (wd48 hW) (by decide)) (Value.ref.inj q)) (by decide) (by decide) ?_
    refine sc X3 hx hby d2_25 ?_
    exact retN X3 hx (t := .boolean) Bd.returns (by simp) (hb hby d2_26) hr
  · show Q2_20 Z w h0 n0 _ T3.heap _
    rw [e3]
    exact ⟨rfl, N0, rfl⟩
theorem ef_1_21 (m : MethodId) (w : Nat → Addr) : entryFrame m #[(.ref (w 10))] 1 = mkF m 0 #[.val (.ref (w 10))] [] := by first | (simp [entryFrame, mkF, argsToLocals, Value.category]; done) | rfl
def Q1_21 (Z : State) (w : Nat → Addr) (h0 : Heap) (n0 : Nat) (v : Option Value) (h : Heap) (L : List Loc) : Prop := v = some (.int (11 : Int32)) ∧ Fr n0 L ∧ h = h0
set_option maxRecDepth 65536 in
set_option maxHeartbeats 40000000 in
theorem rm1_21 (l : Launch) (Z : State) (a0 : Array Value) (hw : ∀ d ∈ tables_1, d.before a0 Z = true) (w : Nat → Addr) (hW : Wd Z w) (ws : List Jvm.Cond) (h0 : Heap) (n0 : Nat) (O0 : Old Z n0 h0) :
    MetFree l ym0 (head1 (Jvm.Cond.code ym0 prog_47_method_10_code 1 (some .int) :: ws) ({ frames := 0, cells := 0, slots := 0, locals := 0 } : Room)) (fun a U => a = #[(.ref (w 10))] ∧ Z.Warmed39 U.vm ∧ U.heap = h0) (fun _ _ _ _ _ => True) (fun _ U o U' => ∃ v L, o = .returned v ∧ Q1_21 Z w h0 n0 v U'.heap L ∧ FrameEnd U o U' L ({ frames := 0, cells := 0, slots := 0, locals := 0 } : Room).cells ({ frames := 0, cells := 0, slots := 0, locals := 0 } : Room).slots) := by
  refine MetFree.of_bodySF (plainFor_of_name pnc_0) hisR ?_
  intro p e s m args below meth c s₁ Bd hml0 hP hK
  obtain ⟨rfl, hZ, hh⟩ := hP
  have hx := Bd.exec
  have hby := Bd.bytes
  have hml : c.maxLocals = 1 := hml0
  have hown : s.vm.findClass "com/example/ferrule/ferrule/io/TypeCode" = some m.cls := findClass_of_methodNamed Bd.named
  have hnm := (name_of_methodNamed Bd.named Bd.method).1
  have X0 : Stand p l e ({ frames := 0, cells := 0, slots := 0, locals := 0 } : Room) s m #[(.ref (w 10))] below meth c s₁ [] 0 0 := Stand.of_body Bd
  have e0 : s₁.heap = h0 := by rw [← hh, Bd.state]; rfl
  have N0 := Fr.nil n0
  skip
  have pre0 : ∀ t, Steps p.tables e below (s₁.setTop (mkF m 0 #[.val (.ref (w 10))] [])) t → Steps p.tables e below (s₁.setTop (entryFrame m #[(.ref (w 10))] 1)) t := fun t k => castTop (ef_1_21 m w) k
  obtain ⟨T1, X1, e1, st1⟩ := getF X0 hx hZ hown (host := "") (Or.inl (wk48 hw)) Via.refl e0 ((wd55 hW).ext O0.2) (g := (mkF m 1 #[.val (.ref (w 10))] [(.ref (w 10))])) rfl rfl (hb hby d1_1)
  obtain ⟨fs, hr, hrun, hended, hWm, hsame⟩ := X1.leave (v := some (.int (11 : Int32))) (fun h => by rw [Bd.returns] at h; cases h)
  refine ⟨_, _, pre0 _ ?_, hrun, hended, _, _, rfl, ?_, ⟨_, rfl⟩, hWm, hsame.mono (by decide) (by decide)⟩
  · show Steps p.tables e below (s₁.setTop (mkF m 0 #[.val (.ref (w 10))] [])) _
    refine sA X0 hx hby d1_0 rfl rfl ?_
    refine st1 _ ?_
    exact retI X1 hx Bd.returns (hb hby d1_4) hr
  · show Q1_21 Z w h0 n0 _ T1.heap _
    rw [e1]
    exact ⟨rfl, N0, rfl⟩
theorem ef_2_22 (m : MethodId) (w : Nat → Addr) : entryFrame m #[(.ref (w 10))] 1 = mkF m 0 #[.val (.ref (w 10))] [] := by first | (simp [entryFrame, mkF, argsToLocals, Value.category]; done) | rfl
def Q2_22 (Z : State) (w : Nat → Addr) (h0 : Heap) (n0 : Nat) (v : Option Value) (h : Heap) (L : List Loc) : Prop := v = some (.int (0 : Int32)) ∧ Fr n0 L ∧ h = h0
set_option maxRecDepth 65536 in
set_option maxHeartbeats 40000000 in
theorem rm2_22 (l : Launch) (Z : State) (a0 : Array Value) (hw : ∀ d ∈ tables_1, d.before a0 Z = true) (w : Nat → Addr) (hW : Wd Z w) (ws : List Jvm.Cond) (h0 : Heap) (n0 : Nat) (O0 : Old Z n0 h0) :
    MetFree l ym1 (head1 (Jvm.Cond.code ym1 prog_47_method_8_code 1 (some .boolean) :: ws) ({ frames := 0, cells := 0, slots := 0, locals := 0 } : Room)) (fun a U => a = #[(.ref (w 10))] ∧ Z.Warmed39 U.vm ∧ U.heap = h0) (fun _ _ _ _ _ => True) (fun _ U o U' => ∃ v L, o = .returned v ∧ Q2_22 Z w h0 n0 v U'.heap L ∧ FrameEnd U o U' L ({ frames := 0, cells := 0, slots := 0, locals := 0 } : Room).cells ({ frames := 0, cells := 0, slots := 0, locals := 0 } : Room).slots) := by
  refine MetFree.of_bodySF (plainFor_of_name pnc_0) hisR ?_
  intro p e s m args below meth c s₁ Bd hml0 hP hK
  obtain ⟨rfl, hZ, hh⟩ := hP
  have hx := Bd.exec
  have hby := Bd.bytes
  have hml : c.maxLocals = 1 := hml0
  have hown : s.vm.findClass "com/example/ferrule/ferrule/io/TypeCode" = some m.cls := findClass_of_methodNamed Bd.named
  have hnm := (name_of_methodNamed Bd.named Bd.method).1
  have X0 : Stand p l e ({ frames := 0, cells := 0, slots := 0, locals := 0 } : Room) s m #[(.ref (w 10))] below meth c s₁ [] 0 0 := Stand.of_body Bd
  have e0 : s₁.heap = h0 := by rw [← hh, Bd.state]; rfl
  have N0 := Fr.nil n0
  skip
  have pre0 : ∀ t, Steps p.tables e below (s₁.setTop (mkF m 0 #[.val (.ref (w 10))] [])) t → Steps p.tables e below (s₁.setTop (entryFrame m #[(.ref (w 10))] 1)) t := fun t k => castTop (ef_2_22 m w) k
  obtain ⟨T1, X1, e1, st1⟩ := getS2 X0 hx hZ hown (host := "") (Or.inl (wk55 hw)) Via.refl e0 ((wd30 hW).ext O0.2) (g := (mkF m 1 #[.val (.ref (w 10))] [(.ref (w 10))])) rfl (hb hby d2_1)
  obtain ⟨T2, X2, e2, st2⟩ := getS2 X1 hx hZ hown (host := "") (Or.inl (wk56 hw)) Via.refl e1 ((wd32 hW).ext O0.2) (g := (mkF m 8 #[.val (.ref (w 10))] [(.ref (w 10))])) rfl (hb hby d2_8)
  obtain ⟨T3, X3, e3, st3⟩ := getS2 X2 hx hZ hown (host := "") (Or.inl (wk57 hw)) Via.refl e2 ((wd34 hW).ext O0.2) (g := (mkF m 15 #[.val (.ref (w 10))] [(.ref (w 10))])) rfl (hb hby d2_15)
  obtain ⟨fs, hr, hrun, hended, hWm, hsame⟩ := X3.leave (v := some (.int (0 : Int32))) (fun h => by rw [Bd.returns] at h; cases h)
  refine ⟨_, _, pre0 _ ?_, hrun, hended, _, _, rfl, ?_, ⟨_, rfl⟩, hWm, hsame.mono (by decide) (by decide)⟩
  · show Steps p.tables e below (s₁.setTop (mkF m 0 #[.val (.ref (w 10))] [])) _
    refine sA X0 hx hby d2_0 rfl rfl ?_
    refine st1 _ ?_
    refine Jvm.RoadKit.acmp (g := (mkF m 4 #[.val (.ref (w 10))] [(.ref (w 15)), (.ref (w 10))])) X1 hx rfl rfl rfl (pc0 := 4) (pc' := 7) (same := false) rfl (hb hby d2_4) rfl (decide_eq_false fun q => (Fld.ne (wd55 hW) (wd45 hW) (by decide)) (Value.ref.inj q)) (by decide) (by decide) ?_
    refine sA X1 hx hby d2_7 rfl rfl ?_
    refine st2 _ ?_
    refine Jvm.RoadKit.acmp (g := (mkF m 11 #[.val (.ref (w 10))] [(.ref (w 16)), (.ref (w 10))])) X2 hx rfl rfl rfl (pc0 := 11) (pc' := 14) (same := false) rfl (hb hby d2_11) rfl (decide_eq_false fun q => (Fld.ne (wd55 hW) (wd67 hW) (by decide)) (Value.ref.inj q)) (by decide) (by decide) ?_
    refine sA X2 hx hby d2_14 rfl rfl ?_
    refine st3 _ ?_
    refine Jvm.RoadKit.acmp (g := (mkF m 18 #[.val (.ref (w 10))] [(.ref (w 17)), (.ref (w 10))])) X3 hx rfl rfl rfl (pc0 := 18) (pc' := 25) (same := false) rfl (hb hby d2_18) rfl (decide_eq_false fun q => (Fld.ne (wd55 hW) (wd48 hW) (by decide)) (Value.ref.inj q)) (by decide) (by decide) ?_
    refine sc X3 hx hby d2_25 ?_
    exact retN X3 hx (t := .boolean) Bd.returns (by simp) (hb hby d2_26) hr
  · show Q2_22 Z w h0 n0 _ T3.heap _
    rw [e3]
    exact ⟨rfl, N0, rfl⟩
theorem ef_1_23 (m : MethodId) (w : Nat → Addr) : entryFrame m #[(.ref (w 11))] 1 = mkF m 0 #[.val (.ref (w 11))] [] := by first | (simp [entryFrame, mkF, argsToLocals, Value.category]; done) | rfl
def Q1_23 (Z : State) (w : Nat → Addr) (h0 : Heap) (n0 : Nat) (v : Option Value) (h : Heap) (L : List Loc) : Prop := v = some (.int (12 : Int32)) ∧ Fr n0 L ∧ h = h0
set_option maxRecDepth 65536 in
set_option maxHeartbeats 40000000 in
theorem rm1_23 (l : Launch) (Z : State) (a0 : Array Value) (hw : ∀ d ∈ tables_1, d.before a0 Z = true) (w : Nat → Addr) (hW : Wd Z w) (ws : List Jvm.Cond) (h0 : Heap) (n0 : Nat) (O0 : Old Z n0 h0) :
    MetFree l ym0 (head1 (Jvm.Cond.code ym0 prog_47_method_10_code 1 (some .int) :: ws) ({ frames := 0, cells := 0, slots := 0, locals := 0 } : Room)) (fun a U => a = #[(.ref (w 11))] ∧ Z.Warmed39 U.vm ∧ U.heap = h0) (fun _ _ _ _ _ => True) (fun _ U o U' => ∃ v L, o = .returned v ∧ Q1_23 Z w h0 n0 v U'.heap L ∧ FrameEnd U o U' L ({ frames := 0, cells := 0, slots := 0, locals := 0 } : Room).cells ({ frames := 0, cells := 0, slots := 0, locals := 0 } : Room).slots) := by
  refine MetFree.of_bodySF (plainFor_of_name pnc_0) hisR ?_
  intro p e s m args below meth c s₁ Bd hml0 hP hK
  obtain ⟨rfl, hZ, hh⟩ := hP
  have hx := Bd.exec
  have hby := Bd.bytes
  have hml : c.maxLocals = 1 := hml0
  have hown : s.vm.findClass "com/example/ferrule/ferrule/io/TypeCode" = some m.cls := findClass_of_methodNamed Bd.named
  have hnm := (name_of_methodNamed Bd.named Bd.method).1
  have X0 : Stand p l e ({ frames := 0, cells := 0, slots := 0, locals := 0 } : Room) s m #[(.ref (w 11))] below meth c s₁ [] 0 0 := Stand.of_body Bd
  have e0 : s₁.heap = h0 := by rw [← hh, Bd.state]; rfl
  have N0 := Fr.nil n0
  skip
  have pre0 : ∀ t, Steps p.tables e below (s₁.setTop (mkF m 0 #[.val (.ref (w 11))] [])) t → Steps p.tables e below (s₁.setTop (entryFrame m #[(.ref (w 11))] 1)) t := fun t k => castTop (ef_1_23 m w) k
  obtain ⟨T1, X1, e1, st1⟩ := getF X0 hx hZ hown (host := "") (Or.inl (wk48 hw)) Via.refl e0 ((wd53 hW).ext O0.2) (g := (mkF m 1 #[.val (.ref (w 11))] [(.ref (w 11))])) rfl rfl (hb hby d1_1)
  obtain ⟨fs, hr, hrun, hended, hWm, hsame⟩ := X1.leave (v := some (.int (12 : Int32))) (fun h => by rw [Bd.returns] at h; cases h)
  refine ⟨_, _, pre0 _ ?_, hrun, hended, _, _, rfl, ?_, ⟨_, rfl⟩, hWm, hsame.mono (by decide) (by decide)⟩
  · show Steps p.tables e below (s₁.setTop (mkF m 0 #[.val (.ref (w 11))] [])) _
    refine sA X0 hx hby d1_0 rfl rfl ?_
    refine st1 _ ?_
    exact retI X1 hx Bd.returns (hb hby d1_4) hr
  · show Q1_23 Z w h0 n0 _ T1.heap _
    rw [e1]
    exact ⟨rfl, N0, rfl⟩
theorem ef_2_24 (m : MethodId) (w : Nat → Addr) : entryFrame m #[(.ref (w 11))] 1 = mkF m 0 #[.val (.ref (w 11))] [] := by first | (simp [entryFrame, mkF, argsToLocals, Value.category]; done) | rfl
def Q2_24 (Z : State) (w : Nat → Addr) (h0 : Heap) (n0 : Nat) (v : Option Value) (h : Heap) (L : List Loc) : Prop := v = some (.int (0 : Int32)) ∧ Fr n0 L ∧ h = h0
set_option maxRecDepth 65536 in
set_option maxHeartbeats 40000000 in
theorem rm2_24 (l : Launch) (Z : State) (a0 : Array Value) (hw : ∀ d ∈ tables_1, d.before a0 Z = true) (w : Nat → Addr) (hW : Wd Z w) (ws : List Jvm.Cond) (h0 : Heap) (n0 : Nat) (O0 : Old Z n0 h0) :
    MetFree l ym1 (head1 (Jvm.Cond.code ym1 prog_47_method_8_code 1 (some .boolean) :: ws) ({ frames := 0, cells := 0, slots := 0, locals := 0 } : Room)) (fun a U => a = #[(.ref (w 11))] ∧ Z.Warmed39 U.vm ∧ U.heap = h0) (fun _ _ _ _ _ => True) (fun _ U o U' => ∃ v L, o = .returned v ∧ Q2_24 Z w h0 n0 v U'.heap L ∧ FrameEnd U o U' L ({ frames := 0, cells := 0, slots := 0, locals := 0 } : Room).cells ({ frames := 0, cells := 0, slots := 0, locals := 0 } : Room).slots) := by
  refine MetFree.of_bodySF (plainFor_of_name pnc_0) hisR ?_
  intro p e s m args below meth c s₁ Bd hml0 hP hK
  obtain ⟨rfl, hZ, hh⟩ := hP
  have hx := Bd.exec
  have hby := Bd.bytes
  have hml : c.maxLocals = 1 := hml0
  have hown : s.vm.findClass "com/example/ferrule/ferrule/io/TypeCode" = some m.cls := findClass_of_methodNamed Bd.named
  have hnm := (name_of_methodNamed Bd.named Bd.method).1
  have X0 : Stand p l e ({ frames := 0, cells := 0, slots := 0, locals := 0 } : Room) s m #[(.ref (w 11))] below meth c s₁ [] 0 0 := Stand.of_body Bd
  have e0 : s₁.heap = h0 := by rw [← hh, Bd.state]; rfl
  have N0 := Fr.nil n0
  skip
  have pre0 : ∀ t, Steps p.tables e below (s₁.setTop (mkF m 0 #[.val (.ref (w 11))] [])) t → Steps p.tables e below (s₁.setTop (entryFrame m #[(.ref (w 11))] 1)) t := fun t k => castTop (ef_2_24 m w) k
  obtain ⟨T1, X1, e1, st1⟩ := getS2 X0 hx hZ hown (host := "") (Or.inl (wk55 hw)) Via.refl e0 ((wd30 hW).ext O0.2) (g := (mkF m 1 #[.val (.ref (w 11))] [(.ref (w 11))])) rfl (hb hby d2_1)
  obtain ⟨T2, X2, e2, st2⟩ := getS2 X1 hx hZ hown (host := "") (Or.inl (wk56 hw)) Via.refl e1 ((wd32 hW).ext O0.2) (g := (mkF m 8 #[.val (.ref (w 11))] [(.ref (w 11))])) rfl (hb hby d2_8)
  obtain ⟨T3, X3, e3, st3⟩ := getS2 X2 hx hZ hown (host := "") (Or.inl (wk57 hw)) Via.refl e2 ((wd34 hW).ext O0.2) (g := (mkF m 15 #[.val (.ref (w 11))] [(.ref (w 11))])) rfl (hb hby d2_15)
  obtain ⟨fs, hr, hrun, hended, hWm, hsame⟩ := X3.leave (v := some (.int (0 : Int32))) (fun h => by rw [Bd.returns] at h; cases h)
  refine ⟨_, _, pre0 _ ?_, hrun, hended, _, _, rfl, ?_, ⟨_, rfl⟩, hWm, hsame.mono (by decide) (by decide)⟩
  · show Steps p.tables e below (s₁.setTop (mkF m 0 #[.val (.ref (w 11))] [])) _
    refine sA X0 hx hby d2_0 rfl rfl ?_
    refine st1 _ ?_
    refine Jvm.RoadKit.acmp (g := (mkF m 4 #[.val (.ref (w 11))] [(.ref (w 15)), (.ref (w 11))])) X1 hx rfl rfl rfl (pc0 := 4) (pc' := 7) (same := false) rfl (hb hby d2_4) rfl (decide_eq_false fun q => (Fld.ne (wd53 hW) (wd45 hW) (by decide)) (Value.ref.inj q)) (by decide) (by decide) ?_
    refine sA X1 hx hby d2_7 rfl rfl ?_
    refine st2 _ ?_
    refine Jvm.RoadKit.acmp (g := (mkF m 11 #[.val (.ref (w 11))] [(.ref (w 16)), (.ref (w 11))])) X2 hx rfl rfl rfl (pc0 := 11) (pc' := 14) (same := false) rfl (hb hby d2_11) rfl (decide_eq_false fun q => (Fld.ne (wd53 hW) (wd67 hW) (by decide)) (Value.ref.inj q)) (by decide) (by decide) ?_
    refine sA X2 hx hby d2_14 rfl rfl ?_
    refine st3 _ ?_
    refine Jvm.RoadKit.acmp (g := (mkF m 18 #[.val (.ref (w 11))] [(.ref (w 17)), (.ref (w 11))])) X3 hx rfl rfl rfl (pc0 := 18) (pc' := 25) (same := false) rfl (hb hby d2_18) rfl (decide_eq_false fun q => (Fld.ne (wd53 hW) (wd48 hW) (by decide)) (Value.ref.inj q)) (by decide) (by decide) ?_
    refine sc X3 hx hby d2_25 ?_
    exact retN X3 hx (t := .boolean) Bd.returns (by simp) (hb hby d2_26) hr
  · show Q2_24 Z w h0 n0 _ T3.heap _
    rw [e3]
    exact ⟨rfl, N0, rfl⟩
theorem ef_1_25 (m : MethodId) (w : Nat → Addr) : entryFrame m #[(.ref (w 12))] 1 = mkF m 0 #[.val (.ref (w 12))] [] := by first | (simp [entryFrame, mkF, argsToLocals, Value.category]; done) | rfl
def Q1_25 (Z : State) (w : Nat → Addr) (h0 : Heap) (n0 : Nat) (v : Option Value) (h : Heap) (L : List Loc) : Prop := v = some (.int (13 : Int32)) ∧ Fr n0 L ∧ h = h0
set_option maxRecDepth 65536 in
set_option maxHeartbeats 40000000 in
theorem rm1_25 (l : Launch) (Z : State) (a0 : Array Value) (hw : ∀ d ∈ tables_1, d.before a0 Z = true) (w : Nat → Addr) (hW : Wd Z w) (ws : List Jvm.Cond) (h0 : Heap) (n0 : Nat) (O0 : Old Z n0 h0) :
    MetFree l ym0 (head1 (Jvm.Cond.code ym0 prog_47_method_10_code 1 (some .int) :: ws) ({ frames := 0, cells := 0, slots := 0, locals := 0 } : Room)) (fun a U => a = #[(.ref (w 12))] ∧ Z.Warmed39 U.vm ∧ U.heap = h0) (fun _ _ _ _ _ => True) (fun _ U o U' => ∃ v L, o = .returned v ∧ Q1_25 Z w h0 n0 v U'.heap L ∧ FrameEnd U o U' L ({ frames := 0, cells := 0, slots := 0, locals := 0 } : Room).cells ({ frames := 0, cells := 0, slots := 0, locals := 0 } : Room).slots) := by
  refine MetFree.of_bodySF (plainFor_of_name pnc_0) hisR ?_
  intro p e s m args below meth c s₁ Bd hml0 hP hK
  obtain ⟨rfl, hZ, hh⟩ := hP
  have hx := Bd.exec
  have hby := Bd.bytes
  have hml : c.maxLocals = 1 := hml0
  have hown : s.vm.findClass "com/example/ferrule/ferrule/io/TypeCode" = some m.cls := findClass_of_methodNamed Bd.named
  have hnm := (name_of_methodNamed Bd.named Bd.method).1
  have X0 : Stand p l e ({ frames := 0, cells := 0, slots := 0, locals := 0 } : Room) s m #[(.ref (w 12))] below meth c s₁ [] 0 0 := Stand.of_body Bd
  have e0 : s₁.heap = h0 := by rw [← hh, Bd.state]; rfl
  have N0 := Fr.nil n0
  skip
  have pre0 : ∀ t, Steps p.tables e below (s₁.setTop (mkF m 0 #[.val (.ref (w 12))] [])) t → Steps p.tables e below (s₁.setTop (entryFrame m #[(.ref (w 12))] 1)) t := fun t k => castTop (ef_1_25 m w) k
  obtain ⟨T1, X1, e1, st1⟩ := getF X0 hx hZ hown (host := "") (Or.inl (wk48 hw)) Via.refl e0 ((wd72 hW).ext O0.2) (g := (mkF m 1 #[.val (.ref (w 12))] [(.ref (w 12))])) rfl rfl (hb hby d1_1)
  obtain ⟨fs, hr, hrun, hended, hWm, hsame⟩ := X1.leave (v := some (.int (13 : Int32))) (fun h => by rw [Bd.returns] at h; cases h)
  refine ⟨_, _, pre0 _ ?_, hrun, hended, _, _, rfl, ?_, ⟨_, rfl⟩, hWm, hsame.mono (by decide) (by decide)⟩
  · show Steps p.tables e below (s₁.setTop (mkF m 0 #[.val (.ref (w 12))] [])) _
    refine sA X0 hx hby d1_0 rfl rfl ?_
    refine st1 _ ?_
    exact retI X1 hx Bd.returns (hb hby d1_4) hr
  · show Q1_25 Z w h0 n0 _ T1.heap _
    rw [e1]
    exact ⟨rfl, N0, rfl⟩
theorem ef_2_26 (m : MethodId) (w : Nat → Addr) : entryFrame m #[(.ref (w 12))] 1 = mkF m 0 #[.val (.ref (w 12))] [] := by first | (simp [entryFrame, mkF, argsToLocals, Value.category]; done) | rfl
def Q2_26 (Z : State) (w : Nat → Addr) (h0 : Heap) (n0 : Nat) (v : Option Value) (h : Heap) (L : List Loc) : Prop := v = some (.int (0 : Int32)) ∧ Fr n0 L ∧ h = h0
set_option maxRecDepth 65536 in
set_option maxHeartbeats 40000000 in
theorem rm2_26 (l : Launch) (Z : State) (a0 : Array Value) (hw : ∀ d ∈ tables_1, d.before a0 Z = true) (w : Nat → Addr) (hW : Wd Z w) (ws : List Jvm.Cond) (h0 : Heap) (n0 : Nat) (O0 : Old Z n0 h0) :
    MetFree l ym1 (head1 (Jvm.Cond.code ym1 prog_47_method_8_code 1 (some .boolean) :: ws) ({ frames := 0, cells := 0, slots := 0, locals := 0 } : Room)) (fun a U => a = #[(.ref (w 12))] ∧ Z.Warmed39 U.vm ∧ U.heap = h0) (fun _ _ _ _ _ => True) (fun _ U o U' => ∃ v L, o = .returned v ∧ Q2_26 Z w h0 n0 v U'.heap L ∧ FrameEnd U o U' L ({ frames := 0, cells := 0, slots := 0, locals := 0 } : Room).cells ({ frames := 0, cells := 0, slots := 0, locals := 0 } : Room).slots) := by
  refine MetFree.of_bodySF (plainFor_of_name pnc_0) hisR ?_
  intro p e s m args below meth c s₁ Bd hml0 hP hK
  obtain ⟨rfl, hZ, hh⟩ := hP
  have hx := Bd.exec
  have hby := Bd.bytes
  have hml : c.maxLocals = 1 := hml0
  have hown : s.vm.findClass "com/example/ferrule/ferrule/io/TypeCode" = some m.cls := findClass_of_methodNamed Bd.named
  have hnm := (name_of_methodNamed Bd.named Bd.method).1
  have X0 : Stand p l e ({ frames := 0, cells := 0, slots := 0, locals := 0 } : Room) s m #[(.ref (w 12))] below meth c s₁ [] 0 0 := Stand.of_body Bd
  have e0 : s₁.heap = h0 := by rw [← hh, Bd.state]; rfl
  have N0 := Fr.nil n0
  skip
  have pre0 : ∀ t, Steps p.tables e below (s₁.setTop (mkF m 0 #[.val (.ref (w 12))] [])) t → Steps p.tables e below (s₁.setTop (entryFrame m #[(.ref (w 12))] 1)) t := fun t k => castTop (ef_2_26 m w) k
  obtain ⟨T1, X1, e1, st1⟩ := getS2 X0 hx hZ hown (host := "") (Or.inl (wk55 hw)) Via.refl e0 ((wd30 hW).ext O0.2) (g := (mkF m 1 #[.val (.ref (w 12))] [(.ref (w 12))])) rfl (hb hby d2_1)
  obtain ⟨T2, X2, e2, st2⟩ := getS2 X1 hx hZ hown (host := "") (Or.inl (wk56 hw)) Via.refl e1 ((wd32 hW).ext O0.2) (g := (mkF m 8 #[.val (.ref (w 12))] [(.ref (w 12))])) rfl (hb hby d2_8)
  obtain ⟨T3, X3, e3, st3⟩ := getS2 X2 hx hZ hown (host := "") (Or.inl (wk57 hw)) Via.refl e2 ((wd34 hW).ext O0.2) (g := (mkF m 15 #[.val (.ref (w 12))] [(.ref (w 12))])) rfl (hb hby d2_15)
  obtain ⟨fs, hr, hrun, hended, hWm, hsame⟩ := X3.leave (v := some (.int (0 : Int32))) (fun h => by rw [Bd.returns] at h; cases h)
  refine ⟨_, _, pre0 _ ?_, hrun, hended, _, _, rfl, ?_, ⟨_, rfl⟩, hWm, hsame.mono (by decide) (by decide)⟩
  · show Steps p.tables e below (s₁.setTop (mkF m 0 #[.val (.ref (w 12))] [])) _
    refine sA X0 hx hby d2_0 rfl rfl ?_
    refine st1 _ ?_
    refine Jvm.RoadKit.acmp (g := (mkF m 4 #[.val (.ref (w 12))] [(.ref (w 15)), (.ref (w 12))])) X1 hx rfl rfl rfl (pc0 := 4) (pc' := 7) (same := false) rfl (hb hby d2_4) rfl (decide_eq_false fun q => (Fld.ne (wd72 hW) (wd45 hW) (by decide)) (Value.ref.inj q)) (by decide) (by decide) ?_
    refine sA X1 hx hby d2_7 rfl rfl ?_
    refine st2 _ ?_
    refine Jvm.RoadKit.acmp (g := (mkF m 11 #[.val (.ref (w 12))] [(.ref (w 16)), (.ref (w 12))])) X2 hx rfl rfl rfl (pc0 := 11) (pc' := 14) (same := false) rfl (hb hby d2_11) rfl (decide_eq_false fun q => (Fld.ne (wd72 hW) (wd67 hW) (by decide)) (Value.ref.inj q)) (by decide) (by decide) ?_
    refine sA X2 hx hby d2_14 rfl rfl ?_
    refine st3 _ ?_
    refine Jvm.RoadKit.acmp (g := (mkF m 18 #[.val (.ref (w 12))] [(.ref (w 17)), (.ref (w 12))])) X3 hx rfl rfl rfl (pc0 := 18) (pc' := 25) (same := false) rfl (hb hby d2_18) rfl (decide_eq_false fun q => (Fld.ne (wd72 hW) (wd48 hW) (by decide)) (Value.ref.inj q)) (by decide) (by decide) ?_
    refine sc X3 hx hby d2_25 ?_
    exact retN X3 hx (t := .boolean) Bd.returns (by simp) (hb hby d2_26) hr
  · show Q2_26 Z w h0 n0 _ T3.heap _
    rw [e3]
    exact ⟨rfl, N0, rfl⟩
theorem ef_1_27 (m : MethodId) (w : Nat → Addr) : entryFrame m #[(.ref (w 13))] 1 = mkF m 0 #[.val (.ref (w 13))] [] := by first | (simp [entryFrame, mkF, argsToLocals, Value.category]; done) | rfl
def Q1_27 (Z : State) (w : Nat → Addr) (h0 : Heap) (n0 : Nat) (v : Option Value) (h : Heap) (L : List Loc) : Prop := v = some (.int (14 : Int32)) ∧ Fr n0 L ∧ h = h0
set_option maxRecDepth 65536 in
set_option maxHeartbeats 40000000 in
theorem rm1_27 (l : Launch) (Z : State) (a0 : Array Value) (hw : ∀ d ∈ tables_1, d.before a0 Z = true) (w : Nat → Addr) (hW : Wd Z w) (ws : List Jvm.Cond) (h0 : Heap) (n0 : Nat) (O0 : Old Z n0 h0) :
    MetFree l ym0 (head1 (Jvm.Cond.code ym0 prog_47_method_10_code 1 (some .int) :: ws) ({ frames := 0, cells := 0, slots := 0, locals := 0 } : Room)) (fun a U => a = #[(.ref (w 13))] ∧ Z.Warmed39 U.vm ∧ U.heap = h0) (fun _ _ _ _ _ => True) (fun _ U o U' => ∃ v L, o = .returned v ∧ Q1_27 Z w h0 n0 v U'.heap L ∧ FrameEnd U o U' L ({ frames := 0, cells := 0, slots := 0, locals := 0 } : Room).cells ({ frames := 0, cells := 0, slots := 0, locals := 0 } : Room).slots) := by
  refine MetFree.of_bodySF (plainFor_of_name pnc_0) hisR ?_
  intro p e s m args below meth c s₁ Bd hml0 hP hK
  obtain ⟨rfl, hZ, hh⟩ := hP
  have hx := Bd.exec
  have hby := Bd.bytes
  have hml : c.maxLocals = 1 := hml0
  have hown : s.vm.findClass "com/example/ferrule/ferrule/io/TypeCode" = some m.cls := findClass_of_methodNamed Bd.named
  have hnm := (name_of_methodNamed Bd.named Bd.method).1
  have X0 : Stand p l e ({ frames := 0, cells := 0, slots := 0, locals := 0 } : Room) s m #[(.ref (w 13))] below meth c s₁ [] 0 0 := Stand.of_body Bd
  have e0 : s₁.heap = h0 := by rw [← hh, Bd.state]; rfl
  have N0 := Fr.nil n0
  skip
  have pre0 : ∀ t, Steps p.tables e below (s₁.setTop (mkF m 0 #[.val (.ref (w 13))] [])) t → Steps p.tables e below (s₁.setTop (entryFrame m #[(.ref (w 13))] 1)) t := fun t k => castTop (ef_1_27 m w) k
  obtain ⟨T1, X1, e1, st1⟩ := getF X0 hx hZ hown (host := "") (Or.inl (wk48 hw)) Via.refl e0 ((wd74 hW).ext O0.2) (g := (mkF m 1 #[.val (.ref (w 13))] [(.ref (w 13))])) rfl rfl (hb hby d1_1)
  obtain ⟨fs, hr, hrun, hended, hWm, hsame⟩ := X1.leave (v := some (.int (14 : Int32))) (fun h => by rw [Bd.returns] at h; cases h)
  refine ⟨_, _, pre0 _ ?_, hrun, hended, _, _, rfl, ?_, ⟨_, rfl⟩, hWm, hsame.mono (by decide) (by decide)⟩
  · show Steps p.tables e below (s₁.setTop (mkF m 0 #[.val (.ref (w 13))] [])) _
    refine sA X0 hx hby d1_0 rfl rfl ?_
    refine st1 _ ?_
    exact retI X1 hx Bd.returns (hb hby d1_4) hr
  · show Q1_27 Z w h0 n0 _ T1.heap _
    rw [e1]
    exact ⟨rfl, N0, rfl⟩
theorem ef_2_28 (m : MethodId) (w : Nat → Addr) : entryFrame m #[(.ref (w 13))] 1 = mkF m 0 #[.val (.ref (w 13))] [] := by first | (simp [entryFrame, mkF, argsToLocals, Value.category]; done) | rfl
def Q2_28 (Z : State) (w : Nat → Addr) (h0 : Heap) (n0 : Nat) (v : Option Value) (h : Heap) (L : List Loc) : Prop := v = some (.int (0 : Int32)) ∧ Fr n0 L ∧ h = h0
set_option maxRecDepth 65536 in
set_option maxHeartbeats 40000000 in
theorem rm2_28 (l : Launch) (Z : State) (a0 : Array Value) (hw : ∀ d ∈ tables_1, d.before a0 Z = true) (w : Nat → Addr) (hW : Wd Z w) (ws : List Jvm.Cond) (h0 : Heap) (n0 : Nat) (O0 : Old Z n0 h0) :
    MetFree l ym1 (head1 (Jvm.Cond.code ym1 prog_47_method_8_code 1 (some .boolean) :: ws) ({ frames := 0, cells := 0, slots := 0, locals := 0 } : Room)) (fun a U => a = #[(.ref (w 13))] ∧ Z.Warmed39 U.vm ∧ U.heap = h0) (fun _ _ _ _ _ => True) (fun _ U o U' => ∃ v L, o = .returned v ∧ Q2_28 Z w h0 n0 v U'.heap L ∧ FrameEnd U o U' L ({ frames := 0, cells := 0, slots := 0, locals := 0 } : Room).cells ({ frames := 0, cells := 0, slots := 0, locals := 0 } : Room).slots) := by
  refine MetFree.of_bodySF (plainFor_of_name pnc_0) hisR ?_
  intro p e s m args below meth c s₁ Bd hml0 hP hK
  obtain ⟨rfl, hZ, hh⟩ := hP
  have hx := Bd.exec
  have hby := Bd.bytes
  have hml : c.maxLocals = 1 := hml0
  have hown : s.vm.findClass "com/example/ferrule/ferrule/io/TypeCode" = some m.cls := findClass_of_methodNamed Bd.named
  have hnm := (name_of_methodNamed Bd.named Bd.method).1
  have X0 : Stand p l e ({ frames := 0, cells := 0, slots := 0, locals := 0 } : Room) s m #[(.ref (w 13))] below meth c s₁ [] 0 0 := Stand.of_body Bd
  have e0 : s₁.heap = h0 := by rw [← hh, Bd.state]; rfl
  have N0 := Fr.nil n0
  skip
  have pre0 : ∀ t, Steps p.tables e below (s₁.setTop (mkF m 0 #[.val (.ref (w 13))] [])) t → Steps p.tables e below (s₁.setTop (entryFrame m #[(.ref (w 13))] 1)) t := fun t k => castTop (ef_2_28 m w) k
  obtain ⟨T1, X1, e1, st1⟩ := getS2 X0 hx hZ hown (host := "") (Or.inl (wk55 hw)) Via.refl e0 ((wd30 hW).ext O0.2) (g := (mkF m 1 #[.val (.ref (w 13))] [(.ref (w 13))])) rfl (hb hby d2_1)
  obtain ⟨T2, X2, e2, st2⟩ := getS2 X1 hx hZ hown (host := "") (Or.inl (wk56 hw)) Via.refl e1 ((wd32 hW).ext O0.2) (g := (mkF m 8 #[.val (.ref (w 13))] [(.ref (w 13))])) rfl (hb hby d2_8)
  obtain ⟨T3, X3, e3, st3⟩ := getS2 X2 hx hZ hown (host := "") (Or.inl (wk57 hw)) Via.refl e2 ((wd34 hW).ext O0.2) (g := (mkF m 15 #[.val (.ref (w 13))] [(.ref (w 13))])) rfl (hb hby d2_15)
  obtain ⟨fs, hr, hrun, hended, hWm, hsame⟩ := X3.leave (v := some (.int (0 : Int32))) (fun h => by rw [Bd.returns] at h; cases h)
  refine ⟨_, _, pre0 _ ?_, hrun, hended, _, _, rfl, ?_, ⟨_, rfl⟩, hWm, hsame.mono (by decide) (by decide)⟩
  · show Steps p.tables e below (s₁.setTop (mkF m 0 #[.val (.ref (w 13))] [])) _
    refine sA X0 hx hby d2_0 rfl rfl ?_
    refine st1 _ ?_
    refine Jvm.RoadKit.acmp (g := (mkF m 4 #[.val (.ref (w 13))] [(.ref (w 15)), (.ref (w 13))])) X1 hx rfl rfl rfl (pc0 := 4) (pc' := 7) (same := false) rfl (hb hby d2_4) rfl (decide_eq_false fun q => (Fld.ne (wd74 hW) (wd45 hW) (by decide)) (Value.ref.inj q)) (by decide) (by decide) ?_
    refine sA X1 hx hby d2_7 rfl rfl ?_
    refine st2 _ ?_
    refine Jvm.RoadKit.acmp (g := (mkF m 11 #[.val (.ref (w 13))] [(.ref (w 16)), (.ref (w 13))])) X2 hx rfl rfl rfl (pc0 := 11) (pc' := 14) (same := false) rfl (hb hby d2_11) rfl (decide_eq_false fun q => (Fld.ne (wd74 hW) (wd67 hW) (by decide)) (Value.ref.inj q)) (by decide) (by decide) ?_
    refine sA X2 hx hby d2_14 rfl rfl ?_
    refine st3 _ ?_
    refine Jvm.RoadKit.acmp (g := (mkF m 18 #[.val (.ref (w 13))] [(.ref (w 17)), (.ref (w 13))])) X3 hx rfl rfl rfl (pc0 := 18) (pc' := 25) (same := false) rfl (hb hby d2_18) rfl (decide_eq_false fun q => (Fld.ne (wd74 hW) (wd48 hW) (by decide)) (Value.ref.inj q)) (by decide) (by decide) ?_
    refine sc X3 hx hby d2_25 ?_
    exact retN X3 hx (t := .boolean) Bd.returns (by simp) (hb hby d2_26) hr
  · show Q2_28 Z w h0 n0 _ T3.heap _
    rw [e3]
    exact ⟨rfl, N0, rfl⟩
theorem ef_1_29 (m : MethodId) (w : Nat → Addr) : entryFrame m #[(.ref (w 14))] 1 = mkF m 0 #[.val (.ref (w 14))] [] := by first | (simp [entryFrame, mkF, argsToLocals, Value.category]; done) | rfl
def Q1_29 (Z : State) (w : Nat → Addr) (h0 : Heap) (n0 : Nat) (v : Option Value) (h : Heap) (L : List Loc) : Prop := v = some (.int (15 : Int32)) ∧ Fr n0 L ∧ h = h0
set_option maxRecDepth 65536 in
set_option maxHeartbeats 40000000 in
theorem rm1_29 (l : Launch) (Z : State) (a0 : Array Value) (hw : ∀ d ∈ tables_1, d.before a0 Z = true) (w : Nat → Addr) (hW : Wd Z w) (ws : List Jvm.Cond) (h0 : Heap) (n0 : Nat) (O0 : Old Z n0 h0) :
    MetFree l ym0 (head1 (Jvm.Cond.code ym0 prog_47_method_10_code 1 (some .int) :: ws) ({ frames := 0, cells := 0, slots := 0, locals := 0 } : Room)) (fun a U => a = #[(.ref (w 14))] ∧ Z.Warmed39 U.vm ∧ U.heap = h0) (fun _ _ _ _ _ => True) (fun _ U o U' => ∃ v L, o = .returned v ∧ Q1_29 Z w h0 n0 v U'.heap L ∧ FrameEnd U o U' L ({ frames := 0, cells := 0, slots := 0, locals := 0 } : Room).cells ({ frames := 0, cells := 0, slots := 0, locals := 0 } : Room).slots) := by
  refine MetFree.of_bodySF (plainFor_of_name pnc_0) hisR ?_
  intro p e s m args below meth c s₁ Bd hml0 hP hK
  obtain ⟨rfl, hZ, hh⟩ := hP
  have hx := Bd.exec
  have hby := Bd.bytes
  have hml : c.maxLocals = 1 := hml0
  have hown : s.vm.findClass "com/example/ferrule/ferrule/io/TypeCode" = some m.cls := findClass_of_methodNamed Bd.named
  have hnm := (name_of_methodNamed Bd.named Bd.method).1
  have X0 : Stand p l e ({ frames := 0, cells := 0, slots := 0, locals := 0 } : Room) s m #[(.ref (w 14))] below meth c s₁ [] 0 0 := Stand.of_body Bd
  have e0 : s₁.heap = h0 := by rw [← hh, Bd.state]; rfl
  have N0 := Fr.nil n0
  skip
  have pre0 : ∀ t, Steps p.tables e below (s₁.setTop (mkF m 0 #[.val (.ref (w 14))] [])) t → Steps p.tables e below (s₁.setTop (entryFrame m #[(.ref (w 14))] 1)) t := fun t k => castTop (ef_1_29 m w) k
  obtain ⟨T1, X1, e1, st1⟩ := getF X0 hx hZ hown (host := "") (Or.inl (wk48 hw)) Via.refl e0 ((wd61 hW).ext O0.2) (g := (mkF m 1 #[.val (.ref (w 14))] [(.ref (w 14))])) rfl rfl (hb hby d1_1)
  obtain ⟨fs, hr, hrun, hended, hWm, hsame⟩ := X1.leave (v := some (.int (15 : Int32))) (fun h => by rw [Bd.returns] at h; cases h)
  refine ⟨_, _, pre0 _ ?_, hrun, hended, _, _, rfl, ?_, ⟨_, rfl⟩, hWm, hsame.mono (by decide) (by decide)⟩
  · show Steps p.tables e below (s₁.setTop (mkF m 0 #[.val (.ref (w 14))] [])) _
    refine sA X0 hx hby d1_0 rfl rfl ?_
    refine st1 _ ?_
    exact retI X1 hx Bd.returns (hb hby d1_4) hr
  · show Q1_29 Z w h0 n0 _ T1.heap _
    rw [e1]
    exact ⟨rfl, N0, rfl⟩
theorem ef_2_30 (m : MethodId) (w : Nat → Addr) : entryFrame m #[(.ref (w 14))] 1 = mkF m 0 #[.val (.ref (w 14))] [] := by first | (simp [entryFrame, mkF, argsToLocals, Value.category]; done) | rfl
def Q2_30 (Z : State) (w : Nat → Addr) (h0 : Heap) (n0 : Nat) (v : Option Value) (h : Heap) (L : List Loc) : Prop := v = some (.int (0 : Int32)) ∧ Fr n0 L ∧ h = h0
set_option maxRecDepth 65536 in
set_option maxHeartbeats 40000000 in
theorem rm2_30 (l : Launch) (Z : State) (a0 : Array Value) (hw : ∀ d ∈ tables_1, d.before a0 Z = true) (w : Nat → Addr) (hW : Wd Z w) (ws : List Jvm.Cond) (h0 : Heap) (n0 : Nat) (O0 : Old Z n0 h0) :
    MetFree l ym1 (head1 (Jvm.Cond.code ym1 prog_47_method_8_code 1 (some .boolean) :: ws) ({ frames := 0, cells := 0, slots := 0, locals := 0 } : Room)) (fun a U => a = #[(.ref (w 14))] ∧ Z.Warmed39 U.vm ∧ U.heap = h0) (fun _ _ _ _ _ => True) (fun _ U o U' => ∃ v L, o = .returned v ∧ Q2_30 Z w h0 n0 v U'.heap L ∧ FrameEnd U o U' L ({ frames := 0, cells := 0, slots := 0, locals := 0 } : Room).cells ({ frames := 0, cells := 0, slots := 0, locals := 0 } : Room).slots) := by
  refine MetFree.of_bodySF (plainFor_of_name pnc_0) hisR ?_
  intro p e s m args below meth c s₁ Bd hml0 hP hK
  obtain ⟨rfl, hZ, hh⟩ := hP
  have hx := Bd.exec
  have hby := Bd.bytes
  have hml : c.maxLocals = 1 := hml0
  have hown : s.vm.findClass "com/example/ferrule/ferrule/io/TypeCode" = some m.cls := findClass_of_methodNamed Bd.named
  have hnm := (name_of_methodNamed Bd.named Bd.method).1
  have X0 : Stand p l e ({ frames := 0, cells := 0, slots := 0, locals := 0 } : Room) s m #[(.ref (w 14))] below meth c s₁ [] 0 0 := Stand.of_body Bd
  have e0 : s₁.heap = h0 := by rw [← hh, Bd.state]; rfl
  have N0 := Fr.nil n0
  skip
  have pre0 : ∀ t, Steps p.tables e below (s₁.setTop (mkF m 0 #[.val (.ref (w 14))] [])) t → Steps p.tables e below (s₁.setTop (entryFrame m #[(.ref (w 14))] 1)) t := fun t k => castTop (ef_2_30 m w) k
  obtain ⟨T1, X1, e1, st1⟩ := getS2 X0 hx hZ hown (host := "") (Or.inl (wk55 hw)) Via.refl e0 ((wd30 hW).ext O0.2) (g := (mkF m 1 #[.val (.ref (w 14))] [(.ref (w 14))])) rfl (hb hby d2_1)
  obtain ⟨T2, X2, e2, st2⟩ := getS2 X1 hx hZ hown (host := "") (Or.inl (wk56 hw)) Via.refl e1 ((wd32 hW).ext O0.2) (g := (mkF m 8 #[.val (.ref (w 14))] [(.ref (w 14))])) rfl (hb hby d2_8)
  obtain ⟨T3, X3, e3, st3⟩ := getS2 X2 hx hZ hown (host := "") (Or.inl (wk57 hw)) Via.refl e2 ((wd34 hW).ext O0.2) (g := (mkF m 15 #[.val (.ref (w 14))] [(.ref (w 14))])) rfl (hb hby d2_15)
  obtain ⟨fs, hr, hrun, hended, hWm, hsame⟩ := X3.leave (v := some (.int (0 : Int32))) (fun h => by rw [Bd.returns] at h; cases h)
  refine ⟨_, _, pre0 _ ?_, hrun, hended, _, _, rfl, ?_, ⟨_, rfl⟩, hWm, hsame.mono (by decide) (by decide)⟩
  · show Steps p.tables e below (s₁.setTop (mkF m 0 #[.val (.ref (w 14))] [])) _
    refine sA X0 hx hby d2_0 rfl rfl ?_
    refine st1 _ ?_
    refine Jvm.RoadKit.acmp (g := (mkF m 4 #[.val (.ref (w 14))] [(.ref (w 15)), (.ref (w 14))])) X1 hx rfl rfl rfl (pc0 := 4) (pc' := 7) (same := false) rfl (hb hby d2_4) rfl (decide_eq_false fun q => (Fld.ne (wd61 hW) (wd45 hW) (by decide)) (Value.ref.inj q)) (by decide) (by decide) ?_
    refine sA X1 hx hby d2_7 rfl rfl ?_
    refine st2 _ ?_
    refine Jvm.RoadKit.acmp (g := (mkF m 11 #[.val (.ref (w 14))] [(.ref (w 16)), (.ref (w 14))])) X2 hx rfl rfl rfl (pc0 := 11) (pc' := 14) (same := false) rfl (hb hby d2_11) rfl (decide_eq_false fun q => (Fld.ne (wd61 hW) (wd67 hW) (by decide)) (Value.ref.inj q)) (by decide) (by decide) ?_
    refine sA X2 hx hby d2_14 rfl rfl ?_
    refine st3 _ ?_
    refine Jvm.RoadKit.acmp (g := (mkF m 18 #[.val (.ref (w 14))] [(.ref (w 17)), (.ref (w 14))])) X3 hx rfl rfl rfl (pc0 := 18) (pc' := 25) (same := false) rfl (hb hby d2_18) rfl (decide_eq_false fun q => (Fld.ne (wd61 hW) (wd48 hW) (by decide)) (Value.ref.inj q)) (by decide) (by decide) ?_
    refine sc X3 hx hby d2_25 ?_
    exact retN X3 hx (t := .boolean) Bd.returns (by simp) (hb hby d2_26) hr
  · show Q2_30 Z w h0 n0 _ T3.heap _
    rw [e3]
    exact ⟨rfl, N0, rfl⟩
theorem ef_1_31 (m : MethodId) (w : Nat → Addr) : entryFrame m #[(.ref (w 15))] 1 = mkF m 0 #[.val (.ref (w 15))] [] := by first | (simp [entryFrame, mkF, argsToLocals, Value.category]; done) | rfl
def Q1_31 (Z : State) (w : Nat → Addr) (h0 : Heap) (n0 : Nat) (v : Option Value) (h : Heap) (L : List Loc) : Prop := v = some (.int (16 : Int32)) ∧ Fr n0 L ∧ h = h0
set_option maxRecDepth 65536 in
set_option maxHeartbeats 40000000 in
theorem rm1_31 (l : Launch) (Z : State) (a0 : Array Value) (hw : ∀ d ∈ tables_1, d.before a0 Z = true) (w : Nat → Addr) (hW : Wd Z w) (ws : List Jvm.Cond) (h0 : Heap) (n0 : Nat) (O0 : Old Z n0 h0) :
    MetFree l ym0 (head1 (Jvm.Cond.code ym0 prog_47_method_10_code 1 (some .int) :: ws) ({ frames := 0, cells := 0, slots := 0, locals := 0 } : Room)) (fun a U => a = #[(.ref (w 15))] ∧ Z.Warmed39 U.vm ∧ U.heap = h0) (fun _ _ _ _ _ => True) (fun _ U o U' => ∃ v L, o = .returned v ∧ Q1_31 Z w h0 n0 v U'.heap L ∧ FrameEnd U o U' L ({ frames := 0, cells := 0, slots := 0, locals := 0 } : Room).cells ({ frames := 0, cells := 0, slots := 0, locals := 0 } : Room).slots) := by
  refine MetFree.of_bodySF (plainFor_of_name pnc_0) hisR ?_
  intro p e s m args below meth c s₁ Bd hml0 hP hK
  obtain ⟨rfl, hZ, hh⟩ := hP
  have hx := Bd.exec
  have hby := Bd.bytes
  have hml : c.maxLocals = 1 := hml0
  have hown : s.vm.findClass "com/example/ferrule/ferrule/io/TypeCode" = some m.cls := findClass_of_methodNamed Bd.named
  have hnm := (name_of_methodNamed Bd.named Bd.method).1
  have X0 : Stand p l e ({ frames := 0, cells := 0, slots := 0, locals := 0 } : Room) s m #[(.ref (w 15))] below meth c s₁ [] 0 0 := Stand.of_body Bd
  have e0 : s₁.heap = h0 := by rw [← hh, Bd.state]; rfl
  have N0 := Fr.nil n0
  skip
  have pre0 : ∀ t, Steps p.tables e below (s₁.setTop (mkF m 0 #[.val (.ref (w 15))] [])) t → Steps p.tables e below (s₁.setTop (entryFrame m #[(.ref (w 15))] 1)) t := fun t k => castTop (ef_1_31 m w) k
  obtain ⟨T1, X1, e1, st1⟩ := getF X0 hx hZ hown (host := "") (Or.inl (wk48 hw)) Via.refl e0 ((wd45 hW).ext O0.2) (g := (mkF m 1 #[.val (.ref (w 15))] [(.ref (w 15))])) rfl rfl (hb hby d1_1)
  obtain ⟨fs, hr, hrun, hended, hWm, hsame⟩ := X1.leave (v := some (.int (16 : Int32))) (fun h => by rw [Bd.returns] at h; cases h)
  refine ⟨_, _, pre0 _ ?_, hrun, hended, _, _, rfl, ?_, ⟨_, rfl⟩, hWm, hsame.mono (by decide) (by decide)⟩
  · show Steps p.tables e below (s₁.setTop (mkF m 0 #[.val (.ref (w 15))] [])) _
    refine sA X0 hx hby d1_0 rfl rfl ?_
    refine st1 _ ?_
    exact retI X1 hx Bd.returns (hb hby d1_4) hr
  · show Q1_31 Z w h0 n0 _ T1.heap _
    rw [e1]
    exact ⟨rfl, N0, rfl⟩
theorem d2_21 : decode prog_47_method_8_code 21 = .ok (.iconst 1, 1) := by decide +kernel
theorem d2_22 : decode prog_47_method_8_code 22 = .ok (.goto 4, 3) := by decide +kernel
theorem ef_2_32 (m : MethodId) (w : Nat → Addr) : entryFrame m #[(.ref (w 15))] 1 = mkF m 0 #[.val (.ref (w 15))] [] := by first | (simp [entryFrame, mkF, argsToLocals, Value.category]; done) | rfl
def Q2_32 (Z : State) (w : Nat → Addr) (h0 : Heap) (n0 : Nat) (v : Option Value) (h : Heap) (L : List Loc) : Prop := v = some (.int (1 : Int32)) ∧ Fr n0 L ∧ h = h0
set_option maxRecDepth 65536 in
set_option maxHeartbeats 40000000 in
theorem rm2_32 (l : Launch) (Z : State) (a0 : Array Value) (hw : ∀ d ∈ tables_1, d.before a0 Z = true) (w : Nat → Addr) (hW : Wd Z w) (ws : List Jvm.Cond) (h0 : Heap) (n0 : Nat) (O0 : Old Z n0 h0) :
    MetFree l ym1 (head1 (Jvm.Cond.code ym1 prog_47_method_8_code 1 (some .boolean) :: ws) ({ frames := 0, cells := 0, slots := 0, locals := 0 } : Room)) (fun a U => a = #[(.ref (w 15))] ∧ Z.Warmed39 U.vm ∧ U.heap = h0) (fun _ _ _ _ _ => True) (fun _ U o U' => ∃ v L, o = .returned v ∧ Q2_32 Z w h0 n0 v U'.heap L ∧ FrameEnd U o U' L ({ frames := 0, cells := 0, slots := 0, locals := 0 } : Room).cells ({ frames := 0, cells := 0, slots := 0, locals := 0 } : Room).slots) := by
  refine MetFree.of_bodySF (plainFor_of_name pnc_0) hisR ?_
  intro p e s m args below meth c s₁ Bd hml0 hP hK
  obtain ⟨rfl, hZ, hh⟩ := hP
  have hx := Bd.exec
  have hby := Bd.bytes
  have hml : c.maxLocals = 1 := hml0
  have hown : s.vm.findClass "com/example/ferrule/ferrule/io/TypeCode" = some m.cls := findClass_of_methodNamed Bd.named
  have hnm := (name_of_methodNamed Bd.named Bd.method).1
  have X0 : Stand p l e ({ frames := 0, cells := 0, slots := 0, locals := 0 } : Room) s m #[(.ref (w 15))] below meth c s₁ [] 0 0 := Stand.of_body Bd
  have e0 : s₁.heap = h0 := by rw [← hh, Bd.state]; rfl
  have N0 := Fr.nil n0
  skip
  have pre0 : ∀ t, Steps p.tables e below (s₁.setTop (mkF m 0 #[.val (.ref (w 15))] [])) t → Steps p.tables e below (s₁.setTop (entryFrame m #[(.ref (w 15))] 1)) t := fun t k => castTop (ef_2_32 m w) k
  obtain ⟨T1, X1, e1, st1⟩ := getS2 X0 hx hZ hown (host := "") (Or.inl (wk55 hw)) Via.refl e0 ((wd30 hW).ext O0.2) (g := (mkF m 1 #[.val (.ref (w 15))] [(.ref (w 15))])) rfl (hb hby d2_1)
  obtain ⟨fs, hr, hrun, hended, hWm, hsame⟩ := X1.leave (v := some (.int (1 : Int32))) (fun h => by rw [Bd.returns] at h; cases h)
  refine ⟨_, _, pre0 _ ?_, hrun, hended, _, _, rfl, ?_, ⟨_, rfl⟩, hWm, hsame.mono (by decide) (by decide)⟩
  · show Steps p.tables e below (s₁.setTop (mkF m 0 #[.val (.ref (w 15))] [])) _
    refine sA X0 hx hby d2_0 rfl rfl ?_
    refine st1 _ ?_
    refine Jvm.RoadKit.acmp (g := (mkF m 4 #[.val (.ref (w 15))] [(.ref (w 15)), (.ref (w 15))])) X1 hx rfl rfl rfl (pc0 := 4) (pc' := 21) (same := true) rfl (hb hby d2_4) rfl (decide_eq_true rfl) (by decide) (by decide) ?_
    refine sc X1 hx hby d2_21 ?_
    refine sg (pc := 22) (pc' := 26) X1 hx hby d2_22 (by decide) (by decide) ?_
    exact retN X1 hx (t := .boolean) Bd.returns (by simp) (hb hby d2_26) hr
  · show Q2_32 Z w h0 n0 _ T1.heap _
    rw [e1]
    exact ⟨rfl, N0, rfl⟩
theorem ef_1_33 (m : MethodId) (w : Nat → Addr) : entryFrame m #[(.ref (w 16))] 1 = mkF m 0 #[.val (.ref (w 16))] [] := by first | (simp [entryFrame, mkF, argsToLocals, Value.category]; done) | rfl
def Q1_33 (Z : State) (w : Nat → Addr) (h0 : Heap) (n0 : Nat) (v : Option Value) (h : Heap) (L : List Loc) : Prop := v = some (.int (17 : Int32)) ∧ Fr n0 L ∧ h = h0
set_option maxRecDepth 65536 in
set_option maxHeartbeats 40000000 in
theorem rm1_33 (l : Launch) (Z : State) (a0 : Array Value) (hw : ∀ d ∈ tables_1, d.before a0 Z = true) (w : Nat → Addr) (hW : Wd Z w) (ws : List Jvm.Cond) (h0 : Heap) (n0 : Nat) (O0 : Old Z n0 h0) :
    MetFree l ym0 (head1 (Jvm.Cond.code ym0 prog_47_method_10_code 1 (some .int) :: ws) ({ frames := 0, cells := 0, slots := 0, locals := 0 } : Room)) (fun a U => a = #[(.ref (w 16))] ∧ Z.Warmed39 U.vm ∧ U.heap = h0) (fun _ _ _ _ _ => True) (fun _ U o U' => ∃ v L, o = .returned v ∧ Q1_33 Z w h0 n0 v U'.heap L ∧ FrameEnd U o U' L ({ frames := 0, cells := 0, slots := 0, locals := 0 } : Room).cells ({ frames := 0, cells := 0, slots := 0, locals := 0 } : Room).slots) := by
  refine MetFree.of_bodySF (plainFor_of_name pnc_0) hisR ?_
  intro p e s m args below meth c s₁ Bd hml0 hP hK
  obtain ⟨rfl, hZ, hh⟩ := hP
  have hx := Bd.exec
  have hby := Bd.bytes
  have hml : c.maxLocals = 1 := hml0
  have hown : s.vm.findClass "com/example/ferrule/ferrule/io/TypeCode" = some m.cls := findClass_of_methodNamed Bd.named
  have hnm := (name_of_methodNamed Bd.named Bd.method).1
  have X0 : Stand p l e ({ frames := 0, cells := 0, slots := 0, locals := 0 } : Room) s m #[(.ref (w 16))] below meth c s₁ [] 0 0 := Stand.of_body Bd
  have e0 : s₁.heap = h0 := by rw [← hh, Bd.state]; rfl
  have N0 := Fr.nil n0
  skip
  have pre0 : ∀ t, Steps p.tables e below (s₁.setTop (mkF m 0 #[.val (.ref (w 16))] [])) t → Steps p.tables e below (s₁.setTop (entryFrame m #[(.ref (w 16))] 1)) t := fun t k => castTop (ef_1_33 m w) k
  obtain ⟨T1, X1, e1, st1⟩ := getF X0 hx hZ hown (host := "") (Or.inl (wk48 hw)) Via.refl e0 ((wd67 hW).ext O0.2) (g := (mkF m 1 #[.val (.ref (w 16))] [(.ref (w 16))])) rfl rfl (hb hby d1_1)
  obtain ⟨fs, hr, hrun, hended, hWm, hsame⟩ := X1.leave (v := some (.int (17 : Int32))) (fun h => by rw [Bd.returns] at h; cases h)
  refine ⟨_, _, pre0 _ ?_, hrun, hended, _, _, rfl, ?_, ⟨_, rfl⟩, hWm, hsame.mono (by decide) (by decide)⟩
  · show Steps p.tables e below (s₁.setTop (mkF m 0 #[.val (.ref (w 16))] [])) _
    refine sA X0 hx hby d1_0 rfl rfl ?_
    refine st1 _ ?_
    exact retI X1 hx Bd.returns (hb hby d1_4) hr
  · show Q1_33 Z w h0 n0 _ T1.heap _
    rw [e1]
    exact ⟨rfl, N0, rfl⟩
theorem ef_2_34 (m : MethodId) (w : Nat → Addr) : entryFrame m #[(.ref (w 16))] 1 = mkF m 0 #[.val (.ref (w 16))] [] := by first | (simp [entryFrame, mkF, argsToLocals, Value.category]; done) | rfl
def Q2_34 (Z : State) (w : Nat → Addr) (h0 : Heap) (n0 : Nat) (v : Option Value) (h : Heap) (L : List Loc) : Prop := v = some (.int (1 : Int32)) ∧ Fr n0 L ∧ h = h0
set_option maxRecDepth 65536 in
set_option maxHeartbeats 40000000 in
theorem rm2_34 (l : Launch) (Z : State) (a0 : Array Value) (hw : ∀ d ∈ tables_1, d.before a0 Z = true) (w : Nat → Addr) (hW : Wd Z w) (ws : List Jvm.Cond) (h0 : Heap) (n0 : Nat) (O0 : Old Z n0 h0) :
    MetFree l ym1 (head1 (Jvm.Cond.code ym1 prog_47_method_8_code 1 (some .boolean) :: ws) ({ frames := 0, cells := 0, slots := 0, locals := 0 } : Room)) (fun a U => a = #[(.ref (w 16))] ∧ Z.Warmed39 U.vm ∧ U.heap = h0) (fun _ _ _ _ _ => True) (fun _ U o U' => ∃ v L, o = .returned v ∧ Q2_34 Z w h0 n0 v U'.heap L ∧ FrameEnd U o U' L ({ frames := 0, cells := 0, slots := 0, locals := 0 } : Room).cells ({ frames := 0, cells := 0, slots := 0, locals := 0 } : Room).slots) := by
  refine MetFree.of_bodySF (plainFor_of_name pnc_0) hisR ?_
  intro p e s m args below meth c s₁ Bd hml0 hP hK
  obtain ⟨rfl, hZ, hh⟩ := hP
  have hx := Bd.exec
  have hby := Bd.bytes
  have hml : c.maxLocals = 1 := hml0
  have hown : s.vm.findClass "com/example/ferrule/ferrule/io/TypeCode" = some m.cls := findClass_of_methodNamed Bd.named
  have hnm := (name_of_methodNamed Bd.named Bd.method).1
  have X0 : Stand p l e ({ frames := 0, cells := 0, slots := 0, locals := 0 } : Room) s m #[(.ref (w 16))] below meth c s₁ [] 0 0 := Stand.of_body Bd
  have e0 : s₁.heap = h0 := by rw [← hh, Bd.state]; rfl
  have N0 := Fr.nil n0
  skip
  have pre0 : ∀ t, Steps p.tables e below (s₁.setTop (mkF m 0 #[.val (.ref (w 16))] [])) t → Steps p.tables e below (s₁.setTop (entryFrame m #[(.ref (w 16))] 1)) t := fun t k => castTop (ef_2_34 m w) k
  obtain ⟨T1, X1, e1, st1⟩ := getS2 X0 hx hZ hown (host := "") (Or.inl (wk55 hw)) Via.refl e0 ((wd30 hW).ext O0.2) (g := (mkF m 1 #[.val (.ref (w 16))] [(.ref (w 16))])) rfl (hb hby d2_1)
  obtain ⟨T2, X2, e2, st2⟩ := getS2 X1 hx hZ hown (host := "") (Or.inl (wk56 hw)) Via.refl e1 ((wd32 hW).ext O0.2) (g := (mkF m 8 #[.val (.ref (w 16))] [(.ref (w 16))])) rfl (hb hby d2_8)
  obtain ⟨fs, hr, hrun, hended, hWm, hsame⟩ := X2.leave (v := some (.int (1 : Int32))) (fun h => by rw [Bd.returns] at h; cases h)
  refine ⟨_, _, pre0 _ ?_, hrun, hended, _, _, rfl, ?_, ⟨_, rfl⟩, hWm, hsame.mono (by decide) (by decide)⟩
  · show Steps p.tables e below (s₁.setTop (mkF m 0 #[.val (.ref (w 16))] [])) _
    refine sA X0 hx hby d2_0 rfl rfl ?_
    refine st1 _ ?_
    refine Jvm.RoadKit.acmp (g := (mkF m 4 #[.val (.ref (w 16))] [(.ref (w 15)), (.ref (w 16))])) X1 hx rfl rfl rfl (pc0 := 4) (pc' := 7) (same := false) rfl (hb hby d2_4) rfl (decide_eq_false fun q => (Fld.ne (wd41 hW) (wd40 hW) (by decide)) (Value.ref.inj q)) (by decide) (by decide) ?_
    refine sA X1 hx hby d2_7 rfl rfl ?_
    refine st2 _ ?_
    refine Jvm.RoadKit.acmp (g := (mkF m 11 #[.val (.ref (w 16))] [(.ref (w 16)), (.ref (w 16))])) X2 hx rfl rfl rfl (pc0 := 11) (pc' := 21) (same := true) rfl (hb hby d2_11) rfl (decide_eq_true rfl) (by decide) (by decide) ?_
    refine sc X2 hx hby d2_21 ?_
    refine sg (pc := 22) (pc' := 26) X2 hx hby d2_22 (by decide) (by decide) ?_
    exact retN X2 hx (t := .boolean) Bd.returns (by simp) (hb hby d2_26) hr
  · show Q2_34 Z w h0 n0 _ T2.heap _
    rw [e2]
    exact ⟨rfl, N0, rfl⟩
theorem ef_1_35 (m : MethodId) (w : Nat → Addr) : entryFrame m #[(.ref (w 17))] 1 = mkF m 0 #[.val (.ref (w 17))] [] := by first | (simp [entryFrame, mkF, argsToLocals, Value.category]; done) | rfl
def Q1_35 (Z : State) (w : Nat → Addr) (h0 : Heap) (n0 : Nat) (v : Option Value) (h : Heap) (L : List Loc) : Prop := v = some (.int (18 : Int32)) ∧ Fr n0 L ∧ h = h0
set_option maxRecDepth 65536 in
set_option maxHeartbeats 40000000 in
theorem rm1_35 (l : Launch) (Z : State) (a0 : Array Value) (hw : ∀ d ∈ tables_1, d.before a0 Z = true) (w : Nat → Addr) (hW : Wd Z w) (ws : List Jvm.Cond) (h0 : Heap) (n0 : Nat) (O0 : Old Z n0 h0) :
    MetFree l ym0 (head1 (Jvm.Cond.code ym0 prog_47_method_10_code 1 (some .int) :: ws) ({ frames := 0, cells := 0, slots := 0, locals := 0 } : Room)) (fun a U => a = #[(.ref (w 17))] ∧ Z.Warmed39 U.vm ∧ U.heap = h0) (fun _ _ _ _ _ => True) (fun _ U o U' => ∃ v L, o = .returned v ∧ Q1_35 Z w h0 n0 v U'.heap L ∧ FrameEnd U o U' L ({ frames := 0, cells := 0, slots := 0, locals := 0 } : Room).cells ({ frames := 0, cells := 0, slots := 0, locals := 0 } : Room).slots) := by
  refine MetFree.of_bodySF (plainFor_of_name pnc_0) hisR ?_
  intro p e s m args below meth c s₁ Bd hml0 hP hK
  obtain ⟨rfl, hZ, hh⟩ := hP
  have hx := Bd.exec
  have hby := Bd.bytes
  have hml : c.maxLocals = 1 := hml0
  have hown : s.vm.findClass "com/example/ferrule/ferrule/io/TypeCode" = some m.cls := findClass_of_methodNamed Bd.named
  have hnm := (name_of_methodNamed Bd.named Bd.method).1
  have X0 : Stand p l e ({ frames := 0, cells := 0, slots := 0, locals := 0 } : Room) s m #[(.ref (w 17))] below meth c s₁ [] 0 0 := Stand.of_body Bd
  have e0 : s₁.heap = h0 := by rw [← hh, Bd.state]; rfl
  have N0 := Fr.nil n0
  skip
  have pre0 : ∀ t, Steps p.tables e below (s₁.setTop (mkF m 0 #[.val (.ref (w 17))] [])) t → Steps p.tables e below (s₁.setTop (entryFrame m #[(.ref (w 17))] 1)) t := fun t k => castTop (ef_1_35 m w) k
  obtain ⟨T1, X1, e1, st1⟩ := getF X0 hx hZ hown (host := "") (Or.inl (wk48 hw)) Via.refl e0 ((wd48 hW).ext O0.2) (g := (mkF m 1 #[.val (.ref (w 17))] [(.ref (w 17))])) rfl rfl (hb hby d1_1)
  obtain ⟨fs, hr, hrun, hended, hWm, hsame⟩ := X1.leave (v := some (.int (18 : Int32))) (fun h => by rw [Bd.returns] at h; cases h)
  refine ⟨_, _, pre0 _ ?_, hrun, hended, _, _, rfl, ?_, ⟨_, rfl⟩, hWm, hsame.mono (by decide) (by decide)⟩
  · show Steps p.tables e below (s₁.setTop (mkF m 0 #[.val (.ref (w 17))] [])) _
    refine sA X0 hx hby d1_0 rfl rfl ?_
    refine st1 _ ?_
    exact retI X1 hx Bd.returns (hb hby d1_4) hr
  · show Q1_35 Z w h0 n0 _ T1.heap _
    rw [e1]
    exact ⟨rfl, N0, rfl⟩
theorem ef_2_36 (m : MethodId) (w : Nat → Addr) : entryFrame m #[(.ref (w 17))] 1 = mkF m 0 #[.val (.ref (w 17))] [] := by first | (simp [entryFrame, mkF, argsToLocals, Value.category]; done) | rfl
def Q2_36 (Z : State) (w : Nat → Addr) (h0 : Heap) (n0 : Nat) (v : Option Value) (h : Heap) (L : List Loc) : Prop := v = some (.int (1 : Int32)) ∧ Fr n0 L ∧ h = h0
set_option maxRecDepth 65536 in
set_option maxHeartbeats 40000000 in
theorem rm2_36 (l : Launch) (Z : State) (a0 : Array Value) (hw : ∀ d ∈ tables_1, d.before a0 Z = true) (w : Nat → Addr) (hW : Wd Z w) (ws : List Jvm.Cond) (h0 : Heap) (n0 : Nat) (O0 : Old Z n0 h0) :
    MetFree l ym1 (head1 (Jvm.Cond.code ym1 prog_47_method_8_code 1 (some .boolean) :: ws) ({ frames := 0, cells := 0, slots := 0, locals := 0 } : Room)) (fun a U => a = #[(.ref (w 17))] ∧ Z.Warmed39 U.vm ∧ U.heap = h0) (fun _ _ _ _ _ => True) (fun _ U o U' => ∃ v L, o = .returned v ∧ Q2_36 Z w h0 n0 v U'.heap L ∧ FrameEnd U o U' L ({ frames := 0, cells := 0, slots := 0, locals := 0 } : Room).cells ({ frames := 0, cells := 0, slots := 0, locals := 0 } : Room).slots) := by
  refine MetFree.of_bodySF (plainFor_of_name pnc_0) hisR ?_
  intro p e s m args below meth c s₁ Bd hml0 hP hK
  obtain ⟨rfl, hZ, hh⟩ := hP
  have hx := Bd.exec
  have hby := Bd.bytes
  have hml : c.maxLocals = 1 := hml0
  have hown : s.vm.findClass "com/example/ferrule/ferrule/io/TypeCode" = some m.cls := findClass_of_methodNamed Bd.named
  have hnm := (name_of_methodNamed Bd.named Bd.method).1
  have X0 : Stand p l e ({ frames := 0, cells := 0, slots := 0, locals := 0 } : Room) s m #[(.ref (w 17))] below meth c s₁ [] 0 0 := Stand.of_body Bd
  have e0 : s₁.heap = h0 := by rw [← hh, Bd.state]; rfl
  have N0 := Fr.nil n0
  skip
  have pre0 : ∀ t, Steps p.tables e below (s₁.setTop (mkF m 0 #[.val (.ref (w 17))] [])) t → Steps p.tables e below (s₁.setTop (entryFrame m #[(.ref (w 17))] 1)) t := fun t k => castTop (ef_2_36 m w) k
  obtain ⟨T1, X1, e1, st1⟩ := getS2 X0 hx hZ hown (host := "") (Or.inl (wk55 hw)) Via.refl e0 ((wd30 hW).ext O0.2) (g := (mkF m 1 #[.val (.ref (w 17))] [(.ref (w 17))])) rfl (hb hby d2_1)
  obtain ⟨T2, X2, e2, st2⟩ := getS2 X1 hx hZ hown (host := "") (Or.inl (wk56 hw)) Via.refl e1 ((wd32 hW).ext O0.2) (g := (mkF m 8 #[.val (.ref (w 17))] [(.ref (w 17))])) rfl (hb hby d2_8)
  obtain ⟨T3, X3, e3, st3⟩ := getS2 X2 hx hZ hown (host := "") (Or.inl (wk57 hw)) Via.refl e2 ((wd34 hW).ext O0.2) (g := (mkF m 15 #[.val (.ref (w 17))] [(.ref (w 17))])) rfl (hb hby d2_15)
  obtain ⟨fs, hr, hrun, hended, hWm, hsame⟩ := X3.leave (v := some (.int (1 : Int32))) (fun h => by rw [Bd.returns] at h; cases h)
  refine ⟨_, _, pre0 _ ?_, hrun, hended, _, _, rfl, ?_, ⟨_, rfl⟩, hWm, hsame.mono (by decide) (by decide)⟩
  · show Steps p.tables e below (s₁.setTop (mkF m 0 #[.val (.ref (w 17))] [])) _
    refine sA X0 hx hby d2_0 rfl rfl ?_
    refine st1 _ ?_
    refine Jvm.RoadKit.acmp (g := (mkF m 4 #[.val (.ref (w 17))] [(.ref (w 15)), (.ref (w 17))])) X1 hx rfl rfl rfl (pc0 := 4) (pc' := 7) (same := false) rfl (hb hby d2_4) rfl (decide_eq_false fun q => (Fld.ne (wd42 hW) (wd40 hW) (by decide)) (Value.ref.inj q)) (by decide) (by decide) ?_
    refine sA X1 hx hby d2_7 rfl rfl ?_
    refine st2 _ ?_
    refine Jvm.RoadKit.acmp (g := (mkF m 11 #[.val (.ref (w 17))] [(.ref (w 16)), (.ref (w 17))])) X2 hx rfl rfl rfl (pc0 := 11) (pc' := 14) (same := false) rfl (hb hby d2_11) rfl (decide_eq_false fun q => (Fld.ne (wd42 hW) (wd41 hW) (by decide)) (Value.ref.inj q)) (by decide) (by decide) ?_
    refine sA X2 hx hby d2_14 rfl rfl ?_
    refine st3 _ ?_
    refine Jvm.RoadKit.acmp (g := (mkF m 18 #[.val (.ref (w 17))] [(.ref (w 17)), (.ref (w 17))])) X3 hx rfl rfl rfl (pc0 := 18) (pc' := 21) (same := true) rfl (hb hby d2_18) rfl (decide_eq_true rfl) (by decide) (by decide) ?_
    refine sc X3 hx hby d2_21 ?_
    refine sg (pc := 22) (pc' := 26) X3 hx hby d2_22 (by decide) (by decide) ?_
    exact retN X3 hx (t := .boolean) Bd.returns (by simp) (hb hby d2_26) hr
  · show Q2_36 Z w h0 n0 _ T3.heap _
    rw [e3]
    exact ⟨rfl, N0, rfl⟩
theorem ef_1_37 (m : MethodId) (w : Nat → Addr) : entryFrame m #[(.ref (w 18))] 1 = mkF m 0 #[.val (.ref (w 18))] [] := by first | (simp [entryFrame, mkF, argsToLocals, Value.category]; done) | rfl
def Q1_37 (Z : State) (w : Nat → Addr) (h0 : Heap) (n0 : Nat) (v : Option Value) (h : Heap) (L : List Loc) : Prop := v = some (.int (32 : Int32)) ∧ Fr n0 L ∧ h = h0
set_option maxRecDepth 65536 in
set_option maxHeartbeats 40000000 in
theorem rm1_37 (l : Launch) (Z : State) (a0 : Array Value) (hw : ∀ d ∈ tables_1, d.before a0 Z = true) (w : Nat → Addr) (hW : Wd Z w) (ws : List Jvm.Cond) (h0 : Heap) (n0 : Nat) (O0 : Old Z n0 h0) :
    MetFree l ym0 (head1 (Jvm.Cond.code ym0 prog_47_method_10_code 1 (some .int) :: ws) ({ frames := 0, cells := 0, slots := 0, locals := 0 } : Room)) (fun a U => a = #[(.ref (w 18))] ∧ Z.Warmed39 U.vm ∧ U.heap = h0) (fun _ _ _ _ _ => True) (fun _ U o U' => ∃ v L, o = .returned v ∧ Q1_37 Z w h0 n0 v U'.heap L ∧ FrameEnd U o U' L ({ frames := 0, cells := 0, slots := 0, locals := 0 } : Room).cells ({ frames := 0, cells := 0, slots := 0, locals := 0 } : Room).slots) := by
  refine MetFree.of_bodySF (plainFor_of_name pnc_0) hisR ?_
  intro p e s m args below meth c s₁ Bd hml0 hP hK
  obtain ⟨rfl, hZ, hh⟩ := hP
  have hx := Bd.exec
  have hby := Bd.bytes
  have hml : c.maxLocals = 1 := hml0
  have hown : s.vm.findClass "com/example/ferrule/ferrule/io/TypeCode" = some m.cls := findClass_of_methodNamed Bd.named
  have hnm := (name_of_methodNamed Bd.named Bd.method).1
  have X0 : Stand p l e ({ frames := 0, cells := 0, slots := 0, locals := 0 } : Room) s m #[(.ref (w 18))] below meth c s₁ [] 0 0 := Stand.of_body Bd
  have e0 : s₁.heap = h0 := by rw [← hh, Bd.state]; rfl
  have N0 := Fr.nil n0
  skip
  have pre0 : ∀ t, Steps p.tables e below (s₁.setTop (mkF m 0 #[.val (.ref (w 18))] [])) t → Steps p.tables e below (s₁.setTop (entryFrame m #[(.ref (w 18))] 1)) t := fun t k => castTop (ef_1_37 m w) k
  obtain ⟨T1, X1, e1, st1⟩ := getF X0 hx hZ hown (host := "") (Or.inl (wk48 hw)) Via.refl e0 ((wd63 hW).ext O0.2) (g := (mkF m 1 #[.val (.ref (w 18))] [(.ref (w 18))])) rfl rfl (hb hby d1_1)
  obtain ⟨fs, hr, hrun, hended, hWm, hsame⟩ := X1.leave (v := some (.int (32 : Int32))) (fun h => by rw [Bd.returns] at h; cases h)
  refine ⟨_, _, pre0 _ ?_, hrun, hended, _, _, rfl, ?_, ⟨_, rfl⟩, hWm, hsame.mono (by decide) (by decide)⟩
  · show Steps p.tables e below (s₁.setTop (mkF m 0 #[.val (.ref (w 18))] [])) _
    refine sA X0 hx hby d1_0 rfl rfl ?_
    refine st1 _ ?_
    exact retI X1 hx Bd.returns (hb hby d1_4) hr
  · show Q1_37 Z w h0 n0 _ T1.heap _
    rw [e1]
    exact ⟨rfl, N0, rfl⟩
theorem ef_2_38 (m : MethodId) (w : Nat → Addr) : entryFrame m #[(.ref (w 18))] 1 = mkF m 0 #[.val (.ref (w 18))] [] := by first | (simp [entryFrame, mkF, argsToLocals, Value.category]; done) | rfl
def Q2_38 (Z : State) (w : Nat → Addr) (h0 : Heap) (n0 : Nat) (v : Option Value) (h : Heap) (L : List Loc) : Prop := v = some (.int (0 : Int32)) ∧ Fr n0 L ∧ h = h0
set_option maxRecDepth 65536 in
set_option maxHeartbeats 40000000 in
theorem rm2_38 (l : Launch) (Z : State) (a0 : Array Value) (hw : ∀ d ∈ tables_1, d.before a0 Z = true) (w : Nat → Addr) (hW : Wd Z w) (ws : List Jvm.Cond) (h0 : Heap) (n0 : Nat) (O0 : Old Z n0 h0) :
    MetFree l ym1 (head1 (Jvm.Cond.code ym1 prog_47_method_8_code 1 (some .boolean) :: ws) ({ frames := 0, cells := 0, slots := 0, locals := 0 } : Room)) (fun a U => a = #[(.ref (w 18))] ∧ Z.Warmed39 U.vm ∧ U.heap = h0) (fun _ _ _ _ _ => True) (fun _ U o U' => ∃ v L, o = .returned v ∧ Q2_38 Z w h0 n0 v U'.heap L ∧ FrameEnd U o U' L ({ frames := 0, cells := 0, slots := 0, locals := 0 } : Room).cells ({ frames := 0, cells := 0, slots := 0, locals := 0 } : Room).slots) := by
  refine MetFree.of_bodySF (plainFor_of_name pnc_0) hisR ?_
  intro p e s m args below meth c s₁ Bd hml0 hP hK
  obtain ⟨rfl, hZ, hh⟩ := hP
  have hx := Bd.exec
  have hby := Bd.bytes
  have hml : c.maxLocals = 1 := hml0
  have hown : s.vm.findClass "com/example/ferrule/ferrule/io/TypeCode" = some m.cls := findClass_of_methodNamed Bd.named
  have hnm := (name_of_methodNamed Bd.named Bd.method).1
  have X0 : Stand p l e ({ frames := 0, cells := 0, slots := 0, locals := 0 } : Room) s m #[(.ref (w 18))] below meth c s₁ [] 0 0 := Stand.of_body Bd
  have e0 : s₁.heap = h0 := by rw [← hh, Bd.state]; rfl
  have N0 := Fr.nil n0
  skip
  have pre0 : ∀ t, Steps p.tables e below (s₁.setTop (mkF m 0 #[.val (.ref (w 18))] [])) t → Steps p.tables e below (s₁.setTop (entryFrame m #[(.ref (w 18))] 1)) t := fun t k => castTop (ef_2_38 m w) k
  obtain ⟨T1, X1, e1, st1⟩ := getS2 X0 hx hZ hown (host := "") (Or.inl (wk55 hw)) Via.refl e0 ((wd30 hW).ext O0.2) (g := (mkF m 1 #[.val (.ref (w 18))] [(.ref (w 18))])) rfl (hb hby d2_1)
  obtain ⟨T2, X2, e2, st2⟩ := getS2 X1 hx hZ hown (host := "") (Or.inl (wk56 hw)) Via.refl e1 ((wd32 hW).ext O0.2) (g := (mkF m 8 #[.val (.ref (w 18))] [(.ref (w 18))])) rfl (hb hby d2_8)
  obtain ⟨T3, X3, e3, st3⟩ := getS2 X2 hx hZ hown (host := "") (Or.inl (wk57 hw)) Via.refl e2 ((wd34 hW).ext O0.2) (g := (mkF m 15 #[.val (.ref (w 18))] [(.ref (w 18))])) rfl (hb hby d2_15)
  obtain ⟨fs, hr, hrun, hended, hWm, hsame⟩ := X3.leave (v := some (.int (0 : Int32))) (fun h => by rw [Bd.returns] at h; cases h)
  refine ⟨_, _, pre0 _ ?_, hrun, hended, _, _, rfl, ?_, ⟨_, rfl⟩, hWm, hsame.mono (by decide) (by decide)⟩
  · show Steps p.tables e below (s₁.setTop (mkF m 0 #[.val (.ref (w 18))] [])) _
    refine sA X0 hx hby d2_0 rfl rfl ?_
    refine st1 _ ?_
    refine Jvm.RoadKit.acmp (g := (mkF m 4 #[.val (.ref (w 18))] [(.ref (w 15)), (.ref (w 18))])) X1 hx rfl rfl rfl (pc0 := 4) (pc' := 7) (same := false) rfl (hb hby d2_4) rfl (decide_eq_false fun q => (Fld.ne (wd63 hW) (wd45 hW) (by decide)) (Value.ref.inj q)) (by decide) (by decide) ?_
    refine sA X1 hx hby d2_7 rfl rfl ?_
    refine st2 _ ?_
    refine Jvm.RoadKit.acmp (g := (mkF m 11 #[.val (.ref (w 18))] [(.ref (w 16)), (.ref (w 18))])) X2 hx rfl rfl rfl (pc0 := 11) (pc' := 14) (same := false) rfl (hb hby d2_11) rfl (decide_eq_false fun q => (Fld.ne (wd63 hW) (wd67 hW) (by decide)) (Value.ref.inj q)) (by decide) (by decide) ?_
    refine sA X2 hx hby d2_14 rfl rfl ?_
    refine st3 _ ?_
    refine Jvm.RoadKit.acmp (g := (mkF m 18 #[.val (.ref (w 18))] [(.ref (w 17)), (.ref (w 18))])) X3 hx rfl rfl rfl (pc0 := 18) (pc' := 25) (same := false) rfl (hb hby d2_18) rfl (decide_eq_false fun q => (Fld.ne (wd63 hW) (wd48 hW) (by decide)) (Value.ref.inj q)) (by decide) (by decide) ?_
    refine sc X3 hx hby d2_25 ?_
    exact retN X3 hx (t := .boolean) Bd.returns (by simp) (hb hby d2_26) hr
  · show Q2_38 Z w h0 n0 _ T3.heap _
    rw [e3]
    exact ⟨rfl, N0, rfl⟩
theorem ef_0_39 (m : MethodId) (p0 : Int32) : entryFrame m #[(.int p0)] maxLocals = mkF m 0 #[.val (.int p0), .unset, .unset, .unset, .unset] [] := by first | (simp [entryFrame, mkF, argsToLocals, Value.category, maxLocals]; done) | rfl
theorem pnc_1 : plainName "com/example/ferrule/ferrule/io/TypeCodeIsMemberPinLaw" = true := by first | (simp [plainName, overriddenIn]; done) | decide +kernel
def Q0 (n0 : Nat) (v : Option Value) (h : Heap) (L : List Loc) : Prop := v = some (.int (1 : Int32)) ∧ Fr n0 L
set_option maxRecDepth 65536 in
set_option maxHeartbeats 400000000 in
theorem rm0 (l : Launch) (Z : State) (a0 : Array Value) (hw : ∀ d ∈ tables_1, d.before a0 Z = true) (w : Nat → Addr) (hW : Wd Z w) (ws : List Jvm.Cond) (p0 : Int32) (h0 : Heap) (n0 : Nat) (O0 : Old Z n0 h0) :
    MetFree l x (head1 (Jvm.Cond.code x code maxLocals ret :: ws) room_1) (fun a U => a = #[(.int p0)] ∧ Z.Warmed39 U.vm ∧ U.heap = h0) (fun _ _ _ _ _ => True) (fun _ U o U' => ∃ v L, o = .returned v ∧ Q0 n0 v U'.heap L ∧ FrameEnd U o U' L room_1.cells room_1.slots) := by
  refine MetFree.of_bodySF (plainFor_of_name pnc_1) hisR ?_
  intro p e s m args below meth c s₁ Bd hml0 hP hK
  obtain ⟨rfl, hZ, hh⟩ := hP
  have hx := Bd.exec
  have hby := Bd.bytes
  have hml : c.maxLocals = 5 := hml0
  have hown : s.vm.findClass "com/example/ferrule/ferrule/io/TypeCodeIsMemberPinLaw" = some m.cls := findClass_of_methodNamed Bd.named
  have hnm := (name_of_methodNamed Bd.named Bd.method).1
  have X0 : Stand p l e room_1 s m #[(.int p0)] below meth c s₁ [] 0 0 := Stand.of_body Bd
  have e0 : s₁.heap = h0 := by rw [← hh, Bd.state]; rfl
  have N0 := Fr.nil n0
  skip
  have pre0 : ∀ t, Steps p.tables e below (s₁.setTop (mkF m 0 #[.val (.int p0), .unset, .unset, .unset, .unset] [])) t → Steps p.tables e below (s₁.setTop (entryFrame m #[(.int p0)] maxLocals)) t := fun t k => castTop (ef_0_39 m p0) k
  obtain ⟨T1, h1, k1, X1, e1, E1, A1, Ov1, st1⟩ := newR X0 hx hZ hown (wk0 hw) (wk1 hw) e0 (g := (mkF m 2 #[.val (.int p0), .unset, .unset, .unset, .unset] [(.int (19 : Int32))])) rfl (hb hby at_2) rfl (by decide) (cap := 19) (by decide) (by decide) (by decide) (by decide)
  obtain ⟨b1, g1⟩ : ∃ z, z = h0.size := ⟨_, rfl⟩
  rw [← g1] at A1 st1
  have gg1 : n0 ≤ b1 := by rw [← O0.1, g1]; exact O0.2.1
  have O2 := O0.ext E1
  have V1 : Arv Z h1 b1 k1 (.object "com/example/ferrule/ferrule/io/TypeCode") (19 : Int32) [.null, .null, .null, .null, .null, .null, .null, .null, .null, .null, .null, .null, .null, .null, .null, .null, .null, .null, .null] .null := own_pad (dv := .null) (Arv.new A1 (by decide)) 19 _ rfl
  obtain ⟨T3, X3, e3, st3⟩ := getS2 X1 hx hZ hown (host := "") (Or.inl (wk2 hw)) Via.refl e1 ((wd0 hW).ext O2.2) (g := (mkF m 7 #[.val (.int p0), .unset, .unset, .unset, .unset] [(.int (0 : Int32)), (.ref b1), (.ref b1)])) rfl (hb hby at_7)
  obtain ⟨cl4, Ar4, cw4, S4, Nn4, Hs4, G4⟩ := id (V1)
  have hin4 : ¬ ((0 : Int32) < 0 ∨ cl4.slots.size ≤ ((0 : Int32)).toNatClampNeg) := inb_of S4 ⟨by decide, by decide⟩
  obtain ⟨T4, h4, X4, e4, W4, st4⟩ := stR X3 hx hZ e3 Ar4 (j := (0 : Int32)) hin4 rfl (Sto.ofV Ar4 cw4 Ov1 (Ins.self ((wd1 hW).ext O2.2))) (g := (mkF m 10 #[.val (.int p0), .unset, .unset, .unset, .unset] [(.ref (w 0)), (.int (0 : Int32)), (.ref b1), (.ref b1)])) rfl rfl (hb hby at_10)
  have V4 : Arv Z h4 b1 k1 (.object "com/example/ferrule/ferrule/io/TypeCode") (19 : Int32) [(.ref (w 0)), .null, .null, .null, .null, .null, .null, .null, .null, .null, .null, .null, .null, .null, .null, .null, .null, .null, .null] .null := own_set Ar4 cw4 S4 Nn4 Hs4 G4 rfl W4 0 rfl (Nat.le_of_ble_eq_true rfl) (.ref (w 0)) rfl _ rfl
  have N4 := Fr.snoc X4 N0 gg1
  have O5 := O2.wr W4 gg1
  obtain ⟨T6, X6, e6, st6⟩ := getS2 X4 hx hZ hown (host := "") (Or.inl (wk6 hw)) Via.refl e4 ((wd2 hW).ext O5.2) (g := (mkF m 13 #[.val (.int p0), .unset, .unset, .unset, .unset] [(.int (1 : Int32)), (.ref b1), (.ref b1)])) rfl (hb hby at_13)
  obtain ⟨cl7, Ar7, cw7, S7, Nn7, Hs7, G7⟩ := id (V4)
  have hin7 : ¬ ((1 : Int32) < 0 ∨ cl7.slots.size ≤ ((1 : Int32)).toNatClampNeg) := inb_of S7 ⟨by decide, by decide⟩
  obtain ⟨T7, h7, X7, e7, W7, st7⟩ := stR X6 hx hZ e6 Ar7 (j := (1 : Int32)) hin7 rfl (Sto.ofV Ar7 cw7 Ov1 (Ins.self ((wd3 hW).ext O5.2))) (g := (mkF m 16 #[.val (.int p0), .unset, .unset, .unset, .unset] [(.ref (w 1)), (.int (1 : Int32)), (.ref b1), (.ref b1)])) rfl rfl (hb hby at_16)
  have V7 : Arv Z h7 b1 k1 (.object "com/example/ferrule/ferrule/io/TypeCode") (19 : Int32) [(.ref (w 0)), (.ref (w 1)), .null, .null, .null, .null, .null, .null, .null, .null, .null, .null, .null, .null, .null, .null, .null, .null, .null] .null := own_set Ar7 cw7 S7 Nn7 Hs7 G7 rfl W7 1 rfl (Nat.le_of_ble_eq_true rfl) (.ref (w 1)) rfl _ rfl
  have N7 := Fr.snoc X7 N4 gg1
  have O8 := O5.wr W7 gg1
  obtain ⟨T9, X9, e9, st9⟩ := getS2 X7 hx hZ hown (host := "") (Or.inl (wk8 hw)) Via.refl e7 ((wd4 hW).ext O8.2) (g := (mkF m 19 #[.val (.int p0), .unset, .unset, .unset, .unset] [(.int (2 : Int32)), (.ref b1), (.ref b1)])) rfl (hb hby at_19)
  obtain ⟨cl10, Ar10, cw10, S10, Nn10, Hs10, G10⟩ := id (V7)
  have hin10 : ¬ ((2 : Int32) < 0 ∨ cl10.slots.size ≤ ((2 : Int32)).toNatClampNeg) := inb_of S10 ⟨by decide, by decide⟩
  obtain ⟨T10, h10, X10, e10, W10, st10⟩ := stR X9 hx hZ e9 Ar10 (j := (2 : Int32)) hin10 rfl (Sto.ofV Ar10 cw10 Ov1 (Ins.self ((wd5 hW).ext O8.2))) (g := (mkF m 22 #[.val (.int p0), .unset, .unset, .unset, .unset] [(.ref (w 2)), (.int (2 : Int32)), (.ref b1), (.ref b1)])) rfl rfl (hb hby at_22)
  have V10 : Arv Z h10 b1 k1 (.object "com/example/ferrule/ferrule/io/TypeCode") (19 : Int32) [(.ref (w 0)), (.ref (w 1)), (.ref (w 2)), .null, .null, .null, .null, .null, .null, .null, .null, .null, .null, .null, .null, .null, .null, .null, .null] .null := own_set Ar10 cw10 S10 Nn10 Hs10 G10 rfl W10 2 rfl (Nat.le_of_ble_eq_true rfl) (.ref (w 2)) rfl _ rfl
  have N10 := Fr.snoc X10 N7 gg1
  have O11 := O8.wr W10 gg1
  obtain ⟨T12, X12, e12, st12⟩ := getS2 X10 hx hZ hown (host := "") (Or.inl (wk10 hw)) Via.refl e10 ((wd6 hW).ext O11.2) (g := (mkF m 25 #[.val (.int p0), .unset, .unset, .unset, .unset] [(.int (3 : Int32)), (.ref b1), (.ref b1)])) rfl (hb hby at_25)
  obtain ⟨cl13, Ar13, cw13, S13, Nn13, Hs13, G13⟩ := id (V10)
  have hin13 : ¬ ((3 : Int32) < 0 ∨ cl13.slots.size ≤ ((3 : Int32)).toNatClampNeg) := inb_of S13 ⟨by decide, by decide⟩
  obtain ⟨T13, h13, X13, e13, W13, st13⟩ := stR X12 hx hZ e12 Ar13 (j := (3 : Int32)) hin13 rfl (Sto.ofV Ar13 cw13 Ov1 (Ins.self ((wd7 hW).ext O11.2))) (g := (mkF m 28 #[.val (.int p0), .unset, .unset, .unset, .unset] [(.ref (w 3)), (.int (3 : Int32)), (.ref b1), (.ref b1)])) rfl rfl (hb hby at_28)
  have V13 : Arv Z h13 b1 k1 (.object "com/example/ferrule/ferrule/io/TypeCode") (19 : Int32) [(.ref (w 0)), (.ref (w 1)), (.ref (w 2)), (.ref (w 3)), .null, .null, .null, .null, .null, .null, .null, .null, .null, .null, .null, .null, .null, .null, .null] .null := own_set Ar13 cw13 S13 Nn13 Hs13 G13 rfl W13 3 rfl (Nat.le_of_ble_eq_true rfl) (.ref (w 3)) rfl _ rfl
  have N13 := Fr.snoc X13 N10 gg1
  have O14 := O11.wr W13 gg1
  obtain ⟨T15, X15, e15, st15⟩ := getS2 X13 hx hZ hown (host := "") (Or.inl (wk12 hw)) Via.refl e13 ((wd8 hW).ext O14.2) (g := (mkF m 31 #[.val (.int p0), .unset, .unset, .unset, .unset] [(.int (4 : Int32)), (.ref b1), (.ref b1)])) rfl (hb hby at_31)
  obtain ⟨cl16, Ar16, cw16, S16, Nn16, Hs16, G16⟩ := id (V13)
  have hin16 : ¬ ((4 : Int32) < 0 ∨ cl16.slots.size ≤ ((4 : Int32)).toNatClampNeg) := inb_of S16 ⟨by decide, by decide⟩
  obtain ⟨T16, h16, X16, e16, W16, st16⟩ := stR X15 hx hZ e15 Ar16 (j := (4 : Int32)) hin16 rfl (Sto.ofV Ar16 cw16 Ov1 (Ins.self ((wd9 hW).ext O14.2))) (g := (mkF m 34 #[.val (.int p0), .unset, .unset, .unset, .unset] [(.ref (w 4)), (.int (4 : Int32)), (.ref b1), (.ref b1)])) rfl rfl (hb hby at_34)
  have V16 : Arv Z h16 b1 k1 (.object "com/example/ferrule/ferrule/io/TypeCode") (19 : Int32) [(.ref (w 0)), (.ref (w 1)), (.ref (w 2)), (.ref (w 3)), (.ref (w 4)), .null, .null, .null, .null, .null, .null, .null, .null, .null, .null, .null, .null, .null, .null] .null := own_set Ar16 cw16 S16 Nn16 Hs16 G16 rfl W16 4 rfl (Nat.le_of_ble_eq_true rfl) (.ref (w 4)) rfl _ rfl
  have N16 := Fr.snoc X16 N13 gg1
  have O17 := O14.wr W16 gg1
  obtain ⟨T18, X18, e18, st18⟩ := getS2 X16 hx hZ hown (host := "") (Or.inl (wk14 hw)) Via.refl e16 ((wd10 hW).ext O17.2) (g := (mkF m 37 #[.val (.int p0), .unset, .unset, .unset, .unset] [(.int (5 : Int32)), (.ref b1), (.ref b1)])) rfl (hb hby at_37)
  obtain ⟨cl19, Ar19, cw19, S19, Nn19, Hs19, G19⟩ := id (V16)
  have hin19 : ¬ ((5 : Int32) < 0 ∨ cl19.slots.size ≤ ((5 : Int32)).toNatClampNeg) := inb_of S19 ⟨by decide, by decide⟩
  obtain ⟨T19, h19, X19, e19, W19, st19⟩ := stR X18 hx hZ e18 Ar19 (j := (5 : Int32)) hin19 rfl (Sto.ofV Ar19 cw19 Ov1 (Ins.self ((wd11 hW).ext O17.2))) (g := (mkF m 40 #[.val (.int p0), .unset, .unset, .unset, .unset] [(.ref (w 5)), (.int (5 : Int32)), (.ref b1), (.ref b1)])) rfl rfl (hb hby at_40)
  have V19 : Arv Z h19 b1 k1 (.object "com/example/ferrule/ferrule/io/TypeCode") (19 : Int32) [(.ref (w 0)), (.ref (w 1)), (.ref (w 2)), (.ref (w 3)), (.ref (w 4)), (.ref (w 5)), .null, .null, .null, .null, .null, .null, .null, .null, .null, .null, .null, .null, .null] .null := own_set Ar19 cw19 S19 Nn19 Hs19 G19 rfl W19 5 rfl (Nat.le_of_ble_eq_true rfl) (.ref (w 5)) rfl _ rfl
  have N19 := Fr.snoc X19 N16 gg1
  have O20 := O17.wr W19 gg1
  obtain ⟨T21, X21, e21, st21⟩ := getS2 X19 hx hZ hown (host := "") (Or.inl (wk16 hw)) Via.refl e19 ((wd12 hW).ext O20.2) (g := (mkF m 44 #[.val (.int p0), .unset, .unset, .unset, .unset] [(.int (6 : Int32)), (.ref b1), (.ref b1)])) rfl (hb hby at_44)
  obtain ⟨cl22, Ar22, cw22, S22, Nn22, Hs22, G22⟩ := id (V19)
  have hin22 : ¬ ((6 : Int32) < 0 ∨ cl22.slots.size ≤ ((6 : Int32)).toNatClampNeg) := inb_of S22 ⟨by decide, by decide⟩
  obtain ⟨T22, h22, X22, e22, W22, st22⟩ := stR X21 hx hZ e21 Ar22 (j := (6 : Int32)) hin22 rfl (Sto.ofV Ar22 cw22 Ov1 (Ins.self ((wd13 hW).ext O20.2))) (g := (mkF m 47 #[.val (.int p0), .unset, .unset, .unset, .unset] [(.ref (w 6)), (.int (6 : Int32)), (.ref b1), (.ref b1)])) rfl rfl (hb hby at_47)
  have V22 : Arv Z h22 b1 k1 (.object "com/example/ferrule/ferrule/io/TypeCode") (19 : Int32) [(.ref (w 0)), (.ref (w 1)), (.ref (w 2)), (.ref (w 3)), (.ref (w 4)), (.ref (w 5)), (.ref (w 6)), .null, .null, .null, .null, .null, .null, .null, .null, .null, .null, .null, .null] .null := own_set Ar22 cw22 S22 Nn22 Hs22 G22 rfl W22 6 rfl (Nat.le_of_ble_eq_true rfl) (.ref (w 6)) rfl _ rfl
  have N22 := Fr.snoc X22 N19 gg1
  have O23 := O20.wr W22 gg1
  obtain ⟨T24, X24, e24, st24⟩ := getS2 X22 hx hZ hown (host := "") (Or.inl (wk18 hw)) Via.refl e22 ((wd14 hW).ext O23.2) (g := (mkF m 51 #[.val (.int p0), .unset, .unset, .unset, .unset] [(.int (7 : Int32)), (.ref b1), (.ref b1)])) rfl (hb hby at_51)
  obtain ⟨cl25, Ar25, cw25, S25, Nn25, Hs25, G25⟩ := id (V22)
  have hin25 : ¬ ((7 : Int32) < 0 ∨ cl25.slots.size ≤ ((7 : Int32)).toNatClampNeg) := inb_of S25 ⟨by decide, by decide⟩
  obtain ⟨T25, h25, X25, e25, W25, st25⟩ := stR X24 hx hZ e24 Ar25 (j := (7 : Int32)) hin25 rfl (Sto.ofV Ar25 cw25 Ov1 (Ins.self ((wd15 hW).ext O23.2))) (g := (mkF m 54 #[.val (.int p0), .unset, .unset, .unset, .unset] [(.ref (w 7)), (.int (7 : Int32)), (.ref b1), (.ref b1)])) rfl rfl (hb hby at_54)
  have V25 : Arv Z h25 b1 k1 (.object "com/example/ferrule/ferrule/io/TypeCode") (19 : Int32) [(.ref (w 0)), (.ref (w 1)), (.ref (w 2)), (.ref (w 3)), (.ref (w 4)), (.ref (w 5)), (.ref (w 6)), (.ref (w 7)), .null, .null, .null, .null, .null, .null, .null, .null, .null, .null, .null] .null := own_set Ar25 cw25 S25 Nn25 Hs25 G25 rfl W25 7 rfl (Nat.le_of_ble_eq_true rfl) (.ref (w 7)) rfl _ rfl
  have N25 := Fr.snoc X25 N22 gg1
  have O26 := O23.wr W25 gg1
  obtain ⟨T27, X27, e27, st27⟩ := getS2 X25 hx hZ hown (host := "") (Or.inl (wk20 hw)) Via.refl e25 ((wd16 hW).ext O26.2) (g := (mkF m 58 #[.val (.int p0), .unset, .unset, .unset, .unset] [(.int (8 : Int32)), (.ref b1), (.ref b1)])) rfl (hb hby at_58)
  obtain ⟨cl28, Ar28, cw28, S28, Nn28, Hs28, G28⟩ := id (V25)
  have hin28 : ¬ ((8 : Int32) < 0 ∨ cl28.slots.size ≤ ((8 : Int32)).toNatClampNeg) := inb_of S28 ⟨by decide, by decide⟩
  obtain ⟨T28, h28, X28, e28, W28, st28⟩ := stR X27 hx hZ e27 Ar28 (j := (8 : Int32)) hin28 rfl (Sto.ofV Ar28 cw28 Ov1 (Ins.self ((wd17 hW).ext O26.2))) (g := (mkF m 61 #[.val (.int p0), .unset, .unset, .unset, .unset] [(.ref (w 8)), (.int (8 : Int32)), (.ref b1), (.ref b1)])) rfl rfl (hb hby at_61)
  have V28 : Arv Z h28 b1 k1 (.object "com/example/ferrule/ferrule/io/TypeCode") (19 : Int32) [(.ref (w 0)), (.ref (w 1)), (.ref (w 2)), (.ref (w 3)), (.ref (w 4)), (.ref (w 5)), (.ref (w 6)), (.ref (w 7)), (.ref (w 8)), .null, .null, .null, .null, .null, .null, .null, .null, .null, .null] .null := own_set Ar28 cw28 S28 Nn28 Hs28 G28 rfl W28 8 rfl (Nat.le_of_ble_eq_true rfl) (.ref (w 8)) rfl _ rfl
  have N28 := Fr.snoc X28 N25 gg1
  have O29 := O26.wr W28 gg1
  obtain ⟨T30, X30, e30, st30⟩ := getS2 X28 hx hZ hown (host := "") (Or.inl (wk22 hw)) Via.refl e28 ((wd18 hW).ext O29.2) (g := (mkF m 65 #[.val (.int p0), .unset, .unset, .unset, .unset] [(.int (9 : Int32)), (.ref b1), (.ref b1)])) rfl (hb hby at_65)
  obtain ⟨cl31, Ar31, cw31, S31, Nn31, Hs31, G31⟩ := id (V28)
  have hin31 : ¬ ((9 : Int32) < 0 ∨ cl31.slots.size ≤ ((9 : Int32)).toNatClampNeg) := inb_of S31 ⟨by decide, by decide⟩
  obtain ⟨T31, h31, X31, e31, W31, st31⟩ := stR X30 hx hZ e30 Ar31 (j := (9 : Int32)) hin31 rfl (Sto.ofV Ar31 cw31 Ov1 (Ins.self ((wd19 hW).ext O29.2))) (g := (mkF m 68 #[.val (.int p0), .unset, .unset, .unset, .unset] [(.ref (w 9)), (.int (9 : Int32)), (.ref b1), (.ref b1)])) rfl rfl (hb hby at_68)
  have V31 : Arv Z h31 b1 k1 (.object "com/example/ferrule/ferrule/io/TypeCode") (19 : Int32) [(.ref (w 0)), (.ref (w 1)), (.ref (w 2)), (.ref (w 3)), (.ref (w 4)), (.ref (w 5)), (.ref (w 6)), (.ref (w 7)), (.ref (w 8)), (.ref (w 9)), .null, .null, .null, .null, .null, .null, .null, .null, .null] .null := own_set Ar31 cw31 S31 Nn31 Hs31 G31 rfl W31 9 rfl (Nat.le_of_ble_eq_true rfl) (.ref (w 9)) rfl _ rfl
  have N31 := Fr.snoc X31 N28 gg1
  have O32 := O29.wr W31 gg1
  obtain ⟨T33, X33, e33, st33⟩ := getS2 X31 hx hZ hown (host := "") (Or.inl (wk24 hw)) Via.refl e31 ((wd20 hW).ext O32.2) (g := (mkF m 72 #[.val (.int p0), .unset, .unset, .unset, .unset] [(.int (10 : Int32)), (.ref b1), (.ref b1)])) rfl (hb hby at_72)
  obtain ⟨cl34, Ar34, cw34, S34, Nn34, Hs34, G34⟩ := id (V31)
  have hin34 : ¬ ((10 : Int32) < 0 ∨ cl34.slots.size ≤ ((10 : Int32)).toNatClampNeg) := inb_of S34 ⟨by decide, by decide⟩
  obtain ⟨T34, h34, X34, e34, W34, st34⟩ := stR X33 hx hZ e33 Ar34 (j := (10 : Int32)) hin34 rfl (Sto.ofV Ar34 cw34 Ov1 (Ins.self ((wd21 hW).ext O32.2))) (g := (mkF m 75 #[.val (.int p0), .unset, .unset, .unset, .unset] [(.ref (w 10)), (.int (10 : Int32)), (.ref b1), (.ref b1)])) rfl rfl (hb hby at_75)
  have V34 : Arv Z h34 b1 k1 (.object "com/example/ferrule/ferrule/io/TypeCode") (19 : Int32) [(.ref (w 0)), (.ref (w 1)), (.ref (w 2)), (.ref (w 3)), (.ref (w 4)), (.ref (w 5)), (.ref (w 6)), (.ref (w 7)), (.ref (w 8)), (.ref (w 9)), (.ref (w 10)), .null, .null, .null, .null, .null, .null, .null, .null] .null := own_set Ar34 cw34 S34 Nn34 Hs34 G34 rfl W34 10 rfl (Nat.le_of_ble_eq_true rfl) (.ref (w 10)) rfl _ rfl
  have N34 := Fr.snoc X34 N31 gg1
  have O35 := O32.wr W34 gg1
  obtain ⟨T36, X36, e36, st36⟩ := getS2 X34 hx hZ hown (host := "") (Or.inl (wk26 hw)) Via.refl e34 ((wd22 hW).ext O35.2) (g := (mkF m 79 #[.val (.int p0), .unset, .unset, .unset, .unset] [(.int (11 : Int32)), (.ref b1), (.ref b1)])) rfl (hb hby at_79)
  obtain ⟨cl37, Ar37, cw37, S37, Nn37, Hs37, G37⟩ := id (V34)
  have hin37 : ¬ ((11 : Int32) < 0 ∨ cl37.slots.size ≤ ((11 : Int32)).toNatClampNeg) := inb_of S37 ⟨by decide, by decide⟩
  obtain ⟨T37, h37, X37, e37, W37, st37⟩ := stR X36 hx hZ e36 Ar37 (j := (11 : Int32)) hin37 rfl (Sto.ofV Ar37 cw37 Ov1 (Ins.self ((wd23 hW).ext O35.2))) (g := (mkF m 82 #[.val (.int p0), .unset, .unset, .unset, .unset] [(.ref (w 11)), (.int (11 : Int32)), (.ref b1), (.ref b1)])) rfl rfl (hb hby at_82)
  have V37 : Arv Z h37 b1 k1 (.object "com/example/ferrule/ferrule/io/TypeCode") (19 : Int32) [(.ref (w 0)), (.ref (w 1)), (.ref (w 2)), (.ref (w 3)), (.ref (w 4)), (.ref (w 5)), (.ref (w 6)), (.ref (w 7)), (.ref (w 8)), (.ref (w 9)), (.ref (w 10)), (.ref (w 11)), .null, .null, .null, .null, .null, .null, .null] .null := own_set Ar37 cw37 S37 Nn37 Hs37 G37 rfl W37 11 rfl (Nat.le_of_ble_eq_true rfl) (.ref (w 11)) rfl _ rfl
  have N37 := Fr.snoc X37 N34 gg1
  have O38 := O35.wr W37 gg1
  obtain ⟨T39, X39, e39, st39⟩ := getS2 X37 hx hZ hown (host := "") (Or.inl (wk28 hw)) Via.refl e37 ((wd24 hW).ext O38.2) (g := (mkF m 86 #[.val (.int p0), .unset, .unset, .unset, .unset] [(.int (12 : Int32)), (.ref b1), (.ref b1)])) rfl (hb hby at_86)
  obtain ⟨cl40, Ar40, cw40, S40, Nn40, Hs40, G40⟩ := id (V37)
  have hin40 : ¬ ((12 : Int32) < 0 ∨ cl40.slots.size ≤ ((12 : Int32)).toNatClampNeg) := inb_of S40 ⟨by decide, by decide⟩
  obtain ⟨T40, h40, X40, e40, W40, st40⟩ := stR X39 hx hZ e39 Ar40 (j := (12 : Int32)) hin40 rfl (Sto.ofV Ar40 cw40 Ov1 (Ins.self ((wd25 hW).ext O38.2))) (g := (mkF m 89 #[.val (.int p0), .unset, .unset, .unset, .unset] [(.ref (w 12)), (.int (12 : Int32)), (.ref b1), (.ref b1)])) rfl rfl (hb hby at_89)
  have V40 : Arv Z h40 b1 k1 (.object "com/example/ferrule/ferrule/io/TypeCode") (19 : Int32) [(.ref (w 0)), (.ref (w 1)), (.ref (w 2)), (.ref (w 3)), (.ref (w 4)), (.ref (w 5)), (.ref (w 6)), (.ref (w 7)), (.ref (w 8)), (.ref (w 9)), (.ref (w 10)), (.ref (w 11)), (.ref (w 12)), .null, .null, .null, .null, .null, .null] .null := own_set Ar40 cw40 S40 Nn40 Hs40 G40 rfl W40 12 rfl (Nat.le_of_ble_eq_true rfl) (.ref (w 12)) rfl _ rfl
  have N40 := Fr.snoc X40 N37 gg1
  have O41 := O38.wr W40 gg1
  obtain ⟨T42, X42, e42, st42⟩ := getS2 X40 hx hZ hown (host := "") (Or.inl (wk30 hw)) Via.refl e40 ((wd26 hW).ext O41.2) (g := (mkF m 93 #[.val (.int p0), .unset, .unset, .unset, .unset] [(.int (13 : Int32)), (.ref b1), (.ref b1)])) rfl (hb hby at_93)
  obtain ⟨cl43, Ar43, cw43, S43, Nn43, Hs43, G43⟩ := id (V40)
  have hin43 : ¬ ((13 : Int32) < 0 ∨ cl43.slots.size ≤ ((13 : Int32)).toNatClampNeg) := inb_of S43 ⟨by decide, by decide⟩
  obtain ⟨T43, h43, X43, e43, W43, st43⟩ := stR X42 hx hZ e42 Ar43 (j := (13 : Int32)) hin43 rfl (Sto.ofV Ar43 cw43 Ov1 (Ins.self ((wd27 hW).ext O41.2))) (g := (mkF m 96 #[.val (.int p0), .unset, .unset, .unset, .unset] [(.ref (w 13)), (.int (13 : Int32)), (.ref b1), (.ref b1)])) rfl rfl (hb hby at_96)
  have V43 : Arv Z h43 b1 k1 (.object "com/example/ferrule/ferrule/io/TypeCode") (19 : Int32) [(.ref (w 0)), (.ref (w 1)), (.ref (w 2)), (.ref (w 3)), (.ref (w 4)), (.ref (w 5)), (.ref (w 6)), (.ref (w 7)), (.ref (w 8)), (.ref (w 9)), (.ref (w 10)), (.ref (w 11)), (.ref (w 12)), (.ref (w 13)), .null, .null, .null, .null, .null] .null := own_set Ar43 cw43 S43 Nn43 Hs43 G43 rfl W43 13 rfl (Nat.le_of_ble_eq_true rfl) (.ref (w 13)) rfl _ rfl
  have N43 := Fr.snoc X43 N40 gg1
  have O44 := O41.wr W43 gg1
  obtain ⟨T45, X45, e45, st45⟩ := getS2 X43 hx hZ hown (host := "") (Or.inl (wk32 hw)) Via.refl e43 ((wd28 hW).ext O44.2) (g := (mkF m 100 #[.val (.int p0), .unset, .unset, .unset, .unset] [(.int (14 : Int32)), (.ref b1), (.ref b1)])) rfl (hb hby at_100)
  obtain ⟨cl46, Ar46, cw46, S46, Nn46, Hs46, G46⟩ := id (V43)
  have hin46 : ¬ ((14 : Int32) < 0 ∨ cl46.slots.size ≤ ((14 : Int32)).toNatClampNeg) := inb_of S46 ⟨by decide, by decide⟩
  obtain ⟨T46, h46, X46, e46, W46, st46⟩ := stR X45 hx hZ e45 Ar46 (j := (14 : Int32)) hin46 rfl (Sto.ofV Ar46 cw46 Ov1 (Ins.self ((wd29 hW).ext O44.2))) (g := (mkF m 103 #[.val (.int p0), .unset, .unset, .unset, .unset] [(.ref (w 14)), (.int (14 : Int32)), (.ref b1), (.ref b1)])) rfl rfl (hb hby at_103)
  have V46 : Arv Z h46 b1 k1 (.object "com/example/ferrule/ferrule/io/TypeCode") (19 : Int32) [(.ref (w 0)), (.ref (w 1)), (.ref (w 2)), (.ref (w 3)), (.ref (w 4)), (.ref (w 5)), (.ref (w 6)), (.ref (w 7)), (.ref (w 8)), (.ref (w 9)), (.ref (w 10)), (.ref (w 11)), (.ref (w 12)), (.ref (w 13)), (.ref (w 14)), .null, .null, .null, .null] .null := own_set Ar46 cw46 S46 Nn46 Hs46 G46 rfl W46 14 rfl (Nat.le_of_ble_eq_true rfl) (.ref (w 14)) rfl _ rfl
  have N46 := Fr.snoc X46 N43 gg1
  have O47 := O44.wr W46 gg1
  obtain ⟨T48, X48, e48, st48⟩ := getS2 X46 hx hZ hown (host := "") (Or.inl (wk34 hw)) Via.refl e46 ((wd30 hW).ext O47.2) (g := (mkF m 107 #[.val (.int p0), .unset, .unset, .unset, .unset] [(.int (15 : Int32)), (.ref b1), (.ref b1)])) rfl (hb hby at_107)
  obtain ⟨cl49, Ar49, cw49, S49, Nn49, Hs49, G49⟩ := id (V46)
  have hin49 : ¬ ((15 : Int32) < 0 ∨ cl49.slots.size ≤ ((15 : Int32)).toNatClampNeg) := inb_of S49 ⟨by decide, by decide⟩
  obtain ⟨T49, h49, X49, e49, W49, st49⟩ := stR X48 hx hZ e48 Ar49 (j := (15 : Int32)) hin49 rfl (Sto.ofV Ar49 cw49 Ov1 (Ins.self ((wd31 hW).ext O47.2))) (g := (mkF m 110 #[.val (.int p0), .unset, .unset, .unset, .unset] [(.ref (w 15)), (.int (15 : Int32)), (.ref b1), (.ref b1)])) rfl rfl (hb hby at_110)
  have V49 : Arv Z h49 b1 k1 (.object "com/example/ferrule/ferrule/io/TypeCode") (19 : Int32) [(.ref (w 0)), (.ref (w 1)), (.ref (w 2)), (.ref (w 3)), (.ref (w 4)), (.ref (w 5)), (.ref (w 6)), (.ref (w 7)), (.ref (w 8)), (.ref (w 9)), (.ref (w 10)), (.ref (w 11)), (.ref (w 12)), (.ref (w 13)), (.ref (w 14)), (.ref (w 15)), .null, .null, .null] .null := own_set Ar49 cw49 S49 Nn49 Hs49 G49 rfl W49 15 rfl (Nat.le_of_ble_eq_true rfl) (.ref (w 15)) rfl _ rfl
  have N49 := Fr.snoc X49 N46 gg1
  have O50 := O47.wr W49 gg1
  obtain ⟨T51, X51, e51, st51⟩ := getS2 X49 hx hZ hown (host := "") (Or.inl (wk36 hw)) Via.refl e49 ((wd32 hW).ext O50.2) (g := (mkF m 114 #[.val (.int p0), .unset, .unset, .unset, .unset] [(.int (16 : Int32)), (.ref b1), (.ref b1)])) rfl (hb hby at_114)
  obtain ⟨cl52, Ar52, cw52, S52, Nn52, Hs52, G52⟩ := id (V49)
  have hin52 : ¬ ((16 : Int32) < 0 ∨ cl52.slots.size ≤ ((16 : Int32)).toNatClampNeg) := inb_of S52 ⟨by decide, by decide⟩
  obtain ⟨T52, h52, X52, e52, W52, st52⟩ := stR X51 hx hZ e51 Ar52 (j := (16 : Int32)) hin52 rfl (Sto.ofV Ar52 cw52 Ov1 (Ins.self ((wd33 hW).ext O50.2))) (g := (mkF m 117 #[.val (.int p0), .unset, .unset, .unset, .unset] [(.ref (w 16)), (.int (16 : Int32)), (.ref b1), (.ref b1)])) rfl rfl (hb hby at_117)
  have V52 : Arv Z h52 b1 k1 (.object "com/example/ferrule/ferrule/io/TypeCode") (19 : Int32) [(.ref (w 0)), (.ref (w 1)), (.ref (w 2)), (.ref (w 3)), (.ref (w 4)), (.ref (w 5)), (.ref (w 6)), (.ref (w 7)), (.ref (w 8)), (.ref (w 9)), (.ref (w 10)), (.ref (w 11)), (.ref (w 12)), (.ref (w 13)), (.ref (w 14)), (.ref (w 15)), (.ref (w 16)), .null, .null] .null := own_set Ar52 cw52 S52 Nn52 Hs52 G52 rfl W52 16 rfl (Nat.le_of_ble_eq_true rfl) (.ref (w 16)) rfl _ rfl
  have N52 := Fr.snoc X52 N49 gg1
  have O53 := O50.wr W52 gg1
  obtain ⟨T54, X54, e54, st54⟩ := getS2 X52 hx hZ hown (host := "") (Or.inl (wk38 hw)) Via.refl e52 ((wd34 hW).ext O53.2) (g := (mkF m 121 #[.val (.int p0), .unset, .unset, .unset, .unset] [(.int (17 : Int32)), (.ref b1), (.ref b1)])) rfl (hb hby at_121)
  obtain ⟨cl55, Ar55, cw55, S55, Nn55, Hs55, G55⟩ := id (V52)
  have hin55 : ¬ ((17 : Int32) < 0 ∨ cl55.slots.size ≤ ((17 : Int32)).toNatClampNeg) := inb_of S55 ⟨by decide, by decide⟩
  obtain ⟨T55, h55, X55, e55, W55, st55⟩ := stR X54 hx hZ e54 Ar55 (j := (17 : Int32)) hin55 rfl (Sto.ofV Ar55 cw55 Ov1 (Ins.self ((wd35 hW).ext O53.2))) (g := (mkF m 124 #[.val (.int p0), .unset, .unset, .unset, .unset] [(.ref (w 17)), (.int (17 : Int32)), (.ref b1), (.ref b1)])) rfl rfl (hb hby at_124)
  have V55 : Arv Z h55 b1 k1 (.object "com/example/ferrule/ferrule/io/TypeCode") (19 : Int32) [(.ref (w 0)), (.ref (w 1)), (.ref (w 2)), (.ref (w 3)), (.ref (w 4)), (.ref (w 5)), (.ref (w 6)), (.ref (w 7)), (.ref (w 8)), (.ref (w 9)), (.ref (w 10)), (.ref (w 11)), (.ref (w 12)), (.ref (w 13)), (.ref (w 14)), (.ref (w 15)), (.ref (w 16)), (.ref (w 17)), .null] .null := own_set Ar55 cw55 S55 Nn55 Hs55 G55 rfl W55 17 rfl (Nat.le_of_ble_eq_true rfl) (.ref (w 17)) rfl _ rfl
  have N55 := Fr.snoc X55 N52 gg1
  have O56 := O53.wr W55 gg1
  obtain ⟨T57, X57, e57, st57⟩ := getS2 X55 hx hZ hown (host := "") (Or.inl (wk40 hw)) Via.refl e55 ((wd36 hW).ext O56.2) (g := (mkF m 128 #[.val (.int p0), .unset, .unset, .unset, .unset] [(.int (18 : Int32)), (.ref b1), (.ref b1)])) rfl (hb hby at_128)
  obtain ⟨cl58, Ar58, cw58, S58, Nn58, Hs58, G58⟩ := id (V55)
  have hin58 : ¬ ((18 : Int32) < 0 ∨ cl58.slots.size ≤ ((18 : Int32)).toNatClampNeg) := inb_of S58 ⟨by decide, by decide⟩
  obtain ⟨T58, h58, X58, e58, W58, st58⟩ := stR X57 hx hZ e57 Ar58 (j := (18 : Int32)) hin58 rfl (Sto.ofV Ar58 cw58 Ov1 (Ins.self ((wd37 hW).ext O56.2))) (g := (mkF m 131 #[.val (.int p0), .unset, .unset, .unset, .unset] [(.ref (w 18)), (.int (18 : Int32)), (.ref b1), (.ref b1)])) rfl rfl (hb hby at_131)
  have V58 : Arv Z h58 b1 k1 (.object "com/example/ferrule/ferrule/io/TypeCode") (19 : Int32) [(.ref (w 0)), (.ref (w 1)), (.ref (w 2)), (.ref (w 3)), (.ref (w 4)), (.ref (w 5)), (.ref (w 6)), (.ref (w 7)), (.ref (w 8)), (.ref (w 9)), (.ref (w 10)), (.ref (w 11)), (.ref (w 12)), (.ref (w 13)), (.ref (w 14)), (.ref (w 15)), (.ref (w 16)), (.ref (w 17)), (.ref (w 18))] .null := own_set Ar58 cw58 S58 Nn58 Hs58 G58 rfl W58 18 rfl (Nat.le_of_ble_eq_true rfl) (.ref (w 18)) rfl _ rfl
  have N58 := Fr.snoc X58 N55 gg1
  have O59 := O56.wr W58 gg1
  let Lb60 : Array Slot := #[.val (.int p0), .val (.ref b1), .unset, .unset, .unset]
  have pre61 : ∀ t, Steps p.tables e below (T58.setTop (mkF m 141 #[.val (.int p0), .val (.ref b1), .unset, .unset, .unset] [(.int ((p0 &&& (2147483647 : Int32)) % (19 : Int32))), (.ref b1)])) t → Steps p.tables e below (s₁.setTop (entryFrame m #[(.int p0)] maxLocals)) t := fun t k => pre0 t (by
   show Steps p.tables e below (s₁.setTop (mkF m 0 #[.val (.int p0), .unset, .unset, .unset, .unset] [])) _
   refine XS.bipush X0.here hx rfl (hb hby at_0) ?_
   refine st1 _ ?_
   refine XS.dup X1.here hx rfl (hb hby at_5) rfl rfl ?_
   refine sc X1 hx hby at_6 ?_
   refine st3 _ ?_
   refine st4 _ ?_
   refine XS.dup X4.here hx rfl (hb hby at_11) rfl rfl ?_
   refine sc X4 hx hby at_12 ?_
   refine st6 _ ?_
   refine st7 _ ?_
   refine XS.dup X7.here hx rfl (hb hby at_17) rfl rfl ?_
   refine sc X7 hx hby at_18 ?_
   refine st9 _ ?_
   refine st10 _ ?_
   refine XS.dup X10.here hx rfl (hb hby at_23) rfl rfl ?_
   refine sc X10 hx hby at_24 ?_
   refine st12 _ ?_
   refine st13 _ ?_
   refine XS.dup X13.here hx rfl (hb hby at_29) rfl rfl ?_
   refine sc X13 hx hby at_30 ?_
   refine st15 _ ?_
   refine st16 _ ?_
   refine XS.dup X16.here hx rfl (hb hby at_35) rfl rfl ?_
   refine sc X16 hx hby at_36 ?_
   refine st18 _ ?_
   refine st19 _ ?_
   refine XS.dup X19.here hx rfl (hb hby at_41) rfl rfl ?_
   refine XS.bipush X19.here hx rfl (hb hby at_42) ?_
   refine st21 _ ?_
   refine st22 _ ?_
   refine XS.dup X22.here hx rfl (hb hby at_48) rfl rfl ?_
   refine XS.bipush X22.here hx rfl (hb hby at_49) ?_
   refine st24 _ ?_
   refine st25 _ ?_
   refine XS.dup X25.here hx rfl (hb hby at_55) rfl rfl ?_
   refine XS.bipush X25.here hx rfl (hb hby at_56) ?_
   refine st27 _ ?_
   refine st28 _ ?_
   refine XS.dup X28.here hx rfl (hb hby at_62) rfl rfl ?_
   refine XS.bipush X28.here hx rfl (hb hby at_63) ?_
   refine st30 _ ?_
   refine st31 _ ?_
   refine XS.dup X31.here hx rfl (hb hby at_69) rfl rfl ?_
   refine XS.bipush X31.here hx rfl (hb hby at_70) ?_
   refine st33 _ ?_
   refine st34 _ ?_
   refine XS.dup X34.here hx rfl (hb hby at_76) rfl rfl ?_
   refine XS.bipush X34.here hx rfl (hb hby at_77) ?_
   refine st36 _ ?_
   refine st37 _ ?_
   refine XS.dup X37.here hx rfl (hb hby at_83) rfl rfl ?_
   refine XS.bipush X37.here hx rfl (hb hby at_84) ?_
   refine st39 _ ?_
   refine st40 _ ?_
   refine XS.dup X40.here hx rfl (hb hby at_90) rfl rfl ?_
   refine XS.bipush X40.here hx rfl (hb hby at_91) ?_
   refine st42 _ ?_
   refine st43 _ ?_
   refine XS.dup X43.here hx rfl (hb hby at_97) rfl rfl ?_
   refine XS.bipush X43.here hx rfl (hb hby at_98) ?_
   refine st45 _ ?_
   refine st46 _ ?_
   refine XS.dup X46.here hx rfl (hb hby at_104) rfl rfl ?_
   refine XS.bipush X46.here hx rfl (hb hby at_105) ?_
   refine st48 _ ?_
   refine st49 _ ?_
   refine XS.dup X49.here hx rfl (hb hby at_111) rfl rfl ?_
   refine XS.bipush X49.here hx rfl (hb hby at_112) ?_
   refine st51 _ ?_
   refine st52 _ ?_
   refine XS.dup X52.here hx rfl (hb hby at_118) rfl rfl ?_
   refine XS.bipush X52.here hx rfl (hb hby at_119) ?_
   refine st54 _ ?_
   refine st55 _ ?_
   refine XS.dup X55.here hx rfl (hb hby at_125) rfl rfl ?_
   refine XS.bipush X55.here hx rfl (hb hby at_126) ?_
   refine st57 _ ?_
   refine st58 _ ?_
   refine XS.astoreN X58.here hx rfl (hb hby at_132) rfl rfl (l' := Lb60) rfl ?_
   refine sA X58 hx hby at_133 rfl rfl ?_
   refine sI X58 hx hby at_134 rfl ?_
   refine X58.ldcInt hx hown (mvT hZ (wk42 hw)) (g := (mkF m 135 Lb60 [(.int p0), (.ref b1)])) rfl (hb hby at_135) _ ?_
   refine XS.iand X58.here hx rfl (hb hby at_137) rfl ?_
   show Steps p.tables e below (T58.setTop (mkF m 138 Lb60 [(.int (p0 &&& (2147483647 : Int32))), (.ref b1)])) _
   refine XS.bipush X58.here hx rfl (hb hby at_138) ?_
   refine iremM X58 hx rfl (hb hby at_140) rfl (by decide) ?_
   exact k)
  rcases (own_rem19 p0) with hs62 | hs62 | hs62 | hs62 | hs62 | hs62 | hs62 | hs62 | hs62 | hs62 | hs62 | hs62 | hs62 | hs62 | hs62 | hs62 | hs62 | hs62 | hs62
  ·
   rw [hs62] at pre61
   obtain ⟨cl63, Ar63, cw63, S63, Nn63, Hs63, G63⟩ := id (V58)
   have hin63 : ¬ ((0 : Int32) < 0 ∨ cl63.slots.size ≤ ((0 : Int32)).toNatClampNeg) := inb_of S63 ⟨by decide, by decide⟩
   let Lb64 : Array Slot := #[.val (.int p0), .val (.ref b1), .val (.ref (w 0)), .unset, .unset]
   obtain ⟨cq65, kq65, q65a, q65b, q65c⟩ := isOf hZ e58 ((wd1 hW).ext O59.2)
   obtain ⟨_, _, ⟨T65, L65, kk65, nn65⟩, -, X65, ⟨Lc65, hQ65, l65, y65, z65⟩, st65⟩ := X58.virtualBack hx (y := ym0) (z := ym0) hown (mvT hZ (wk43 hw)) (mvT hZ (wk44 hw)) (notFace_of_selects (args := #[]) (mvT hZ (wk46 hw))) (mvT hZ (wk46 hw)) (mvT hZ (wk45 hw)) (by decide) (backOf (W := 0) (rm1_1 l Z a0 hw w hW []  h58 n0 O59 ) hZ (wk47 hw) (wk3 hw) (by decide) (by decide)) q65a q65c (g := (mkF m 144 Lb64 [(.ref (w 0))])) rfl (by rw [hml]; rfl) (Steps.refl _) (argsL := []) (rest := []) (lenOf pds_0 rfl) rfl (by show 2 * 0 + _ ≤ _; exact Nat.le_of_eq rfl) (hb hby at_144) (fun _ _ => ⟨rfl, e58, (by decide : 1 + 0 ≤ _), (by decide : 19 + 0 ≤ _)⟩)
   dsimp only [Pt.U, Pt.locs, Pt.cells, Pt.slots] at X65 l65 y65 z65 st65 hQ65
   rw [l65, y65, z65] at X65
   obtain ⟨rfl, N65q, e65⟩ := hQ65
   have N65 := Fr.app N58 N65q
   let Lb66 : Array Slot := #[.val (.int p0), .val (.ref b1), .val (.ref (w 0)), .val (.int (1 : Int32)), .unset]
   let Lb67 : Array Slot := #[.val (.int p0), .val (.ref b1), .val (.ref (w 0)), .val (.int (1 : Int32)), .val (.int (0 : Int32))]
   obtain ⟨cq68, kq68, q68a, q68b, q68c⟩ := isOf hZ e65 ((wd1 hW).ext O59.2)
   obtain ⟨_, _, ⟨T68, L68, kk68, nn68⟩, -, X68, ⟨Lc68, hQ68, l68, y68, z68⟩, st68⟩ := X65.virtualBack hx (y := ym1) (z := ym1) hown (mvT hZ (wk50 hw)) (mvT hZ (wk51 hw)) (notFace_of_selects (args := #[]) (mvT hZ (wk53 hw))) (mvT hZ (wk53 hw)) (mvT hZ (wk52 hw)) (by decide) (backOf (W := 0) (rm2_2 l Z a0 hw w hW []  h58 n0 O59 ) hZ (wk54 hw) (wk3 hw) (by decide) (by decide)) q68a q68c (g := (mkF m 168 Lb67 [(.ref (w 0))])) rfl (by rw [hml]; rfl) (Steps.refl _) (argsL := []) (rest := []) (lenOf pds_1 rfl) rfl (by show 2 * 0 + _ ≤ _; exact Nat.le_of_eq rfl) (hb hby at_168) (fun _ _ => ⟨rfl, e65, (by decide : 1 + 0 ≤ _), (by decide : 19 + 0 ≤ _)⟩)
   dsimp only [Pt.U, Pt.locs, Pt.cells, Pt.slots] at X68 l68 y68 z68 st68 hQ68
   rw [l68, y68, z68] at X68
   obtain ⟨rfl, N68q, e68⟩ := hQ68
   have N68 := Fr.app N65 N68q
   obtain ⟨fs, hr, hrun, hended, hWm, hsame⟩ := X68.leave (v := some (.int (1 : Int32))) (fun h => by rw [Bd.returns] at h; cases h)
   refine ⟨_, _, pre61 _ ?_, hrun, hended, _, _, rfl, ?_, ⟨_, rfl⟩, hWm, hsame.mono (by decide) (by decide)⟩
   · show Steps p.tables e below (T58.setTop (mkF m 141 Lb60 [(.int (0 : Int32)), (.ref b1)])) _
     refine X58.aaload hx (j := (0 : Int32)) (v := (.ref (w 0))) (by rw [e58]; exact Ar63.1) (State.isArrayOf_alike hZ.alike Ar63.2.1) rfl Ar63.2.2 hin63 (Hs63.at hin63 rfl) (g := (mkF m 141 Lb60 [(.int (0 : Int32)), (.ref b1)])) rfl rfl (hb hby at_141) _ ?_
     refine XS.astoreN X58.here hx rfl (hb hby at_142) rfl rfl (l' := Lb64) rfl ?_
     refine sA X58 hx hby at_143 rfl rfl ?_
     refine st65.trans ?_
     refine XS.istoreN X65.here hx rfl (hb hby at_147) rfl (l' := Lb66) rfl ?_
     refine sI X65 hx hby at_148 rfl ?_
     refine XS.bipush X65.here hx rfl (hb hby at_149) ?_
     refine XS.icmpYes X65.here hx rfl (pc0 := 151) (pc' := 164) rfl (hb hby at_151) rfl (by decide) (by decide) (by decide) ?_
     refine sc X65 hx hby at_164 ?_
     show Steps p.tables e below (T65.setTop (mkF m 165 Lb66 [(.int (0 : Int32))])) _
     refine XS.istore X65.here hx rfl (hb hby at_165) rfl (l' := Lb67) rfl ?_
     refine sA X65 hx hby at_167 rfl rfl ?_
     refine st68.trans ?_
     refine si X68 hx hby at_171 rfl ?_
     refine sn X68 hx hby at_173 (by decide) ?_
     refine sc X68 hx hby at_176 ?_
     refine sg (pc := 177) (pc' := 181) X68 hx hby at_177 (by decide) (by decide) ?_
     exact retN X68 hx (t := .boolean) Bd.returns (by simp) (hb hby at_181) hr
   · show Q0 n0 _ T68.heap _
     rw [e68]
     exact ⟨rfl, N68⟩
  ·
   rw [hs62] at pre61
   obtain ⟨cl69, Ar69, cw69, S69, Nn69, Hs69, G69⟩ := id (V58)
   have hin69 : ¬ ((1 : Int32) < 0 ∨ cl69.slots.size ≤ ((1 : Int32)).toNatClampNeg) := inb_of S69 ⟨by decide, by decide⟩
   let Lb70 : Array Slot := #[.val (.int p0), .val (.ref b1), .val (.ref (w 1)), .unset, .unset]
   obtain ⟨cq71, kq71, q71a, q71b, q71c⟩ := isOf hZ e58 ((wd3 hW).ext O59.2)
   obtain ⟨_, _, ⟨T71, L71, kk71, nn71⟩, -, X71, ⟨Lc71, hQ71, l71, y71, z71⟩, st71⟩ := X58.virtualBack hx (y := ym0) (z := ym0) hown (mvT hZ (wk43 hw)) (mvT hZ (wk44 hw)) (notFace_of_selects (args := #[]) (mvT hZ (wk46 hw))) (mvT hZ (wk46 hw)) (mvT hZ (wk45 hw)) (by decide) (backOf (W := 0) (rm1_3 l Z a0 hw w hW []  h58 n0 O59 ) hZ (wk47 hw) (wk3 hw) (by decide) (by decide)) q71a q71c (g := (mkF m 144 Lb70 [(.ref (w 1))])) rfl (by rw [hml]; rfl) (Steps.refl _) (argsL := []) (rest := []) (lenOf pds_0 rfl) rfl (by show 2 * 0 + _ ≤ _; exact Nat.le_of_eq rfl) (hb hby at_144) (fun _ _ => ⟨rfl, e58, (by decide : 1 + 0 ≤ _), (by decide : 19 + 0 ≤ _)⟩)
   dsimp only [Pt.U, Pt.locs, Pt.cells, Pt.slots] at X71 l71 y71 z71 st71 hQ71
   rw [l71, y71, z71] at X71
   obtain ⟨rfl, N71q, e71⟩ := hQ71
   have N71 := Fr.app N58 N71q
   let Lb72 : Array Slot := #[.val (.int p0), .val (.ref b1), .val (.ref (w 1)), .val (.int (2 : Int32)), .unset]
   let Lb73 : Array Slot := #[.val (.int p0), .val (.ref b1), .val (.ref (w 1)), .val (.int (2 : Int32)), .val (.int (0 : Int32))]
   obtain ⟨cq74, kq74, q74a, q74b, q74c⟩ := isOf hZ e71 ((wd3 hW).ext O59.2)
   obtain ⟨_, _, ⟨T74, L74, kk74, nn74⟩, -, X74, ⟨Lc74, hQ74, l74, y74, z74⟩, st74⟩ := X71.virtualBack hx (y := ym1) (z := ym1) hown (mvT hZ (wk50 hw)) (mvT hZ (wk51 hw)) (notFace_of_selects (args := #[]) (mvT hZ (wk53 hw))) (mvT hZ (wk53 hw)) (mvT hZ (wk52 hw)) (by decide) (backOf (W := 0) (rm2_4 l Z a0 hw w hW []  h58 n0 O59 ) hZ (wk54 hw) (wk3 hw) (by decide) (by decide)) q74a q74c (g := (mkF m 168 Lb73 [(.ref (w 1))])) rfl (by rw [hml]; rfl) (Steps.refl _) (argsL := []) (rest := []) (lenOf pds_1 rfl) rfl (by show 2 * 0 + _ ≤ _; exact Nat.le_of_eq rfl) (hb hby at_168) (fun _ _ => ⟨rfl, e71, (by decide : 1 + 0 ≤ _), (by decide : 19 + 0 ≤ _)⟩)
   dsimp only [Pt.U, Pt.locs, Pt.cells, Pt.slots] at X74 l74 y74 z74 st74 hQ74
   rw [l74, y74, z74] at X74
   obtain ⟨rfl, N74q, e74⟩ := hQ74
   have N74 := Fr.app N71 N74q
   obtain ⟨fs, hr, hrun, hended, hWm, hsame⟩ := X74.leave (v := some (.int (1 : Int32))) (fun h => by rw [Bd.returns] at h; cases h)
   refine ⟨_, _, pre61 _ ?_, hrun, hended, _, _, rfl, ?_, ⟨_, rfl⟩, hWm, hsame.mono (by decide) (by decide)⟩
   · show Steps p.tables e below (T58.setTop (mkF m 141 Lb60 [(.int (1 : Int32)), (.ref b1)])) _
     refine X58.aaload hx (j := (1 : Int32)) (v := (.ref (w 1))) (by rw [e58]; exact Ar69.1) (State.isArrayOf_alike hZ.alike Ar69.2.1) rfl Ar69.2.2 hin69 (Hs69.at hin69 rfl) (g := (mkF m 141 Lb60 [(.int (1 : Int32)), (.ref b1)])) rfl rfl (hb hby at_141) _ ?_
     refine XS.astoreN X58.here hx rfl (hb hby at_142) rfl rfl (l' := Lb70) rfl ?_
     refine sA X58 hx hby at_143 rfl rfl ?_
     refine st71.trans ?_
     refine XS.istoreN X71.here hx rfl (hb hby at_147) rfl (l' := Lb72) rfl ?_
     refine sI X71 hx hby at_148 rfl ?_
     refine XS.bipush X71.here hx rfl (hb hby at_149) ?_
     refine XS.icmpYes X71.here hx rfl (pc0 := 151) (pc' := 164) rfl (hb hby at_151) rfl (by decide) (by decide) (by decide) ?_
     refine sc X71 hx hby at_164 ?_
     show Steps p.tables e below (T71.setTop (mkF m 165 Lb72 [(.int (0 : Int32))])) _
     refine XS.istore X71.here hx rfl (hb hby at_165) rfl (l' := Lb73) rfl ?_
     refine sA X71 hx hby at_167 rfl rfl ?_
     refine st74.trans ?_
     refine si X74 hx hby at_171 rfl ?_
     refine sn X74 hx hby at_173 (by decide) ?_
     refine sc X74 hx hby at_176 ?_
     refine sg (pc := 177) (pc' := 181) X74 hx hby at_177 (by decide) (by decide) ?_
     exact retN X74 hx (t := .boolean) Bd.returns (by simp) (hb hby at_181) hr
   · show Q0 n0 _ T74.heap _
     rw [e74]
     exact ⟨rfl, N74⟩
  ·
   rw [hs62] at pre61
   obtain ⟨cl75, Ar75, cw75, S75, Nn75, Hs75, G75⟩ := id (V58)
   have hin75 : ¬ ((2 : Int32) < 0 ∨ cl75.slots.size ≤ ((2 : Int32)).toNatClampNeg) := inb_of S75 ⟨by decide, by decide⟩
   let Lb76 : Array Slot := #[.val (.int p0), .val (.ref b1), .val (.ref (w 2)), .unset, .unset]
   obtain ⟨cq77, kq77, q77a, q77b, q77c⟩ := isOf hZ e58 ((wd5 hW).ext O59.2)
   obtain ⟨_, _, ⟨T77, L77, kk77, nn77⟩, -, X77, ⟨Lc77, hQ77, l77, y77, z77⟩, st77⟩ := X58.virtualBack hx (y := ym0) (z := ym0) hown (mvT hZ (wk43 hw)) (mvT hZ (wk44 hw)) (notFace_of_selects (args := #[]) (mvT hZ (wk46 hw))) (mvT hZ (wk46 hw)) (mvT hZ (wk45 hw)) (by decide) (backOf (W := 0) (rm1_5 l Z a0 hw w hW []  h58 n0 O59 ) hZ (wk47 hw) (wk3 hw) (by decide) (by decide)) q77a q77c (g := (mkF m 144 Lb76 [(.ref (w 2))])) rfl (by rw [hml]; rfl) (Steps.refl _) (argsL := []) (rest := []) (lenOf pds_0 rfl) rfl (by show 2 * 0 + _ ≤ _; exact Nat.le_of_eq rfl) (hb hby at_144) (fun _ _ => ⟨rfl, e58, (by decide : 1 + 0 ≤ _), (by decide : 19 + 0 ≤ _)⟩)
   dsimp only [Pt.U, Pt.locs, Pt.cells, Pt.slots] at X77 l77 y77 z77 st77 hQ77
   rw [l77, y77, z77] at X77
   obtain ⟨rfl, N77q, e77⟩ := hQ77
   have N77 := Fr.app N58 N77q
   let Lb78 : Array Slot := #[.val (.int p0), .val (.ref b1), .val (.ref (w 2)), .val (.int (3 : Int32)), .unset]
   let Lb79 : Array Slot := #[.val (.int p0), .val (.ref b1), .val (.ref (w 2)), .val (.int (3 : Int32)), .val (.int (0 : Int32))]
   obtain ⟨cq80, kq80, q80a, q80b, q80c⟩ := isOf hZ e77 ((wd5 hW).ext O59.2)
   obtain ⟨_, _, ⟨T80, L80, kk80, nn80⟩, -, X80, ⟨Lc80, hQ80, l80, y80, z80⟩, st80⟩ := X77.virtualBack hx (y := ym1) (z := ym1) hown (mvT hZ (wk50 hw)) (mvT hZ (wk51 hw)) (notFace_of_selects (args := #[]) (mvT hZ (wk53 hw))) (mvT hZ (wk53 hw)) (mvT hZ (wk52 hw)) (by decide) (backOf (W := 0) (rm2_6 l Z a0 hw w hW []  h58 n0 O59 ) hZ (wk54 hw) (wk3 hw) (by decide) (by decide)) q80a q80c (g := (mkF m 168 Lb79 [(.ref (w 2))])) rfl (by rw [hml]; rfl) (Steps.refl _) (argsL := []) (rest := []) (lenOf pds_1 rfl) rfl (by show 2 * 0 + _ ≤ _; exact Nat.le_of_eq rfl) (hb hby at_168) (fun _ _ => ⟨rfl, e77, (by decide : 1 + 0 ≤ _), (by decide : 19 + 0 ≤ _)⟩)
   dsimp only [Pt.U, Pt.locs, Pt.cells, Pt.slots] at X80 l80 y80 z80 st80 hQ80
   rw [l80, y80, z80] at X80
   obtain ⟨rfl, N80q, e80⟩ := hQ80
   have N80 := Fr.app N77 N80q
   obtain ⟨fs, hr, hrun, hended, hWm, hsame⟩ := X80.leave (v := some (.int (1 : Int32))) (fun h => by rw [Bd.returns] at h; cases h)
   refine ⟨_, _, pre61 _ ?_, hrun, hended, _, _, rfl, ?_, ⟨_, rfl⟩, hWm, hsame.mono (by decide) (by decide)⟩
   · show Steps p.tables e below (T58.setTop (mkF m 141 Lb60 [(.int (2 : Int32)), (.ref b1)])) _
     refine X58.aaload hx (j := (2 : Int32)) (v := (.ref (w 2))) (by rw [e58]; exact Ar75.1) (State.isArrayOf_alike hZ.alike Ar75.2.1) rfl Ar75.2.2 hin75 (Hs75.at hin75 rfl) (g := (mkF m 141 Lb60 [(.int (2 : Int32)), (.ref b1)])) rfl rfl (hb hby at_141) _ ?_
     refine XS.astoreN X58.here hx rfl (hb hby at_142) rfl rfl (l' := Lb76) rfl ?_
     refine sA X58 hx hby at_143 rfl rfl ?_
     refine st77.trans ?_
     refine XS.istoreN X77.here hx rfl (hb hby at_147) rfl (l' := Lb78) rfl ?_
     refine sI X77 hx hby at_148 rfl ?_
     refine XS.bipush X77.here hx rfl (hb hby at_149) ?_
     refine XS.icmpYes X77.here hx rfl (pc0 := 151) (pc' := 164) rfl (hb hby at_151) rfl (by decide) (by decide) (by decide) ?_
     refine sc X77 hx hby at_164 ?_
     show Steps p.tables e below (T77.setTop (mkF m 165 Lb78 [(.int (0 : Int32))])) _
     refine XS.istore X77.here hx rfl (hb hby at_165) rfl (l' := Lb79) rfl ?_
     refine sA X77 hx hby at_167 rfl rfl ?_
     refine st80.trans ?_
     refine si X80 hx hby at_171 rfl ?_
     refine sn X80 hx hby at_173 (by decide) ?_
     refine sc X80 hx hby at_176 ?_
     refine sg (pc := 177) (pc' := 181) X80 hx hby at_177 (by decide) (by decide) ?_
     exact retN X80 hx (t := .boolean) Bd.returns (by simp) (hb hby at_181) hr
   · show Q0 n0 _ T80.heap _
     rw [e80]
     exact ⟨rfl, N80⟩
  ·
   rw [hs62] at pre61
   obtain ⟨cl81, Ar81, cw81, S81, Nn81, Hs81, G81⟩ := id (V58)
   have hin81 : ¬ ((3 : Int32) < 0 ∨ cl81.slots.size ≤ ((3 : Int32)).toNatClampNeg) := inb_of S81 ⟨by decide, by decide⟩
   let Lb82 : Array Slot := #[.val (.int p0), .val (.ref b1), .val (.ref (w 3)), .unset, .unset]
   obtain ⟨cq83, kq83, q83a, q83b, q83c⟩ := isOf hZ e58 ((wd7 hW).ext O59.2)
   obtain ⟨_, _, ⟨T83, L83, kk83, nn83⟩, -, X83, ⟨Lc83, hQ83, l83, y83, z83⟩, st83⟩ := X58.virtualBack hx (y := ym0) (z := ym0) hown (mvT hZ (wk43 hw)) (mvT hZ (wk44 hw)) (notFace_of_selects (args := #[]) (mvT hZ (wk46 hw))) (mvT hZ (wk46 hw)) (mvT hZ (wk45 hw)) (by decide) (backOf (W := 0) (rm1_7 l Z a0 hw w hW []  h58 n0 O59 ) hZ (wk47 hw) (wk3 hw) (by decide) (by decide)) q83a q83c (g := (mkF m 144 Lb82 [(.ref (w 3))])) rfl (by rw [hml]; rfl) (Steps.refl _) (argsL := []) (rest := []) (lenOf pds_0 rfl) rfl (by show 2 * 0 + _ ≤ _; exact Nat.le_of_eq rfl) (hb hby at_144) (fun _ _ => ⟨rfl, e58, (by decide : 1 + 0 ≤ _), (by decide : 19 + 0 ≤ _)⟩)
   dsimp only [Pt.U, Pt.locs, Pt.cells, Pt.slots] at X83 l83 y83 z83 st83 hQ83
   rw [l83, y83, z83] at X83
   obtain ⟨rfl, N83q, e83⟩ := hQ83
   have N83 := Fr.app N58 N83q
   let Lb84 : Array Slot := #[.val (.int p0), .val (.ref b1), .val (.ref (w 3)), .val (.int (4 : Int32)), .unset]
   let Lb85 : Array Slot := #[.val (.int p0), .val (.ref b1), .val (.ref (w 3)), .val (.int (4 : Int32)), .val (.int (0 : Int32))]
   obtain ⟨cq86, kq86, q86a, q86b, q86c⟩ := isOf hZ e83 ((wd7 hW).ext O59.2)
   obtain ⟨_, _, ⟨T86, L86, kk86, nn86⟩, -, X86, ⟨Lc86, hQ86, l86, y86, z86⟩, st86⟩ := X83.virtualBack hx (y := ym1) (z := ym1) hown (mvT hZ (wk50 hw)) (mvT hZ (wk51 hw)) (notFace_of_selects (args := #[]) (mvT hZ (wk53 hw))) (mvT hZ (wk53 hw)) (mvT hZ (wk52 hw)) (by decide) (backOf (W := 0) (rm2_8 l Z a0 hw w hW []  h58 n0 O59 ) hZ (wk54 hw) (wk3 hw) (by decide) (by decide)) q86a q86c (g := (mkF m 168 Lb85 [(.ref (w 3))])) rfl (by rw [hml]; rfl) (Steps.refl _) (argsL := []) (rest := []) (lenOf pds_1 rfl) rfl (by show 2 * 0 + _ ≤ _; exact Nat.le_of_eq rfl) (hb hby at_168) (fun _ _ => ⟨rfl, e83, (by decide : 1 + 0 ≤ _), (by decide : 19 + 0 ≤ _)⟩)
   dsimp only [Pt.U, Pt.locs, Pt.cells, Pt.slots] at X86 l86 y86 z86 st86 hQ86
   rw [l86, y86, z86] at X86
   obtain ⟨rfl, N86q, e86⟩ := hQ86
   have N86 := Fr.app N83 N86q
   obtain ⟨fs, hr, hrun, hended, hWm, hsame⟩ := X86.leave (v := some (.int (1 : Int32))) (fun h => by rw [Bd.returns] at h; cases h)
   refine ⟨_, _, pre61 _ ?_, hrun, hended, _, _, rfl, ?_, ⟨_, rfl⟩, hWm, hsame.mono (by decide) (by decide)⟩
   · show Steps p.tables e below (T58.setTop (mkF m 141 Lb60 [(.int (3 : Int32)), (.ref b1)])) _
     refine X58.aaload hx (j := (3 : Int32)) (v := (.ref (w 3))) (by rw [e58]; exact Ar81.1) (State.isArrayOf_alike hZ.alike Ar81.2.1) rfl Ar81.2.2 hin81 (Hs81.at hin81 rfl) (g := (mkF m 141 Lb60 [(.int (3 : Int32)), (.ref b1)])) rfl rfl (hb hby at_141) _ ?_
     refine XS.astoreN X58.here hx rfl (hb hby at_142) rfl rfl (l' := Lb82) rfl ?_
     refine sA X58 hx hby at_143 rfl rfl ?_
     refine st83.trans ?_
     refine XS.istoreN X83.here hx rfl (hb hby at_147) rfl (l' := Lb84) rfl ?_
     refine sI X83 hx hby at_148 rfl ?_
     refine XS.bipush X83.here hx rfl (hb hby at_149) ?_
     refine XS.icmpYes X83.here hx rfl (pc0 := 151) (pc' := 164) rfl (hb hby at_151) rfl (by decide) (by decide) (by decide) ?_
     refine sc X83 hx hby at_164 ?_
     show Steps p.tables e below (T83.setTop (mkF m 165 Lb84 [(.int (0 : Int32))])) _
     refine XS.istore X83.here hx rfl (hb hby at_165) rfl (l' := Lb85) rfl ?_
     refine sA X83 hx hby at_167 rfl rfl ?_
     refine st86.trans ?_
     refine si X86 hx hby at_171 rfl ?_
     refine sn X86 hx hby at_173 (by decide) ?_
     refine sc X86 hx hby at_176 ?_
     refine sg (pc := 177) (pc' := 181) X86 hx hby at_177 (by decide) (by decide) ?_
     exact retN X86 hx (t := .boolean) Bd.returns (by simp) (hb hby at_181) hr
   · show Q0 n0 _ T86.heap _
     rw [e86]
     exact ⟨rfl, N86⟩
  ·
   rw [hs62] at pre61
   obtain ⟨cl87, Ar87, cw87, S87, Nn87, Hs87, G87⟩ := id (V58)
   have hin87 : ¬ ((4 : Int32) < 0 ∨ cl87.slots.size ≤ ((4 : Int32)).toNatClampNeg) := inb_of S87 ⟨by decide, by decide⟩
   let Lb88 : Array Slot := #[.val (.int p0), .val (.ref b1), .val (.ref (w 4)), .unset, .unset]
   obtain ⟨cq89, kq89, q89a, q89b, q89c⟩ := isOf hZ e58 ((wd9 hW).ext O59.2)
   obtain ⟨_, _, ⟨T89, L89, kk89, nn89⟩, -, X89, ⟨Lc89, hQ89, l89, y89, z89⟩, st89⟩ := X58.virtualBack hx (y := ym0) (z := ym0) hown (mvT hZ (wk43 hw)) (mvT hZ (wk44 hw)) (notFace_of_selects (args := #[]) (mvT hZ (wk46 hw))) (mvT hZ (wk46 hw)) (mvT hZ (wk45 hw)) (by decide) (backOf (W := 0) (rm1_9 l Z a0 hw w hW []  h58 n0 O59 ) hZ (wk47 hw) (wk3 hw) (by decide) (by decide)) q89a q89c (g := (mkF m 144 Lb88 [(.ref (w 4))])) rfl (by rw [hml]; rfl) (Steps.refl _) (argsL := []) (rest := []) (lenOf pds_0 rfl) rfl (by show 2 * 0 + _ ≤ _; exact Nat.le_of_eq rfl) (hb hby at_144) (fun _ _ => ⟨rfl, e58, (by decide : 1 + 0 ≤ _), (by decide : 19 + 0 ≤ _)⟩)
   dsimp only [Pt.U, Pt.locs, Pt.cells, Pt.slots] at X89 l89 y89 z89 st89 hQ89
   rw [l89, y89, z89] at X89
   obtain ⟨rfl, N89q, e89⟩ := hQ89
   have N89 := Fr.app N58 N89q
   let Lb90 : Array Slot := #[.val (.int p0), .val (.ref b1), .val (.ref (w 4)), .val (.int (5 : Int32)), .unset]
   let Lb91 : Array Slot := #[.val (.int p0), .val (.ref b1), .val (.ref (w 4)), .val (.int (5 : Int32)), .val (.int (0 : Int32))]
   obtain ⟨cq92, kq92, q92a, q92b, q92c⟩ := isOf hZ e89 ((wd9 hW).ext O59.2)
   obtain ⟨_, _, ⟨T92, L92, kk92, nn92⟩, -, X92, ⟨Lc92, hQ92, l92, y92, z92⟩, st92⟩ := X89.virtualBack hx (y := ym1) (z := ym1) hown (mvT hZ (wk50 hw)) (mvT hZ (wk51 hw)) (notFace_of_selects (args := #[]) (mvT hZ (wk53 hw))) (mvT hZ (wk53 hw)) (mvT hZ (wk52 hw)) (by decide) (backOf (W := 0) (rm2_10 l Z a0 hw w hW []  h58 n0 O59 ) hZ (wk54 hw) (wk3 hw) (by decide) (by decide)) q92a q92c (g := (mkF m 168 Lb91 [(.ref (w 4))])) rfl (by rw [hml]; rfl) (Steps.refl _) (argsL := []) (rest := []) (lenOf pds_1 rfl) rfl (by show 2 * 0 + _ ≤ _; exact Nat.le_of_eq rfl) (hb hby at_168) (fun _ _ => ⟨rfl, e89, (by decide : 1 + 0 ≤ _), (by decide : 19 + 0 ≤ _)⟩)
   dsimp only [Pt.U, Pt.locs, Pt.cells, Pt.slots] at X92 l92 y92 z92 st92 hQ92
   rw [l92, y92, z92] at X92
   obtain ⟨rfl, N92q, e92⟩ := hQ92
   have N92 := Fr.app N89 N92q
   obtain ⟨fs, hr, hrun, hended, hWm, hsame⟩ := X92.leave (v := some (.int (1 : Int32))) (fun h => by rw [Bd.returns] at h; cases h)
   refine ⟨_, _, pre61 _ ?_, hrun, hended, _, _, rfl, ?_, ⟨_, rfl⟩, hWm, hsame.mono (by decide) (by decide)⟩
   · show Steps p.tables e below (T58.setTop (mkF m 141 Lb60 [(.int (4 : Int32)), (.ref b1)])) _
     refine X58.aaload hx (j := (4 : Int32)) (v := (.ref (w 4))) (by rw [e58]; exact Ar87.1) (State.isArrayOf_alike hZ.alike Ar87.2.1) rfl Ar87.2.2 hin87 (Hs87.at hin87 rfl) (g := (mkF m 141 Lb60 [(.int (4 : Int32)), (.ref b1)])) rfl rfl (hb hby at_141) _ ?_
     refine XS.astoreN X58.here hx rfl (hb hby at_142) rfl rfl (l' := Lb88) rfl ?_
     refine sA X58 hx hby at_143 rfl rfl ?_
     refine st89.trans ?_
     refine XS.istoreN X89.here hx rfl (hb hby at_147) rfl (l' := Lb90) rfl ?_
     refine sI X89 hx hby at_148 rfl ?_
     refine XS.bipush X89.here hx rfl (hb hby at_149) ?_
     refine XS.icmpYes X89.here hx rfl (pc0 := 151) (pc' := 164) rfl (hb hby at_151) rfl (by decide) (by decide) (by decide) ?_
     refine sc X89 hx hby at_164 ?_
     show Steps p.tables e below (T89.setTop (mkF m 165 Lb90 [(.int (0 : Int32))])) _
     refine XS.istore X89.here hx rfl (hb hby at_165) rfl (l' := Lb91) rfl ?_
     refine sA X89 hx hby at_167 rfl rfl ?_
     refine st92.trans ?_
     refine si X92 hx hby at_171 rfl ?_
     refine sn X92 hx hby at_173 (by decide) ?_
     refine sc X92 hx hby at_176 ?_
     refine sg (pc := 177) (pc' := 181) X92 hx hby at_177 (by decide) (by decide) ?_
     exact retN X92 hx (t := .boolean) Bd.returns (by simp) (hb hby at_181) hr
   · show Q0 n0 _ T92.heap _
     rw [e92]
     exact ⟨rfl, N92⟩
  ·
   rw [hs62] at pre61
   obtain ⟨cl93, Ar93, cw93, S93, Nn93, Hs93, G93⟩ := id (V58)
   have hin93 : ¬ ((5 : Int32) < 0 ∨ cl93.slots.size ≤ ((5 : Int32)).toNatClampNeg) := inb_of S93 ⟨by decide, by decide⟩
   let Lb94 : Array Slot := #[.val (.int p0), .val (.ref b1), .val (.ref (w 5)), .unset, .unset]
   obtain ⟨cq95, kq95, q95a, q95b, q95c⟩ := isOf hZ e58 ((wd11 hW).ext O59.2)
   obtain ⟨_, _, ⟨T95, L95, kk95, nn95⟩, -, X95, ⟨Lc95, hQ95, l95, y95, z95⟩, st95⟩ := X58.virtualBack hx (y := ym0) (z := ym0) hown (mvT hZ (wk43 hw)) (mvT hZ (wk44 hw)) (notFace_of_selects (args := #[]) (mvT hZ (wk46 hw))) (mvT hZ (wk46 hw)) (mvT hZ (wk45 hw)) (by decide) (backOf (W := 0) (rm1_11 l Z a0 hw w hW []  h58 n0 O59 ) hZ (wk47 hw) (wk3 hw) (by decide) (by decide)) q95a q95c (g := (mkF m 144 Lb94 [(.ref (w 5))])) rfl (by rw [hml]; rfl) (Steps.refl _) (argsL := []) (rest := []) (lenOf pds_0 rfl) rfl (by show 2 * 0 + _ ≤ _; exact Nat.le_of_eq rfl) (hb hby at_144) (fun _ _ => ⟨rfl, e58, (by decide : 1 + 0 ≤ _), (by decide : 19 + 0 ≤ _)⟩)
   dsimp only [Pt.U, Pt.locs, Pt.cells, Pt.slots] at X95 l95 y95 z95 st95 hQ95
   rw [l95, y95, z95] at X95
   obtain ⟨rfl, N95q, e95⟩ := hQ95
   have N95 := Fr.app N58 N95q
   let Lb96 : Array Slot := #[.val (.int p0), .val (.ref b1), .val (.ref (w 5)), .val (.int (6 : Int32)), .unset]
   let Lb97 : Array Slot := #[.val (.int p0), .val (.ref b1), .val (.ref (w 5)), .val (.int (6 : Int32)), .val (.int (0 : Int32))]
   obtain ⟨cq98, kq98, q98a, q98b, q98c⟩ := isOf hZ e95 ((wd11 hW).ext O59.2)
   obtain ⟨_, _, ⟨T98, L98, kk98, nn98⟩, -, X98, ⟨Lc98, hQ98, l98, y98, z98⟩, st98⟩ := X95.virtualBack hx (y := ym1) (z := ym1) hown (mvT hZ (wk50 hw)) (mvT hZ (wk51 hw)) (notFace_of_selects (args := #[]) (mvT hZ (wk53 hw))) (mvT hZ (wk53 hw)) (mvT hZ (wk52 hw)) (by decide) (backOf (W := 0) (rm2_12 l Z a0 hw w hW []  h58 n0 O59 ) hZ (wk54 hw) (wk3 hw) (by decide) (by decide)) q98a q98c (g := (mkF m 168 Lb97 [(.ref (w 5))])) rfl (by rw [hml]; rfl) (Steps.refl _) (argsL := []) (rest := []) (lenOf pds_1 rfl) rfl (by show 2 * 0 + _ ≤ _; exact Nat.le_of_eq rfl) (hb hby at_168) (fun _ _ => ⟨rfl, e95, (by decide : 1 + 0 ≤ _), (by decide : 19 + 0 ≤ _)⟩)
   dsimp only [Pt.U, Pt.locs, Pt.cells, Pt.slots] at X98 l98 y98 z98 st98 hQ98
   rw [l98, y98, z98] at X98
   obtain ⟨rfl, N98q, e98⟩ := hQ98
   have N98 := Fr.app N95 N98q
   obtain ⟨fs, hr, hrun, hended, hWm, hsame⟩ := X98.leave (v := some (.int (1 : Int32))) (fun h => by rw [Bd.returns] at h; cases h)
   refine ⟨_, _, pre61 _ ?_, hrun, hended, _, _, rfl, ?_, ⟨_, rfl⟩, hWm, hsame.mono (by decide) (by decide)⟩
   · show Steps p.tables e below (T58.setTop (mkF m 141 Lb60 [(.int (5 : Int32)), (.ref b1)])) _
     refine X58.aaload hx (j := (5 : Int32)) (v := (.ref (w 5))) (by rw [e58]; exact Ar93.1) (State.isArrayOf_alike hZ.alike Ar93.2.1) rfl Ar93.2.2 hin93 (Hs93.at hin93 rfl) (g := (mkF m 141 Lb60 [(.int (5 : Int32)), (.ref b1)])) rfl rfl (hb hby at_141) _ ?_
     refine XS.astoreN X58.here hx rfl (hb hby at_142) rfl rfl (l' := Lb94) rfl ?_
     refine sA X58 hx hby at_143 rfl rfl ?_
     refine st95.trans ?_
     refine XS.istoreN X95.here hx rfl (hb hby at_147) rfl (l' := Lb96) rfl ?_
     refine sI X95 hx hby at_148 rfl ?_
     refine XS.bipush X95.here hx rfl (hb hby at_149) ?_
     refine XS.icmpYes X95.here hx rfl (pc0 := 151) (pc' := 164) rfl (hb hby at_151) rfl (by decide) (by decide) (by decide) ?_
     refine sc X95 hx hby at_164 ?_
     show Steps p.tables e below (T95.setTop (mkF m 165 Lb96 [(.int (0 : Int32))])) _
     refine XS.istore X95.here hx rfl (hb hby at_165) rfl (l' := Lb97) rfl ?_
     refine sA X95 hx hby at_167 rfl rfl ?_
     refine st98.trans ?_
     refine si X98 hx hby at_171 rfl ?_
     refine sn X98 hx hby at_173 (by decide) ?_
     refine sc X98 hx hby at_176 ?_
     refine sg (pc := 177) (pc' := 181) X98 hx hby at_177 (by decide) (by decide) ?_
     exact retN X98 hx (t := .boolean) Bd.returns (by simp) (hb hby at_181) hr
   · show Q0 n0 _ T98.heap _
     rw [e98]
     exact ⟨rfl, N98⟩
  ·
   rw [hs62] at pre61
   obtain ⟨cl99, Ar99, cw99, S99, Nn99, Hs99, G99⟩ := id (V58)
   have hin99 : ¬ ((6 : Int32) < 0 ∨ cl99.slots.size ≤ ((6 : Int32)).toNatClampNeg) := inb_of S99 ⟨by decide, by decide⟩
   let Lb100 : Array Slot := #[.val (.int p0), .val (.ref b1), .val (.ref (w 6)), .unset, .unset]
   obtain ⟨cq101, kq101, q101a, q101b, q101c⟩ := isOf hZ e58 ((wd13 hW).ext O59.2)
   obtain ⟨_, _, ⟨T101, L101, kk101, nn101⟩, -, X101, ⟨Lc101, hQ101, l101, y101, z101⟩, st101⟩ := X58.virtualBack hx (y := ym0) (z := ym0) hown (mvT hZ (wk43 hw)) (mvT hZ (wk44 hw)) (notFace_of_selects (args := #[]) (mvT hZ (wk46 hw))) (mvT hZ (wk46 hw)) (mvT hZ (wk45 hw)) (by decide) (backOf (W := 0) (rm1_13 l Z a0 hw w hW []  h58 n0 O59 ) hZ (wk47 hw) (wk3 hw) (by decide) (by decide)) q101a q101c (g := (mkF m 144 Lb100 [(.ref (w 6))])) rfl (by rw [hml]; rfl) (Steps.refl _) (argsL := []) (rest := []) (lenOf pds_0 rfl) rfl (by show 2 * 0 + _ ≤ _; exact Nat.le_of_eq rfl) (hb hby at_144) (fun _ _ => ⟨rfl, e58, (by decide : 1 + 0 ≤ _), (by decide : 19 + 0 ≤ _)⟩)
   dsimp only [Pt.U, Pt.locs, Pt.cells, Pt.slots] at X101 l101 y101 z101 st101 hQ101
   rw [l101, y101, z101] at X101
   obtain ⟨rfl, N101q, e101⟩ := hQ101
   have N101 := Fr.app N58 N101q
   let Lb102 : Array Slot := #[.val (.int p0), .val (.ref b1), .val (.ref (w 6)), .val (.int (7 : Int32)), .unset]
   let Lb103 : Array Slot := #[.val (.int p0), .val (.ref b1), .val (.ref (w 6)), .val (.int (7 : Int32)), .val (.int (0 : Int32))]
   obtain ⟨cq104, kq104, q104a, q104b, q104c⟩ := isOf hZ e101 ((wd13 hW).ext O59.2)
   obtain ⟨_, _, ⟨T104, L104, kk104, nn104⟩, -, X104, ⟨Lc104, hQ104, l104, y104, z104⟩, st104⟩ := X101.virtualBack hx (y := ym1) (z := ym1) hown (mvT hZ (wk50 hw)) (mvT hZ (wk51 hw)) (notFace_of_selects (args := #[]) (mvT hZ (wk53 hw))) (mvT hZ (wk53 hw)) (mvT hZ (wk52 hw)) (by decide) (backOf (W := 0) (rm2_14 l Z a0 hw w hW []  h58 n0 O59 ) hZ (wk54 hw) (wk3 hw) (by decide) (by decide)) q104a q104c (g := (mkF m 168 Lb103 [(.ref (w 6))])) rfl (by rw [hml]; rfl) (Steps.refl _) (argsL := []) (rest := []) (lenOf pds_1 rfl) rfl (by show 2 * 0 + _ ≤ _; exact Nat.le_of_eq rfl) (hb hby at_168) (fun _ _ => ⟨rfl, e101, (by decide : 1 + 0 ≤ _), (by decide : 19 + 0 ≤ _)⟩)
   dsimp only [Pt.U, Pt.locs, Pt.cells, Pt.slots] at X104 l104 y104 z104 st104 hQ104
   rw [l104, y104, z104] at X104
   obtain ⟨rfl, N104q, e104⟩ := hQ104
   have N104 := Fr.app N101 N104q
   obtain ⟨fs, hr, hrun, hended, hWm, hsame⟩ := X104.leave (v := some (.int (1 : Int32))) (fun h => by rw [Bd.returns] at h; cases h)
   refine ⟨_, _, pre61 _ ?_, hrun, hended, _, _, rfl, ?_, ⟨_, rfl⟩, hWm, hsame.mono (by decide) (by decide)⟩
   · show Steps p.tables e below (T58.setTop (mkF m 141 Lb60 [(.int (6 : Int32)), (.ref b1)])) _
     refine X58.aaload hx (j := (6 : Int32)) (v := (.ref (w 6))) (by rw [e58]; exact Ar99.1) (State.isArrayOf_alike hZ.alike Ar99.2.1) rfl Ar99.2.2 hin99 (Hs99.at hin99 rfl) (g := (mkF m 141 Lb60 [(.int (6 : Int32)), (.ref b1)])) rfl rfl (hb hby at_141) _ ?_
     refine XS.astoreN X58.here hx rfl (hb hby at_142) rfl rfl (l' := Lb100) rfl ?_
     refine sA X58 hx hby at_143 rfl rfl ?_
     refine st101.trans ?_
     refine XS.istoreN X101.here hx rfl (hb hby at_147) rfl (l' := Lb102) rfl ?_
     refine sI X101 hx hby at_148 rfl ?_
     refine XS.bipush X101.here hx rfl (hb hby at_149) ?_
     refine XS.icmpYes X101.here hx rfl (pc0 := 151) (pc' := 164) rfl (hb hby at_151) rfl (by decide) (by decide) (by decide) ?_
     refine sc X101 hx hby at_164 ?_
     show Steps p.tables e below (T101.setTop (mkF m 165 Lb102 [(.int (0 : Int32))])) _
     refine XS.istore X101.here hx rfl (hb hby at_165) rfl (l' := Lb103) rfl ?_
     refine sA X101 hx hby at_167 rfl rfl ?_
     refine st104.trans ?_
     refine si X104 hx hby at_171 rfl ?_
     refine sn X104 hx hby at_173 (by decide) ?_
     refine sc X104 hx hby at_176 ?_
     refine sg (pc := 177) (pc' := 181) X104 hx hby at_177 (by decide) (by decide) ?_
     exact retN X104 hx (t := .boolean) Bd.returns (by simp) (hb hby at_181) hr
   · show Q0 n0 _ T104.heap _
     rw [e104]
     exact ⟨rfl, N104⟩
  ·
   rw [hs62] at pre61
   obtain ⟨cl105, Ar105, cw105, S105, Nn105, Hs105, G105⟩ := id (V58)
   have hin105 : ¬ ((7 : Int32) < 0 ∨ cl105.slots.size ≤ ((7 : Int32)).toNatClampNeg) := inb_of S105 ⟨by decide, by decide⟩
   let Lb106 : Array Slot := #[.val (.int p0), .val (.ref b1), .val (.ref (w 7)), .unset, .unset]
   obtain ⟨cq107, kq107, q107a, q107b, q107c⟩ := isOf hZ e58 ((wd15 hW).ext O59.2)
   obtain ⟨_, _, ⟨T107, L107, kk107, nn107⟩, -, X107, ⟨Lc107, hQ107, l107, y107, z107⟩, st107⟩ := X58.virtualBack hx (y := ym0) (z := ym0) hown (mvT hZ (wk43 hw)) (mvT hZ (wk44 hw)) (notFace_of_selects (args := #[]) (mvT hZ (wk46 hw))) (mvT hZ (wk46 hw)) (mvT hZ (wk45 hw)) (by decide) (backOf (W := 0) (rm1_15 l Z a0 hw w hW []  h58 n0 O59 ) hZ (wk47 hw) (wk3 hw) (by decide) (by decide)) q107a q107c (g := (mkF m 144 Lb106 [(.ref (w 7))])) rfl (by rw [hml]; rfl) (Steps.refl _) (argsL := []) (rest := []) (lenOf pds_0 rfl) rfl (by show 2 * 0 + _ ≤ _; exact Nat.le_of_eq rfl) (hb hby at_144) (fun _ _ => ⟨rfl, e58, (by decide : 1 + 0 ≤ _), (by decide : 19 + 0 ≤ _)⟩)
   dsimp only [Pt.U, Pt.locs, Pt.cells, Pt.slots] at X107 l107 y107 z107 st107 hQ107
   rw [l107, y107, z107] at X107
   obtain ⟨rfl, N107q, e107⟩ := hQ107
   have N107 := Fr.app N58 N107q
   let Lb108 : Array Slot := #[.val (.int p0), .val (.ref b1), .val (.ref (w 7)), .val (.int (8 : Int32)), .unset]
   let Lb109 : Array Slot := #[.val (.int p0), .val (.ref b1), .val (.ref (w 7)), .val (.int (8 : Int32)), .val (.int (0 : Int32))]
   obtain ⟨cq110, kq110, q110a, q110b, q110c⟩ := isOf hZ e107 ((wd15 hW).ext O59.2)
   obtain ⟨_, _, ⟨T110, L110, kk110, nn110⟩, -, X110, ⟨Lc110, hQ110, l110, y110, z110⟩, st110⟩ := X107.virtualBack hx (y := ym1) (z := ym1) hown (mvT hZ (wk50 hw)) (mvT hZ (wk51 hw)) (notFace_of_selects (args := #[]) (mvT hZ (wk53 hw))) (mvT hZ (wk53 hw)) (mvT hZ (wk52 hw)) (by decide) (backOf (W := 0) (rm2_16 l Z a0 hw w hW []  h58 n0 O59 ) hZ (wk54 hw) (wk3 hw) (by decide) (by decide)) q110a q110c (g := (mkF m 168 Lb109 [(.ref (w 7))])) rfl (by rw [hml]; rfl) (Steps.refl _) (argsL := []) (rest := []) (lenOf pds_1 rfl) rfl (by show 2 * 0 + _ ≤ _; exact Nat.le_of_eq rfl) (hb hby at_168) (fun _ _ => ⟨rfl, e107, (by decide : 1 + 0 ≤ _), (by decide : 19 + 0 ≤ _)⟩)
   dsimp only [Pt.U, Pt.locs, Pt.cells, Pt.slots] at X110 l110 y110 z110 st110 hQ110
   rw [l110, y110, z110] at X110
   obtain ⟨rfl, N110q, e110⟩ := hQ110
   have N110 := Fr.app N107 N110q
   obtain ⟨fs, hr, hrun, hended, hWm, hsame⟩ := X110.leave (v := some (.int (1 : Int32))) (fun h => by rw [Bd.returns] at h; cases h)
   refine ⟨_, _, pre61 _ ?_, hrun, hended, _, _, rfl, ?_, ⟨_, rfl⟩, hWm, hsame.mono (by decide) (by decide)⟩
   · show Steps p.tables e below (T58.setTop (mkF m 141 Lb60 [(.int (7 : Int32)), (.ref b1)])) _
     refine X58.aaload hx (j := (7 : Int32)) (v := (.ref (w 7))) (by rw [e58]; exact Ar105.1) (State.isArrayOf_alike hZ.alike Ar105.2.1) rfl Ar105.2.2 hin105 (Hs105.at hin105 rfl) (g := (mkF m 141 Lb60 [(.int (7 : Int32)), (.ref b1)])) rfl rfl (hb hby at_141) _ ?_
     refine XS.astoreN X58.here hx rfl (hb hby at_142) rfl rfl (l' := Lb106) rfl ?_
     refine sA X58 hx hby at_143 rfl rfl ?_
     refine st107.trans ?_
     refine XS.istoreN X107.here hx rfl (hb hby at_147) rfl (l' := Lb108) rfl ?_
     refine sI X107 hx hby at_148 rfl ?_
     refine XS.bipush X107.here hx rfl (hb hby at_149) ?_
     refine XS.icmpYes X107.here hx rfl (pc0 := 151) (pc' := 164) rfl (hb hby at_151) rfl (by decide) (by decide) (by decide) ?_
     refine sc X107 hx hby at_164 ?_
     show Steps p.tables e below (T107.setTop (mkF m 165 Lb108 [(.int (0 : Int32))])) _
     refine XS.istore X107.here hx rfl (hb hby at_165) rfl (l' := Lb109) rfl ?_
     refine sA X107 hx hby at_167 rfl rfl ?_
     refine st110.trans ?_
     refine si X110 hx hby at_171 rfl ?_
     refine sn X110 hx hby at_173 (by decide) ?_
     refine sc X110 hx hby at_176 ?_
     refine sg (pc := 177) (pc' := 181) X110 hx hby at_177 (by decide) (by decide) ?_
     exact retN X110 hx (t := .boolean) Bd.returns (by simp) (hb hby at_181) hr
   · show Q0 n0 _ T110.heap _
     rw [e110]
     exact ⟨rfl, N110⟩
  ·
   rw [hs62] at pre61
   obtain ⟨cl111, Ar111, cw111, S111, Nn111, Hs111, G111⟩ := id (V58)
   have hin111 : ¬ ((8 : Int32) < 0 ∨ cl111.slots.size ≤ ((8 : Int32)).toNatClampNeg) := inb_of S111 ⟨by decide, by decide⟩
   let Lb112 : Array Slot := #[.val (.int p0), .val (.ref b1), .val (.ref (w 8)), .unset, .unset]
   obtain ⟨cq113, kq113, q113a, q113b, q113c⟩ := isOf hZ e58 ((wd17 hW).ext O59.2)
   obtain ⟨_, _, ⟨T113, L113, kk113, nn113⟩, -, X113, ⟨Lc113, hQ113, l113, y113, z113⟩, st113⟩ := X58.virtualBack hx (y := ym0) (z := ym0) hown (mvT hZ (wk43 hw)) (mvT hZ (wk44 hw)) (notFace_of_selects (args := #[]) (mvT hZ (wk46 hw))) (mvT hZ (wk46 hw)) (mvT hZ (wk45 hw)) (by decide) (backOf (W := 0) (rm1_17 l Z a0 hw w hW []  h58 n0 O59 ) hZ (wk47 hw) (wk3 hw) (by decide) (by decide)) q113a q113c (g := (mkF m 144 Lb112 [(.ref (w 8))])) rfl (by rw [hml]; rfl) (Steps.refl _) (argsL := []) (rest := []) (lenOf pds_0 rfl) rfl (by show 2 * 0 + _ ≤ _; exact Nat.le_of_eq rfl) (hb hby at_144) (fun _ _ => ⟨rfl, e58, (by decide : 1 + 0 ≤ _), (by decide : 19 + 0 ≤ _)⟩)
   dsimp only [Pt.U, Pt.locs, Pt.cells, Pt.slots] at X113 l113 y113 z113 st113 hQ113
   rw [l113, y113, z113] at X113
   obtain ⟨rfl, N113q, e113⟩ := hQ113
   have N113 := Fr.app N58 N113q
   let Lb114 : Array Slot := #[.val (.int p0), .val (.ref b1), .val (.ref (w 8)), .val (.int (9 : Int32)), .unset]
   let Lb115 : Array Slot := #[.val (.int p0), .val (.ref b1), .val (.ref (w 8)), .val (.int (9 : Int32)), .val (.int (0 : Int32))]
   obtain ⟨cq116, kq116, q116a, q116b, q116c⟩ := isOf hZ e113 ((wd17 hW).ext O59.2)
   obtain ⟨_, _, ⟨T116, L116, kk116, nn116⟩, -, X116, ⟨Lc116, hQ116, l116, y116, z116⟩, st116⟩ := X113.virtualBack hx (y := ym1) (z := ym1) hown (mvT hZ (wk50 hw)) (mvT hZ (wk51 hw)) (notFace_of_selects (args := #[]) (mvT hZ (wk53 hw))) (mvT hZ (wk53 hw)) (mvT hZ (wk52 hw)) (by decide) (backOf (W := 0) (rm2_18 l Z a0 hw w hW []  h58 n0 O59 ) hZ (wk54 hw) (wk3 hw) (by decide) (by decide)) q116a q116c (g := (mkF m 168 Lb115 [(.ref (w 8))])) rfl (by rw [hml]; rfl) (Steps.refl _) (argsL := []) (rest := []) (lenOf pds_1 rfl) rfl (by show 2 * 0 + _ ≤ _; exact Nat.le_of_eq rfl) (hb hby at_168) (fun _ _ => ⟨rfl, e113, (by decide : 1 + 0 ≤ _), (by decide : 19 + 0 ≤ _)⟩)
   dsimp only [Pt.U, Pt.locs, Pt.cells, Pt.slots] at X116 l116 y116 z116 st116 hQ116
   rw [l116, y116, z116] at X116
   obtain ⟨rfl, N116q, e116⟩ := hQ116
   have N116 := Fr.app N113 N116q
   obtain ⟨fs, hr, hrun, hended, hWm, hsame⟩ := X116.leave (v := some (.int (1 : Int32))) (fun h => by rw [Bd.returns] at h; cases h)
   refine ⟨_, _, pre61 _ ?_, hrun, hended, _, _, rfl, ?_, ⟨_, rfl⟩, hWm, hsame.mono (by decide) (by decide)⟩
   · show Steps p.tables e below (T58.setTop (mkF m 141 Lb60 [(.int (8 : Int32)), (.ref b1)])) _
     refine X58.aaload hx (j := (8 : Int32)) (v := (.ref (w 8))) (by rw [e58]; exact Ar111.1) (State.isArrayOf_alike hZ.alike Ar111.2.1) rfl Ar111.2.2 hin111 (Hs111.at hin111 rfl) (g := (mkF m 141 Lb60 [(.int (8 : Int32)), (.ref b1)])) rfl rfl (hb hby at_141) _ ?_
     refine XS.astoreN X58.here hx rfl (hb hby at_142) rfl rfl (l' := Lb112) rfl ?_
     refine sA X58 hx hby at_143 rfl rfl ?_
     refine st113.trans ?_
     refine XS.istoreN X113.here hx rfl (hb hby at_147) rfl (l' := Lb114) rfl ?_
     refine sI X113 hx hby at_148 rfl ?_
     refine XS.bipush X113.here hx rfl (hb hby at_149) ?_
     refine XS.icmpYes X113.here hx rfl (pc0 := 151) (pc' := 164) rfl (hb hby at_151) rfl (by decide) (by decide) (by decide) ?_
     refine sc X113 hx hby at_164 ?_
     show Steps p.tables e below (T113.setTop (mkF m 165 Lb114 [(.int (0 : Int32))])) _
     refine XS.istore X113.here hx rfl (hb hby at_165) rfl (l' := Lb115) rfl ?_
     refine sA X113 hx hby at_167 rfl rfl ?_
     refine st116.trans ?_
     refine si X116 hx hby at_171 rfl ?_
     refine sn X116 hx hby at_173 (by decide) ?_
     refine sc X116 hx hby at_176 ?_
     refine sg (pc := 177) (pc' := 181) X116 hx hby at_177 (by decide) (by decide) ?_
     exact retN X116 hx (t := .boolean) Bd.returns (by simp) (hb hby at_181) hr
   · show Q0 n0 _ T116.heap _
     rw [e116]
     exact ⟨rfl, N116⟩
  ·
   rw [hs62] at pre61
   obtain ⟨cl117, Ar117, cw117, S117, Nn117, Hs117, G117⟩ := id (V58)
   have hin117 : ¬ ((9 : Int32) < 0 ∨ cl117.slots.size ≤ ((9 : Int32)).toNatClampNeg) := inb_of S117 ⟨by decide, by decide⟩
   let Lb118 : Array Slot := #[.val (.int p0), .val (.ref b1), .val (.ref (w 9)), .unset, .unset]
   obtain ⟨cq119, kq119, q119a, q119b, q119c⟩ := isOf hZ e58 ((wd19 hW).ext O59.2)
   obtain ⟨_, _, ⟨T119, L119, kk119, nn119⟩, -, X119, ⟨Lc119, hQ119, l119, y119, z119⟩, st119⟩ := X58.virtualBack hx (y := ym0) (z := ym0) hown (mvT hZ (wk43 hw)) (mvT hZ (wk44 hw)) (notFace_of_selects (args := #[]) (mvT hZ (wk46 hw))) (mvT hZ (wk46 hw)) (mvT hZ (wk45 hw)) (by decide) (backOf (W := 0) (rm1_19 l Z a0 hw w hW []  h58 n0 O59 ) hZ (wk47 hw) (wk3 hw) (by decide) (by decide)) q119a q119c (g := (mkF m 144 Lb118 [(.ref (w 9))])) rfl (by rw [hml]; rfl) (Steps.refl _) (argsL := []) (rest := []) (lenOf pds_0 rfl) rfl (by show 2 * 0 + _ ≤ _; exact Nat.le_of_eq rfl) (hb hby at_144) (fun _ _ => ⟨rfl, e58, (by decide : 1 + 0 ≤ _), (by decide : 19 + 0 ≤ _)⟩)
   dsimp only [Pt.U, Pt.locs, Pt.cells, Pt.slots] at X119 l119 y119 z119 st119 hQ119
   rw [l119, y119, z119] at X119
   obtain ⟨rfl, N119q, e119⟩ := hQ119
   have N119 := Fr.app N58 N119q
   let Lb120 : Array Slot := #[.val (.int p0), .val (.ref b1), .val (.ref (w 9)), .val (.int (10 : Int32)), .unset]
   let Lb121 : Array Slot := #[.val (.int p0), .val (.ref b1), .val (.ref (w 9)), .val (.int (10 : Int32)), .val (.int (0 : Int32))]
   obtain ⟨cq122, kq122, q122a, q122b, q122c⟩ := isOf hZ e119 ((wd19 hW).ext O59.2)
   obtain ⟨_, _, ⟨T122, L122, kk122, nn122⟩, -, X122, ⟨Lc122, hQ122, l122, y122, z122⟩, st122⟩ := X119.virtualBack hx (y := ym1) (z := ym1) hown (mvT hZ (wk50 hw)) (mvT hZ (wk51 hw)) (notFace_of_selects (args := #[]) (mvT hZ (wk53 hw))) (mvT hZ (wk53 hw)) (mvT hZ (wk52 hw)) (by decide) (backOf (W := 0) (rm2_20 l Z a0 hw w hW []  h58 n0 O59 ) hZ (wk54 hw) (wk3 hw) (by decide) (by decide)) q122a q122c (g := (mkF m 168 Lb121 [(.ref (w 9))])) rfl (by rw [hml]; rfl) (Steps.refl _) (argsL := []) (rest := []) (lenOf pds_1 rfl) rfl (by show 2 * 0 + _ ≤ _; exact Nat.le_of_eq rfl) (hb hby at_168) (fun _ _ => ⟨rfl, e119, (by decide : 1 + 0 ≤ _), (by decide : 19 + 0 ≤ _)⟩)
   dsimp only [Pt.U, Pt.locs, Pt.cells, Pt.slots] at X122 l122 y122 z122 st122 hQ122
   rw [l122, y122, z122] at X122
   obtain ⟨rfl, N122q, e122⟩ := hQ122
   have N122 := Fr.app N119 N122q
   obtain ⟨fs, hr, hrun, hended, hWm, hsame⟩ := X122.leave (v := some (.int (1 : Int32))) (fun h => by rw [Bd.returns] at h; cases h)
   refine ⟨_, _, pre61 _ ?_, hrun, hended, _, _, rfl, ?_, ⟨_, rfl⟩, hWm, hsame.mono (by decide) (by decide)⟩
   · show Steps p.tables e below (T58.setTop (mkF m 141 Lb60 [(.int (9 : Int32)), (.ref b1)])) _
     refine X58.aaload hx (j := (9 : Int32)) (v := (.ref (w 9))) (by rw [e58]; exact Ar117.1) (State.isArrayOf_alike hZ.alike Ar117.2.1) rfl Ar117.2.2 hin117 (Hs117.at hin117 rfl) (g := (mkF m 141 Lb60 [(.int (9 : Int32)), (.ref b1)])) rfl rfl (hb hby at_141) _ ?_
     refine XS.astoreN X58.here hx rfl (hb hby at_142) rfl rfl (l' := Lb118) rfl ?_
     refine sA X58 hx hby at_143 rfl rfl ?_
     refine st119.trans ?_
     refine XS.istoreN X119.here hx rfl (hb hby at_147) rfl (l' := Lb120) rfl ?_
     refine sI X119 hx hby at_148 rfl ?_
     refine XS.bipush X119.here hx rfl (hb hby at_149) ?_
     refine XS.icmpYes X119.here hx rfl (pc0 := 151) (pc' := 164) rfl (hb hby at_151) rfl (by decide) (by decide) (by decide) ?_
     refine sc X119 hx hby at_164 ?_
     show Steps p.tables e below (T119.setTop (mkF m 165 Lb120 [(.int (0 : Int32))])) _
     refine XS.istore X119.here hx rfl (hb hby at_165) rfl (l' := Lb121) rfl ?_
     refine sA X119 hx hby at_167 rfl rfl ?_
     refine st122.trans ?_
     refine si X122 hx hby at_171 rfl ?_
     refine sn X122 hx hby at_173 (by decide) ?_
     refine sc X122 hx hby at_176 ?_
     refine sg (pc := 177) (pc' := 181) X122 hx hby at_177 (by decide) (by decide) ?_
     exact retN X122 hx (t := .boolean) Bd.returns (by simp) (hb hby at_181) hr
   · show Q0 n0 _ T122.heap _
     rw [e122]
     exact ⟨rfl, N122⟩
  ·
   rw [hs62] at pre61
   obtain ⟨cl123, Ar123, cw123, S123, Nn123, Hs123, G123⟩ := id (V58)
   have hin123 : ¬ ((10 : Int32) < 0 ∨ cl123.slots.size ≤ ((10 : Int32)).toNatClampNeg) := inb_of S123 ⟨by decide, by decide⟩
   let Lb124 : Array Slot := #[.val (.int p0), .val (.ref b1), .val (.ref (w 10)), .unset, .unset]
   obtain ⟨cq125, kq125, q125a, q125b, q125c⟩ := isOf hZ e58 ((wd21 hW).ext O59.2)
   obtain ⟨_, _, ⟨T125, L125, kk125, nn125⟩, -, X125, ⟨Lc125, hQ125, l125, y125, z125⟩, st125⟩ := X58.virtualBack hx (y := ym0) (z := ym0) hown (mvT hZ (wk43 hw)) (mvT hZ (wk44 hw)) (notFace_of_selects (args := #[]) (mvT hZ (wk46 hw))) (mvT hZ (wk46 hw)) (mvT hZ (wk45 hw)) (by decide) (backOf (W := 0) (rm1_21 l Z a0 hw w hW []  h58 n0 O59 ) hZ (wk47 hw) (wk3 hw) (by decide) (by decide)) q125a q125c (g := (mkF m 144 Lb124 [(.ref (w 10))])) rfl (by rw [hml]; rfl) (Steps.refl _) (argsL := []) (rest := []) (lenOf pds_0 rfl) rfl (by show 2 * 0 + _ ≤ _; exact Nat.le_of_eq rfl) (hb hby at_144) (fun _ _ => ⟨rfl, e58, (by decide : 1 + 0 ≤ _), (by decide : 19 + 0 ≤ _)⟩)
   dsimp only [Pt.U, Pt.locs, Pt.cells, Pt.slots] at X125 l125 y125 z125 st125 hQ125
   rw [l125, y125, z125] at X125
   obtain ⟨rfl, N125q, e125⟩ := hQ125
   have N125 := Fr.app N58 N125q
   let Lb126 : Array Slot := #[.val (.int p0), .val (.ref b1), .val (.ref (w 10)), .val (.int (11 : Int32)), .unset]
   let Lb127 : Array Slot := #[.val (.int p0), .val (.ref b1), .val (.ref (w 10)), .val (.int (11 : Int32)), .val (.int (0 : Int32))]
   obtain ⟨cq128, kq128, q128a, q128b, q128c⟩ := isOf hZ e125 ((wd21 hW).ext O59.2)
   obtain ⟨_, _, ⟨T128, L128, kk128, nn128⟩, -, X128, ⟨Lc128, hQ128, l128, y128, z128⟩, st128⟩ := X125.virtualBack hx (y := ym1) (z := ym1) hown (mvT hZ (wk50 hw)) (mvT hZ (wk51 hw)) (notFace_of_selects (args := #[]) (mvT hZ (wk53 hw))) (mvT hZ (wk53 hw)) (mvT hZ (wk52 hw)) (by decide) (backOf (W := 0) (rm2_22 l Z a0 hw w hW []  h58 n0 O59 ) hZ (wk54 hw) (wk3 hw) (by decide) (by decide)) q128a q128c (g := (mkF m 168 Lb127 [(.ref (w 10))])) rfl (by rw [hml]; rfl) (Steps.refl _) (argsL := []) (rest := []) (lenOf pds_1 rfl) rfl (by show 2 * 0 + _ ≤ _; exact Nat.le_of_eq rfl) (hb hby at_168) (fun _ _ => ⟨rfl, e125, (by decide : 1 + 0 ≤ _), (by decide : 19 + 0 ≤ _)⟩)
   dsimp only [Pt.U, Pt.locs, Pt.cells, Pt.slots] at X128 l128 y128 z128 st128 hQ128
   rw [l128, y128, z128] at X128
   obtain ⟨rfl, N128q, e128⟩ := hQ128
   have N128 := Fr.app N125 N128q
   obtain ⟨fs, hr, hrun, hended, hWm, hsame⟩ := X128.leave (v := some (.int (1 : Int32))) (fun h => by rw [Bd.returns] at h; cases h)
   refine ⟨_, _, pre61 _ ?_, hrun, hended, _, _, rfl, ?_, ⟨_, rfl⟩, hWm, hsame.mono (by decide) (by decide)⟩
   · show Steps p.tables e below (T58.setTop (mkF m 141 Lb60 [(.int (10 : Int32)), (.ref b1)])) _
     refine X58.aaload hx (j := (10 : Int32)) (v := (.ref (w 10))) (by rw [e58]; exact Ar123.1) (State.isArrayOf_alike hZ.alike Ar123.2.1) rfl Ar123.2.2 hin123 (Hs123.at hin123 rfl) (g := (mkF m 141 Lb60 [(.int (10 : Int32)), (.ref b1)])) rfl rfl (hb hby at_141) _ ?_
     refine XS.astoreN X58.here hx rfl (hb hby at_142) rfl rfl (l' := Lb124) rfl ?_
     refine sA X58 hx hby at_143 rfl rfl ?_
     refine st125.trans ?_
     refine XS.istoreN X125.here hx rfl (hb hby at_147) rfl (l' := Lb126) rfl ?_
     refine sI X125 hx hby at_148 rfl ?_
     refine XS.bipush X125.here hx rfl (hb hby at_149) ?_
     refine XS.icmpYes X125.here hx rfl (pc0 := 151) (pc' := 164) rfl (hb hby at_151) rfl (by decide) (by decide) (by decide) ?_
     refine sc X125 hx hby at_164 ?_
     show Steps p.tables e below (T125.setTop (mkF m 165 Lb126 [(.int (0 : Int32))])) _
     refine XS.istore X125.here hx rfl (hb hby at_165) rfl (l' := Lb127) rfl ?_
     refine sA X125 hx hby at_167 rfl rfl ?_
     refine st128.trans ?_
     refine si X128 hx hby at_171 rfl ?_
     refine sn X128 hx hby at_173 (by decide) ?_
     refine sc X128 hx hby at_176 ?_
     refine sg (pc := 177) (pc' := 181) X128 hx hby at_177 (by decide) (by decide) ?_
     exact retN X128 hx (t := .boolean) Bd.returns (by simp) (hb hby at_181) hr
   · show Q0 n0 _ T128.heap _
     rw [e128]
     exact ⟨rfl, N128⟩
  ·
   rw [hs62] at pre61
   obtain ⟨cl129, Ar129, cw129, S129, Nn129, Hs129, G129⟩ := id (V58)
   have hin129 : ¬ ((11 : Int32) < 0 ∨ cl129.slots.size ≤ ((11 : Int32)).toNatClampNeg) := inb_of S129 ⟨by decide, by decide⟩
   let Lb130 : Array Slot := #[.val (.int p0), .val (.ref b1), .val (.ref (w 11)), .unset, .unset]
   obtain ⟨cq131, kq131, q131a, q131b, q131c⟩ := isOf hZ e58 ((wd23 hW).ext O59.2)
   obtain ⟨_, _, ⟨T131, L131, kk131, nn131⟩, -, X131, ⟨Lc131, hQ131, l131, y131, z131⟩, st131⟩ := X58.virtualBack hx (y := ym0) (z := ym0) hown (mvT hZ (wk43 hw)) (mvT hZ (wk44 hw)) (notFace_of_selects (args := #[]) (mvT hZ (wk46 hw))) (mvT hZ (wk46 hw)) (mvT hZ (wk45 hw)) (by decide) (backOf (W := 0) (rm1_23 l Z a0 hw w hW []  h58 n0 O59 ) hZ (wk47 hw) (wk3 hw) (by decide) (by decide)) q131a q131c (g := (mkF m 144 Lb130 [(.ref (w 11))])) rfl (by rw [hml]; rfl) (Steps.refl _) (argsL := []) (rest := []) (lenOf pds_0 rfl) rfl (by show 2 * 0 + _ ≤ _; exact Nat.le_of_eq rfl) (hb hby at_144) (fun _ _ => ⟨rfl, e58, (by decide : 1 + 0 ≤ _), (by decide : 19 + 0 ≤ _)⟩)
   dsimp only [Pt.U, Pt.locs, Pt.cells, Pt.slots] at X131 l131 y131 z131 st131 hQ131
   rw [l131, y131, z131] at X131
   obtain ⟨rfl, N131q, e131⟩ := hQ131
   have N131 := Fr.app N58 N131q
   let Lb132 : Array Slot := #[.val (.int p0), .val (.ref b1), .val (.ref (w 11)), .val (.int (12 : Int32)), .unset]
   let Lb133 : Array Slot := #[.val (.int p0), .val (.ref b1), .val (.ref (w 11)), .val (.int (12 : Int32)), .val (.int (0 : Int32))]
   obtain ⟨cq134, kq134, q134a, q134b, q134c⟩ := isOf hZ e131 ((wd23 hW).ext O59.2)
   obtain ⟨_, _, ⟨T134, L134, kk134, nn134⟩, -, X134, ⟨Lc134, hQ134, l134, y134, z134⟩, st134⟩ := X131.virtualBack hx (y := ym1) (z := ym1) hown (mvT hZ (wk50 hw)) (mvT hZ (wk51 hw)) (notFace_of_selects (args := #[]) (mvT hZ (wk53 hw))) (mvT hZ (wk53 hw)) (mvT hZ (wk52 hw)) (by decide) (backOf (W := 0) (rm2_24 l Z a0 hw w hW []  h58 n0 O59 ) hZ (wk54 hw) (wk3 hw) (by decide) (by decide)) q134a q134c (g := (mkF m 168 Lb133 [(.ref (w 11))])) rfl (by rw [hml]; rfl) (Steps.refl _) (argsL := []) (rest := []) (lenOf pds_1 rfl) rfl (by show 2 * 0 + _ ≤ _; exact Nat.le_of_eq rfl) (hb hby at_168) (fun _ _ => ⟨rfl, e131, (by decide : 1 + 0 ≤ _), (by decide : 19 + 0 ≤ _)⟩)
   dsimp only [Pt.U, Pt.locs, Pt.cells, Pt.slots] at X134 l134 y134 z134 st134 hQ134
   rw [l134, y134, z134] at X134
   obtain ⟨rfl, N134q, e134⟩ := hQ134
   have N134 := Fr.app N131 N134q
   obtain ⟨fs, hr, hrun, hended, hWm, hsame⟩ := X134.leave (v := some (.int (1 : Int32))) (fun h => by rw [Bd.returns] at h; cases h)
   refine ⟨_, _, pre61 _ ?_, hrun, hended, _, _, rfl, ?_, ⟨_, rfl⟩, hWm, hsame.mono (by decide) (by decide)⟩
   · show Steps p.tables e below (T58.setTop (mkF m 141 Lb60 [(.int (11 : Int32)), (.ref b1)])) _
     refine X58.aaload hx (j := (11 : Int32)) (v := (.ref (w 11))) (by rw [e58]; exact Ar129.1) (State.isArrayOf_alike hZ.alike Ar129.2.1) rfl Ar129.2.2 hin129 (Hs129.at hin129 rfl) (g := (mkF m 141 Lb60 [(.int (11 : Int32)), (.ref b1)])) rfl rfl (hb hby at_141) _ ?_
     refine XS.astoreN X58.here hx rfl (hb hby at_142) rfl rfl (l' := Lb130) rfl ?_
     refine sA X58 hx hby at_143 rfl rfl ?_
     refine st131.trans ?_
     refine XS.istoreN X131.here hx rfl (hb hby at_147) rfl (l' := Lb132) rfl ?_
     refine sI X131 hx hby at_148 rfl ?_
     refine XS.bipush X131.here hx rfl (hb hby at_149) ?_
     refine XS.icmpYes X131.here hx rfl (pc0 := 151) (pc' := 164) rfl (hb hby at_151) rfl (by decide) (by decide) (by decide) ?_
     refine sc X131 hx hby at_164 ?_
     show Steps p.tables e below (T131.setTop (mkF m 165 Lb132 [(.int (0 : Int32))])) _
     refine XS.istore X131.here hx rfl (hb hby at_165) rfl (l' := Lb133) rfl ?_
     refine sA X131 hx hby at_167 rfl rfl ?_
     refine st134.trans ?_
     refine si X134 hx hby at_171 rfl ?_
     refine sn X134 hx hby at_173 (by decide) ?_
     refine sc X134 hx hby at_176 ?_
     refine sg (pc := 177) (pc' := 181) X134 hx hby at_177 (by decide) (by decide) ?_
     exact retN X134 hx (t := .boolean) Bd.returns (by simp) (hb hby at_181) hr
   · show Q0 n0 _ T134.heap _
     rw [e134]
     exact ⟨rfl, N134⟩
  ·
   rw [hs62] at pre61
   obtain ⟨cl135, Ar135, cw135, S135, Nn135, Hs135, G135⟩ := id (V58)
   have hin135 : ¬ ((12 : Int32) < 0 ∨ cl135.slots.size ≤ ((12 : Int32)).toNatClampNeg) := inb_of S135 ⟨by decide, by decide⟩
   let Lb136 : Array Slot := #[.val (.int p0), .val (.ref b1), .val (.ref (w 12)), .unset, .unset]
   obtain ⟨cq137, kq137, q137a, q137b, q137c⟩ := isOf hZ e58 ((wd25 hW).ext O59.2)
   obtain ⟨_, _, ⟨T137, L137, kk137, nn137⟩, -, X137, ⟨Lc137, hQ137, l137, y137, z137⟩, st137⟩ := X58.virtualBack hx (y := ym0) (z := ym0) hown (mvT hZ (wk43 hw)) (mvT hZ (wk44 hw)) (notFace_of_selects (args := #[]) (mvT hZ (wk46 hw))) (mvT hZ (wk46 hw)) (mvT hZ (wk45 hw)) (by decide) (backOf (W := 0) (rm1_25 l Z a0 hw w hW []  h58 n0 O59 ) hZ (wk47 hw) (wk3 hw) (by decide) (by decide)) q137a q137c (g := (mkF m 144 Lb136 [(.ref (w 12))])) rfl (by rw [hml]; rfl) (Steps.refl _) (argsL := []) (rest := []) (lenOf pds_0 rfl) rfl (by show 2 * 0 + _ ≤ _; exact Nat.le_of_eq rfl) (hb hby at_144) (fun _ _ => ⟨rfl, e58, (by decide : 1 + 0 ≤ _), (by decide : 19 + 0 ≤ _)⟩)
   dsimp only [Pt.U, Pt.locs, Pt.cells, Pt.slots] at X137 l137 y137 z137 st137 hQ137
   rw [l137, y137, z137] at X137
   obtain ⟨rfl, N137q, e137⟩ := hQ137
   have N137 := Fr.app N58 N137q
   let Lb138 : Array Slot := #[.val (.int p0), .val (.ref b1), .val (.ref (w 12)), .val (.int (13 : Int32)), .unset]
   let Lb139 : Array Slot := #[.val (.int p0), .val (.ref b1), .val (.ref (w 12)), .val (.int (13 : Int32)), .val (.int (0 : Int32))]
   obtain ⟨cq140, kq140, q140a, q140b, q140c⟩ := isOf hZ e137 ((wd25 hW).ext O59.2)
   obtain ⟨_, _, ⟨T140, L140, kk140, nn140⟩, -, X140, ⟨Lc140, hQ140, l140, y140, z140⟩, st140⟩ := X137.virtualBack hx (y := ym1) (z := ym1) hown (mvT hZ (wk50 hw)) (mvT hZ (wk51 hw)) (notFace_of_selects (args := #[]) (mvT hZ (wk53 hw))) (mvT hZ (wk53 hw)) (mvT hZ (wk52 hw)) (by decide) (backOf (W := 0) (rm2_26 l Z a0 hw w hW []  h58 n0 O59 ) hZ (wk54 hw) (wk3 hw) (by decide) (by decide)) q140a q140c (g := (mkF m 168 Lb139 [(.ref (w 12))])) rfl (by rw [hml]; rfl) (Steps.refl _) (argsL := []) (rest := []) (lenOf pds_1 rfl) rfl (by show 2 * 0 + _ ≤ _; exact Nat.le_of_eq rfl) (hb hby at_168) (fun _ _ => ⟨rfl, e137, (by decide : 1 + 0 ≤ _), (by decide : 19 + 0 ≤ _)⟩)
   dsimp only [Pt.U, Pt.locs, Pt.cells, Pt.slots] at X140 l140 y140 z140 st140 hQ140
   rw [l140, y140, z140] at X140
   obtain ⟨rfl, N140q, e140⟩ := hQ140
   have N140 := Fr.app N137 N140q
   obtain ⟨fs, hr, hrun, hended, hWm, hsame⟩ := X140.leave (v := some (.int (1 : Int32))) (fun h => by rw [Bd.returns] at h; cases h)
   refine ⟨_, _, pre61 _ ?_, hrun, hended, _, _, rfl, ?_, ⟨_, rfl⟩, hWm, hsame.mono (by decide) (by decide)⟩
   · show Steps p.tables e below (T58.setTop (mkF m 141 Lb60 [(.int (12 : Int32)), (.ref b1)])) _
     refine X58.aaload hx (j := (12 : Int32)) (v := (.ref (w 12))) (by rw [e58]; exact Ar135.1) (State.isArrayOf_alike hZ.alike Ar135.2.1) rfl Ar135.2.2 hin135 (Hs135.at hin135 rfl) (g := (mkF m 141 Lb60 [(.int (12 : Int32)), (.ref b1)])) rfl rfl (hb hby at_141) _ ?_
     refine XS.astoreN X58.here hx rfl (hb hby at_142) rfl rfl (l' := Lb136) rfl ?_
     refine sA X58 hx hby at_143 rfl rfl ?_
     refine st137.trans ?_
     refine XS.istoreN X137.here hx rfl (hb hby at_147) rfl (l' := Lb138) rfl ?_
     refine sI X137 hx hby at_148 rfl ?_
     refine XS.bipush X137.here hx rfl (hb hby at_149) ?_
     refine XS.icmpYes X137.here hx rfl (pc0 := 151) (pc' := 164) rfl (hb hby at_151) rfl (by decide) (by decide) (by decide) ?_
     refine sc X137 hx hby at_164 ?_
     show Steps p.tables e below (T137.setTop (mkF m 165 Lb138 [(.int (0 : Int32))])) _
     refine XS.istore X137.here hx rfl (hb hby at_165) rfl (l' := Lb139) rfl ?_
     refine sA X137 hx hby at_167 rfl rfl ?_
     refine st140.trans ?_
     refine si X140 hx hby at_171 rfl ?_
     refine sn X140 hx hby at_173 (by decide) ?_
     refine sc X140 hx hby at_176 ?_
     refine sg (pc := 177) (pc' := 181) X140 hx hby at_177 (by decide) (by decide) ?_
     exact retN X140 hx (t := .boolean) Bd.returns (by simp) (hb hby at_181) hr
   · show Q0 n0 _ T140.heap _
     rw [e140]
     exact ⟨rfl, N140⟩
  ·
   rw [hs62] at pre61
   obtain ⟨cl141, Ar141, cw141, S141, Nn141, Hs141, G141⟩ := id (V58)
   have hin141 : ¬ ((13 : Int32) < 0 ∨ cl141.slots.size ≤ ((13 : Int32)).toNatClampNeg) := inb_of S141 ⟨by decide, by decide⟩
   let Lb142 : Array Slot := #[.val (.int p0), .val (.ref b1), .val (.ref (w 13)), .unset, .unset]
   obtain ⟨cq143, kq143, q143a, q143b, q143c⟩ := isOf hZ e58 ((wd27 hW).ext O59.2)
   obtain ⟨_, _, ⟨T143, L143, kk143, nn143⟩, -, X143, ⟨Lc143, hQ143, l143, y143, z143⟩, st143⟩ := X58.virtualBack hx (y := ym0) (z := ym0) hown (mvT hZ (wk43 hw)) (mvT hZ (wk44 hw)) (notFace_of_selects (args := #[]) (mvT hZ (wk46 hw))) (mvT hZ (wk46 hw)) (mvT hZ (wk45 hw)) (by decide) (backOf (W := 0) (rm1_27 l Z a0 hw w hW []  h58 n0 O59 ) hZ (wk47 hw) (wk3 hw) (by decide) (by decide)) q143a q143c (g := (mkF m 144 Lb142 [(.ref (w 13))])) rfl (by rw [hml]; rfl) (Steps.refl _) (argsL := []) (rest := []) (lenOf pds_0 rfl) rfl (by show 2 * 0 + _ ≤ _; exact Nat.le_of_eq rfl) (hb hby at_144) (fun _ _ => ⟨rfl, e58, (by decide : 1 + 0 ≤ _), (by decide : 19 + 0 ≤ _)⟩)
   dsimp only [Pt.U, Pt.locs, Pt.cells, Pt.slots] at X143 l143 y143 z143 st143 hQ143
   rw [l143, y143, z143] at X143
   obtain ⟨rfl, N143q, e143⟩ := hQ143
   have N143 := Fr.app N58 N143q
   let Lb144 : Array Slot := #[.val (.int p0), .val (.ref b1), .val (.ref (w 13)), .val (.int (14 : Int32)), .unset]
   let Lb145 : Array Slot := #[.val (.int p0), .val (.ref b1), .val (.ref (w 13)), .val (.int (14 : Int32)), .val (.int (0 : Int32))]
   obtain ⟨cq146, kq146, q146a, q146b, q146c⟩ := isOf hZ e143 ((wd27 hW).ext O59.2)
   obtain ⟨_, _, ⟨T146, L146, kk146, nn146⟩, -, X146, ⟨Lc146, hQ146, l146, y146, z146⟩, st146⟩ := X143.virtualBack hx (y := ym1) (z := ym1) hown (mvT hZ (wk50 hw)) (mvT hZ (wk51 hw)) (notFace_of_selects (args := #[]) (mvT hZ (wk53 hw))) (mvT hZ (wk53 hw)) (mvT hZ (wk52 hw)) (by decide) (backOf (W := 0) (rm2_28 l Z a0 hw w hW []  h58 n0 O59 ) hZ (wk54 hw) (wk3 hw) (by decide) (by decide)) q146a q146c (g := (mkF m 168 Lb145 [(.ref (w 13))])) rfl (by rw [hml]; rfl) (Steps.refl _) (argsL := []) (rest := []) (lenOf pds_1 rfl) rfl (by show 2 * 0 + _ ≤ _; exact Nat.le_of_eq rfl) (hb hby at_168) (fun _ _ => ⟨rfl, e143, (by decide : 1 + 0 ≤ _), (by decide : 19 + 0 ≤ _)⟩)
   dsimp only [Pt.U, Pt.locs, Pt.cells, Pt.slots] at X146 l146 y146 z146 st146 hQ146
   rw [l146, y146, z146] at X146
   obtain ⟨rfl, N146q, e146⟩ := hQ146
   have N146 := Fr.app N143 N146q
   obtain ⟨fs, hr, hrun, hended, hWm, hsame⟩ := X146.leave (v := some (.int (1 : Int32))) (fun h => by rw [Bd.returns] at h; cases h)
   refine ⟨_, _, pre61 _ ?_, hrun, hended, _, _, rfl, ?_, ⟨_, rfl⟩, hWm, hsame.mono (by decide) (by decide)⟩
   · show Steps p.tables e below (T58.setTop (mkF m 141 Lb60 [(.int (13 : Int32)), (.ref b1)])) _
     refine X58.aaload hx (j := (13 : Int32)) (v := (.ref (w 13))) (by rw [e58]; exact Ar141.1) (State.isArrayOf_alike hZ.alike Ar141.2.1) rfl Ar141.2.2 hin141 (Hs141.at hin141 rfl) (g := (mkF m 141 Lb60 [(.int (13 : Int32)), (.ref b1)])) rfl rfl (hb hby at_141) _ ?_
     refine XS.astoreN X58.here hx rfl (hb hby at_142) rfl rfl (l' := Lb142) rfl ?_
     refine sA X58 hx hby at_143 rfl rfl ?_
     refine st143.trans ?_
     refine XS.istoreN X143.here hx rfl (hb hby at_147) rfl (l' := Lb144) rfl ?_
     refine sI X143 hx hby at_148 rfl ?_
     refine XS.bipush X143.here hx rfl (hb hby at_149) ?_
     refine XS.icmpYes X143.here hx rfl (pc0 := 151) (pc' := 164) rfl (hb hby at_151) rfl (by decide) (by decide) (by decide) ?_
     refine sc X143 hx hby at_164 ?_
     show Steps p.tables e below (T143.setTop (mkF m 165 Lb144 [(.int (0 : Int32))])) _
     refine XS.istore X143.here hx rfl (hb hby at_165) rfl (l' := Lb145) rfl ?_
     refine sA X143 hx hby at_167 rfl rfl ?_
     refine st146.trans ?_
     refine si X146 hx hby at_171 rfl ?_
     refine sn X146 hx hby at_173 (by decide) ?_
     refine sc X146 hx hby at_176 ?_
     refine sg (pc := 177) (pc' := 181) X146 hx hby at_177 (by decide) (by decide) ?_
     exact retN X146 hx (t := .boolean) Bd.returns (by simp) (hb hby at_181) hr
   · show Q0 n0 _ T146.heap _
     rw [e146]
     exact ⟨rfl, N146⟩
  ·
   rw [hs62] at pre61
   obtain ⟨cl147, Ar147, cw147, S147, Nn147, Hs147, G147⟩ := id (V58)
   have hin147 : ¬ ((14 : Int32) < 0 ∨ cl147.slots.size ≤ ((14 : Int32)).toNatClampNeg) := inb_of S147 ⟨by decide, by decide⟩
   let Lb148 : Array Slot := #[.val (.int p0), .val (.ref b1), .val (.ref (w 14)), .unset, .unset]
   obtain ⟨cq149, kq149, q149a, q149b, q149c⟩ := isOf hZ e58 ((wd29 hW).ext O59.2)
   obtain ⟨_, _, ⟨T149, L149, kk149, nn149⟩, -, X149, ⟨Lc149, hQ149, l149, y149, z149⟩, st149⟩ := X58.virtualBack hx (y := ym0) (z := ym0) hown (mvT hZ (wk43 hw)) (mvT hZ (wk44 hw)) (notFace_of_selects (args := #[]) (mvT hZ (wk46 hw))) (mvT hZ (wk46 hw)) (mvT hZ (wk45 hw)) (by decide) (backOf (W := 0) (rm1_29 l Z a0 hw w hW []  h58 n0 O59 ) hZ (wk47 hw) (wk3 hw) (by decide) (by decide)) q149a q149c (g := (mkF m 144 Lb148 [(.ref (w 14))])) rfl (by rw [hml]; rfl) (Steps.refl _) (argsL := []) (rest := []) (lenOf pds_0 rfl) rfl (by show 2 * 0 + _ ≤ _; exact Nat.le_of_eq rfl) (hb hby at_144) (fun _ _ => ⟨rfl, e58, (by decide : 1 + 0 ≤ _), (by decide : 19 + 0 ≤ _)⟩)
   dsimp only [Pt.U, Pt.locs, Pt.cells, Pt.slots] at X149 l149 y149 z149 st149 hQ149
   rw [l149, y149, z149] at X149
   obtain ⟨rfl, N149q, e149⟩ := hQ149
   have N149 := Fr.app N58 N149q
   let Lb150 : Array Slot := #[.val (.int p0), .val (.ref b1), .val (.ref (w 14)), .val (.int (15 : Int32)), .unset]
   let Lb151 : Array Slot := #[.val (.int p0), .val (.ref b1), .val (.ref (w 14)), .val (.int (15 : Int32)), .val (.int (0 : Int32))]
   obtain ⟨cq152, kq152, q152a, q152b, q152c⟩ := isOf hZ e149 ((wd29 hW).ext O59.2)
   obtain ⟨_, _, ⟨T152, L152, kk152, nn152⟩, -, X152, ⟨Lc152, hQ152, l152, y152, z152⟩, st152⟩ := X149.virtualBack hx (y := ym1) (z := ym1) hown (mvT hZ (wk50 hw)) (mvT hZ (wk51 hw)) (notFace_of_selects (args := #[]) (mvT hZ (wk53 hw))) (mvT hZ (wk53 hw)) (mvT hZ (wk52 hw)) (by decide) (backOf (W := 0) (rm2_30 l Z a0 hw w hW []  h58 n0 O59 ) hZ (wk54 hw) (wk3 hw) (by decide) (by decide)) q152a q152c (g := (mkF m 168 Lb151 [(.ref (w 14))])) rfl (by rw [hml]; rfl) (Steps.refl _) (argsL := []) (rest := []) (lenOf pds_1 rfl) rfl (by show 2 * 0 + _ ≤ _; exact Nat.le_of_eq rfl) (hb hby at_168) (fun _ _ => ⟨rfl, e149, (by decide : 1 + 0 ≤ _), (by decide : 19 + 0 ≤ _)⟩)
   dsimp only [Pt.U, Pt.locs, Pt.cells, Pt.slots] at X152 l152 y152 z152 st152 hQ152
   rw [l152, y152, z152] at X152
   obtain ⟨rfl, N152q, e152⟩ := hQ152
   have N152 := Fr.app N149 N152q
   obtain ⟨fs, hr, hrun, hended, hWm, hsame⟩ := X152.leave (v := some (.int (1 : Int32))) (fun h => by rw [Bd.returns] at h; cases h)
   refine ⟨_, _, pre61 _ ?_, hrun, hended, _, _, rfl, ?_, ⟨_, rfl⟩, hWm, hsame.mono (by decide) (by decide)⟩
   · show Steps p.tables e below (T58.setTop (mkF m 141 Lb60 [(.int (14 : Int32)), (.ref b1)])) _
     refine X58.aaload hx (j := (14 : Int32)) (v := (.ref (w 14))) (by rw [e58]; exact Ar147.1) (State.isArrayOf_alike hZ.alike Ar147.2.1) rfl Ar147.2.2 hin147 (Hs147.at hin147 rfl) (g := (mkF m 141 Lb60 [(.int (14 : Int32)), (.ref b1)])) rfl rfl (hb hby at_141) _ ?_
     refine XS.astoreN X58.here hx rfl (hb hby at_142) rfl rfl (l' := Lb148) rfl ?_
     refine sA X58 hx hby at_143 rfl rfl ?_
     refine st149.trans ?_
     refine XS.istoreN X149.here hx rfl (hb hby at_147) rfl (l' := Lb150) rfl ?_
     refine sI X149 hx hby at_148 rfl ?_
     refine XS.bipush X149.here hx rfl (hb hby at_149) ?_
     refine XS.icmpYes X149.here hx rfl (pc0 := 151) (pc' := 164) rfl (hb hby at_151) rfl (by decide) (by decide) (by decide) ?_
     refine sc X149 hx hby at_164 ?_
     show Steps p.tables e below (T149.setTop (mkF m 165 Lb150 [(.int (0 : Int32))])) _
     refine XS.istore X149.here hx rfl (hb hby at_165) rfl (l' := Lb151) rfl ?_
     refine sA X149 hx hby at_167 rfl rfl ?_
     refine st152.trans ?_
     refine si X152 hx hby at_171 rfl ?_
     refine sn X152 hx hby at_173 (by decide) ?_
     refine sc X152 hx hby at_176 ?_
     refine sg (pc := 177) (pc' := 181) X152 hx hby at_177 (by decide) (by decide) ?_
     exact retN X152 hx (t := .boolean) Bd.returns (by simp) (hb hby at_181) hr
   · show Q0 n0 _ T152.heap _
     rw [e152]
     exact ⟨rfl, N152⟩
  ·
   rw [hs62] at pre61
   obtain ⟨cl153, Ar153, cw153, S153, Nn153, Hs153, G153⟩ := id (V58)
   have hin153 : ¬ ((15 : Int32) < 0 ∨ cl153.slots.size ≤ ((15 : Int32)).toNatClampNeg) := inb_of S153 ⟨by decide, by decide⟩
   let Lb154 : Array Slot := #[.val (.int p0), .val (.ref b1), .val (.ref (w 15)), .unset, .unset]
   obtain ⟨cq155, kq155, q155a, q155b, q155c⟩ := isOf hZ e58 ((wd31 hW).ext O59.2)
   obtain ⟨_, _, ⟨T155, L155, kk155, nn155⟩, -, X155, ⟨Lc155, hQ155, l155, y155, z155⟩, st155⟩ := X58.virtualBack hx (y := ym0) (z := ym0) hown (mvT hZ (wk43 hw)) (mvT hZ (wk44 hw)) (notFace_of_selects (args := #[]) (mvT hZ (wk46 hw))) (mvT hZ (wk46 hw)) (mvT hZ (wk45 hw)) (by decide) (backOf (W := 0) (rm1_31 l Z a0 hw w hW []  h58 n0 O59 ) hZ (wk47 hw) (wk3 hw) (by decide) (by decide)) q155a q155c (g := (mkF m 144 Lb154 [(.ref (w 15))])) rfl (by rw [hml]; rfl) (Steps.refl _) (argsL := []) (rest := []) (lenOf pds_0 rfl) rfl (by show 2 * 0 + _ ≤ _; exact Nat.le_of_eq rfl) (hb hby at_144) (fun _ _ => ⟨rfl, e58, (by decide : 1 + 0 ≤ _), (by decide : 19 + 0 ≤ _)⟩)
   dsimp only [Pt.U, Pt.locs, Pt.cells, Pt.slots] at X155 l155 y155 z155 st155 hQ155
   rw [l155, y155, z155] at X155
   obtain ⟨rfl, N155q, e155⟩ := hQ155
   have N155 := Fr.app N58 N155q
   let Lb156 : Array Slot := #[.val (.int p0), .val (.ref b1), .val (.ref (w 15)), .val (.int (16 : Int32)), .unset]
   let Lb157 : Array Slot := #[.val (.int p0), .val (.ref b1), .val (.ref (w 15)), .val (.int (16 : Int32)), .val (.int (1 : Int32))]
   obtain ⟨cq158, kq158, q158a, q158b, q158c⟩ := isOf hZ e155 ((wd31 hW).ext O59.2)
   obtain ⟨_, _, ⟨T158, L158, kk158, nn158⟩, -, X158, ⟨Lc158, hQ158, l158, y158, z158⟩, st158⟩ := X155.virtualBack hx (y := ym1) (z := ym1) hown (mvT hZ (wk50 hw)) (mvT hZ (wk51 hw)) (notFace_of_selects (args := #[]) (mvT hZ (wk53 hw))) (mvT hZ (wk53 hw)) (mvT hZ (wk52 hw)) (by decide) (backOf (W := 0) (rm2_32 l Z a0 hw w hW []  h58 n0 O59 ) hZ (wk54 hw) (wk3 hw) (by decide) (by decide)) q158a q158c (g := (mkF m 168 Lb157 [(.ref (w 15))])) rfl (by rw [hml]; rfl) (Steps.refl _) (argsL := []) (rest := []) (lenOf pds_1 rfl) rfl (by show 2 * 0 + _ ≤ _; exact Nat.le_of_eq rfl) (hb hby at_168) (fun _ _ => ⟨rfl, e155, (by decide : 1 + 0 ≤ _), (by decide : 19 + 0 ≤ _)⟩)
   dsimp only [Pt.U, Pt.locs, Pt.cells, Pt.slots] at X158 l158 y158 z158 st158 hQ158
   rw [l158, y158, z158] at X158
   obtain ⟨rfl, N158q, e158⟩ := hQ158
   have N158 := Fr.app N155 N158q
   obtain ⟨fs, hr, hrun, hended, hWm, hsame⟩ := X158.leave (v := some (.int (1 : Int32))) (fun h => by rw [Bd.returns] at h; cases h)
   refine ⟨_, _, pre61 _ ?_, hrun, hended, _, _, rfl, ?_, ⟨_, rfl⟩, hWm, hsame.mono (by decide) (by decide)⟩
   · show Steps p.tables e below (T58.setTop (mkF m 141 Lb60 [(.int (15 : Int32)), (.ref b1)])) _
     refine X58.aaload hx (j := (15 : Int32)) (v := (.ref (w 15))) (by rw [e58]; exact Ar153.1) (State.isArrayOf_alike hZ.alike Ar153.2.1) rfl Ar153.2.2 hin153 (Hs153.at hin153 rfl) (g := (mkF m 141 Lb60 [(.int (15 : Int32)), (.ref b1)])) rfl rfl (hb hby at_141) _ ?_
     refine XS.astoreN X58.here hx rfl (hb hby at_142) rfl rfl (l' := Lb154) rfl ?_
     refine sA X58 hx hby at_143 rfl rfl ?_
     refine st155.trans ?_
     refine XS.istoreN X155.here hx rfl (hb hby at_147) rfl (l' := Lb156) rfl ?_
     refine sI X155 hx hby at_148 rfl ?_
     refine XS.bipush X155.here hx rfl (hb hby at_149) ?_
     refine sn X155 hx hby at_151 (by decide) ?_
     refine sI X155 hx hby at_154 rfl ?_
     show Steps p.tables e below (T155.setTop (mkF m 155 Lb156 [(.int (16 : Int32))])) _
     refine XS.bipush X155.here hx rfl (hb hby at_155) ?_
     refine sn X155 hx hby at_157 (by decide) ?_
     refine sc X155 hx hby at_160 ?_
     refine sg (pc := 161) (pc' := 165) X155 hx hby at_161 (by decide) (by decide) ?_
     refine XS.istore X155.here hx rfl (hb hby at_165) rfl (l' := Lb157) rfl ?_
     show Steps p.tables e below (T155.setTop (mkF m 167 Lb157 [])) _
     refine sA X155 hx hby at_167 rfl rfl ?_
     refine st158.trans ?_
     refine si X158 hx hby at_171 rfl ?_
     refine sn X158 hx hby at_173 (by decide) ?_
     refine sc X158 hx hby at_176 ?_
     refine sg (pc := 177) (pc' := 181) X158 hx hby at_177 (by decide) (by decide) ?_
     exact retN X158 hx (t := .boolean) Bd.returns (by simp) (hb hby at_181) hr
   · show Q0 n0 _ T158.heap _
     rw [e158]
     exact ⟨rfl, N158⟩
  ·
   rw [hs62] at pre61
   obtain ⟨cl159, Ar159, cw159, S159, Nn159, Hs159, G159⟩ := id (V58)
   have hin159 : ¬ ((16 : Int32) < 0 ∨ cl159.slots.size ≤ ((16 : Int32)).toNatClampNeg) := inb_of S159 ⟨by decide, by decide⟩
   let Lb160 : Array Slot := #[.val (.int p0), .val (.ref b1), .val (.ref (w 16)), .unset, .unset]
   obtain ⟨cq161, kq161, q161a, q161b, q161c⟩ := isOf hZ e58 ((wd33 hW).ext O59.2)
   obtain ⟨_, _, ⟨T161, L161, kk161, nn161⟩, -, X161, ⟨Lc161, hQ161, l161, y161, z161⟩, st161⟩ := X58.virtualBack hx (y := ym0) (z := ym0) hown (mvT hZ (wk43 hw)) (mvT hZ (wk44 hw)) (notFace_of_selects (args := #[]) (mvT hZ (wk46 hw))) (mvT hZ (wk46 hw)) (mvT hZ (wk45 hw)) (by decide) (backOf (W := 0) (rm1_33 l Z a0 hw w hW []  h58 n0 O59 ) hZ (wk47 hw) (wk3 hw) (by decide) (by decide)) q161a q161c (g := (mkF m 144 Lb160 [(.ref (w 16))])) rfl (by rw [hml]; rfl) (Steps.refl _) (argsL := []) (rest := []) (lenOf pds_0 rfl) rfl (by show 2 * 0 + _ ≤ _; exact Nat.le_of_eq rfl) (hb hby at_144) (fun _ _ => ⟨rfl, e58, (by decide : 1 + 0 ≤ _), (by decide : 19 + 0 ≤ _)⟩)
   dsimp only [Pt.U, Pt.locs, Pt.cells, Pt.slots] at X161 l161 y161 z161 st161 hQ161
   rw [l161, y161, z161] at X161
   obtain ⟨rfl, N161q, e161⟩ := hQ161
   have N161 := Fr.app N58 N161q
   let Lb162 : Array Slot := #[.val (.int p0), .val (.ref b1), .val (.ref (w 16)), .val (.int (17 : Int32)), .unset]
   let Lb163 : Array Slot := #[.val (.int p0), .val (.ref b1), .val (.ref (w 16)), .val (.int (17 : Int32)), .val (.int (1 : Int32))]
   obtain ⟨cq164, kq164, q164a, q164b, q164c⟩ := isOf hZ e161 ((wd33 hW).ext O59.2)
   obtain ⟨_, _, ⟨T164, L164, kk164, nn164⟩, -, X164, ⟨Lc164, hQ164, l164, y164, z164⟩, st164⟩ := X161.virtualBack hx (y := ym1) (z := ym1) hown (mvT hZ (wk50 hw)) (mvT hZ (wk51 hw)) (notFace_of_selects (args := #[]) (mvT hZ (wk53 hw))) (mvT hZ (wk53 hw)) (mvT hZ (wk52 hw)) (by decide) (backOf (W := 0) (rm2_34 l Z a0 hw w hW []  h58 n0 O59 ) hZ (wk54 hw) (wk3 hw) (by decide) (by decide)) q164a q164c (g := (mkF m 168 Lb163 [(.ref (w 16))])) rfl (by rw [hml]; rfl) (Steps.refl _) (argsL := []) (rest := []) (lenOf pds_1 rfl) rfl (by show 2 * 0 + _ ≤ _; exact Nat.le_of_eq rfl) (hb hby at_168) (fun _ _ => ⟨rfl, e161, (by decide : 1 + 0 ≤ _), (by decide : 19 + 0 ≤ _)⟩)
   dsimp only [Pt.U, Pt.locs, Pt.cells, Pt.slots] at X164 l164 y164 z164 st164 hQ164
   rw [l164, y164, z164] at X164
   obtain ⟨rfl, N164q, e164⟩ := hQ164
   have N164 := Fr.app N161 N164q
   obtain ⟨fs, hr, hrun, hended, hWm, hsame⟩ := X164.leave (v := some (.int (1 : Int32))) (fun h => by rw [Bd.returns] at h; cases h)
   refine ⟨_, _, pre61 _ ?_, hrun, hended, _, _, rfl, ?_, ⟨_, rfl⟩, hWm, hsame.mono (by decide) (by decide)⟩
   · show Steps p.tables e below (T58.setTop (mkF m 141 Lb60 [(.int (16 : Int32)), (.ref b1)])) _
     refine X58.aaload hx (j := (16 : Int32)) (v := (.ref (w 16))) (by rw [e58]; exact Ar159.1) (State.isArrayOf_alike hZ.alike Ar159.2.1) rfl Ar159.2.2 hin159 (Hs159.at hin159 rfl) (g := (mkF m 141 Lb60 [(.int (16 : Int32)), (.ref b1)])) rfl rfl (hb hby at_141) _ ?_
     refine XS.astoreN X58.here hx rfl (hb hby at_142) rfl rfl (l' := Lb160) rfl ?_
     refine sA X58 hx hby at_143 rfl rfl ?_
     refine st161.trans ?_
     refine XS.istoreN X161.here hx rfl (hb hby at_147) rfl (l' := Lb162) rfl ?_
     refine sI X161 hx hby at_148 rfl ?_
     refine XS.bipush X161.here hx rfl (hb hby at_149) ?_
     refine sn X161 hx hby at_151 (by decide) ?_
     refine sI X161 hx hby at_154 rfl ?_
     show Steps p.tables e below (T161.setTop (mkF m 155 Lb162 [(.int (17 : Int32))])) _
     refine XS.bipush X161.here hx rfl (hb hby at_155) ?_
     refine sn X161 hx hby at_157 (by decide) ?_
     refine sc X161 hx hby at_160 ?_
     refine sg (pc := 161) (pc' := 165) X161 hx hby at_161 (by decide) (by decide) ?_
     refine XS.istore X161.here hx rfl (hb hby at_165) rfl (l' := Lb163) rfl ?_
     show Steps p.tables e below (T161.setTop (mkF m 167 Lb163 [])) _
     refine sA X161 hx hby at_167 rfl rfl ?_
     refine st164.trans ?_
     refine si X164 hx hby at_171 rfl ?_
     refine sn X164 hx hby at_173 (by decide) ?_
     refine sc X164 hx hby at_176 ?_
     refine sg (pc := 177) (pc' := 181) X164 hx hby at_177 (by decide) (by decide) ?_
     exact retN X164 hx (t := .boolean) Bd.returns (by simp) (hb hby at_181) hr
   · show Q0 n0 _ T164.heap _
     rw [e164]
     exact ⟨rfl, N164⟩
  ·
   rw [hs62] at pre61
   obtain ⟨cl165, Ar165, cw165, S165, Nn165, Hs165, G165⟩ := id (V58)
   have hin165 : ¬ ((17 : Int32) < 0 ∨ cl165.slots.size ≤ ((17 : Int32)).toNatClampNeg) := inb_of S165 ⟨by decide, by decide⟩
   let Lb166 : Array Slot := #[.val (.int p0), .val (.ref b1), .val (.ref (w 17)), .unset, .unset]
   obtain ⟨cq167, kq167, q167a, q167b, q167c⟩ := isOf hZ e58 ((wd35 hW).ext O59.2)
   obtain ⟨_, _, ⟨T167, L167, kk167, nn167⟩, -, X167, ⟨Lc167, hQ167, l167, y167, z167⟩, st167⟩ := X58.virtualBack hx (y := ym0) (z := ym0) hown (mvT hZ (wk43 hw)) (mvT hZ (wk44 hw)) (notFace_of_selects (args := #[]) (mvT hZ (wk46 hw))) (mvT hZ (wk46 hw)) (mvT hZ (wk45 hw)) (by decide) (backOf (W := 0) (rm1_35 l Z a0 hw w hW []  h58 n0 O59 ) hZ (wk47 hw) (wk3 hw) (by decide) (by decide)) q167a q167c (g := (mkF m 144 Lb166 [(.ref (w 17))])) rfl (by rw [hml]; rfl) (Steps.refl _) (argsL := []) (rest := []) (lenOf pds_0 rfl) rfl (by show 2 * 0 + _ ≤ _; exact Nat.le_of_eq rfl) (hb hby at_144) (fun _ _ => ⟨rfl, e58, (by decide : 1 + 0 ≤ _), (by decide : 19 + 0 ≤ _)⟩)
   dsimp only [Pt.U, Pt.locs, Pt.cells, Pt.slots] at X167 l167 y167 z167 st167 hQ167
   rw [l167, y167, z167] at X167
   obtain ⟨rfl, N167q, e167⟩ := hQ167
   have N167 := Fr.app N58 N167q
   let Lb168 : Array Slot := #[.val (.int p0), .val (.ref b1), .val (.ref (w 17)), .val (.int (18 : Int32)), .unset]
   let Lb169 : Array Slot := #[.val (.int p0), .val (.ref b1), .val (.ref (w 17)), .val (.int (18 : Int32)), .val (.int (1 : Int32))]
   obtain ⟨cq170, kq170, q170a, q170b, q170c⟩ := isOf hZ e167 ((wd35 hW).ext O59.2)
   obtain ⟨_, _, ⟨T170, L170, kk170, nn170⟩, -, X170, ⟨Lc170, hQ170, l170, y170, z170⟩, st170⟩ := X167.virtualBack hx (y := ym1) (z := ym1) hown (mvT hZ (wk50 hw)) (mvT hZ (wk51 hw)) (notFace_of_selects (args := #[]) (mvT hZ (wk53 hw))) (mvT hZ (wk53 hw)) (mvT hZ (wk52 hw)) (by decide) (backOf (W := 0) (rm2_36 l Z a0 hw w hW []  h58 n0 O59 ) hZ (wk54 hw) (wk3 hw) (by decide) (by decide)) q170a q170c (g := (mkF m 168 Lb169 [(.ref (w 17))])) rfl (by rw [hml]; rfl) (Steps.refl _) (argsL := []) (rest := []) (lenOf pds_1 rfl) rfl (by show 2 * 0 + _ ≤ _; exact Nat.le_of_eq rfl) (hb hby at_168) (fun _ _ => ⟨rfl, e167, (by decide : 1 + 0 ≤ _), (by decide : 19 + 0 ≤ _)⟩)
   dsimp only [Pt.U, Pt.locs, Pt.cells, Pt.slots] at X170 l170 y170 z170 st170 hQ170
   rw [l170, y170, z170] at X170
   obtain ⟨rfl, N170q, e170⟩ := hQ170
   have N170 := Fr.app N167 N170q
   obtain ⟨fs, hr, hrun, hended, hWm, hsame⟩ := X170.leave (v := some (.int (1 : Int32))) (fun h => by rw [Bd.returns] at h; cases h)
   refine ⟨_, _, pre61 _ ?_, hrun, hended, _, _, rfl, ?_, ⟨_, rfl⟩, hWm, hsame.mono (by decide) (by decide)⟩
   · show Steps p.tables e below (T58.setTop (mkF m 141 Lb60 [(.int (17 : Int32)), (.ref b1)])) _
     refine X58.aaload hx (j := (17 : Int32)) (v := (.ref (w 17))) (by rw [e58]; exact Ar165.1) (State.isArrayOf_alike hZ.alike Ar165.2.1) rfl Ar165.2.2 hin165 (Hs165.at hin165 rfl) (g := (mkF m 141 Lb60 [(.int (17 : Int32)), (.ref b1)])) rfl rfl (hb hby at_141) _ ?_
     refine XS.astoreN X58.here hx rfl (hb hby at_142) rfl rfl (l' := Lb166) rfl ?_
     refine sA X58 hx hby at_143 rfl rfl ?_
     refine st167.trans ?_
     refine XS.istoreN X167.here hx rfl (hb hby at_147) rfl (l' := Lb168) rfl ?_
     refine sI X167 hx hby at_148 rfl ?_
     refine XS.bipush X167.here hx rfl (hb hby at_149) ?_
     refine sn X167 hx hby at_151 (by decide) ?_
     refine sI X167 hx hby at_154 rfl ?_
     show Steps p.tables e below (T167.setTop (mkF m 155 Lb168 [(.int (18 : Int32))])) _
     refine XS.bipush X167.here hx rfl (hb hby at_155) ?_
     refine sn X167 hx hby at_157 (by decide) ?_
     refine sc X167 hx hby at_160 ?_
     refine sg (pc := 161) (pc' := 165) X167 hx hby at_161 (by decide) (by decide) ?_
     refine XS.istore X167.here hx rfl (hb hby at_165) rfl (l' := Lb169) rfl ?_
     show Steps p.tables e below (T167.setTop (mkF m 167 Lb169 [])) _
     refine sA X167 hx hby at_167 rfl rfl ?_
     refine st170.trans ?_
     refine si X170 hx hby at_171 rfl ?_
     refine sn X170 hx hby at_173 (by decide) ?_
     refine sc X170 hx hby at_176 ?_
     refine sg (pc := 177) (pc' := 181) X170 hx hby at_177 (by decide) (by decide) ?_
     exact retN X170 hx (t := .boolean) Bd.returns (by simp) (hb hby at_181) hr
   · show Q0 n0 _ T170.heap _
     rw [e170]
     exact ⟨rfl, N170⟩
  ·
   rw [hs62] at pre61
   obtain ⟨cl171, Ar171, cw171, S171, Nn171, Hs171, G171⟩ := id (V58)
   have hin171 : ¬ ((18 : Int32) < 0 ∨ cl171.slots.size ≤ ((18 : Int32)).toNatClampNeg) := inb_of S171 ⟨by decide, by decide⟩
   let Lb172 : Array Slot := #[.val (.int p0), .val (.ref b1), .val (.ref (w 18)), .unset, .unset]
   obtain ⟨cq173, kq173, q173a, q173b, q173c⟩ := isOf hZ e58 ((wd37 hW).ext O59.2)
   obtain ⟨_, _, ⟨T173, L173, kk173, nn173⟩, -, X173, ⟨Lc173, hQ173, l173, y173, z173⟩, st173⟩ := X58.virtualBack hx (y := ym0) (z := ym0) hown (mvT hZ (wk43 hw)) (mvT hZ (wk44 hw)) (notFace_of_selects (args := #[]) (mvT hZ (wk46 hw))) (mvT hZ (wk46 hw)) (mvT hZ (wk45 hw)) (by decide) (backOf (W := 0) (rm1_37 l Z a0 hw w hW []  h58 n0 O59 ) hZ (wk47 hw) (wk3 hw) (by decide) (by decide)) q173a q173c (g := (mkF m 144 Lb172 [(.ref (w 18))])) rfl (by rw [hml]; rfl) (Steps.refl _) (argsL := []) (rest := []) (lenOf pds_0 rfl) rfl (by show 2 * 0 + _ ≤ _; exact Nat.le_of_eq rfl) (hb hby at_144) (fun _ _ => ⟨rfl, e58, (by decide : 1 + 0 ≤ _), (by decide : 19 + 0 ≤ _)⟩)
   dsimp only [Pt.U, Pt.locs, Pt.cells, Pt.slots] at X173 l173 y173 z173 st173 hQ173
   rw [l173, y173, z173] at X173
   obtain ⟨rfl, N173q, e173⟩ := hQ173
   have N173 := Fr.app N58 N173q
   let Lb174 : Array Slot := #[.val (.int p0), .val (.ref b1), .val (.ref (w 18)), .val (.int (32 : Int32)), .unset]
   let Lb175 : Array Slot := #[.val (.int p0), .val (.ref b1), .val (.ref (w 18)), .val (.int (32 : Int32)), .val (.int (0 : Int32))]
   obtain ⟨cq176, kq176, q176a, q176b, q176c⟩ := isOf hZ e173 ((wd37 hW).ext O59.2)
   obtain ⟨_, _, ⟨T176, L176, kk176, nn176⟩, -, X176, ⟨Lc176, hQ176, l176, y176, z176⟩, st176⟩ := X173.virtualBack hx (y := ym1) (z := ym1) hown (mvT hZ (wk50 hw)) (mvT hZ (wk51 hw)) (notFace_of_selects (args := #[]) (mvT hZ (wk53 hw))) (mvT hZ (wk53 hw)) (mvT hZ (wk52 hw)) (by decide) (backOf (W := 0) (rm2_38 l Z a0 hw w hW []  h58 n0 O59 ) hZ (wk54 hw) (wk3 hw) (by decide) (by decide)) q176a q176c (g := (mkF m 168 Lb175 [(.ref (w 18))])) rfl (by rw [hml]; rfl) (Steps.refl _) (argsL := []) (rest := []) (lenOf pds_1 rfl) rfl (by show 2 * 0 + _ ≤ _; exact Nat.le_of_eq rfl) (hb hby at_168) (fun _ _ => ⟨rfl, e173, (by decide : 1 + 0 ≤ _), (by decide : 19 + 0 ≤ _)⟩)
   dsimp only [Pt.U, Pt.locs, Pt.cells, Pt.slots] at X176 l176 y176 z176 st176 hQ176
   rw [l176, y176, z176] at X176
   obtain ⟨rfl, N176q, e176⟩ := hQ176
   have N176 := Fr.app N173 N176q
   obtain ⟨fs, hr, hrun, hended, hWm, hsame⟩ := X176.leave (v := some (.int (1 : Int32))) (fun h => by rw [Bd.returns] at h; cases h)
   refine ⟨_, _, pre61 _ ?_, hrun, hended, _, _, rfl, ?_, ⟨_, rfl⟩, hWm, hsame.mono (by decide) (by decide)⟩
   · show Steps p.tables e below (T58.setTop (mkF m 141 Lb60 [(.int (18 : Int32)), (.ref b1)])) _
     refine X58.aaload hx (j := (18 : Int32)) (v := (.ref (w 18))) (by rw [e58]; exact Ar171.1) (State.isArrayOf_alike hZ.alike Ar171.2.1) rfl Ar171.2.2 hin171 (Hs171.at hin171 rfl) (g := (mkF m 141 Lb60 [(.int (18 : Int32)), (.ref b1)])) rfl rfl (hb hby at_141) _ ?_
     refine XS.astoreN X58.here hx rfl (hb hby at_142) rfl rfl (l' := Lb172) rfl ?_
     refine sA X58 hx hby at_143 rfl rfl ?_
     refine st173.trans ?_
     refine XS.istoreN X173.here hx rfl (hb hby at_147) rfl (l' := Lb174) rfl ?_
     refine sI X173 hx hby at_148 rfl ?_
     refine XS.bipush X173.here hx rfl (hb hby at_149) ?_
     refine sn X173 hx hby at_151 (by decide) ?_
     refine sI X173 hx hby at_154 rfl ?_
     show Steps p.tables e below (T173.setTop (mkF m 155 Lb174 [(.int (32 : Int32))])) _
     refine XS.bipush X173.here hx rfl (hb hby at_155) ?_
     refine XS.icmpYes X173.here hx rfl (pc0 := 157) (pc' := 164) rfl (hb hby at_157) rfl (by decide) (by decide) (by decide) ?_
     refine sc X173 hx hby at_164 ?_
     refine XS.istore X173.here hx rfl (hb hby at_165) rfl (l' := Lb175) rfl ?_
     refine sA X173 hx hby at_167 rfl rfl ?_
     show Steps p.tables e below (T173.setTop (mkF m 168 Lb175 [(.ref (w 18))])) _
     refine st176.trans ?_
     refine si X176 hx hby at_171 rfl ?_
     refine sn X176 hx hby at_173 (by decide) ?_
     refine sc X176 hx hby at_176 ?_
     refine sg (pc := 177) (pc' := 181) X176 hx hby at_177 (by decide) (by decide) ?_
     exact retN X176 hx (t := .boolean) Bd.returns (by simp) (hb hby at_181) hr
   · show Q0 n0 _ T176.heap _
     rw [e176]
     exact ⟨rfl, N176⟩
set_option maxRecDepth 65536 in
set_option maxHeartbeats 400000000 in
theorem comes_1 {Post : Tables → Env → Array Value → State → Outcome → State → Prop} (hpost : ∀ tb e args s v u, (limb_1_1.after args s (.returned v) u = true ∧ limb_1_2.after args s (.returned v) u = true ∧ True) → FrameEnd s (.returned v) u (Jvm.fieldLocs frame_1_writes args s ++ Jvm.arrayLocs frame_1_arrays args s ++ Jvm.staticLocs frame_1_statics s) 16 128 → Post tb e args s (.returned v) u) :
    ArmFor flags0 classFile x code maxLocals ret World_1 tables_1 room_1 Calls_1 rest_1 Pre_1 Post := by
  intro l hfl _ _ p e ha hc hk s m args below hf hA hF happ hP
  obtain ⟨hcalls, hrest, hpre⟩ := hP
  obtain ⟨-, -, -, hnamed, -, -, -, hat⟩ := (Spec.applies_iff hf).mp happ
  obtain ⟨hg, hn⟩ := and_e (Cond.before_iff.mp (show (Jvm.Cond.and given_1 narrow_1).before args s = true from hpre))
  obtain ⟨ga4, gb4⟩ := and_e hg
  obtain ⟨v0, rfl⟩ : ∃ v0 : Value, args = #[v0] := by
    have hs : args.size = 1 := by simpa [Cond.value, given_1] using ga4
    obtain ⟨L⟩ := args
    match L, hs with
    | [v0], _ => exact ⟨v0, rfl⟩
  have hw := fun d (hd : d ∈ tables_1) => atoms_spec (ws := Jvm.Cond.code x code maxLocals ret :: tables_1) hat d (List.mem_cons_of_mem _ hd)
  have hfit : Fit s := fun {y c} hc i hi => by
    obtain ⟨ha, rfl⟩ := Array.getElem?_eq_some_iff.mp hc
    have q := List.all_eq_true.mp ((Array.all_eq_true_iff_forall_mem.mp hF) _ (Array.getElem_mem ha)) i (List.mem_range.mpr hi)
    simpa [Array.getElem?_eq_getElem hi] using q
  obtain ⟨i0, ei0⟩ := is_v gb4
  obtain rfl : v0 = (.int i0) := Option.some.inj ei0
  obtain ⟨na0, nb0⟩ := and_e hn
  obtain ⟨na1, nb1⟩ := and_e nb0
  obtain ⟨na2, nb2⟩ := and_e nb1
  obtain ⟨na3, nb3⟩ := and_e nb2
  obtain ⟨na4, nb4⟩ := and_e nb3
  obtain ⟨na5, nb5⟩ := and_e nb4
  obtain ⟨na6, nb6⟩ := and_e nb5
  obtain ⟨na7, nb7⟩ := and_e nb6
  obtain ⟨na8, nb8⟩ := and_e nb7
  obtain ⟨na9, nb9⟩ := and_e nb8
  obtain ⟨na10, nb10⟩ := and_e nb9
  obtain ⟨na11, nb11⟩ := and_e nb10
  obtain ⟨na12, nb12⟩ := and_e nb11
  obtain ⟨na13, nb13⟩ := and_e nb12
  obtain ⟨na14, nb14⟩ := and_e nb13
  obtain ⟨na15, nb15⟩ := and_e nb14
  obtain ⟨na16, nb16⟩ := and_e nb15
  obtain ⟨na17, nb17⟩ := and_e nb16
  obtain ⟨na18, nb18⟩ := and_e nb17
  obtain ⟨na19, nb19⟩ := and_e nb18
  obtain ⟨na20, nb20⟩ := and_e nb19
  obtain ⟨na21, nb21⟩ := and_e nb20
  obtain ⟨na22, nb22⟩ := and_e nb21
  obtain ⟨na23, nb23⟩ := and_e nb22
  obtain ⟨na24, nb24⟩ := and_e nb23
  obtain ⟨na25, nb25⟩ := and_e nb24
  obtain ⟨na26, nb26⟩ := and_e nb25
  obtain ⟨na27, nb27⟩ := and_e nb26
  obtain ⟨na28, nb28⟩ := and_e nb27
  obtain ⟨na29, nb29⟩ := and_e nb28
  obtain ⟨na30, nb30⟩ := and_e nb29
  obtain ⟨na31, nb31⟩ := and_e nb30
  obtain ⟨na32, nb32⟩ := and_e nb31
  obtain ⟨na33, nb33⟩ := and_e nb32
  obtain ⟨na34, nb34⟩ := and_e nb33
  obtain ⟨na35, nb35⟩ := and_e nb34
  obtain ⟨na36, nb36⟩ := and_e nb35
  obtain ⟨na37, nb37⟩ := and_e nb36
  obtain ⟨na38, nb38⟩ := and_e nb37
  obtain ⟨na39, nb39⟩ := and_e nb38
  obtain ⟨na40, nb40⟩ := and_e nb39
  obtain ⟨na41, nb41⟩ := and_e nb40
  obtain ⟨na42, nb42⟩ := and_e nb41
  obtain ⟨na43, nb43⟩ := and_e nb42
  obtain ⟨na44, nb44⟩ := and_e nb43
  obtain ⟨na45, nb45⟩ := and_e nb44
  obtain ⟨na46, nb46⟩ := and_e nb45
  obtain ⟨na47, nb47⟩ := and_e nb46
  obtain ⟨na48, nb48⟩ := and_e nb47
  obtain ⟨na49, nb49⟩ := and_e nb48
  obtain ⟨na50, nb50⟩ := and_e nb49
  obtain ⟨na51, nb51⟩ := and_e nb50
  obtain ⟨na52, nb52⟩ := and_e nb51
  obtain ⟨na53, nb53⟩ := and_e nb52
  obtain ⟨na54, nb54⟩ := and_e nb53
  obtain ⟨na55, nb55⟩ := and_e nb54
  obtain ⟨x0, ev0⟩ := exa_v na0
  obtain ⟨x1, ev1⟩ := exa_v na1
  obtain ⟨x2, ev2⟩ := exa_v na2
  obtain ⟨x3, ev3⟩ := exa_v na3
  obtain ⟨x4, ev4⟩ := exa_v na4
  obtain ⟨x5, ev5⟩ := exa_v na5
  obtain ⟨x6, ev6⟩ := exa_v na6
  obtain ⟨x7, ev7⟩ := exa_v na7
  obtain ⟨x8, ev8⟩ := exa_v na8
  obtain ⟨x9, ev9⟩ := exa_v na9
  obtain ⟨x10, ev10⟩ := exa_v na10
  obtain ⟨x11, ev11⟩ := exa_v na11
  obtain ⟨x12, ev12⟩ := exa_v na12
  obtain ⟨x13, ev13⟩ := exa_v na13
  obtain ⟨x14, ev14⟩ := exa_v na14
  obtain ⟨x15, ev15⟩ := exa_v na15
  obtain ⟨x16, ev16⟩ := exa_v na16
  obtain ⟨x17, ev17⟩ := exa_v na17
  obtain ⟨x18, ev18⟩ := exa_v na18
  have hW : Wd s (fun i => ([x0, x1, x2, x3, x4, x5, x6, x7, x8, x9, x10, x11, x12, x13, x14, x15, x16, x17, x18] : List Addr).getD i 0) := ⟨(Sta.start ev0 (Or.inr ⟨(wk3 hw), (wk4 hw)⟩)), (Exa.start ev0 na0), (Sta.start ev1 (Or.inr ⟨(wk3 hw), (wk7 hw)⟩)), (Exa.start ev1 na1), (Sta.start ev2 (Or.inr ⟨(wk3 hw), (wk9 hw)⟩)), (Exa.start ev2 na2), (Sta.start ev3 (Or.inr ⟨(wk3 hw), (wk11 hw)⟩)), (Exa.start ev3 na3), (Sta.start ev4 (Or.inr ⟨(wk3 hw), (wk13 hw)⟩)), (Exa.start ev4 na4), (Sta.start ev5 (Or.inr ⟨(wk3 hw), (wk15 hw)⟩)), (Exa.start ev5 na5), (Sta.start ev6 (Or.inr ⟨(wk3 hw), (wk17 hw)⟩)), (Exa.start ev6 na6), (Sta.start ev7 (Or.inr ⟨(wk3 hw), (wk19 hw)⟩)), (Exa.start ev7 na7), (Sta.start ev8 (Or.inr ⟨(wk3 hw), (wk21 hw)⟩)), (Exa.start ev8 na8), (Sta.start ev9 (Or.inr ⟨(wk3 hw), (wk23 hw)⟩)), (Exa.start ev9 na9), (Sta.start ev10 (Or.inr ⟨(wk3 hw), (wk25 hw)⟩)), (Exa.start ev10 na10), (Sta.start ev11 (Or.inr ⟨(wk3 hw), (wk27 hw)⟩)), (Exa.start ev11 na11), (Sta.start ev12 (Or.inr ⟨(wk3 hw), (wk29 hw)⟩)), (Exa.start ev12 na12), (Sta.start ev13 (Or.inr ⟨(wk3 hw), (wk31 hw)⟩)), (Exa.start ev13 na13), (Sta.start ev14 (Or.inr ⟨(wk3 hw), (wk33 hw)⟩)), (Exa.start ev14 na14), (Sta.start ev15 (Or.inr ⟨(wk3 hw), (wk35 hw)⟩)), (Exa.start ev15 na15), (Sta.start ev16 (Or.inr ⟨(wk3 hw), (wk37 hw)⟩)), (Exa.start ev16 na16), (Sta.start ev17 (Or.inr ⟨(wk3 hw), (wk39 hw)⟩)), (Exa.start ev17 na17), (Sta.start ev18 (Or.inr ⟨(wk3 hw), (wk41 hw)⟩)), (Exa.start ev18 na18), (own_fldI ev0 na19), (own_fldI ev0 na20), (own_fldI ev15 na21), (own_fldI ev16 na22), (own_fldI ev17 na23), (own_fldI ev3 na24), (own_fldI ev3 na25), (own_fldI ev15 na26), (own_fldI ev5 na27), (own_fldI ev5 na28), (own_fldI ev17 na29), (own_fldI ev7 na30), (own_fldI ev7 na31), (own_fldI ev2 na32), (own_fldI ev2 na33), (own_fldI ev11 na34), (own_fldI ev11 na35), (own_fldI ev10 na36), (own_fldI ev10 na37), (own_fldI ev8 na38), (own_fldI ev8 na39), (own_fldI ev1 na40), (own_fldI ev1 na41), (own_fldI ev14 na42), (own_fldI ev14 na43), (own_fldI ev18 na44), (own_fldI ev18 na45), (own_fldI ev6 na46), (own_fldI ev6 na47), (own_fldI ev16 na48), (own_fldI ev4 na49), (own_fldI ev4 na50), (own_fldI ev9 na51), (own_fldI ev9 na52), (own_fldI ev12 na53), (own_fldI ev12 na54), (own_fldI ev13 na55), (own_fldI ev13 nb55), trivial⟩
  obtain ⟨n, o, h1, h2, h3, _, L, rfl, ⟨rfl, N⟩, hq⟩ := rm0 l s _ hw _ hW tables_1 i0 s.heap s.heap.size (Old.start s) p e ha hc hk s m _ below hf ((Spec.applies_iff_loose hf).mp happ).1 ⟨rfl, State.Warmed39.refl s, rfl⟩ trivial
  refine ⟨n, _, h1, h2, h3, hpost _ _ _ _ _ _ ⟨Cond.after_iff.mpr rfl, Cond.after_iff.mpr (eq_i res_at (Term.int_eval (1)) rfl), trivial⟩ ⟨hq.1, hq.2.1, (hq.2.2.sift fun y hy => Or.inr (N y hy)).mono (by decide) (by decide)⟩⟩
theorem main_1_1 : Claimed_1_1 := comes_1 fun _ _ _ _ _ _ h hF => ⟨h.1, hF⟩
theorem main_1_2 : Claimed_1_2 := comes_1 fun _ _ _ _ _ _ h hF => ⟨h.2.1, hF⟩
end Jvm.Pilot.@@N@@
namespace Jvm.Pilot.@@N@@
open Jvm Jvm.ClassFile Sem Op Lib Jvm.Free Jvm.Stand Jvm.Pilot.@@N@@.Jvm.D
/-! MADE BY PROGRAM (witnessworld.py) out of the Statement's table words and the real class files: 13 classes; the members and pool entries that the words name. The judged class is class 1, her method 1. -/
namespace start1
open Jvm.ClassFile
def u (s : String) : CpInfo := .utf8 (stringToUtf16 s)
/-- a pool by its gaps: so many unusable entries, then the entry; so many at the end -/
def gap : Nat → List CpInfo → List CpInfo
  | 0, r => r
  | n + 1, r => .unusable :: gap n r
def poolList (es : List (Nat × CpInfo)) (last : Nat) : List CpInfo := es.foldr (fun e r => gap e.1 (e.2 :: r)) (gap last [])
def pool (es : List (Nat × CpInfo)) (last : Nat) : Array CpInfo := ⟨poolList es last⟩
def fileOf (pool : Array CpInfo) (this : Nat) (attrs : Array Attribute := #[]) (ms : Array MethodInfo := #[]) (fl : Nat := 33) (sup : Nat := 0) (ifs : Array Nat := #[]) (fds : Array FieldInfo := #[]) : ClassFile where
  minorVersion := 0
  majorVersion := 65
  constantPool := pool
  accessFlags := fl
  thisClass := this
  superClass := sup
  interfaces := ifs
  fields := fds
  methods := ms
  attributes := attrs
def plain (name : String) (sup : Option ClassId) : Class where
  name := name
  kind := .ordinary
  loader := none
  accessFlags := 33
  super := sup
  interfaces := #[]
  cf := none
  fields := #[]
  methods := #[]
  instanceTypes := #[]
  staticTypes := #[]
  resolved := #[]
  callSites := []
  init := .initialized
  statics := none
  mirror := none

def pool0 : Array CpInfo := pool [(5, u "<init>"), (0, u "()V"), (1, .class_ 10), (1, u "java/lang/Object")] 113

def k0m0 : Method := { name := "<init>", desc := "()V", sig := { parameters := [], returnType := none }, accessFlags := 1, code := none }
/-- java/lang/Object -/
def k0 : Class := { plain "java/lang/Object" none with
  accessFlags := 33
  interfaces := #[]
  cf := some (fileOf pool0 8 #[] #[{ accessFlags := 1, nameIndex := 5, descriptorIndex := 6, attributes := #[] }] 33 0 #[] #[])
  fields := #[]
  methods := #[k0m0]
  instanceTypes := #[]
  staticTypes := #[]
  resolved := Array.replicate 124 none
  statics := none }

def pool1 : Array CpInfo := pool [(2, .class_ 4), (1, u "java/lang/Object"), (0, u "<init>"), (0, u "()V"), (0, .class_ 8), (0, u "com/example/ferrule/ferrule/io/TypeCode"), (0, .fieldref 7 10), (0, .nameAndType 11 12), (0, u "OBJECT"), (0, u "Lcom/example/ferrule/ferrule/io/TypeCode;"), (0, .fieldref 7 14), (0, .nameAndType 15 12), (0, u "MAP"), (0, .fieldref 7 17), (0, .nameAndType 18 12), (0, u "MAPPING"), (0, .fieldref 7 20), (0, .nameAndType 21 12), (0, u "LIST"), (0, .fieldref 7 23), (0, .nameAndType 24 12), (0, u "LISTING"), (0, .fieldref 7 26), (0, .nameAndType 27 12), (0, u "SET"), (0, .fieldref 7 29), (0, .nameAndType 30 12), (0, u "DURATION"), (0, .fieldref 7 32), (0, .nameAndType 33 12), (0, u "DATA_SIZE"), (0, .fieldref 7 35), (0, .nameAndType 36 12), (0, u "PAIR"), (0, .fieldref 7 38), (0, .nameAndType 39 12), (0, u "INT_SEQ"), (0, .fieldref 7 41), (0, .nameAndType 42 12), (0, u "REGEX"), (0, .fieldref 7 44), (0, .nameAndType 45 12), (0, u "CLASS"), (0, .fieldref 7 47), (0, .nameAndType 48 12), (0, u "TYPE_ALIAS"), (0, .fieldref 7 50), (0, .nameAndType 51 12), (0, u "FUNCTION"), (0, .fieldref 7 53), (0, .nameAndType 54 12), (0, u "BYTES"), (0, .fieldref 7 56), (0, .nameAndType 57 12), (0, u "PROPERTY"), (0, .fieldref 7 59), (0, .nameAndType 60 12), (0, u "ENTRY"), (0, .fieldref 7 62), (0, .nameAndType 63 12), (0, u "ELEMENT"), (0, .fieldref 7 65), (0, .nameAndType 66 12), (0, u "REFERENCE"), (0, .integer 2147483647), (0, .methodref 7 69), (0, .nameAndType 70 71), (0, u "code"), (0, u "()I"), (0, .methodref 7 73), (0, .nameAndType 74 75), (0, u "isMember"), (0, u "()Z"), (0, .class_ 77), (0, u "com/example/ferrule/ferrule/io/TypeCodeIsMemberPinLaw"), (2, u "law"), (0, u "(I)Z")] 5

def k1m0 : Method := { name := "<init>", desc := "()V", sig := { parameters := [], returnType := none }, accessFlags := 1, code := none }
def k1c1 : Code := { maxStack := 4, maxLocals := 5, code := code, exceptionTable := #[], attributes := #[] }
def k1m1 : Method := { name := "law", desc := "(I)Z", sig := { parameters := [.int], returnType := some .boolean }, accessFlags := 9, code := some k1c1 }
/-- com/example/ferrule/ferrule/io/TypeCodeIsMemberPinLaw -/
def k1 : Class := { plain "com/example/ferrule/ferrule/io/TypeCodeIsMemberPinLaw" (some 0) with
  accessFlags := 49
  interfaces := #[]
  cf := some (fileOf pool1 76 #[] #[{ accessFlags := 1, nameIndex := 5, descriptorIndex := 6, attributes := #[] }, { accessFlags := 9, nameIndex := 80, descriptorIndex := 81, attributes := #[] }] 49 2 #[] #[])
  fields := #[]
  methods := #[k1m0, k1m1]
  instanceTypes := #[]
  staticTypes := #[]
  resolved := Array.replicate 87 none
  statics := none }

def pool2 : Array CpInfo := pool [(1, .class_ 2), (0, u "java/lang/constant/Constable"), (0, .class_ 4), (0, u "java/lang/Object")] 6

/-- java/lang/constant/Constable -/
def k2 : Class := { plain "java/lang/constant/Constable" (some 0) with
  accessFlags := 1537
  interfaces := #[]
  cf := some (fileOf pool2 1 #[] #[] 1537 3 #[] #[])
  fields := #[]
  methods := #[]
  instanceTypes := #[]
  staticTypes := #[]
  resolved := Array.replicate 11 none
  statics := none }

def pool3 : Array CpInfo := pool [(1, .class_ 2), (0, u "java/lang/Comparable"), (0, .class_ 4), (0, u "java/lang/Object")] 7

/-- java/lang/Comparable -/
def k3 : Class := { plain "java/lang/Comparable" (some 0) with
  accessFlags := 1537
  interfaces := #[]
  cf := some (fileOf pool3 1 #[] #[] 1537 3 #[] #[])
  fields := #[]
  methods := #[]
  instanceTypes := #[]
  staticTypes := #[]
  resolved := Array.replicate 12 none
  statics := none }

def pool4 : Array CpInfo := pool [(1, .class_ 2), (0, u "java/io/Serializable"), (0, .class_ 4), (0, u "java/lang/Object")] 2

/-- java/io/Serializable -/
def k4 : Class := { plain "java/io/Serializable" (some 0) with
  accessFlags := 1537
  interfaces := #[]
  cf := some (fileOf pool4 1 #[] #[] 1537 3 #[] #[])
  fields := #[]
  methods := #[]
  instanceTypes := #[]
  staticTypes := #[]
  resolved := Array.replicate 7 none
  statics := none }

def pool5 : Array CpInfo := pool [(2, .class_ 4), (1, u "java/lang/Enum"), (0, u "name"), (0, u "Ljava/lang/String;"), (2, u "ordinal"), (0, u "I"), (1, .class_ 14), (1, u "java/lang/Object"), (4, u "hash"), (86, .class_ 108), (1, u "java/lang/Enum$EnumDesc"), (2, .class_ 112), (0, u "java/lang/constant/Constable"), (0, .class_ 114), (0, u "java/lang/Comparable"), (0, .class_ 116), (0, u "java/io/Serializable")] 87

/-- java/lang/Enum -/
def k5 : Class := { plain "java/lang/Enum" (some 0) with
  accessFlags := 1057
  interfaces := #[2, 3, 4]
  cf := some (fileOf pool5 2 #[.nestMembers #[106]] #[] 1057 12 #[111, 113, 115] #[{ accessFlags := 18, nameIndex := 5, descriptorIndex := 6, attributes := #[] }, { accessFlags := 18, nameIndex := 9, descriptorIndex := 10, attributes := #[] }, { accessFlags := 2, nameIndex := 19, descriptorIndex := 10, attributes := #[] }])
  fields := #[{ name := "name", type := (.object "java/lang/String"), accessFlags := 18, slot := 0, constantValue := 0 }, { name := "ordinal", type := .int, accessFlags := 18, slot := 1, constantValue := 0 }, { name := "hash", type := .int, accessFlags := 2, slot := 2, constantValue := 0 }]
  methods := #[]
  instanceTypes := #[(.object "java/lang/String"), .int, .int]
  staticTypes := #[]
  resolved := Array.replicate 204 none
  statics := none }

def pool6 : Array CpInfo := pool [(1, .class_ 2), (0, u "com/example/ferrule/ferrule/io/TypeCode"), (2, u "OBJECT"), (0, u "Lcom/example/ferrule/ferrule/io/TypeCode;"), (2, u "MAP"), (2, u "MAPPING"), (2, u "LIST"), (2, u "LISTING"), (2, u "SET"), (2, u "DURATION"), (2, u "DATA_SIZE"), (2, u "PAIR"), (2, u "INT_SEQ"), (2, u "REGEX"), (2, u "CLASS"), (2, u "TYPE_ALIAS"), (2, u "FUNCTION"), (2, u "BYTES"), (0, .fieldref 1 50), (0, .nameAndType 51 6), (0, u "PROPERTY"), (0, .fieldref 1 53), (0, .nameAndType 54 6), (0, u "ENTRY"), (0, .fieldref 1 56), (0, .nameAndType 57 6), (0, u "ELEMENT"), (2, u "REFERENCE"), (2, u "$VALUES"), (0, u "[Lcom/example/ferrule/ferrule/io/TypeCode;"), (6, .class_ 73), (1, u "java/lang/Enum"), (6, .fieldref 1 81), (0, .nameAndType 82 83), (0, u "code"), (0, u "I"), (2, u "slots"), (2, u "phrase"), (0, u "Ljava/lang/String;"), (12, u "BY_CODE"), (1, .class_ 107), (1, u "com/example/ferrule/ferrule/io/TypeCode$1"), (7, u "()I"), (89, u "isMember"), (0, u "()Z")] 9

def k6c0 : Code := { maxStack := 2, maxLocals := 1, code := prog_47_method_8_code, exceptionTable := #[], attributes := #[] }
def k6m0 : Method := { name := "isMember", desc := "()Z", sig := { parameters := [], returnType := some .boolean }, accessFlags := 0, code := some k6c0 }
def k6c1 : Code := { maxStack := 1, maxLocals := 1, code := prog_47_method_10_code, exceptionTable := #[], attributes := #[] }
def k6m1 : Method := { name := "code", desc := "()I", sig := { parameters := [], returnType := some .int }, accessFlags := 0, code := some k6c1 }
/-- com/example/ferrule/ferrule/io/TypeCode -/
def k6 : Class := { plain "com/example/ferrule/ferrule/io/TypeCode" (some 5) with
  accessFlags := 16432
  interfaces := #[]
  cf := some (fileOf pool6 1 #[.nestMembers #[105]] #[{ accessFlags := 0, nameIndex := 205, descriptorIndex := 206, attributes := #[] }, { accessFlags := 0, nameIndex := 82, descriptorIndex := 115, attributes := #[] }] 16432 71 #[] #[{ accessFlags := 16409, nameIndex := 5, descriptorIndex := 6, attributes := #[] }, { accessFlags := 16409, nameIndex := 9, descriptorIndex := 6, attributes := #[] }, { accessFlags := 16409, nameIndex := 12, descriptorIndex := 6, attributes := #[] }, { accessFlags := 16409, nameIndex := 15, descriptorIndex := 6, attributes := #[] }, { accessFlags := 16409, nameIndex := 18, descriptorIndex := 6, attributes := #[] }, { accessFlags := 16409, nameIndex := 21, descriptorIndex := 6, attributes := #[] }, { accessFlags := 16409, nameIndex := 24, descriptorIndex := 6, attributes := #[] }, { accessFlags := 16409, nameIndex := 27, descriptorIndex := 6, attributes := #[] }, { accessFlags := 16409, nameIndex := 30, descriptorIndex := 6, attributes := #[] }, { accessFlags := 16409, nameIndex := 33, descriptorIndex := 6, attributes := #[] }, { accessFlags := 16409, nameIndex := 36, descriptorIndex := 6, attributes := #[] }, { accessFlags := 16409, nameIndex := 39, descriptorIndex := 6, attributes := #[] }, { accessFlags := 16409, nameIndex := 42, descriptorIndex := 6, attributes := #[] }, { accessFlags := 16409, nameIndex := 45, descriptorIndex := 6, attributes := #[] }, { accessFlags := 16409, nameIndex := 48, descriptorIndex := 6, attributes := #[] }, { accessFlags := 16409, nameIndex := 51, descriptorIndex := 6, attributes := #[] }, { accessFlags := 16409, nameIndex := 54, descriptorIndex := 6, attributes := #[] }, { accessFlags := 16409, nameIndex := 57, descriptorIndex := 6, attributes := #[] }, { accessFlags := 16409, nameIndex := 60, descriptorIndex := 6, attributes := #[] }, { accessFlags := 26, nameIndex := 103, descriptorIndex := 64, attributes := #[] }, { accessFlags := 18, nameIndex := 82, descriptorIndex := 83, attributes := #[] }, { accessFlags := 18, nameIndex := 86, descriptorIndex := 83, attributes := #[] }, { accessFlags := 18, nameIndex := 89, descriptorIndex := 90, attributes := #[] }, { accessFlags := 4122, nameIndex := 63, descriptorIndex := 64, attributes := #[] }])
  fields := #[{ name := "OBJECT", type := (.object "com/example/ferrule/ferrule/io/TypeCode"), accessFlags := 16409, slot := 0, constantValue := 0 }, { name := "MAP", type := (.object "com/example/ferrule/ferrule/io/TypeCode"), accessFlags := 16409, slot := 1, constantValue := 0 }, { name := "MAPPING", type := (.object "com/example/ferrule/ferrule/io/TypeCode"), accessFlags := 16409, slot := 2, constantValue := 0 }, { name := "LIST", type := (.object "com/example/ferrule/ferrule/io/TypeCode"), accessFlags := 16409, slot := 3, constantValue := 0 }, { name := "LISTING", type := (.object "com/example/ferrule/ferrule/io/TypeCode"), accessFlags := 16409, slot := 4, constantValue := 0 }, { name := "SET", type := (.object "com/example/ferrule/ferrule/io/TypeCode"), accessFlags := 16409, slot := 5, constantValue := 0 }, { name := "DURATION", type := (.object "com/example/ferrule/ferrule/io/TypeCode"), accessFlags := 16409, slot := 6, constantValue := 0 }, { name := "DATA_SIZE", type := (.object "com/example/ferrule/ferrule/io/TypeCode"), accessFlags := 16409, slot := 7, constantValue := 0 }, { name := "PAIR", type := (.object "com/example/ferrule/ferrule/io/TypeCode"), accessFlags := 16409, slot := 8, constantValue := 0 }, { name := "INT_SEQ", type := (.object "com/example/ferrule/ferrule/io/TypeCode"), accessFlags := 16409, slot := 9, constantValue := 0 }, { name := "REGEX", type := (.object "com/example/ferrule/ferrule/io/TypeCode"), accessFlags := 16409, slot := 10, constantValue := 0 }, { name := "CLASS", type := (.object "com/example/ferrule/ferrule/io/TypeCode"), accessFlags := 16409, slot := 11, constantValue := 0 }, { name := "TYPE_ALIAS", type := (.object "com/example/ferrule/ferrule/io/TypeCode"), accessFlags := 16409, slot := 12, constantValue := 0 }, { name := "FUNCTION", type := (.object "com/example/ferrule/ferrule/io/TypeCode"), accessFlags := 16409, slot := 13, constantValue := 0 }, { name := "BYTES", type := (.object "com/example/ferrule/ferrule/io/TypeCode"), accessFlags := 16409, slot := 14, constantValue := 0 }, { name := "PROPERTY", type := (.object "com/example/ferrule/ferrule/io/TypeCode"), accessFlags := 16409, slot := 15, constantValue := 0 }, { name := "ENTRY", type := (.object "com/example/ferrule/ferrule/io/TypeCode"), accessFlags := 16409, slot := 16, constantValue := 0 }, { name := "ELEMENT", type := (.object "com/example/ferrule/ferrule/io/TypeCode"), accessFlags := 16409, slot := 17, constantValue := 0 }, { name := "REFERENCE", type := (.object "com/example/ferrule/ferrule/io/TypeCode"), accessFlags := 16409, slot := 18, constantValue := 0 }, { name := "BY_CODE", type := (.array (.object "com/example/ferrule/ferrule/io/TypeCode")), accessFlags := 26, slot := 19, constantValue := 0 }, { name := "code", type := .int, accessFlags := 18, slot := 3, constantValue := 0 }, { name := "slots", type := .int, accessFlags := 18, slot := 4, constantValue := 0 }, { name := "phrase", type := (.object "java/lang/String"), accessFlags := 18, slot := 5, constantValue := 0 }, { name := "$VALUES", type := (.array (.object "com/example/ferrule/ferrule/io/TypeCode")), accessFlags := 4122, slot := 20, constantValue := 0 }]
  methods := #[k6m0, k6m1]
  instanceTypes := #[(.object "java/lang/String"), .int, .int, .int, .int, (.object "java/lang/String")]
  staticTypes := #[(.object "com/example/ferrule/ferrule/io/TypeCode"), (.object "com/example/ferrule/ferrule/io/TypeCode"), (.object "com/example/ferrule/ferrule/io/TypeCode"), (.object "com/example/ferrule/ferrule/io/TypeCode"), (.object "com/example/ferrule/ferrule/io/TypeCode"), (.object "com/example/ferrule/ferrule/io/TypeCode"), (.object "com/example/ferrule/ferrule/io/TypeCode"), (.object "com/example/ferrule/ferrule/io/TypeCode"), (.object "com/example/ferrule/ferrule/io/TypeCode"), (.object "com/example/ferrule/ferrule/io/TypeCode"), (.object "com/example/ferrule/ferrule/io/TypeCode"), (.object "com/example/ferrule/ferrule/io/TypeCode"), (.object "com/example/ferrule/ferrule/io/TypeCode"), (.object "com/example/ferrule/ferrule/io/TypeCode"), (.object "com/example/ferrule/ferrule/io/TypeCode"), (.object "com/example/ferrule/ferrule/io/TypeCode"), (.object "com/example/ferrule/ferrule/io/TypeCode"), (.object "com/example/ferrule/ferrule/io/TypeCode"), (.object "com/example/ferrule/ferrule/io/TypeCode"), (.array (.object "com/example/ferrule/ferrule/io/TypeCode")), (.array (.object "com/example/ferrule/ferrule/io/TypeCode"))]
  resolved := Array.replicate 216 none
  statics := some 0 }

def pool7 : Array CpInfo := pool [(1, u "java/lang/Cloneable"), (0, .class_ 1), (0, u "java/lang/Object"), (0, .class_ 3)] 3

/-- java/lang/Cloneable -/
def k7 : Class := { plain "java/lang/Cloneable" (some 0) with
  accessFlags := 1537
  interfaces := #[]
  cf := some (fileOf pool7 2 #[] #[] 1537 4 #[] #[])
  fields := #[]
  methods := #[]
  instanceTypes := #[]
  staticTypes := #[]
  resolved := Array.replicate 8 none
  statics := none }

/-- the primitive byte -/
def k8 : Class := { plain "byte" none with kind := .primitive 'B', accessFlags := 0x411 }
/-- [B -/
def k9 : Class := { plain "[B" (some 0) with kind := .array 8 .byte, interfaces := #[7, 4], accessFlags := 1041 }

/-- the primitive int -/
def k10 : Class := { plain "int" none with kind := .primitive 'I', accessFlags := 0x411 }
/-- [I -/
def k11 : Class := { plain "[I" (some 0) with kind := .array 10 .int, interfaces := #[7, 4], accessFlags := 1041 }

/-- [Lcom/example/ferrule/ferrule/io/TypeCode; -/
def k12 : Class := { plain "[Lcom/example/ferrule/ferrule/io/TypeCode;" (some 0) with kind := .array 6 (.object "com/example/ferrule/ferrule/io/TypeCode"), interfaces := #[7, 4], accessFlags := 1041 }

def heap : Heap := #[{ cls := 6, slots := #[.ref 1, .ref 2, .ref 3, .ref 4, .ref 5, .ref 6, .ref 7, .ref 8, .ref 9, .ref 10, .ref 11, .ref 12, .ref 13, .ref 14, .ref 15, .ref 16, .ref 17, .ref 18, .ref 19, .null, .null], vm := .statics 6 },
  { cls := 6, slots := #[.null, .int 0, .int 0, .int 1, .int 0, .null], vm := .none },
  { cls := 6, slots := #[.null, .int 1, .int 0, .int 2, .int 0, .null], vm := .none },
  { cls := 6, slots := #[.null, .int 2, .int 0, .int 3, .int 0, .null], vm := .none },
  { cls := 6, slots := #[.null, .int 3, .int 0, .int 4, .int 0, .null], vm := .none },
  { cls := 6, slots := #[.null, .int 4, .int 0, .int 5, .int 0, .null], vm := .none },
  { cls := 6, slots := #[.null, .int 5, .int 0, .int 6, .int 0, .null], vm := .none },
  { cls := 6, slots := #[.null, .int 6, .int 0, .int 7, .int 0, .null], vm := .none },
  { cls := 6, slots := #[.null, .int 7, .int 0, .int 8, .int 0, .null], vm := .none },
  { cls := 6, slots := #[.null, .int 8, .int 0, .int 9, .int 0, .null], vm := .none },
  { cls := 6, slots := #[.null, .int 9, .int 0, .int 10, .int 0, .null], vm := .none },
  { cls := 6, slots := #[.null, .int 10, .int 0, .int 11, .int 0, .null], vm := .none },
  { cls := 6, slots := #[.null, .int 11, .int 0, .int 12, .int 0, .null], vm := .none },
  { cls := 6, slots := #[.null, .int 12, .int 0, .int 13, .int 0, .null], vm := .none },
  { cls := 6, slots := #[.null, .int 13, .int 0, .int 14, .int 0, .null], vm := .none },
  { cls := 6, slots := #[.null, .int 14, .int 0, .int 15, .int 0, .null], vm := .none },
  { cls := 6, slots := #[.null, .int 15, .int 0, .int 16, .int 0, .null], vm := .none },
  { cls := 6, slots := #[.null, .int 16, .int 0, .int 17, .int 0, .null], vm := .none },
  { cls := 6, slots := #[.null, .int 17, .int 0, .int 18, .int 0, .null], vm := .none },
  { cls := 6, slots := #[.null, .int 18, .int 0, .int 32, .int 0, .null], vm := .none }]
def classes : Array Class := #[k0, k1, k2, k3, k4, k5, k6, k7, k8, k9, k10, k11, k12]
def interned : List (Array UInt16 × Addr) := []
def slotsUsed : Nat := 135
def theMethod : MethodId := ⟨1, 1⟩
def args0 : Array Value := #[.int 5]
def aboutOver (below : List Frame) : State where
  vm := { classes := classes, interned := interned.toArray }
  heap := heap
  slotsUsed := slotsUsed
  threads := #[{ frames := .invoking theMethod args0 :: below }]
def below0 : List Frame := [.native { method := ⟨0, 0⟩, args := #[] }]
def about1 : State := aboutOver below0
def p0 : Program := .bare "" "" ""
def e0 : Env := launch0.env 0 0 0
theorem w_frames : about1.frames = Frame.invoking theMethod args0 :: below0 := rfl
set_option maxRecDepth 65536 in
theorem w_args : argsFit about1.vm theMethod args0 = true := by decide +kernel
set_option maxRecDepth 65536 in
theorem w_heap : heapFits about1 = true := by decide +kernel
set_option maxRecDepth 65536 in
theorem w_runnable : about1.curStatus? = some .runnable := by decide +kernel
set_option maxRecDepth 65536 in
theorem w_alone : about1.alone = true := by decide +kernel
set_option maxRecDepth 65536 in
theorem w_named : about1.methodNamed? x = some theMethod := by decide +kernel
set_option maxRecDepth 65536 in
theorem w_hears : about1.hears theMethod below0 = true := by decide +kernel
set_option maxRecDepth 65536 in
theorem w_ripe : about1.ripe theMethod args0 below0 = true := by decide +kernel
theorem w_running : about1.status = .running := rfl
set_option maxRecDepth 65536 in
theorem w_room : about1.hasRoom e0.platform room_1 = true :=
  launch0.hasRoom_least _ room_1 (by decide +kernel) (by decide +kernel) (by decide +kernel) (by decide +kernel) (by decide +kernel) (by decide +kernel)
theorem allAtoms_all (ts : List Jvm.Cond) (a : Array Jvm.Value) (st : Jvm.State) : (allAtoms ts).before a st = ts.all (fun c => c.before a st) := by
  induction ts with
  | nil => rfl
  | cons c t ih =>
    show (Jvm.Cond.and c (allAtoms t)).before a st = _
    rw [Jvm.Cond.before_and, ih, List.all_cons]
def words1 : List Jvm.Cond := Jvm.Cond.code x code maxLocals ret :: tables_1
/-- a 'code' word, met by the world's own term for the bytes: nothing is compared byte by byte -/
theorem code_word {y : MethodName} {bytes : ByteArray} {mx : Nat} {rt : Option FieldType} {a : Array Value} {s : State} {m : MethodId} {meth : Method} {c : Code} (h1 : s.methodNamed? y = some m) (h2 : s.vm.method? m = some meth) (h3 : meth.code = some c) (h4 : c.code = bytes)
    (h5 : (c.maxLocals == mx && c.exceptionTable.isEmpty && decide (c.maxStack ≤ mostOperands) && decide (meth.sig.returnType = rt) && !meth.locks && decide (parseMethodDescriptor y.desc = some meth.sig)) = true) : (Jvm.Cond.code y bytes mx rt).before a s = true := by
  simp only [Bool.and_eq_true, beq_iff_eq, Bool.not_eq_true', decide_eq_true_eq] at h5
  obtain ⟨⟨⟨⟨⟨g1, g2⟩, g3⟩, g4⟩, g5⟩, g6⟩ := h5
  simp [Cond.before, Cond.holds, Cond.value, h1, h2, h3, h4, g1, g2, g3, g4, g5, g6]
def isCode : Jvm.Cond → Bool
  | .code _ _ _ _ => true
  | _ => false
theorem all_split {L : List Jvm.Cond} {P : Jvm.Cond → Bool} (h1 : L.all (fun c => isCode c || P c) = true) (h2 : ∀ c ∈ L.filter isCode, P c = true) : L.all P = true := by
  refine List.all_eq_true.mpr fun c hc => ?_
  have h := List.all_eq_true.mp h1 c hc
  rcases Bool.eq_false_or_eq_true (isCode c) with hi | hi
  · exact h2 c (List.mem_filter.mpr ⟨hc, hi⟩)
  · simpa [hi] using h
set_option maxRecDepth 65536 in
theorem w_c0 : (Jvm.Cond.code x code maxLocals ret).before args0 about1 = true := code_word (m := ⟨1, 1⟩) (meth := k1m1) (c := k1c1) (by decide +kernel) rfl rfl rfl (by decide +kernel)
set_option maxRecDepth 65536 in
theorem w_c1 : (Jvm.Cond.code ({ cls := "com/example/ferrule/ferrule/io/TypeCode", name := "code", desc := "()I" } : Jvm.MethodName) prog_47_method_10_code (1 : Nat) (Option.some Jvm.ClassFile.FieldType.int)).before args0 about1 = true := code_word (m := ⟨6, 1⟩) (meth := k6m1) (c := k6c1) (by decide +kernel) rfl rfl rfl (by decide +kernel)
set_option maxRecDepth 65536 in
theorem w_c2 : (Jvm.Cond.code ({ cls := "com/example/ferrule/ferrule/io/TypeCode", name := "isMember", desc := "()Z" } : Jvm.MethodName) prog_47_method_8_code (1 : Nat) (Option.some Jvm.ClassFile.FieldType.boolean)).before args0 about1 = true := code_word (m := ⟨6, 0⟩) (meth := k6m0) (c := k6c0) (by decide +kernel) rfl rfl rfl (by decide +kernel)
def codes1 : List Jvm.Cond := [Jvm.Cond.code x code maxLocals ret, Jvm.Cond.code ({ cls := "com/example/ferrule/ferrule/io/TypeCode", name := "code", desc := "()I" } : Jvm.MethodName) prog_47_method_10_code (1 : Nat) (Option.some Jvm.ClassFile.FieldType.int), Jvm.Cond.code ({ cls := "com/example/ferrule/ferrule/io/TypeCode", name := "isMember", desc := "()Z" } : Jvm.MethodName) prog_47_method_8_code (1 : Nat) (Option.some Jvm.ClassFile.FieldType.boolean)]
set_option maxRecDepth 65536 in
theorem codes_eq : words1.filter isCode = codes1 := rfl
theorem w_codes : ∀ c ∈ words1.filter isCode, c.before args0 about1 = true := by
  rw [codes_eq]
  intro c hc
  simp only [codes1, List.mem_cons, List.not_mem_nil, or_false] at hc
  rcases hc with rfl | rfl | rfl
  · exact w_c0
  · exact w_c1
  · exact w_c2
set_option maxRecDepth 65536 in
theorem w_t1 : (words1.take 24).all (fun c => isCode c || c.before args0 about1) = true := by decide +kernel
set_option maxRecDepth 65536 in
theorem w_t2 : ((words1.drop 24).take 24).all (fun c => isCode c || c.before args0 about1) = true := by decide +kernel
set_option maxRecDepth 65536 in
theorem w_t3 : ((words1.drop 24).drop 24).all (fun c => isCode c || c.before args0 about1) = true := by decide +kernel
theorem w_tables : (allAtoms (Jvm.Cond.code x code maxLocals ret :: tables_1)).before args0 about1 = true := by
  rw [allAtoms_all]
  show words1.all (fun c => c.before args0 about1) = true
  refine all_split ?_ w_codes
  rw [← List.take_append_drop 24 words1, List.all_append, w_t1, ← List.take_append_drop 24 (words1.drop 24), List.all_append, w_t2, w_t3]
  rfl
set_option maxRecDepth 65536 in
theorem w_case : (Jvm.Cond.and given_1 narrow_1).before args0 about1 = true := by decide +kernel
theorem w_applies : (headSpec (Jvm.Cond.code x code maxLocals ret :: tables_1) room_1).applies x e0.platform about1 = true :=
  (Spec.applies_iff w_frames).mpr ⟨w_running, w_runnable, w_alone, w_named, w_hears, w_ripe, w_room, w_tables⟩
theorem atStart : AtStart classFile x code maxLocals ret World_1 tables_1 room_1 Calls_1 rest_1 Pre_1 launch0 p0 e0 about1 theMethod args0 below0 :=
  ⟨lists_1, trivial, launch0.admits_env _ _ _, launch0.least_env, fairChoices_fair.cas, fairChoices_fair.clock, w_frames, w_args, w_heap, w_applies, trivial, trivial, w_case⟩
end start1
theorem witness_1 : WitnessClaimed_1 := ⟨start1.p0, start1.e0, start1.about1, start1.theMethod, start1.args0, start1.below0, start1.atStart⟩
end Jvm.Pilot.@@N@@
