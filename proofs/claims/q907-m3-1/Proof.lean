import JvmDerived
import JvmDerived.Pilot.@@N@@Statement
import JvmDerived.Pilot.@@N@@Code
set_option linter.unusedVariables false
set_option linter.unusedSimpArgs false
namespace Jvm.RoadKit
open Sem ClassFile Op Lib Jvm.Stand Jvm.Free Jvm.LawKit
section New
variable {p : Program} {l : Launch} {e : Env} {R : Room} {s : State} {m : MethodId} {args : Array Value} {below : List Frame} {meth : Method} {c : Code} {T : State} {locs : List Loc} {cells slots : Nat}
theorem retI (X : Stand p l e R s m args below meth c T locs cells slots) (hx : p.tables.exec = Jvm.exec) {pc : Nat} {Ls : Array Slot} {z : Int32} {rest : List Value} (hret : meth.sig.returnType = some .int) (hd : decode c.code pc = .ok (.ireturn, 1)) {fs : List Frame}
    (hl : ∀ (f : JFrame) (acts : List Action), f.method = m → f.locked = none → f.entered = [] → (doReturn e (T.setTop f) acts (some (.int z))).1 = T.setFrames fs) : Steps p.tables e below (T.setTop (mkF m pc Ls (.int z :: rest))) (T.setFrames fs) := by
  have hm' : T.vm.method? m = some meth := X.method'
  have hn : narrow .int (.int z) = .int z := rfl
  show Steps p.tables e below (T.setTop { method := m, pc := pc, locals := Ls, stack := _ :: rest, locked := none }) _
  jvm_step X.here [X.here.top, hx, hd, hm', hret, hn]
  first | (intro acts; rw [hl _ acts rfl rfl rfl]) | rw [hl _ _ rfl rfl rfl]
  exact Steps.refl _
end New
end Jvm.RoadKit
namespace Jvm.Pilot.@@N@@
open Jvm Jvm.ClassFile Sem Op Lib Jvm.Free Jvm.Stand Jvm.LawKit Jvm.RoadKit Bundle Jvm.Pilot.@@N@@.Jvm.D
theorem own_set {Z : State} {h h' : Heap} {a : Addr} {k : ClassId} {ty : FieldType} {z j : Int32} {vs : List Value} {dv v : Value} {c : Cell} (A : Arr Z h a c ty) (q1 : c.cls = k) (S : c.slots.size = z.toNatClampNeg) (q3 : ¬ z < 0) (H : Has c vs dv) (G : ∀ i, i < c.slots.size → fits ty (vs.getD i dv) = true) (hv : fits ty v = true) (W : Wr h h' a j.toNatClampNeg v) (i : Nat) (hj : j.toNatClampNeg = i) (hi : i < vs.length) (v' : Value) (e1 : v = v') (vs' : List Value) (e2 : vs.set i v' = vs') : Arv Z h' a k ty z vs' dv := by
  subst e1; subst e2; exact Arv.set A q1 S q3 H G hv W i hj hi
theorem own_pad {Z : State} {h : Heap} {a : Addr} {k : ClassId} {ty : FieldType} {z : Int32} {dv : Value} (F : Arv Z h a k ty z [] dv) (n : Nat) (vs : List Value) (e : vs = List.replicate n dv) : Arv Z h a k ty z vs dv := e ▸ F.pad (pad_rep [] dv n)
theorem own_irr32 (x : Int32) : ¬ x < x := Int32.lt_irrefl
theorem own_irr64 (x : Int64) : ¬ x < x := Int64.lt_irrefl
theorem own_fldI {args : Array Value} {s : State} {t : Term} {C n d : String} {x : Addr} {k : Int32} (ht : t.eval args s none [] s = some (.ref x)) (h : (Cond.eq (Term.field t C n d) (Term.int k)).value args s none s [] = some true) : Fld s s.heap x C n d (.int k) := Fld.start ((fld_at ht).symm.trans (eqv_i (Term.int_eval k) h))
theorem own_fldJ {args : Array Value} {s : State} {t : Term} {C n d : String} {x : Addr} {k : Int64} (ht : t.eval args s none [] s = some (.ref x)) (h : (Cond.eq (Term.field t C n d) (Term.long k)).value args s none s [] = some true) : Fld s s.heap x C n d (.long k) := Fld.start ((fld_at ht).symm.trans (eqv_l (long_at k) h))
theorem own_len {args : Array Value} {s : State} {t : Term} {x : Addr} {cl : Cell} {ty : FieldType} {k : Int32} (ht : t.eval args s none [] s = some (.ref x)) (A : Arr s s.heap x cl ty) (h : (Cond.eq (Term.length t) (Term.int k)).value args s none s [] = some true) : cl.slots.size.toInt32 = k ∧ cl.slots.size < 2 ^ 31 := by
  have e := eqv_i (Term.int_eval k) h
  have ha := A.fin (Vm.Alike.refl _)
  by_cases q : cl.slots.size < 2 ^ 31
  · have e2 := (len_f ht ha q).symm.trans e
    exact ⟨Value.int.inj (Option.some.inj e2), q⟩
  · simp [Term.eval, ht, ha, q] at e
theorem own_elem {args : Array Value} {s : State} {t u : Term} {x : Addr} {cl : Cell} {ty : FieldType} {k : Int32} {v : Value} (ht : t.eval args s none [] s = some (.ref x)) (A : Arr s s.heap x cl ty) (hu : u.eval args s none [] s = some v) (hv : v.isRef = true) (h : (Cond.eq (Term.elem t (Term.int k)) u).value args s none s [] = some true) : cl.slots[k.toNatClampNeg]? = some v := by
  obtain ⟨a, b, h1, h2, h3, h4⟩ := cmp_v (Or.inl h)
  have hb := Option.some.inj (h2.symm.trans hu)
  subst hb
  obtain ⟨c', e1, e2, e3⟩ := elem_at h1 ht (Term.int_eval k)
  have ec := Option.some.inj (e1.symm.trans A.1)
  subst ec
  have ha : a.isRef = true := by
    rcases ref_cases hv with rfl | ⟨y, rfl⟩
    · exact h4.2
    · exact h4.2
  rw [e3, gotT (eq_R h1 h2 ha hv) h]
def own_KL (h h' : Heap) (ls : List Loc) : Prop := h.size ≤ h'.size ∧ ∀ (x : Addr) (c : Cell), h[x]? = some c → ∃ c' : Cell, h'[x]? = some c' ∧ c'.cls = c.cls ∧ c'.vm = c.vm ∧ c'.slots.size = c.slots.size ∧ ((∀ y ∈ ls, y.base ≠ x) → c' = c) ∧ ∀ i, (⟨x, i⟩ : Loc) ∉ ls → c'.slots[i]? = c.slots[i]?
section OwnKL
variable {Z : State} {h0 h h' : Heap} {ls ls' : List Loc} {a b x : Addr} {i j sl n0 : Nat} {v : Value} {C n d : String}
theorem own_kl0 (h : Heap) (ls : List Loc) : own_KL h h ls := ⟨Nat.le_refl _, fun x c q => ⟨c, q, rfl, rfl, rfl, fun _ => rfl, fun _ _ => rfl⟩⟩
theorem own_klE (K : own_KL h0 h ls) (E : Ext h h') : own_KL h0 h' ls := ⟨Nat.le_trans K.1 E.1, fun x c q => by obtain ⟨c', q', r⟩ := K.2 x c q; exact ⟨c', E.2 x c' q', r⟩⟩
theorem own_klT (K : own_KL h0 h ls) (K' : own_KL h h' ls') (q : ∀ y ∈ ls', y ∈ ls ∨ h0.size ≤ y.base) : own_KL h0 h' ls := by
  refine ⟨Nat.le_trans K.1 K'.1, fun x c hc => ?_⟩
  obtain ⟨c1, a1, a2, a3, a4, a5, a6⟩ := K.2 x c hc
  obtain ⟨c2, b1, b2, b3, b4, b5, b6⟩ := K'.2 x c1 a1
  have hx : x < h0.size := (Array.getElem?_eq_some_iff.mp hc).1
  refine ⟨c2, b1, b2.trans a2, b3.trans a3, b4.trans a4, fun hn => ?_, fun i hi => ?_⟩
  · rw [← a5 hn]; exact b5 fun y hy e => (q y hy).elim (fun z => hn y z e) (fun z => absurd hx (Nat.not_lt.mpr (e ▸ z)))
  · rw [← a6 i hi]; exact b6 i fun z => (q _ z).elim hi (fun u => absurd hx (Nat.not_lt.mpr u))
theorem own_klofW (W : Wr h h' a sl v) : own_KL h h' [⟨a, sl⟩] := by
  refine ⟨Nat.le_of_eq W.size.symm, fun x c hc => ?_⟩
  obtain ⟨c', e1, e2, e3, e4, e5, e6, -⟩ := wr_at W hc
  refine ⟨c', e1, e2, e3, e4, fun hn => e5 fun q => hn _ (List.mem_singleton.mpr rfl) q.symm, fun i hi => ?_⟩
  by_cases q : x = a
  · exact e6 i fun r => hi (by rw [q, r]; exact List.mem_singleton.mpr rfl)
  · rw [e5 q]
theorem own_klW (K : own_KL h0 h ls) (W : Wr h h' a sl v) (q : (⟨a, sl⟩ : Loc) ∈ ls ∨ h0.size ≤ a) : own_KL h0 h' ls := own_klT K (own_klofW W) fun y hy => by cases List.mem_singleton.mp hy; exact q
theorem own_ka0 : ∀ y ∈ ([] : List Loc), y ∈ ls ∨ n0 ≤ y.base := fun _ q => nomatch q
theorem own_kac (q : (⟨a, sl⟩ : Loc) ∈ ls ∨ n0 ≤ a) (r : ∀ y ∈ ls', y ∈ ls ∨ n0 ≤ y.base) : ∀ y ∈ (⟨a, sl⟩ : Loc) :: ls', y ∈ ls ∨ n0 ≤ y.base := fun y z => (List.mem_cons.mp z).elim (fun u => u ▸ q) (r y)
theorem own_ng0 : ∀ y ∈ ([] : List Loc), n0 ≤ y.base := fun _ q => nomatch q
theorem own_ngc (q : n0 ≤ a) (r : ∀ y ∈ ls', n0 ≤ y.base) : ∀ y ∈ (⟨a, sl⟩ : Loc) :: ls', n0 ≤ y.base := fun y z => (List.mem_cons.mp z).elim (fun u => u ▸ q) (r y)
theorem own_nb0 : ∀ y ∈ ([] : List Loc), y.base ≠ a := fun _ q => nomatch q
theorem own_nbc (q : b ≠ a) (r : ∀ y ∈ ls', y.base ≠ a) : ∀ y ∈ (⟨b, sl⟩ : Loc) :: ls', y.base ≠ a := fun y z => (List.mem_cons.mp z).elim (fun u => u ▸ q) (r y)
theorem own_nl0 : (⟨a, i⟩ : Loc) ∉ ([] : List Loc) := fun q => nomatch q
theorem own_nlb (q : a ≠ b) (r : (⟨a, i⟩ : Loc) ∉ ls) : (⟨a, i⟩ : Loc) ∉ (⟨b, j⟩ : Loc) :: ls := fun z => (List.mem_cons.mp z).elim (fun u => q (congrArg Loc.base u)) r
theorem own_nls (q : i ≠ j) (r : (⟨a, i⟩ : Loc) ∉ ls) : (⟨a, i⟩ : Loc) ∉ (⟨b, j⟩ : Loc) :: ls := fun z => (List.mem_cons.mp z).elim (fun u => q (congrArg Loc.slot u)) r
theorem own_exa (F : Exa Z h a C) (K : own_KL h h' ls) : Exa Z h' a C := by
  obtain ⟨cell, k, h1, h2, h3, h4, h5⟩ := F
  obtain ⟨c', e1, e2, e3, e4, -⟩ := K.2 _ _ h1
  exact ⟨c', k, e1, by rw [e2]; exact h2, by rw [e2]; exact h3, by rw [e3]; exact h4, by rw [e4]; exact h5⟩
theorem own_fld (F : Fld Z h a C n d v) (K : own_KL h h' ls) (q : (⟨a, Jvm.RoadKit.slotOf Z C n d⟩ : Loc) ∉ ls) : Fld Z h' a C n d v := by
  obtain ⟨cell, cf, k, i, f, h1, h2, h3, h4, h5, h6, h7⟩ := F
  obtain ⟨c', e1, e2, e3, e4, -, e6⟩ := K.2 _ _ h1
  refine ⟨c', cf, k, i, f, e1, h2, h3, by rw [e3]; exact h4, by rw [e3]; exact h5, by rw [e2]; exact h6, ?_⟩
  rw [e6 _ (by simpa [Jvm.RoadKit.slotOf, h2] using q)]; exact h7
theorem own_arv {k : ClassId} {ty : FieldType} {z : Int32} {vs : List Value} {dv : Value} (F : Arv Z h a k ty z vs dv) (K : own_KL h h' ls) (q : ∀ y ∈ ls, y.base ≠ a) : Arv Z h' a k ty z vs dv := by
  obtain ⟨c, A, r⟩ := F
  obtain ⟨c', e1, -, -, -, e5, -⟩ := K.2 _ _ A.1
  cases e5 q
  exact ⟨c, ⟨e1, A.2⟩, r⟩
theorem own_old (O : Old Z n0 h) (K : own_KL h h' ls) (q : ∀ y ∈ ls, n0 ≤ y.base) : Old Z n0 h' := ⟨O.1, Nat.le_trans O.2.1 K.1, fun x c r => by
  obtain ⟨c', e1, -, -, -, e5, -⟩ := K.2 x c (O.2.2 x c r)
  have hx : x < n0 := O.1 ▸ (Array.getElem?_eq_some_iff.mp r).1
  rw [e1, e5 fun y hy e => absurd hx (Nat.not_lt.mpr (e ▸ q y hy))]⟩
end OwnKL
theorem own_NSroot {Z : State} {a0 : Array Value} {O K : String} {n : Nat} (w : (Cond.noSuperclass O).before a0 Z = true) (wk : (Cond.instantiable K n).before a0 Z = true) (hn : O ≠ K) : NS Z O K := by
  obtain ⟨c, k, h1, h2, h3, -, -⟩ := Cond.noSuperclass_spec w
  obtain ⟨t, -, g1, -⟩ := Cond.instantiable_spec wk
  have ne := ids_ne h1 g1 hn
  refine ⟨c, t, h1, g1, fun fuel => ?_⟩
  cases fuel with
  | zero => rfl
  | succ f => simp [Vm.isSubclassAux, ne, h2, h3]
theorem own_NSno {Z : State} {a0 : Array Value} {C S K : String} {n : Nat} (w : (Cond.superclass C S).before a0 Z = true) (wk : (Cond.instantiable K n).before a0 Z = true) (u : NS Z C K) (hn : C ≠ K) : ∃ c t, Z.vm.findClass C = some c ∧ Z.vm.findClass K = some t ∧ Z.vm.assignable c t = false := by
  obtain ⟨c, t, h0, g0, n3⟩ := u
  obtain ⟨p, k, kp, h1, h2, h3, h4, h5, -, h7⟩ := Cond.superclass_spec h0 w
  obtain ⟨t', k', g1, g2, g5, g7, -⟩ := Cond.instantiable_spec wk
  cases g0.symm.trans g1
  have ne := ids_ne h0 g0 hn
  have g8 : k'.isInterface = false := by cases hI : k'.isInterface <;> simp [hI] at g7 ⊢
  refine ⟨c, t, h0, g0, ?_⟩
  show Z.vm.assignableAux (255 + 1) c t = false
  simp [Vm.assignableAux, ne, h2, g2, h5, g5, g8, Vm.isSubclass, n3]
theorem own_boxI {Z : State} {args : Array Value} {t : Term} {a : Addr} {c : Cell} {K : String} {z : Int32} (et : ∀ idx, t.eval args Z none idx Z = some (.ref a)) (A : Arr Z Z.heap a c (.object K)) (q : c.slots.size.toInt32 = z ∧ c.slots.size < 2 ^ 31) (hz : ¬ z < 0)
    (h : (Cond.all t (.and (.exactly (.elem t (.index 0)) K) (.eq (.field (.elem t (.index 0)) K "value" "I") (.sub (.index 0) (.int 128))))).value args Z none Z [] = some true) : Bxs Z a c K "I" z (fun j => .int (j - 128)) :=
  Bxs.start et A q.2 q.1 hz h fun X j nn hh => eqv_i (by simp [Term.eval, idx_at nn, (back32 nn).1]) hh
theorem own_boxJ {Z : State} {args : Array Value} {t : Term} {a : Addr} {c : Cell} {K : String} {z : Int32} (et : ∀ idx, t.eval args Z none idx Z = some (.ref a)) (A : Arr Z Z.heap a c (.object K)) (q : c.slots.size.toInt32 = z ∧ c.slots.size < 2 ^ 31) (hz : ¬ z < 0)
    (h : (Cond.all t (.and (.exactly (.elem t (.index 0)) K) (.eq (.field (.elem t (.index 0)) K "value" "J") (.op1 .i2l (.sub (.index 0) (.int 128)))))).value args Z none Z [] = some true) : Bxs Z a c K "J" z (fun j => .long (j - 128).toInt64) :=
  Bxs.start et A q.2 q.1 hz h fun X j nn hh => eqv_l (i2l_at (by simp [Term.eval, idx_at nn, (back32 nn).1])) hh
theorem own_staI {s : State} {args : Array Value} {C n d : String} {k : Int32} (h : (Cond.eq (Term.static C n d) (Term.int k)).value args s none s [] = some true) : (Term.static C n d).eval args s none [] s = some (.int k) := eqv_i (Term.int_eval k) h
theorem own_selp {Z : State} {a0 : Array Value} {y : MethodName} {n : Nat} (wi : (Cond.instantiable y.cls n).before a0 Z = true) (wp : (Cond.privateMethod y).before a0 Z = true) (wm : (Cond.instanceMethod y).before a0 Z = true) (hy : y.cls ≠ "java/lang/invoke/MethodHandle" ∧ y.cls ≠ "java/lang/invoke/VarHandle") : (Cond.selects y.cls y y).before a0 Z = true := by
  obtain ⟨c, k, h1, h2, -, h4, -⟩ := Cond.instantiable_spec wi
  exact selects_self_of_private h1 h2 (by cases hI : k.isInterface <;> simp [hI] at h4 ⊢) (Cond.privateMethod_at wp) wm hy
def own_Gk (Z : State) (h : Heap) (a : Addr) (k : ClassId) (ty : FieldType) (n j : Int32) (v : Value) : Prop := ∃ c : Cell, Arr Z h a c ty ∧ c.cls = k ∧ c.slots.size = n.toNatClampNeg ∧ ¬ n < 0 ∧ c.slots[j.toNatClampNeg]? = some v
section OwnGk
variable {Z : State} {h h' : Heap} {ls : List Loc} {a b : Addr} {k : ClassId} {ty : FieldType} {n j : Int32} {v u : Value} {sl : Nat}
theorem own_Gk.lt (F : own_Gk Z h a k ty n j v) : a < h.size := by obtain ⟨c, A, -⟩ := F; exact A.lt
theorem own_gk_ext (F : own_Gk Z h a k ty n j v) (E : Ext h h') : own_Gk Z h' a k ty n j v := by obtain ⟨c, A, r⟩ := F; exact ⟨c, A.ext E, r⟩
theorem own_gk_oth (F : own_Gk Z h a k ty n j v) (W : Wr h h' b sl u) (q : a ≠ b) : own_Gk Z h' a k ty n j v := by obtain ⟨c, A, r⟩ := F; exact ⟨c, A.other W q, r⟩
theorem own_gk_kl (F : own_Gk Z h a k ty n j v) (K : own_KL h h' ls) (q : ∀ y ∈ ls, y.base ≠ a) : own_Gk Z h' a k ty n j v := by
  obtain ⟨c, A, r⟩ := F
  obtain ⟨c', e1, -, -, -, e5, -⟩ := K.2 _ _ A.1
  cases e5 q
  exact ⟨c, ⟨e1, A.2⟩, r⟩
theorem own_gk_set {c : Cell} (A : Arr Z h a c ty) (q1 : c.cls = k) (S : c.slots.size = n.toNatClampNeg) (N : ¬ n < 0) (W : Wr h h' a j.toNatClampNeg v) : own_Gk Z h' a k ty n j v := by
  obtain ⟨c', e1, e2, e3, e4, -, -, e7⟩ := wr_at W A.1
  have e8 := (e7 rfl).1
  exact ⟨_, A.same W, q1, by rw [sz_set]; exact S, N, by rw [← e8]; exact (e7 rfl).2.1⟩
end OwnGk
section OwnSteps
variable {p : Program} {l : Launch} {e : Env} {R : Room} {s : State} {m : MethodId} {args : Array Value} {below : List Frame} {meth : Method} {c : Code} {T target : State} {locs : List Loc} {cells slots : Nat} {code : ByteArray} {pc : Nat} {Ls : Array Slot} {K : List Value}
theorem sc (X : Stand p l e R s m args below meth c T locs cells slots) (hx : p.tables.exec = Jvm.exec) (hby : c.code = code) {i : Int} (hd : decode code pc = .ok (.iconst i, 1)) (hr : Steps p.tables e below (T.setTop (mkF m (pc + 1) Ls (.int (Int32.ofInt i) :: K))) target) : Steps p.tables e below (T.setTop (mkF m pc Ls K)) target := XS.iconst X.here hx rfl (hb hby hd) hr
theorem sa (X : Stand p l e R s m args below meth c T locs cells slots) (hx : p.tables.exec = Jvm.exec) (hby : c.code = code) {k : Nat} {v : Value} (hd : decode code pc = .ok (.aload k, 2)) (hl : Ls[k]? = some (.val v)) (hv : v.isRef = true) (hr : Steps p.tables e below (T.setTop (mkF m (pc + 2) Ls (v :: K))) target) : Steps p.tables e below (T.setTop (mkF m pc Ls K)) target := XS.aload X.here hx rfl (hb hby hd) hl hv hr
theorem sA (X : Stand p l e R s m args below meth c T locs cells slots) (hx : p.tables.exec = Jvm.exec) (hby : c.code = code) {k : Fin 4} {v : Value} (hd : decode code pc = .ok (.aload_n k, 1)) (hl : Ls[k.val]? = some (.val v)) (hv : v.isRef = true) (hr : Steps p.tables e below (T.setTop (mkF m (pc + 1) Ls (v :: K))) target) : Steps p.tables e below (T.setTop (mkF m pc Ls K)) target := XS.aloadN X.here hx rfl (hb hby hd) hl hv hr
theorem si (X : Stand p l e R s m args below meth c T locs cells slots) (hx : p.tables.exec = Jvm.exec) (hby : c.code = code) {k : Nat} {v : Int32} (hd : decode code pc = .ok (.iload k, 2)) (hl : Ls[k]? = some (.val (.int v))) (hr : Steps p.tables e below (T.setTop (mkF m (pc + 2) Ls (.int v :: K))) target) : Steps p.tables e below (T.setTop (mkF m pc Ls K)) target := XS.iload X.here hx rfl (hb hby hd) hl hr
theorem sI (X : Stand p l e R s m args below meth c T locs cells slots) (hx : p.tables.exec = Jvm.exec) (hby : c.code = code) {k : Fin 4} {v : Int32} (hd : decode code pc = .ok (.iload_n k, 1)) (hl : Ls[k.val]? = some (.val (.int v))) (hr : Steps p.tables e below (T.setTop (mkF m (pc + 1) Ls (.int v :: K))) target) : Steps p.tables e below (T.setTop (mkF m pc Ls K)) target := XS.iloadN X.here hx rfl (hb hby hd) hl hr
theorem sL (X : Stand p l e R s m args below meth c T locs cells slots) (hx : p.tables.exec = Jvm.exec) (hby : c.code = code) {k : Fin 4} {v : Int64} (hd : decode code pc = .ok (.lload_n k, 1)) (hl : Ls[k.val]? = some (.val (.long v))) (hr : Steps p.tables e below (T.setTop (mkF m (pc + 1) Ls (.long v :: K))) target) : Steps p.tables e below (T.setTop (mkF m pc Ls K)) target := XS.lloadN X.here hx rfl (hb hby hd) hl hr
theorem sg (X : Stand p l e R s m args below meth c T locs cells slots) (hx : p.tables.exec = Jvm.exec) (hby : c.code = code) {o : Int} {pc' : Nat} (hd : decode code pc = .ok (.goto o, 3)) (ho : 0 ≤ (pc : Int) + o) (hp : ((pc : Int) + o).toNat = pc') (hr : Steps p.tables e below (T.setTop (mkF m pc' Ls K)) target) : Steps p.tables e below (T.setTop (mkF m pc Ls K)) target := XS.goto X.here hx rfl rfl (hb hby hd) ho hp hr
theorem sn (X : Stand p l e R s m args below meth c T locs cells slots) (hx : p.tables.exec = Jvm.exec) (hby : c.code = code) {cd : ClassFile.Cond} {o : Int} {x y : Int32} (hd : decode code pc = .ok (.if_icmp cd o, 3)) (hc : if_icmp.holds cd x y = false) (hr : Steps p.tables e below (T.setTop (mkF m (pc + 3) Ls K)) target) : Steps p.tables e below (T.setTop (mkF m pc Ls (.int y :: .int x :: K))) target := XS.icmpNo X.here hx rfl (hb hby hd) rfl hc hr
theorem sN (X : Stand p l e R s m args below meth c T locs cells slots) (hx : p.tables.exec = Jvm.exec) (hby : c.code = code) {cd : ClassFile.Cond} {o : Int} {x : Int32} (hd : decode code pc = .ok (.ifCond cd o, 3)) (hc : ifCond.holds cd x = false) (hr : Steps p.tables e below (T.setTop (mkF m (pc + 3) Ls K)) target) : Steps p.tables e below (T.setTop (mkF m pc Ls (.int x :: K))) target := XS.ifNo X.here hx rfl (hb hby hd) rfl hc hr
end OwnSteps

abbrev ym0 : MethodName := ⟨"com/example/ferrule/ferrule/io/TypeCode", "of", "(J)Lcom/example/ferrule/ferrule/io/TypeCode;"⟩
abbrev ym1 : MethodName := ⟨"com/example/ferrule/ferrule/io/TypeCodeOfPinLaw", "expected", "(J)Lcom/example/ferrule/ferrule/io/TypeCode;"⟩
theorem wk0 {Z : State} {a0 : Array Value} (hw : ∀ d ∈ tables_1, d.before a0 Z = true) : (Jvm.Cond.methodLink "com/example/ferrule/ferrule/io/TypeCodeOfPinLaw" (103 : Nat) ({ cls := "com/example/ferrule/ferrule/io/TypeCode", name := "of", desc := "(J)Lcom/example/ferrule/ferrule/io/TypeCode;" } : Jvm.MethodName)).before a0 Z = true := hw _ (List.mem_of_getElem? (i := 0) rfl)
theorem wk1 {Z : State} {a0 : Array Value} (hw : ∀ d ∈ tables_1, d.before a0 Z = true) : (Jvm.Cond.static ({ cls := "com/example/ferrule/ferrule/io/TypeCode", name := "of", desc := "(J)Lcom/example/ferrule/ferrule/io/TypeCode;" } : Jvm.MethodName)).before a0 Z = true := hw _ (List.mem_of_getElem? (i := 1) rfl)
theorem wk2 {Z : State} {a0 : Array Value} (hw : ∀ d ∈ tables_1, d.before a0 Z = true) : (Jvm.Cond.initialized "com/example/ferrule/ferrule/io/TypeCode").before a0 Z = true := hw _ (List.mem_of_getElem? (i := 2) rfl)
theorem wk3 {Z : State} {a0 : Array Value} (hw : ∀ d ∈ tables_1, d.before a0 Z = true) : (Jvm.Cond.code ({ cls := "com/example/ferrule/ferrule/io/TypeCode", name := "of", desc := "(J)Lcom/example/ferrule/ferrule/io/TypeCode;" } : Jvm.MethodName) prog_47_method_5_code (2 : Nat) (Option.some (Jvm.ClassFile.FieldType.object "com/example/ferrule/ferrule/io/TypeCode"))).before a0 Z = true := hw _ (List.mem_of_getElem? (i := 3) rfl)
theorem wk4 {Z : State} {a0 : Array Value} (hw : ∀ d ∈ tables_1, d.before a0 Z = true) : (Jvm.Cond.fieldLink "com/example/ferrule/ferrule/io/TypeCode" (101 : Nat) "com/example/ferrule/ferrule/io/TypeCode" "BY_CODE" "[Lcom/example/ferrule/ferrule/io/TypeCode;").before a0 Z = true := hw _ (List.mem_of_getElem? (i := 4) rfl)
theorem wk5 {Z : State} {a0 : Array Value} (hw : ∀ d ∈ tables_1, d.before a0 Z = true) : (Jvm.Cond.laysStatic "com/example/ferrule/ferrule/io/TypeCode" "BY_CODE" "[Lcom/example/ferrule/ferrule/io/TypeCode;").before a0 Z = true := hw _ (List.mem_of_getElem? (i := 5) rfl)
theorem wk6 {Z : State} {a0 : Array Value} (hw : ∀ d ∈ tables_1, d.before a0 Z = true) : (Jvm.Cond.laysStatic "com/example/ferrule/ferrule/io/TypeCode" "MAPPING" "Lcom/example/ferrule/ferrule/io/TypeCode;").before a0 Z = true := hw _ (List.mem_of_getElem? (i := 6) rfl)
theorem wk7 {Z : State} {a0 : Array Value} (hw : ∀ d ∈ tables_1, d.before a0 Z = true) : (Jvm.Cond.methodLink "com/example/ferrule/ferrule/io/TypeCodeOfPinLaw" (107 : Nat) ({ cls := "com/example/ferrule/ferrule/io/TypeCodeOfPinLaw", name := "expected", desc := "(J)Lcom/example/ferrule/ferrule/io/TypeCode;" } : Jvm.MethodName)).before a0 Z = true := hw _ (List.mem_of_getElem? (i := 7) rfl)
theorem wk8 {Z : State} {a0 : Array Value} (hw : ∀ d ∈ tables_1, d.before a0 Z = true) : (Jvm.Cond.static ({ cls := "com/example/ferrule/ferrule/io/TypeCodeOfPinLaw", name := "expected", desc := "(J)Lcom/example/ferrule/ferrule/io/TypeCode;" } : Jvm.MethodName)).before a0 Z = true := hw _ (List.mem_of_getElem? (i := 8) rfl)
theorem wk9 {Z : State} {a0 : Array Value} (hw : ∀ d ∈ tables_1, d.before a0 Z = true) : (Jvm.Cond.initialized "com/example/ferrule/ferrule/io/TypeCodeOfPinLaw").before a0 Z = true := hw _ (List.mem_of_getElem? (i := 9) rfl)
theorem wk10 {Z : State} {a0 : Array Value} (hw : ∀ d ∈ tables_1, d.before a0 Z = true) : (Jvm.Cond.code ({ cls := "com/example/ferrule/ferrule/io/TypeCodeOfPinLaw", name := "expected", desc := "(J)Lcom/example/ferrule/ferrule/io/TypeCode;" } : Jvm.MethodName) method_2_code (2 : Nat) (Option.some (Jvm.ClassFile.FieldType.object "com/example/ferrule/ferrule/io/TypeCode"))).before a0 Z = true := hw _ (List.mem_of_getElem? (i := 10) rfl)
theorem wk11 {Z : State} {a0 : Array Value} (hw : ∀ d ∈ tables_1, d.before a0 Z = true) : (Jvm.Cond.constantLong "com/example/ferrule/ferrule/io/TypeCodeOfPinLaw" (13 : Nat) (2 : Int64)).before a0 Z = true := hw _ (List.mem_of_getElem? (i := 11) rfl)
theorem wk12 {Z : State} {a0 : Array Value} (hw : ∀ d ∈ tables_1, d.before a0 Z = true) : (Jvm.Cond.constantLong "com/example/ferrule/ferrule/io/TypeCodeOfPinLaw" (18 : Nat) (3 : Int64)).before a0 Z = true := hw _ (List.mem_of_getElem? (i := 12) rfl)
theorem wk13 {Z : State} {a0 : Array Value} (hw : ∀ d ∈ tables_1, d.before a0 Z = true) : (Jvm.Cond.fieldLink "com/example/ferrule/ferrule/io/TypeCodeOfPinLaw" (20 : Nat) "com/example/ferrule/ferrule/io/TypeCode" "MAPPING" "Lcom/example/ferrule/ferrule/io/TypeCode;").before a0 Z = true := hw _ (List.mem_of_getElem? (i := 13) rfl)
theorem wk14 {Z : State} {a0 : Array Value} (hw : ∀ d ∈ tables_1, d.before a0 Z = true) : (Jvm.Cond.constantLong "com/example/ferrule/ferrule/io/TypeCodeOfPinLaw" (23 : Nat) (4 : Int64)).before a0 Z = true := hw _ (List.mem_of_getElem? (i := 14) rfl)
theorem wk15 {Z : State} {a0 : Array Value} (hw : ∀ d ∈ tables_1, d.before a0 Z = true) : (Jvm.Cond.constantLong "com/example/ferrule/ferrule/io/TypeCodeOfPinLaw" (28 : Nat) (5 : Int64)).before a0 Z = true := hw _ (List.mem_of_getElem? (i := 15) rfl)
theorem wk16 {Z : State} {a0 : Array Value} (hw : ∀ d ∈ tables_1, d.before a0 Z = true) : (Jvm.Cond.constantLong "com/example/ferrule/ferrule/io/TypeCodeOfPinLaw" (33 : Nat) (6 : Int64)).before a0 Z = true := hw _ (List.mem_of_getElem? (i := 16) rfl)
theorem wk17 {Z : State} {a0 : Array Value} (hw : ∀ d ∈ tables_1, d.before a0 Z = true) : (Jvm.Cond.constantLong "com/example/ferrule/ferrule/io/TypeCodeOfPinLaw" (38 : Nat) (7 : Int64)).before a0 Z = true := hw _ (List.mem_of_getElem? (i := 17) rfl)
theorem wk18 {Z : State} {a0 : Array Value} (hw : ∀ d ∈ tables_1, d.before a0 Z = true) : (Jvm.Cond.constantLong "com/example/ferrule/ferrule/io/TypeCodeOfPinLaw" (43 : Nat) (8 : Int64)).before a0 Z = true := hw _ (List.mem_of_getElem? (i := 18) rfl)
theorem wk19 {Z : State} {a0 : Array Value} (hw : ∀ d ∈ tables_1, d.before a0 Z = true) : (Jvm.Cond.constantLong "com/example/ferrule/ferrule/io/TypeCodeOfPinLaw" (48 : Nat) (9 : Int64)).before a0 Z = true := hw _ (List.mem_of_getElem? (i := 19) rfl)
theorem wk20 {Z : State} {a0 : Array Value} (hw : ∀ d ∈ tables_1, d.before a0 Z = true) : (Jvm.Cond.constantLong "com/example/ferrule/ferrule/io/TypeCodeOfPinLaw" (53 : Nat) (10 : Int64)).before a0 Z = true := hw _ (List.mem_of_getElem? (i := 20) rfl)
theorem wk21 {Z : State} {a0 : Array Value} (hw : ∀ d ∈ tables_1, d.before a0 Z = true) : (Jvm.Cond.constantLong "com/example/ferrule/ferrule/io/TypeCodeOfPinLaw" (58 : Nat) (11 : Int64)).before a0 Z = true := hw _ (List.mem_of_getElem? (i := 21) rfl)
theorem wk22 {Z : State} {a0 : Array Value} (hw : ∀ d ∈ tables_1, d.before a0 Z = true) : (Jvm.Cond.constantLong "com/example/ferrule/ferrule/io/TypeCodeOfPinLaw" (63 : Nat) (12 : Int64)).before a0 Z = true := hw _ (List.mem_of_getElem? (i := 22) rfl)
theorem wk23 {Z : State} {a0 : Array Value} (hw : ∀ d ∈ tables_1, d.before a0 Z = true) : (Jvm.Cond.constantLong "com/example/ferrule/ferrule/io/TypeCodeOfPinLaw" (68 : Nat) (13 : Int64)).before a0 Z = true := hw _ (List.mem_of_getElem? (i := 23) rfl)
theorem wk24 {Z : State} {a0 : Array Value} (hw : ∀ d ∈ tables_1, d.before a0 Z = true) : (Jvm.Cond.constantLong "com/example/ferrule/ferrule/io/TypeCodeOfPinLaw" (73 : Nat) (14 : Int64)).before a0 Z = true := hw _ (List.mem_of_getElem? (i := 24) rfl)
theorem wk25 {Z : State} {a0 : Array Value} (hw : ∀ d ∈ tables_1, d.before a0 Z = true) : (Jvm.Cond.constantLong "com/example/ferrule/ferrule/io/TypeCodeOfPinLaw" (78 : Nat) (15 : Int64)).before a0 Z = true := hw _ (List.mem_of_getElem? (i := 25) rfl)
theorem wk26 {Z : State} {a0 : Array Value} (hw : ∀ d ∈ tables_1, d.before a0 Z = true) : (Jvm.Cond.constantLong "com/example/ferrule/ferrule/io/TypeCodeOfPinLaw" (83 : Nat) (16 : Int64)).before a0 Z = true := hw _ (List.mem_of_getElem? (i := 26) rfl)
theorem wk27 {Z : State} {a0 : Array Value} (hw : ∀ d ∈ tables_1, d.before a0 Z = true) : (Jvm.Cond.constantLong "com/example/ferrule/ferrule/io/TypeCodeOfPinLaw" (88 : Nat) (17 : Int64)).before a0 Z = true := hw _ (List.mem_of_getElem? (i := 27) rfl)
theorem wk28 {Z : State} {a0 : Array Value} (hw : ∀ d ∈ tables_1, d.before a0 Z = true) : (Jvm.Cond.constantLong "com/example/ferrule/ferrule/io/TypeCodeOfPinLaw" (93 : Nat) (18 : Int64)).before a0 Z = true := hw _ (List.mem_of_getElem? (i := 28) rfl)
theorem wk29 {Z : State} {a0 : Array Value} (hw : ∀ d ∈ tables_1, d.before a0 Z = true) : (Jvm.Cond.constantLong "com/example/ferrule/ferrule/io/TypeCodeOfPinLaw" (98 : Nat) (32 : Int64)).before a0 Z = true := hw _ (List.mem_of_getElem? (i := 29) rfl)
theorem wk30 {Z : State} {a0 : Array Value} (hw : ∀ d ∈ tables_1, d.before a0 Z = true) : (Jvm.Cond.laysStatic "com/example/ferrule/ferrule/io/TypeCode" "MAP" "Lcom/example/ferrule/ferrule/io/TypeCode;").before a0 Z = true := hw _ (List.mem_of_getElem? (i := 30) rfl)
theorem wk31 {Z : State} {a0 : Array Value} (hw : ∀ d ∈ tables_1, d.before a0 Z = true) : (Jvm.Cond.fieldLink "com/example/ferrule/ferrule/io/TypeCodeOfPinLaw" (15 : Nat) "com/example/ferrule/ferrule/io/TypeCode" "MAP" "Lcom/example/ferrule/ferrule/io/TypeCode;").before a0 Z = true := hw _ (List.mem_of_getElem? (i := 31) rfl)
theorem wk32 {Z : State} {a0 : Array Value} (hw : ∀ d ∈ tables_1, d.before a0 Z = true) : (Jvm.Cond.laysStatic "com/example/ferrule/ferrule/io/TypeCode" "TYPE_ALIAS" "Lcom/example/ferrule/ferrule/io/TypeCode;").before a0 Z = true := hw _ (List.mem_of_getElem? (i := 32) rfl)
theorem wk33 {Z : State} {a0 : Array Value} (hw : ∀ d ∈ tables_1, d.before a0 Z = true) : (Jvm.Cond.fieldLink "com/example/ferrule/ferrule/io/TypeCodeOfPinLaw" (70 : Nat) "com/example/ferrule/ferrule/io/TypeCode" "TYPE_ALIAS" "Lcom/example/ferrule/ferrule/io/TypeCode;").before a0 Z = true := hw _ (List.mem_of_getElem? (i := 33) rfl)
theorem wk34 {Z : State} {a0 : Array Value} (hw : ∀ d ∈ tables_1, d.before a0 Z = true) : (Jvm.Cond.laysStatic "com/example/ferrule/ferrule/io/TypeCode" "OBJECT" "Lcom/example/ferrule/ferrule/io/TypeCode;").before a0 Z = true := hw _ (List.mem_of_getElem? (i := 34) rfl)
theorem wk35 {Z : State} {a0 : Array Value} (hw : ∀ d ∈ tables_1, d.before a0 Z = true) : (Jvm.Cond.fieldLink "com/example/ferrule/ferrule/io/TypeCodeOfPinLaw" (7 : Nat) "com/example/ferrule/ferrule/io/TypeCode" "OBJECT" "Lcom/example/ferrule/ferrule/io/TypeCode;").before a0 Z = true := hw _ (List.mem_of_getElem? (i := 35) rfl)
theorem wk36 {Z : State} {a0 : Array Value} (hw : ∀ d ∈ tables_1, d.before a0 Z = true) : (Jvm.Cond.laysStatic "com/example/ferrule/ferrule/io/TypeCode" "DURATION" "Lcom/example/ferrule/ferrule/io/TypeCode;").before a0 Z = true := hw _ (List.mem_of_getElem? (i := 36) rfl)
theorem wk37 {Z : State} {a0 : Array Value} (hw : ∀ d ∈ tables_1, d.before a0 Z = true) : (Jvm.Cond.fieldLink "com/example/ferrule/ferrule/io/TypeCodeOfPinLaw" (40 : Nat) "com/example/ferrule/ferrule/io/TypeCode" "DURATION" "Lcom/example/ferrule/ferrule/io/TypeCode;").before a0 Z = true := hw _ (List.mem_of_getElem? (i := 37) rfl)
theorem wk38 {Z : State} {a0 : Array Value} (hw : ∀ d ∈ tables_1, d.before a0 Z = true) : (Jvm.Cond.laysStatic "com/example/ferrule/ferrule/io/TypeCode" "BYTES" "Lcom/example/ferrule/ferrule/io/TypeCode;").before a0 Z = true := hw _ (List.mem_of_getElem? (i := 38) rfl)
theorem wk39 {Z : State} {a0 : Array Value} (hw : ∀ d ∈ tables_1, d.before a0 Z = true) : (Jvm.Cond.fieldLink "com/example/ferrule/ferrule/io/TypeCodeOfPinLaw" (80 : Nat) "com/example/ferrule/ferrule/io/TypeCode" "BYTES" "Lcom/example/ferrule/ferrule/io/TypeCode;").before a0 Z = true := hw _ (List.mem_of_getElem? (i := 39) rfl)
theorem wk40 {Z : State} {a0 : Array Value} (hw : ∀ d ∈ tables_1, d.before a0 Z = true) : (Jvm.Cond.laysStatic "com/example/ferrule/ferrule/io/TypeCode" "ELEMENT" "Lcom/example/ferrule/ferrule/io/TypeCode;").before a0 Z = true := hw _ (List.mem_of_getElem? (i := 40) rfl)
theorem wk41 {Z : State} {a0 : Array Value} (hw : ∀ d ∈ tables_1, d.before a0 Z = true) : (Jvm.Cond.fieldLink "com/example/ferrule/ferrule/io/TypeCodeOfPinLaw" (95 : Nat) "com/example/ferrule/ferrule/io/TypeCode" "ELEMENT" "Lcom/example/ferrule/ferrule/io/TypeCode;").before a0 Z = true := hw _ (List.mem_of_getElem? (i := 41) rfl)
theorem wk42 {Z : State} {a0 : Array Value} (hw : ∀ d ∈ tables_1, d.before a0 Z = true) : (Jvm.Cond.laysStatic "com/example/ferrule/ferrule/io/TypeCode" "FUNCTION" "Lcom/example/ferrule/ferrule/io/TypeCode;").before a0 Z = true := hw _ (List.mem_of_getElem? (i := 42) rfl)
theorem wk43 {Z : State} {a0 : Array Value} (hw : ∀ d ∈ tables_1, d.before a0 Z = true) : (Jvm.Cond.fieldLink "com/example/ferrule/ferrule/io/TypeCodeOfPinLaw" (75 : Nat) "com/example/ferrule/ferrule/io/TypeCode" "FUNCTION" "Lcom/example/ferrule/ferrule/io/TypeCode;").before a0 Z = true := hw _ (List.mem_of_getElem? (i := 43) rfl)
theorem wk44 {Z : State} {a0 : Array Value} (hw : ∀ d ∈ tables_1, d.before a0 Z = true) : (Jvm.Cond.laysStatic "com/example/ferrule/ferrule/io/TypeCode" "INT_SEQ" "Lcom/example/ferrule/ferrule/io/TypeCode;").before a0 Z = true := hw _ (List.mem_of_getElem? (i := 44) rfl)
theorem wk45 {Z : State} {a0 : Array Value} (hw : ∀ d ∈ tables_1, d.before a0 Z = true) : (Jvm.Cond.fieldLink "com/example/ferrule/ferrule/io/TypeCodeOfPinLaw" (55 : Nat) "com/example/ferrule/ferrule/io/TypeCode" "INT_SEQ" "Lcom/example/ferrule/ferrule/io/TypeCode;").before a0 Z = true := hw _ (List.mem_of_getElem? (i := 45) rfl)
theorem wk46 {Z : State} {a0 : Array Value} (hw : ∀ d ∈ tables_1, d.before a0 Z = true) : (Jvm.Cond.laysStatic "com/example/ferrule/ferrule/io/TypeCode" "CLASS" "Lcom/example/ferrule/ferrule/io/TypeCode;").before a0 Z = true := hw _ (List.mem_of_getElem? (i := 46) rfl)
theorem wk47 {Z : State} {a0 : Array Value} (hw : ∀ d ∈ tables_1, d.before a0 Z = true) : (Jvm.Cond.fieldLink "com/example/ferrule/ferrule/io/TypeCodeOfPinLaw" (65 : Nat) "com/example/ferrule/ferrule/io/TypeCode" "CLASS" "Lcom/example/ferrule/ferrule/io/TypeCode;").before a0 Z = true := hw _ (List.mem_of_getElem? (i := 47) rfl)
theorem wk48 {Z : State} {a0 : Array Value} (hw : ∀ d ∈ tables_1, d.before a0 Z = true) : (Jvm.Cond.laysStatic "com/example/ferrule/ferrule/io/TypeCode" "LIST" "Lcom/example/ferrule/ferrule/io/TypeCode;").before a0 Z = true := hw _ (List.mem_of_getElem? (i := 48) rfl)
theorem wk49 {Z : State} {a0 : Array Value} (hw : ∀ d ∈ tables_1, d.before a0 Z = true) : (Jvm.Cond.fieldLink "com/example/ferrule/ferrule/io/TypeCodeOfPinLaw" (25 : Nat) "com/example/ferrule/ferrule/io/TypeCode" "LIST" "Lcom/example/ferrule/ferrule/io/TypeCode;").before a0 Z = true := hw _ (List.mem_of_getElem? (i := 49) rfl)
theorem wk50 {Z : State} {a0 : Array Value} (hw : ∀ d ∈ tables_1, d.before a0 Z = true) : (Jvm.Cond.laysStatic "com/example/ferrule/ferrule/io/TypeCode" "REFERENCE" "Lcom/example/ferrule/ferrule/io/TypeCode;").before a0 Z = true := hw _ (List.mem_of_getElem? (i := 50) rfl)
theorem wk51 {Z : State} {a0 : Array Value} (hw : ∀ d ∈ tables_1, d.before a0 Z = true) : (Jvm.Cond.fieldLink "com/example/ferrule/ferrule/io/TypeCodeOfPinLaw" (100 : Nat) "com/example/ferrule/ferrule/io/TypeCode" "REFERENCE" "Lcom/example/ferrule/ferrule/io/TypeCode;").before a0 Z = true := hw _ (List.mem_of_getElem? (i := 51) rfl)
theorem wk52 {Z : State} {a0 : Array Value} (hw : ∀ d ∈ tables_1, d.before a0 Z = true) : (Jvm.Cond.laysStatic "com/example/ferrule/ferrule/io/TypeCode" "DATA_SIZE" "Lcom/example/ferrule/ferrule/io/TypeCode;").before a0 Z = true := hw _ (List.mem_of_getElem? (i := 52) rfl)
theorem wk53 {Z : State} {a0 : Array Value} (hw : ∀ d ∈ tables_1, d.before a0 Z = true) : (Jvm.Cond.fieldLink "com/example/ferrule/ferrule/io/TypeCodeOfPinLaw" (45 : Nat) "com/example/ferrule/ferrule/io/TypeCode" "DATA_SIZE" "Lcom/example/ferrule/ferrule/io/TypeCode;").before a0 Z = true := hw _ (List.mem_of_getElem? (i := 53) rfl)
theorem wk54 {Z : State} {a0 : Array Value} (hw : ∀ d ∈ tables_1, d.before a0 Z = true) : (Jvm.Cond.laysStatic "com/example/ferrule/ferrule/io/TypeCode" "LISTING" "Lcom/example/ferrule/ferrule/io/TypeCode;").before a0 Z = true := hw _ (List.mem_of_getElem? (i := 54) rfl)
theorem wk55 {Z : State} {a0 : Array Value} (hw : ∀ d ∈ tables_1, d.before a0 Z = true) : (Jvm.Cond.fieldLink "com/example/ferrule/ferrule/io/TypeCodeOfPinLaw" (30 : Nat) "com/example/ferrule/ferrule/io/TypeCode" "LISTING" "Lcom/example/ferrule/ferrule/io/TypeCode;").before a0 Z = true := hw _ (List.mem_of_getElem? (i := 55) rfl)
theorem wk56 {Z : State} {a0 : Array Value} (hw : ∀ d ∈ tables_1, d.before a0 Z = true) : (Jvm.Cond.laysStatic "com/example/ferrule/ferrule/io/TypeCode" "SET" "Lcom/example/ferrule/ferrule/io/TypeCode;").before a0 Z = true := hw _ (List.mem_of_getElem? (i := 56) rfl)
theorem wk57 {Z : State} {a0 : Array Value} (hw : ∀ d ∈ tables_1, d.before a0 Z = true) : (Jvm.Cond.fieldLink "com/example/ferrule/ferrule/io/TypeCodeOfPinLaw" (35 : Nat) "com/example/ferrule/ferrule/io/TypeCode" "SET" "Lcom/example/ferrule/ferrule/io/TypeCode;").before a0 Z = true := hw _ (List.mem_of_getElem? (i := 57) rfl)
theorem wk58 {Z : State} {a0 : Array Value} (hw : ∀ d ∈ tables_1, d.before a0 Z = true) : (Jvm.Cond.laysStatic "com/example/ferrule/ferrule/io/TypeCode" "REGEX" "Lcom/example/ferrule/ferrule/io/TypeCode;").before a0 Z = true := hw _ (List.mem_of_getElem? (i := 58) rfl)
theorem wk59 {Z : State} {a0 : Array Value} (hw : ∀ d ∈ tables_1, d.before a0 Z = true) : (Jvm.Cond.fieldLink "com/example/ferrule/ferrule/io/TypeCodeOfPinLaw" (60 : Nat) "com/example/ferrule/ferrule/io/TypeCode" "REGEX" "Lcom/example/ferrule/ferrule/io/TypeCode;").before a0 Z = true := hw _ (List.mem_of_getElem? (i := 59) rfl)
theorem wk60 {Z : State} {a0 : Array Value} (hw : ∀ d ∈ tables_1, d.before a0 Z = true) : (Jvm.Cond.laysStatic "com/example/ferrule/ferrule/io/TypeCode" "ENTRY" "Lcom/example/ferrule/ferrule/io/TypeCode;").before a0 Z = true := hw _ (List.mem_of_getElem? (i := 60) rfl)
theorem wk61 {Z : State} {a0 : Array Value} (hw : ∀ d ∈ tables_1, d.before a0 Z = true) : (Jvm.Cond.fieldLink "com/example/ferrule/ferrule/io/TypeCodeOfPinLaw" (90 : Nat) "com/example/ferrule/ferrule/io/TypeCode" "ENTRY" "Lcom/example/ferrule/ferrule/io/TypeCode;").before a0 Z = true := hw _ (List.mem_of_getElem? (i := 61) rfl)
theorem wk62 {Z : State} {a0 : Array Value} (hw : ∀ d ∈ tables_1, d.before a0 Z = true) : (Jvm.Cond.laysStatic "com/example/ferrule/ferrule/io/TypeCode" "PAIR" "Lcom/example/ferrule/ferrule/io/TypeCode;").before a0 Z = true := hw _ (List.mem_of_getElem? (i := 62) rfl)
theorem wk63 {Z : State} {a0 : Array Value} (hw : ∀ d ∈ tables_1, d.before a0 Z = true) : (Jvm.Cond.fieldLink "com/example/ferrule/ferrule/io/TypeCodeOfPinLaw" (50 : Nat) "com/example/ferrule/ferrule/io/TypeCode" "PAIR" "Lcom/example/ferrule/ferrule/io/TypeCode;").before a0 Z = true := hw _ (List.mem_of_getElem? (i := 63) rfl)
theorem wk64 {Z : State} {a0 : Array Value} (hw : ∀ d ∈ tables_1, d.before a0 Z = true) : (Jvm.Cond.laysStatic "com/example/ferrule/ferrule/io/TypeCode" "PROPERTY" "Lcom/example/ferrule/ferrule/io/TypeCode;").before a0 Z = true := hw _ (List.mem_of_getElem? (i := 64) rfl)
theorem wk65 {Z : State} {a0 : Array Value} (hw : ∀ d ∈ tables_1, d.before a0 Z = true) : (Jvm.Cond.fieldLink "com/example/ferrule/ferrule/io/TypeCodeOfPinLaw" (85 : Nat) "com/example/ferrule/ferrule/io/TypeCode" "PROPERTY" "Lcom/example/ferrule/ferrule/io/TypeCode;").before a0 Z = true := hw _ (List.mem_of_getElem? (i := 65) rfl)
def Wd (Z : State) (w : Nat → Addr) : Prop := Sta Z Z.heap "com/example/ferrule/ferrule/io/TypeCode" "BY_CODE" "[Lcom/example/ferrule/ferrule/io/TypeCode;" (.ref (w 0)) ∧ Sta Z Z.heap "com/example/ferrule/ferrule/io/TypeCode" "MAPPING" "Lcom/example/ferrule/ferrule/io/TypeCode;" (.ref (w 1)) ∧ Exa Z Z.heap (w 1) "com/example/ferrule/ferrule/io/TypeCode" ∧ Sta Z Z.heap "com/example/ferrule/ferrule/io/TypeCode" "MAP" "Lcom/example/ferrule/ferrule/io/TypeCode;" (.ref (w 2)) ∧ Exa Z Z.heap (w 2) "com/example/ferrule/ferrule/io/TypeCode" ∧ Sta Z Z.heap "com/example/ferrule/ferrule/io/TypeCode" "TYPE_ALIAS" "Lcom/example/ferrule/ferrule/io/TypeCode;" (.ref (w 3)) ∧ Exa Z Z.heap (w 3) "com/example/ferrule/ferrule/io/TypeCode" ∧ Sta Z Z.heap "com/example/ferrule/ferrule/io/TypeCode" "OBJECT" "Lcom/example/ferrule/ferrule/io/TypeCode;" (.ref (w 4)) ∧ Exa Z Z.heap (w 4) "com/example/ferrule/ferrule/io/TypeCode" ∧ Sta Z Z.heap "com/example/ferrule/ferrule/io/TypeCode" "DURATION" "Lcom/example/ferrule/ferrule/io/TypeCode;" (.ref (w 5)) ∧ Exa Z Z.heap (w 5) "com/example/ferrule/ferrule/io/TypeCode" ∧ Sta Z Z.heap "com/example/ferrule/ferrule/io/TypeCode" "BYTES" "Lcom/example/ferrule/ferrule/io/TypeCode;" (.ref (w 6)) ∧ Exa Z Z.heap (w 6) "com/example/ferrule/ferrule/io/TypeCode" ∧ Sta Z Z.heap "com/example/ferrule/ferrule/io/TypeCode" "ELEMENT" "Lcom/example/ferrule/ferrule/io/TypeCode;" (.ref (w 7)) ∧ Exa Z Z.heap (w 7) "com/example/ferrule/ferrule/io/TypeCode" ∧ Sta Z Z.heap "com/example/ferrule/ferrule/io/TypeCode" "FUNCTION" "Lcom/example/ferrule/ferrule/io/TypeCode;" (.ref (w 8)) ∧ Exa Z Z.heap (w 8) "com/example/ferrule/ferrule/io/TypeCode" ∧ Sta Z Z.heap "com/example/ferrule/ferrule/io/TypeCode" "INT_SEQ" "Lcom/example/ferrule/ferrule/io/TypeCode;" (.ref (w 9)) ∧ Exa Z Z.heap (w 9) "com/example/ferrule/ferrule/io/TypeCode" ∧ Sta Z Z.heap "com/example/ferrule/ferrule/io/TypeCode" "CLASS" "Lcom/example/ferrule/ferrule/io/TypeCode;" (.ref (w 10)) ∧ Exa Z Z.heap (w 10) "com/example/ferrule/ferrule/io/TypeCode" ∧ Sta Z Z.heap "com/example/ferrule/ferrule/io/TypeCode" "LIST" "Lcom/example/ferrule/ferrule/io/TypeCode;" (.ref (w 11)) ∧ Exa Z Z.heap (w 11) "com/example/ferrule/ferrule/io/TypeCode" ∧ Sta Z Z.heap "com/example/ferrule/ferrule/io/TypeCode" "REFERENCE" "Lcom/example/ferrule/ferrule/io/TypeCode;" (.ref (w 12)) ∧ Exa Z Z.heap (w 12) "com/example/ferrule/ferrule/io/TypeCode" ∧ Sta Z Z.heap "com/example/ferrule/ferrule/io/TypeCode" "DATA_SIZE" "Lcom/example/ferrule/ferrule/io/TypeCode;" (.ref (w 13)) ∧ Exa Z Z.heap (w 13) "com/example/ferrule/ferrule/io/TypeCode" ∧ Sta Z Z.heap "com/example/ferrule/ferrule/io/TypeCode" "LISTING" "Lcom/example/ferrule/ferrule/io/TypeCode;" (.ref (w 14)) ∧ Exa Z Z.heap (w 14) "com/example/ferrule/ferrule/io/TypeCode" ∧ Sta Z Z.heap "com/example/ferrule/ferrule/io/TypeCode" "SET" "Lcom/example/ferrule/ferrule/io/TypeCode;" (.ref (w 15)) ∧ Exa Z Z.heap (w 15) "com/example/ferrule/ferrule/io/TypeCode" ∧ Sta Z Z.heap "com/example/ferrule/ferrule/io/TypeCode" "REGEX" "Lcom/example/ferrule/ferrule/io/TypeCode;" (.ref (w 16)) ∧ Exa Z Z.heap (w 16) "com/example/ferrule/ferrule/io/TypeCode" ∧ Sta Z Z.heap "com/example/ferrule/ferrule/io/TypeCode" "ENTRY" "Lcom/example/ferrule/ferrule/io/TypeCode;" (.ref (w 17)) ∧ Exa Z Z.heap (w 17) "com/example/ferrule/ferrule/io/TypeCode" ∧ Sta Z Z.heap "com/example/ferrule/ferrule/io/TypeCode" "PAIR" "Lcom/example/ferrule/ferrule/io/TypeCode;" (.ref (w 18)) ∧ Exa Z Z.heap (w 18) "com/example/ferrule/ferrule/io/TypeCode" ∧ Sta Z Z.heap "com/example/ferrule/ferrule/io/TypeCode" "PROPERTY" "Lcom/example/ferrule/ferrule/io/TypeCode;" (.ref (w 19)) ∧ Exa Z Z.heap (w 19) "com/example/ferrule/ferrule/io/TypeCode" ∧ Arv Z Z.heap (w 0) (w 20) (.object "com/example/ferrule/ferrule/io/TypeCode") (33 : Int32) [.null, (.ref (w 4)), (.ref (w 2)), (.ref (w 1)), (.ref (w 11)), (.ref (w 14)), (.ref (w 15)), (.ref (w 5)), (.ref (w 13)), (.ref (w 18)), (.ref (w 9)), (.ref (w 16)), (.ref (w 10)), (.ref (w 3)), (.ref (w 8)), (.ref (w 6)), (.ref (w 19)), (.ref (w 17)), (.ref (w 7)), .null, .null, .null, .null, .null, .null, .null, .null, .null, .null, .null, .null, .null, (.ref (w 12))] .null ∧ True
theorem wd0 {Z : State} {w : Nat → Addr} (hW : Wd Z w) : Sta Z Z.heap "com/example/ferrule/ferrule/io/TypeCode" "BY_CODE" "[Lcom/example/ferrule/ferrule/io/TypeCode;" (.ref (w 0)) := hW.1
theorem wd1 {Z : State} {w : Nat → Addr} (hW : Wd Z w) : Sta Z Z.heap "com/example/ferrule/ferrule/io/TypeCode" "MAPPING" "Lcom/example/ferrule/ferrule/io/TypeCode;" (.ref (w 1)) := hW.2.1
theorem wd2 {Z : State} {w : Nat → Addr} (hW : Wd Z w) : Exa Z Z.heap (w 1) "com/example/ferrule/ferrule/io/TypeCode" := hW.2.2.1
theorem wd3 {Z : State} {w : Nat → Addr} (hW : Wd Z w) : Sta Z Z.heap "com/example/ferrule/ferrule/io/TypeCode" "MAP" "Lcom/example/ferrule/ferrule/io/TypeCode;" (.ref (w 2)) := hW.2.2.2.1
theorem wd4 {Z : State} {w : Nat → Addr} (hW : Wd Z w) : Exa Z Z.heap (w 2) "com/example/ferrule/ferrule/io/TypeCode" := hW.2.2.2.2.1
theorem wd5 {Z : State} {w : Nat → Addr} (hW : Wd Z w) : Sta Z Z.heap "com/example/ferrule/ferrule/io/TypeCode" "TYPE_ALIAS" "Lcom/example/ferrule/ferrule/io/TypeCode;" (.ref (w 3)) := hW.2.2.2.2.2.1
theorem wd6 {Z : State} {w : Nat → Addr} (hW : Wd Z w) : Exa Z Z.heap (w 3) "com/example/ferrule/ferrule/io/TypeCode" := hW.2.2.2.2.2.2.1
theorem wd7 {Z : State} {w : Nat → Addr} (hW : Wd Z w) : Sta Z Z.heap "com/example/ferrule/ferrule/io/TypeCode" "OBJECT" "Lcom/example/ferrule/ferrule/io/TypeCode;" (.ref (w 4)) := hW.2.2.2.2.2.2.2.1
theorem wd8 {Z : State} {w : Nat → Addr} (hW : Wd Z w) : Exa Z Z.heap (w 4) "com/example/ferrule/ferrule/io/TypeCode" := hW.2.2.2.2.2.2.2.2.1
theorem wd9 {Z : State} {w : Nat → Addr} (hW : Wd Z w) : Sta Z Z.heap "com/example/ferrule/ferrule/io/TypeCode" "DURATION" "Lcom/example/ferrule/ferrule/io/TypeCode;" (.ref (w 5)) := hW.2.2.2.2.2.2.2.2.2.1
theorem wd10 {Z : State} {w : Nat → Addr} (hW : Wd Z w) : Exa Z Z.heap (w 5) "com/example/ferrule/ferrule/io/TypeCode" := hW.2.2.2.2.2.2.2.2.2.2.1
theorem wd11 {Z : State} {w : Nat → Addr} (hW : Wd Z w) : Sta Z Z.heap "com/example/ferrule/ferrule/io/TypeCode" "BYTES" "Lcom/example/ferrule/ferrule/io/TypeCode;" (.ref (w 6)) := hW.2.2.2.2.2.2.2.2.2.2.2.1
theorem wd12 {Z : State} {w : Nat → Addr} (hW : Wd Z w) : Exa Z Z.heap (w 6) "com/example/ferrule/ferrule/io/TypeCode" := hW.2.2.2.2.2.2.2.2.2.2.2.2.1
theorem wd13 {Z : State} {w : Nat → Addr} (hW : Wd Z w) : Sta Z Z.heap "com/example/ferrule/ferrule/io/TypeCode" "ELEMENT" "Lcom/example/ferrule/ferrule/io/TypeCode;" (.ref (w 7)) := hW.2.2.2.2.2.2.2.2.2.2.2.2.2.1
theorem wd14 {Z : State} {w : Nat → Addr} (hW : Wd Z w) : Exa Z Z.heap (w 7) "com/example/ferrule/ferrule/io/TypeCode" := hW.2.2.2.2.2.2.2.2.2.2.2.2.2.2.1
theorem wd15 {Z : State} {w : Nat → Addr} (hW : Wd Z w) : Sta Z Z.heap "com/example/ferrule/ferrule/io/TypeCode" "FUNCTION" "Lcom/example/ferrule/ferrule/io/TypeCode;" (.ref (w 8)) := hW.2.2.2.2.2.2.2.2.2.2.2.2.2.2.2.1
theorem wd16 {Z : State} {w : Nat → Addr} (hW : Wd Z w) : Exa Z Z.heap (w 8) "com/example/ferrule/ferrule/io/TypeCode" := hW.2.2.2.2.2.2.2.2.2.2.2.2.2.2.2.2.1
theorem wd17 {Z : State} {w : Nat → Addr} (hW : Wd Z w) : Sta Z Z.heap "com/example/ferrule/ferrule/io/TypeCode" "INT_SEQ" "Lcom/example/ferrule/ferrule/io/TypeCode;" (.ref (w 9)) := hW.2.2.2.2.2.2.2.2.2.2.2.2.2.2.2.2.2.1
theorem wd18 {Z : State} {w : Nat → Addr} (hW : Wd Z w) : Exa Z Z.heap (w 9) "com/example/ferrule/ferrule/io/TypeCode" := hW.2.2.2.2.2.2.2.2.2.2.2.2.2.2.2.2.2.2.1
theorem wd19 {Z : State} {w : Nat → Addr} (hW : Wd Z w) : Sta Z Z.heap "com/example/ferrule/ferrule/io/TypeCode" "CLASS" "Lcom/example/ferrule/ferrule/io/TypeCode;" (.ref (w 10)) := hW.2.2.2.2.2.2.2.2.2.2.2.2.2.2.2.2.2.2.2.1
theorem wd20 {Z : State} {w : Nat → Addr} (hW : Wd Z w) : Exa Z Z.heap (w 10) "com/example/ferrule/ferrule/io/TypeCode" := hW.2.2.2.2.2.2.2.2.2.2.2.2.2.2.2.2.2.2.2.2.1
theorem wd21 {Z : State} {w : Nat → Addr} (hW : Wd Z w) : Sta Z Z.heap "com/example/ferrule/ferrule/io/TypeCode" "LIST" "Lcom/example/ferrule/ferrule/io/TypeCode;" (.ref (w 11)) := hW.2.2.2.2.2.2.2.2.2.2.2.2.2.2.2.2.2.2.2.2.2.1
theorem wd22 {Z : State} {w : Nat → Addr} (hW : Wd Z w) : Exa Z Z.heap (w 11) "com/example/ferrule/ferrule/io/TypeCode" := hW.2.2.2.2.2.2.2.2.2.2.2.2.2.2.2.2.2.2.2.2.2.2.1
theorem wd23 {Z : State} {w : Nat → Addr} (hW : Wd Z w) : Sta Z Z.heap "com/example/ferrule/ferrule/io/TypeCode" "REFERENCE" "Lcom/example/ferrule/ferrule/io/TypeCode;" (.ref (w 12)) := hW.2.2.2.2.2.2.2.2.2.2.2.2.2.2.2.2.2.2.2.2.2.2.2.1
theorem wd24 {Z : State} {w : Nat → Addr} (hW : Wd Z w) : Exa Z Z.heap (w 12) "com/example/ferrule/ferrule/io/TypeCode" := hW.2.2.2.2.2.2.2.2.2.2.2.2.2.2.2.2.2.2.2.2.2.2.2.2.1
theorem wd25 {Z : State} {w : Nat → Addr} (hW : Wd Z w) : Sta Z Z.heap "com/example/ferrule/ferrule/io/TypeCode" "DATA_SIZE" "Lcom/example/ferrule/ferrule/io/TypeCode;" (.ref (w 13)) := hW.2.2.2.2.2.2.2.2.2.2.2.2.2.2.2.2.2.2.2.2.2.2.2.2.2.1
theorem wd26 {Z : State} {w : Nat → Addr} (hW : Wd Z w) : Exa Z Z.heap (w 13) "com/example/ferrule/ferrule/io/TypeCode" := hW.2.2.2.2.2.2.2.2.2.2.2.2.2.2.2.2.2.2.2.2.2.2.2.2.2.2.1
theorem wd27 {Z : State} {w : Nat → Addr} (hW : Wd Z w) : Sta Z Z.heap "com/example/ferrule/ferrule/io/TypeCode" "LISTING" "Lcom/example/ferrule/ferrule/io/TypeCode;" (.ref (w 14)) := hW.2.2.2.2.2.2.2.2.2.2.2.2.2.2.2.2.2.2.2.2.2.2.2.2.2.2.2.1
theorem wd28 {Z : State} {w : Nat → Addr} (hW : Wd Z w) : Exa Z Z.heap (w 14) "com/example/ferrule/ferrule/io/TypeCode" := hW.2.2.2.2.2.2.2.2.2.2.2.2.2.2.2.2.2.2.2.2.2.2.2.2.2.2.2.2.1
theorem wd29 {Z : State} {w : Nat → Addr} (hW : Wd Z w) : Sta Z Z.heap "com/example/ferrule/ferrule/io/TypeCode" "SET" "Lcom/example/ferrule/ferrule/io/TypeCode;" (.ref (w 15)) := hW.2.2.2.2.2.2.2.2.2.2.2.2.2.2.2.2.2.2.2.2.2.2.2.2.2.2.2.2.2.1
theorem wd30 {Z : State} {w : Nat → Addr} (hW : Wd Z w) : Exa Z Z.heap (w 15) "com/example/ferrule/ferrule/io/TypeCode" := hW.2.2.2.2.2.2.2.2.2.2.2.2.2.2.2.2.2.2.2.2.2.2.2.2.2.2.2.2.2.2.1
theorem wd31 {Z : State} {w : Nat → Addr} (hW : Wd Z w) : Sta Z Z.heap "com/example/ferrule/ferrule/io/TypeCode" "REGEX" "Lcom/example/ferrule/ferrule/io/TypeCode;" (.ref (w 16)) := hW.2.2.2.2.2.2.2.2.2.2.2.2.2.2.2.2.2.2.2.2.2.2.2.2.2.2.2.2.2.2.2.1
theorem wd32 {Z : State} {w : Nat → Addr} (hW : Wd Z w) : Exa Z Z.heap (w 16) "com/example/ferrule/ferrule/io/TypeCode" := hW.2.2.2.2.2.2.2.2.2.2.2.2.2.2.2.2.2.2.2.2.2.2.2.2.2.2.2.2.2.2.2.2.1
theorem wd33 {Z : State} {w : Nat → Addr} (hW : Wd Z w) : Sta Z Z.heap "com/example/ferrule/ferrule/io/TypeCode" "ENTRY" "Lcom/example/ferrule/ferrule/io/TypeCode;" (.ref (w 17)) := hW.2.2.2.2.2.2.2.2.2.2.2.2.2.2.2.2.2.2.2.2.2.2.2.2.2.2.2.2.2.2.2.2.2.1
theorem wd34 {Z : State} {w : Nat → Addr} (hW : Wd Z w) : Exa Z Z.heap (w 17) "com/example/ferrule/ferrule/io/TypeCode" := hW.2.2.2.2.2.2.2.2.2.2.2.2.2.2.2.2.2.2.2.2.2.2.2.2.2.2.2.2.2.2.2.2.2.2.1
theorem wd35 {Z : State} {w : Nat → Addr} (hW : Wd Z w) : Sta Z Z.heap "com/example/ferrule/ferrule/io/TypeCode" "PAIR" "Lcom/example/ferrule/ferrule/io/TypeCode;" (.ref (w 18)) := hW.2.2.2.2.2.2.2.2.2.2.2.2.2.2.2.2.2.2.2.2.2.2.2.2.2.2.2.2.2.2.2.2.2.2.2.1
theorem wd36 {Z : State} {w : Nat → Addr} (hW : Wd Z w) : Exa Z Z.heap (w 18) "com/example/ferrule/ferrule/io/TypeCode" := hW.2.2.2.2.2.2.2.2.2.2.2.2.2.2.2.2.2.2.2.2.2.2.2.2.2.2.2.2.2.2.2.2.2.2.2.2.1
theorem wd37 {Z : State} {w : Nat → Addr} (hW : Wd Z w) : Sta Z Z.heap "com/example/ferrule/ferrule/io/TypeCode" "PROPERTY" "Lcom/example/ferrule/ferrule/io/TypeCode;" (.ref (w 19)) := hW.2.2.2.2.2.2.2.2.2.2.2.2.2.2.2.2.2.2.2.2.2.2.2.2.2.2.2.2.2.2.2.2.2.2.2.2.2.1
theorem wd38 {Z : State} {w : Nat → Addr} (hW : Wd Z w) : Exa Z Z.heap (w 19) "com/example/ferrule/ferrule/io/TypeCode" := hW.2.2.2.2.2.2.2.2.2.2.2.2.2.2.2.2.2.2.2.2.2.2.2.2.2.2.2.2.2.2.2.2.2.2.2.2.2.2.1
theorem wd39 {Z : State} {w : Nat → Addr} (hW : Wd Z w) : Arv Z Z.heap (w 0) (w 20) (.object "com/example/ferrule/ferrule/io/TypeCode") (33 : Int32) [.null, (.ref (w 4)), (.ref (w 2)), (.ref (w 1)), (.ref (w 11)), (.ref (w 14)), (.ref (w 15)), (.ref (w 5)), (.ref (w 13)), (.ref (w 18)), (.ref (w 9)), (.ref (w 16)), (.ref (w 10)), (.ref (w 3)), (.ref (w 8)), (.ref (w 6)), (.ref (w 19)), (.ref (w 17)), (.ref (w 7)), .null, .null, .null, .null, .null, .null, .null, .null, .null, .null, .null, .null, .null, (.ref (w 12))] .null := hW.2.2.2.2.2.2.2.2.2.2.2.2.2.2.2.2.2.2.2.2.2.2.2.2.2.2.2.2.2.2.2.2.2.2.2.2.2.2.2.1
def ownE (w : Nat → Addr) (c : Int64) : Value := if c = 1 then .ref (w 4) else if c = 2 then .ref (w 2) else if c = 3 then .ref (w 1) else if c = 4 then .ref (w 11) else if c = 5 then .ref (w 14) else if c = 6 then .ref (w 15) else if c = 7 then .ref (w 5) else if c = 8 then .ref (w 13) else if c = 9 then .ref (w 18) else if c = 10 then .ref (w 9) else if c = 11 then .ref (w 16) else if c = 12 then .ref (w 10) else if c = 13 then .ref (w 3) else if c = 14 then .ref (w 8) else if c = 15 then .ref (w 6) else if c = 16 then .ref (w 19) else if c = 17 then .ref (w 17) else if c = 18 then .ref (w 7) else if c = 32 then .ref (w 12) else .null
theorem own_ite (p : Value → Prop) {c : Prop} [Decidable c] {a b : Value} (ha : p a) (hb : p b) : p (if c then a else b) := by
  by_cases h : c
  · rw [if_pos h]; exact ha
  · rw [if_neg h]; exact hb
theorem ownE_ref (w : Nat → Addr) (c : Int64) : (ownE w c).isRef = true := by
  unfold ownE
  repeat refine own_ite (fun v => v.isRef = true) rfl ?_
  exact (rfl : Value.isRef .null = true)
theorem ownE_cat (w : Nat → Addr) (c : Int64) : (ownE w c).category = 1 := by
  unfold ownE
  repeat refine own_ite (fun v => v.category = 1) rfl ?_
  exact (rfl : Value.category .null = 1)
theorem own_cases (x : Int64) : x = 0 ∨ x = 1 ∨ x = 2 ∨ x = 3 ∨ x = 4 ∨ x = 5 ∨ x = 6 ∨ x = 7 ∨ x = 8 ∨ x = 9 ∨ x = 10 ∨ x = 11 ∨ x = 12 ∨ x = 13 ∨ x = 14 ∨ x = 15 ∨ x = 16 ∨ x = 17 ∨ x = 18 ∨ x = 19 ∨ x = 20 ∨ x = 21 ∨ x = 22 ∨ x = 23 ∨ x = 24 ∨ x = 25 ∨ x = 26 ∨ x = 27 ∨ x = 28 ∨ x = 29 ∨ x = 30 ∨ x = 31 ∨ x = 32 ∨ x < 0 ∨ 32 < x := by
  have e1 : (0 : Int64).toInt = 0 := by decide
  have e2 : (32 : Int64).toInt = 32 := by decide
  have hr : x.toInt = 0 ∨ x.toInt = 1 ∨ x.toInt = 2 ∨ x.toInt = 3 ∨ x.toInt = 4 ∨ x.toInt = 5 ∨ x.toInt = 6 ∨ x.toInt = 7 ∨ x.toInt = 8 ∨ x.toInt = 9 ∨ x.toInt = 10 ∨ x.toInt = 11 ∨ x.toInt = 12 ∨ x.toInt = 13 ∨ x.toInt = 14 ∨ x.toInt = 15 ∨ x.toInt = 16 ∨ x.toInt = 17 ∨ x.toInt = 18 ∨ x.toInt = 19 ∨ x.toInt = 20 ∨ x.toInt = 21 ∨ x.toInt = 22 ∨ x.toInt = 23 ∨ x.toInt = 24 ∨ x.toInt = 25 ∨ x.toInt = 26 ∨ x.toInt = 27 ∨ x.toInt = 28 ∨ x.toInt = 29 ∨ x.toInt = 30 ∨ x.toInt = 31 ∨ x.toInt = 32 ∨ x.toInt < (0 : Int64).toInt ∨ (32 : Int64).toInt < x.toInt := by omega
  rcases hr with q | q | q | q | q | q | q | q | q | q | q | q | q | q | q | q | q | q | q | q | q | q | q | q | q | q | q | q | q | q | q | q | q | q | q
  · exact Or.inl (Int64.toInt_inj.mp q)
  · exact Or.inr (Or.inl (Int64.toInt_inj.mp q))
  · exact Or.inr (Or.inr (Or.inl (Int64.toInt_inj.mp q)))
  · exact Or.inr (Or.inr (Or.inr (Or.inl (Int64.toInt_inj.mp q))))
  · exact Or.inr (Or.inr (Or.inr (Or.inr (Or.inl (Int64.toInt_inj.mp q)))))
  · exact Or.inr (Or.inr (Or.inr (Or.inr (Or.inr (Or.inl (Int64.toInt_inj.mp q))))))
  · exact Or.inr (Or.inr (Or.inr (Or.inr (Or.inr (Or.inr (Or.inl (Int64.toInt_inj.mp q)))))))
  · exact Or.inr (Or.inr (Or.inr (Or.inr (Or.inr (Or.inr (Or.inr (Or.inl (Int64.toInt_inj.mp q))))))))
  · exact Or.inr (Or.inr (Or.inr (Or.inr (Or.inr (Or.inr (Or.inr (Or.inr (Or.inl (Int64.toInt_inj.mp q)))))))))
  · exact Or.inr (Or.inr (Or.inr (Or.inr (Or.inr (Or.inr (Or.inr (Or.inr (Or.inr (Or.inl (Int64.toInt_inj.mp q))))))))))
  · exact Or.inr (Or.inr (Or.inr (Or.inr (Or.inr (Or.inr (Or.inr (Or.inr (Or.inr (Or.inr (Or.inl (Int64.toInt_inj.mp q)))))))))))
  · exact Or.inr (Or.inr (Or.inr (Or.inr (Or.inr (Or.inr (Or.inr (Or.inr (Or.inr (Or.inr (Or.inr (Or.inl (Int64.toInt_inj.mp q))))))))))))
  · exact Or.inr (Or.inr (Or.inr (Or.inr (Or.inr (Or.inr (Or.inr (Or.inr (Or.inr (Or.inr (Or.inr (Or.inr (Or.inl (Int64.toInt_inj.mp q)))))))))))))
  · exact Or.inr (Or.inr (Or.inr (Or.inr (Or.inr (Or.inr (Or.inr (Or.inr (Or.inr (Or.inr (Or.inr (Or.inr (Or.inr (Or.inl (Int64.toInt_inj.mp q))))))))))))))
  · exact Or.inr (Or.inr (Or.inr (Or.inr (Or.inr (Or.inr (Or.inr (Or.inr (Or.inr (Or.inr (Or.inr (Or.inr (Or.inr (Or.inr (Or.inl (Int64.toInt_inj.mp q)))))))))))))))
  · exact Or.inr (Or.inr (Or.inr (Or.inr (Or.inr (Or.inr (Or.inr (Or.inr (Or.inr (Or.inr (Or.inr (Or.inr (Or.inr (Or.inr (Or.inr (Or.inl (Int64.toInt_inj.mp q))))))))))))))))
  · exact Or.inr (Or.inr (Or.inr (Or.inr (Or.inr (Or.inr (Or.inr (Or.inr (Or.inr (Or.inr (Or.inr (Or.inr (Or.inr (Or.inr (Or.inr (Or.inr (Or.inl (Int64.toInt_inj.mp q)))))))))))))))))
  · exact Or.inr (Or.inr (Or.inr (Or.inr (Or.inr (Or.inr (Or.inr (Or.inr (Or.inr (Or.inr (Or.inr (Or.inr (Or.inr (Or.inr (Or.inr (Or.inr (Or.inr (Or.inl (Int64.toInt_inj.mp q))))))))))))))))))
  · exact Or.inr (Or.inr (Or.inr (Or.inr (Or.inr (Or.inr (Or.inr (Or.inr (Or.inr (Or.inr (Or.inr (Or.inr (Or.inr (Or.inr (Or.inr (Or.inr (Or.inr (Or.inr (Or.inl (Int64.toInt_inj.mp q)))))))))))))))))))
  · exact Or.inr (Or.inr (Or.inr (Or.inr (Or.inr (Or.inr (Or.inr (Or.inr (Or.inr (Or.inr (Or.inr (Or.inr (Or.inr (Or.inr (Or.inr (Or.inr (Or.inr (Or.inr (Or.inr (Or.inl (Int64.toInt_inj.mp q))))))))))))))))))))
  · exact Or.inr (Or.inr (Or.inr (Or.inr (Or.inr (Or.inr (Or.inr (Or.inr (Or.inr (Or.inr (Or.inr (Or.inr (Or.inr (Or.inr (Or.inr (Or.inr (Or.inr (Or.inr (Or.inr (Or.inr (Or.inl (Int64.toInt_inj.mp q)))))))))))))))))))))
  · exact Or.inr (Or.inr (Or.inr (Or.inr (Or.inr (Or.inr (Or.inr (Or.inr (Or.inr (Or.inr (Or.inr (Or.inr (Or.inr (Or.inr (Or.inr (Or.inr (Or.inr (Or.inr (Or.inr (Or.inr (Or.inr (Or.inl (Int64.toInt_inj.mp q))))))))))))))))))))))
  · exact Or.inr (Or.inr (Or.inr (Or.inr (Or.inr (Or.inr (Or.inr (Or.inr (Or.inr (Or.inr (Or.inr (Or.inr (Or.inr (Or.inr (Or.inr (Or.inr (Or.inr (Or.inr (Or.inr (Or.inr (Or.inr (Or.inr (Or.inl (Int64.toInt_inj.mp q)))))))))))))))))))))))
  · exact Or.inr (Or.inr (Or.inr (Or.inr (Or.inr (Or.inr (Or.inr (Or.inr (Or.inr (Or.inr (Or.inr (Or.inr (Or.inr (Or.inr (Or.inr (Or.inr (Or.inr (Or.inr (Or.inr (Or.inr (Or.inr (Or.inr (Or.inr (Or.inl (Int64.toInt_inj.mp q))))))))))))))))))))))))
  · exact Or.inr (Or.inr (Or.inr (Or.inr (Or.inr (Or.inr (Or.inr (Or.inr (Or.inr (Or.inr (Or.inr (Or.inr (Or.inr (Or.inr (Or.inr (Or.inr (Or.inr (Or.inr (Or.inr (Or.inr (Or.inr (Or.inr (Or.inr (Or.inr (Or.inl (Int64.toInt_inj.mp q)))))))))))))))))))))))))
  · exact Or.inr (Or.inr (Or.inr (Or.inr (Or.inr (Or.inr (Or.inr (Or.inr (Or.inr (Or.inr (Or.inr (Or.inr (Or.inr (Or.inr (Or.inr (Or.inr (Or.inr (Or.inr (Or.inr (Or.inr (Or.inr (Or.inr (Or.inr (Or.inr (Or.inr (Or.inl (Int64.toInt_inj.mp q))))))))))))))))))))))))))
  · exact Or.inr (Or.inr (Or.inr (Or.inr (Or.inr (Or.inr (Or.inr (Or.inr (Or.inr (Or.inr (Or.inr (Or.inr (Or.inr (Or.inr (Or.inr (Or.inr (Or.inr (Or.inr (Or.inr (Or.inr (Or.inr (Or.inr (Or.inr (Or.inr (Or.inr (Or.inr (Or.inl (Int64.toInt_inj.mp q)))))))))))))))))))))))))))
  · exact Or.inr (Or.inr (Or.inr (Or.inr (Or.inr (Or.inr (Or.inr (Or.inr (Or.inr (Or.inr (Or.inr (Or.inr (Or.inr (Or.inr (Or.inr (Or.inr (Or.inr (Or.inr (Or.inr (Or.inr (Or.inr (Or.inr (Or.inr (Or.inr (Or.inr (Or.inr (Or.inr (Or.inl (Int64.toInt_inj.mp q))))))))))))))))))))))))))))
  · exact Or.inr (Or.inr (Or.inr (Or.inr (Or.inr (Or.inr (Or.inr (Or.inr (Or.inr (Or.inr (Or.inr (Or.inr (Or.inr (Or.inr (Or.inr (Or.inr (Or.inr (Or.inr (Or.inr (Or.inr (Or.inr (Or.inr (Or.inr (Or.inr (Or.inr (Or.inr (Or.inr (Or.inr (Or.inl (Int64.toInt_inj.mp q)))))))))))))))))))))))))))))
  · exact Or.inr (Or.inr (Or.inr (Or.inr (Or.inr (Or.inr (Or.inr (Or.inr (Or.inr (Or.inr (Or.inr (Or.inr (Or.inr (Or.inr (Or.inr (Or.inr (Or.inr (Or.inr (Or.inr (Or.inr (Or.inr (Or.inr (Or.inr (Or.inr (Or.inr (Or.inr (Or.inr (Or.inr (Or.inr (Or.inl (Int64.toInt_inj.mp q))))))))))))))))))))))))))))))
  · exact Or.inr (Or.inr (Or.inr (Or.inr (Or.inr (Or.inr (Or.inr (Or.inr (Or.inr (Or.inr (Or.inr (Or.inr (Or.inr (Or.inr (Or.inr (Or.inr (Or.inr (Or.inr (Or.inr (Or.inr (Or.inr (Or.inr (Or.inr (Or.inr (Or.inr (Or.inr (Or.inr (Or.inr (Or.inr (Or.inr (Or.inl (Int64.toInt_inj.mp q)))))))))))))))))))))))))))))))
  · exact Or.inr (Or.inr (Or.inr (Or.inr (Or.inr (Or.inr (Or.inr (Or.inr (Or.inr (Or.inr (Or.inr (Or.inr (Or.inr (Or.inr (Or.inr (Or.inr (Or.inr (Or.inr (Or.inr (Or.inr (Or.inr (Or.inr (Or.inr (Or.inr (Or.inr (Or.inr (Or.inr (Or.inr (Or.inr (Or.inr (Or.inr (Or.inl (Int64.toInt_inj.mp q))))))))))))))))))))))))))))))))
  · exact Or.inr (Or.inr (Or.inr (Or.inr (Or.inr (Or.inr (Or.inr (Or.inr (Or.inr (Or.inr (Or.inr (Or.inr (Or.inr (Or.inr (Or.inr (Or.inr (Or.inr (Or.inr (Or.inr (Or.inr (Or.inr (Or.inr (Or.inr (Or.inr (Or.inr (Or.inr (Or.inr (Or.inr (Or.inr (Or.inr (Or.inr (Or.inr (Or.inl (Int64.toInt_inj.mp q)))))))))))))))))))))))))))))))))
  · exact Or.inr (Or.inr (Or.inr (Or.inr (Or.inr (Or.inr (Or.inr (Or.inr (Or.inr (Or.inr (Or.inr (Or.inr (Or.inr (Or.inr (Or.inr (Or.inr (Or.inr (Or.inr (Or.inr (Or.inr (Or.inr (Or.inr (Or.inr (Or.inr (Or.inr (Or.inr (Or.inr (Or.inr (Or.inr (Or.inr (Or.inr (Or.inr (Or.inr (Or.inl (Int64.lt_iff_toInt_lt.mpr q))))))))))))))))))))))))))))))))))
  · exact Or.inr (Or.inr (Or.inr (Or.inr (Or.inr (Or.inr (Or.inr (Or.inr (Or.inr (Or.inr (Or.inr (Or.inr (Or.inr (Or.inr (Or.inr (Or.inr (Or.inr (Or.inr (Or.inr (Or.inr (Or.inr (Or.inr (Or.inr (Or.inr (Or.inr (Or.inr (Or.inr (Or.inr (Or.inr (Or.inr (Or.inr (Or.inr (Or.inr (Or.inr (Int64.lt_iff_toInt_lt.mpr q))))))))))))))))))))))))))))))))))
theorem own_g1 {x : Int64} (h : 32 < x) : ¬ x < 0 := fun q => by
  have a := Int64.lt_iff_toInt_lt.mp h
  have b := Int64.lt_iff_toInt_lt.mp q
  have e1 : (0 : Int64).toInt = 0 := by decide
  have e2 : (32 : Int64).toInt = 32 := by decide
  omega
theorem own_g2 {x : Int64} (h : 32 < x) : ¬ x < 33 := fun q => by
  have a := Int64.lt_iff_toInt_lt.mp h
  have b := Int64.lt_iff_toInt_lt.mp q
  have e1 : (33 : Int64).toInt = 33 := by decide
  have e2 : (32 : Int64).toInt = 32 := by decide
  omega
theorem ownE_lo (w : Nat → Addr) {q : Int64} (h : q < 0) : ownE w q = .null := by
  have n1 : ¬ (q = 1) := fun e => by subst e; exact absurd h (by decide)
  have n2 : ¬ (q = 2) := fun e => by subst e; exact absurd h (by decide)
  have n3 : ¬ (q = 3) := fun e => by subst e; exact absurd h (by decide)
  have n4 : ¬ (q = 4) := fun e => by subst e; exact absurd h (by decide)
  have n5 : ¬ (q = 5) := fun e => by subst e; exact absurd h (by decide)
  have n6 : ¬ (q = 6) := fun e => by subst e; exact absurd h (by decide)
  have n7 : ¬ (q = 7) := fun e => by subst e; exact absurd h (by decide)
  have n8 : ¬ (q = 8) := fun e => by subst e; exact absurd h (by decide)
  have n9 : ¬ (q = 9) := fun e => by subst e; exact absurd h (by decide)
  have n10 : ¬ (q = 10) := fun e => by subst e; exact absurd h (by decide)
  have n11 : ¬ (q = 11) := fun e => by subst e; exact absurd h (by decide)
  have n12 : ¬ (q = 12) := fun e => by subst e; exact absurd h (by decide)
  have n13 : ¬ (q = 13) := fun e => by subst e; exact absurd h (by decide)
  have n14 : ¬ (q = 14) := fun e => by subst e; exact absurd h (by decide)
  have n15 : ¬ (q = 15) := fun e => by subst e; exact absurd h (by decide)
  have n16 : ¬ (q = 16) := fun e => by subst e; exact absurd h (by decide)
  have n17 : ¬ (q = 17) := fun e => by subst e; exact absurd h (by decide)
  have n18 : ¬ (q = 18) := fun e => by subst e; exact absurd h (by decide)
  have n32 : ¬ (q = 32) := fun e => by subst e; exact absurd h (by decide)
  unfold ownE
  rw [if_neg (n1), if_neg (n2), if_neg (n3), if_neg (n4), if_neg (n5), if_neg (n6), if_neg (n7), if_neg (n8), if_neg (n9), if_neg (n10), if_neg (n11), if_neg (n12), if_neg (n13), if_neg (n14), if_neg (n15), if_neg (n16), if_neg (n17), if_neg (n18), if_neg (n32)]
theorem ownE_hi (w : Nat → Addr) {q : Int64} (h : 32 < q) : ownE w q = .null := by
  have n1 : ¬ (q = 1) := fun e => by subst e; exact absurd h (by decide)
  have n2 : ¬ (q = 2) := fun e => by subst e; exact absurd h (by decide)
  have n3 : ¬ (q = 3) := fun e => by subst e; exact absurd h (by decide)
  have n4 : ¬ (q = 4) := fun e => by subst e; exact absurd h (by decide)
  have n5 : ¬ (q = 5) := fun e => by subst e; exact absurd h (by decide)
  have n6 : ¬ (q = 6) := fun e => by subst e; exact absurd h (by decide)
  have n7 : ¬ (q = 7) := fun e => by subst e; exact absurd h (by decide)
  have n8 : ¬ (q = 8) := fun e => by subst e; exact absurd h (by decide)
  have n9 : ¬ (q = 9) := fun e => by subst e; exact absurd h (by decide)
  have n10 : ¬ (q = 10) := fun e => by subst e; exact absurd h (by decide)
  have n11 : ¬ (q = 11) := fun e => by subst e; exact absurd h (by decide)
  have n12 : ¬ (q = 12) := fun e => by subst e; exact absurd h (by decide)
  have n13 : ¬ (q = 13) := fun e => by subst e; exact absurd h (by decide)
  have n14 : ¬ (q = 14) := fun e => by subst e; exact absurd h (by decide)
  have n15 : ¬ (q = 15) := fun e => by subst e; exact absurd h (by decide)
  have n16 : ¬ (q = 16) := fun e => by subst e; exact absurd h (by decide)
  have n17 : ¬ (q = 17) := fun e => by subst e; exact absurd h (by decide)
  have n18 : ¬ (q = 18) := fun e => by subst e; exact absurd h (by decide)
  have n32 : ¬ (q = 32) := fun e => by subst e; exact absurd h (by decide)
  unfold ownE
  rw [if_neg (n1), if_neg (n2), if_neg (n3), if_neg (n4), if_neg (n5), if_neg (n6), if_neg (n7), if_neg (n8), if_neg (n9), if_neg (n10), if_neg (n11), if_neg (n12), if_neg (n13), if_neg (n14), if_neg (n15), if_neg (n16), if_neg (n17), if_neg (n18), if_neg (n32)]
theorem d1_0 : decode prog_47_method_5_code 0 = .ok (.lload_n 0, 1) := by decide +kernel
theorem d1_1 : decode prog_47_method_5_code 1 = .ok (.lconst 0, 1) := by decide +kernel
theorem d1_2 : decode prog_47_method_5_code 2 = .ok (.lcmp, 1) := by decide +kernel
theorem d1_3 : decode prog_47_method_5_code 3 = .ok (.ifCond .lt 22, 3) := by decide +kernel
theorem d1_6 : decode prog_47_method_5_code 6 = .ok (.lload_n 0, 1) := by decide +kernel
theorem d1_7 : decode prog_47_method_5_code 7 = .ok (.getstatic 101, 3) := by decide +kernel
theorem d1_10 : decode prog_47_method_5_code 10 = .ok (.arraylength, 1) := by decide +kernel
theorem d1_11 : decode prog_47_method_5_code 11 = .ok (.i2l, 1) := by decide +kernel
theorem d1_12 : decode prog_47_method_5_code 12 = .ok (.lcmp, 1) := by decide +kernel
theorem d1_13 : decode prog_47_method_5_code 13 = .ok (.ifCond .ge 12, 3) := by decide +kernel
theorem d1_16 : decode prog_47_method_5_code 16 = .ok (.getstatic 101, 3) := by decide +kernel
theorem d1_19 : decode prog_47_method_5_code 19 = .ok (.lload_n 0, 1) := by decide +kernel
theorem d1_20 : decode prog_47_method_5_code 20 = .ok (.l2i, 1) := by decide +kernel
theorem d1_21 : decode prog_47_method_5_code 21 = .ok (.aaload, 1) := by decide +kernel
theorem d1_22 : decode prog_47_method_5_code 22 = .ok (.goto 4, 3) := by decide +kernel
theorem d1_26 : decode prog_47_method_5_code 26 = .ok (.areturn, 1) := by decide +kernel
theorem ef_1_1 (m : MethodId) : entryFrame m #[(.long (0 : Int64))] 2 = mkF m 0 #[.val (.long (0 : Int64)), .second] [] := by first | (simp [entryFrame, mkF, argsToLocals, Value.category]; done) | rfl
theorem pnc_0 : plainName "com/example/ferrule/ferrule/io/TypeCode" = true := by first | (simp [plainName, overriddenIn]; done) | decide +kernel
def Q1_1 (Z : State) (w : Nat → Addr) (h0 : Heap) (n0 : Nat) (v : Option Value) (h : Heap) (L : List Loc) : Prop := v = some .null ∧ Fr n0 L ∧ h = h0
set_option maxRecDepth 65536 in
set_option maxHeartbeats 40000000 in
theorem rm1_1 (l : Launch) (Z : State) (a0 : Array Value) (hw : ∀ d ∈ tables_1, d.before a0 Z = true) (w : Nat → Addr) (hW : Wd Z w) (ws : List Jvm.Cond) (h0 : Heap) (n0 : Nat) (O0 : Old Z n0 h0) :
    MetFree l ym0 (head1 (Jvm.Cond.code ym0 prog_47_method_5_code 2 (some (.object "com/example/ferrule/ferrule/io/TypeCode")) :: ws) ({ frames := 0, cells := 0, slots := 0, locals := 0 } : Room)) (fun a U => a = #[(.long (0 : Int64))] ∧ Z.Warmed39 U.vm ∧ U.heap = h0) (fun _ _ _ _ _ => True) (fun _ U o U' => ∃ v L, o = .returned v ∧ Q1_1 Z w h0 n0 v U'.heap L ∧ FrameEnd U o U' L ({ frames := 0, cells := 0, slots := 0, locals := 0 } : Room).cells ({ frames := 0, cells := 0, slots := 0, locals := 0 } : Room).slots) := by
  refine MetFree.of_bodySF (plainFor_of_name pnc_0) hisR ?_
  intro p e s m args below meth c s₁ Bd hml0 hP hK
  obtain ⟨rfl, hZ, hh⟩ := hP
  have hx := Bd.exec
  have hby := Bd.bytes
  have hml : c.maxLocals = 2 := hml0
  have hown : s.vm.findClass "com/example/ferrule/ferrule/io/TypeCode" = some m.cls := findClass_of_methodNamed Bd.named
  have hnm := (name_of_methodNamed Bd.named Bd.method).1
  have X0 : Stand p l e ({ frames := 0, cells := 0, slots := 0, locals := 0 } : Room) s m #[(.long (0 : Int64))] below meth c s₁ [] 0 0 := Stand.of_body Bd
  have e0 : s₁.heap = h0 := by rw [← hh, Bd.state]; rfl
  have N0 := Fr.nil n0
  skip
  have pre0 : ∀ t, Steps p.tables e below (s₁.setTop (mkF m 0 #[.val (.long (0 : Int64)), .second] [])) t → Steps p.tables e below (s₁.setTop (entryFrame m #[(.long (0 : Int64))] 2)) t := fun t k => castTop (ef_1_1 m) k
  obtain ⟨T1, X1, e1, st1⟩ := getS2 X0 hx hZ hown (host := "") (Or.inl (wk4 hw)) Via.refl e0 ((wd0 hW).ext O0.2) (g := (mkF m 7 #[.val (.long (0 : Int64)), .second] [(.long (0 : Int64))])) rfl (hb hby d1_7)
  obtain ⟨cl2, Ar2, q2, S2, Nn2, Hs2, G2⟩ := ((wd39 hW).ext O0.2)
  obtain ⟨T3, X3, e3, st3⟩ := getS2 X1 hx hZ hown (host := "") (Or.inl (wk4 hw)) Via.refl e1 ((wd0 hW).ext O0.2) (g := (mkF m 16 #[.val (.long (0 : Int64)), .second] [])) rfl (hb hby d1_16)
  obtain ⟨cl4, Ar4, q4, S4, Nn4, Hs4, G4⟩ := ((wd39 hW).ext O0.2)
  have hin4 : ¬ ((0 : Int32) < 0 ∨ cl4.slots.size ≤ ((0 : Int32)).toNatClampNeg) := inb_of S4 ⟨by decide, by decide⟩
  obtain ⟨fs, hr, hrun, hended, hWm, hsame⟩ := X3.leave (v := some .null) (fun h => by rw [Bd.returns] at h; cases h)
  refine ⟨_, _, pre0 _ ?_, hrun, hended, _, _, rfl, ?_, ⟨_, rfl⟩, hWm, hsame.mono (by decide) (by decide)⟩
  · show Steps p.tables e below (s₁.setTop (mkF m 0 #[.val (.long (0 : Int64)), .second] [])) _
    refine sL X0 hx hby d1_0 rfl ?_
    refine XS.lconst X0.here hx rfl (hb hby d1_1) ?_
    refine XS.lcmp X0.here hx rfl (hb hby d1_2) rfl ?_
    refine sN X0 hx hby d1_3 (by decide) ?_
    refine sL X0 hx hby d1_6 rfl ?_
    show Steps p.tables e below (s₁.setTop (mkF m 7 #[.val (.long (0 : Int64)), .second] [(.long (0 : Int64))])) _
    refine st1 _ ?_
    refine X1.arraylength hx (by rw [e1]; exact Ar2.1) (State.isArrayOf_alike hZ.alike Ar2.2.1) (g := (mkF m 10 #[.val (.long (0 : Int64)), .second] [(.ref (w 0)), (.long (0 : Int64))])) rfl rfl (hb hby d1_10) _ ?_
    rw [len_of S2 Nn2]
    show Steps p.tables e below (T1.setTop (mkF m 11 #[.val (.long (0 : Int64)), .second] [(.int (33 : Int32)), (.long (0 : Int64))])) _
    refine XS.i2l X1.here hx rfl (hb hby d1_11) rfl ?_
    refine XS.lcmp X1.here hx rfl (hb hby d1_12) rfl ?_
    refine sN X1 hx hby d1_13 (by decide) ?_
    refine st3 _ ?_
    refine sL X3 hx hby d1_19 rfl ?_
    refine XS.l2i X3.here hx rfl (hb hby d1_20) rfl ?_
    refine X3.aaload hx (j := (0 : Int32)) (v := .null) (by rw [e3]; exact Ar4.1) (State.isArrayOf_alike hZ.alike Ar4.2.1) rfl Ar4.2.2 hin4 (Hs4.at hin4 rfl) (g := (mkF m 21 #[.val (.long (0 : Int64)), .second] [(.int (0 : Int32)), (.ref (w 0))])) rfl rfl (hb hby d1_21) _ ?_
    refine sg (pc := 22) (pc' := 26) X3 hx hby d1_22 (by decide) (by decide) ?_
    jvm_step X3.here [X3.here.top, hx, (hb hby d1_26), X3.method', Bd.returns, Value.isRef, FieldType.isReference]
    first | (intro acts; rw [hr _ acts rfl rfl rfl]) | rw [hr _ _ rfl rfl rfl]
    exact Steps.refl _
  · show Q1_1 Z w h0 n0 _ T3.heap _
    rw [e3]
    exact ⟨rfl, N0, rfl⟩
theorem ef_1_2 (m : MethodId) : entryFrame m #[(.long (1 : Int64))] 2 = mkF m 0 #[.val (.long (1 : Int64)), .second] [] := by first | (simp [entryFrame, mkF, argsToLocals, Value.category]; done) | rfl
def Q1_2 (Z : State) (w : Nat → Addr) (h0 : Heap) (n0 : Nat) (v : Option Value) (h : Heap) (L : List Loc) : Prop := v = some (.ref (w 4)) ∧ Fr n0 L ∧ h = h0
set_option maxRecDepth 65536 in
set_option maxHeartbeats 40000000 in
theorem rm1_2 (l : Launch) (Z : State) (a0 : Array Value) (hw : ∀ d ∈ tables_1, d.before a0 Z = true) (w : Nat → Addr) (hW : Wd Z w) (ws : List Jvm.Cond) (h0 : Heap) (n0 : Nat) (O0 : Old Z n0 h0) :
    MetFree l ym0 (head1 (Jvm.Cond.code ym0 prog_47_method_5_code 2 (some (.object "com/example/ferrule/ferrule/io/TypeCode")) :: ws) ({ frames := 0, cells := 0, slots := 0, locals := 0 } : Room)) (fun a U => a = #[(.long (1 : Int64))] ∧ Z.Warmed39 U.vm ∧ U.heap = h0) (fun _ _ _ _ _ => True) (fun _ U o U' => ∃ v L, o = .returned v ∧ Q1_2 Z w h0 n0 v U'.heap L ∧ FrameEnd U o U' L ({ frames := 0, cells := 0, slots := 0, locals := 0 } : Room).cells ({ frames := 0, cells := 0, slots := 0, locals := 0 } : Room).slots) := by
  refine MetFree.of_bodySF (plainFor_of_name pnc_0) hisR ?_
  intro p e s m args below meth c s₁ Bd hml0 hP hK
  obtain ⟨rfl, hZ, hh⟩ := hP
  have hx := Bd.exec
  have hby := Bd.bytes
  have hml : c.maxLocals = 2 := hml0
  have hown : s.vm.findClass "com/example/ferrule/ferrule/io/TypeCode" = some m.cls := findClass_of_methodNamed Bd.named
  have hnm := (name_of_methodNamed Bd.named Bd.method).1
  have X0 : Stand p l e ({ frames := 0, cells := 0, slots := 0, locals := 0 } : Room) s m #[(.long (1 : Int64))] below meth c s₁ [] 0 0 := Stand.of_body Bd
  have e0 : s₁.heap = h0 := by rw [← hh, Bd.state]; rfl
  have N0 := Fr.nil n0
  skip
  have pre0 : ∀ t, Steps p.tables e below (s₁.setTop (mkF m 0 #[.val (.long (1 : Int64)), .second] [])) t → Steps p.tables e below (s₁.setTop (entryFrame m #[(.long (1 : Int64))] 2)) t := fun t k => castTop (ef_1_2 m) k
  obtain ⟨T1, X1, e1, st1⟩ := getS2 X0 hx hZ hown (host := "") (Or.inl (wk4 hw)) Via.refl e0 ((wd0 hW).ext O0.2) (g := (mkF m 7 #[.val (.long (1 : Int64)), .second] [(.long (1 : Int64))])) rfl (hb hby d1_7)
  obtain ⟨cl2, Ar2, q2, S2, Nn2, Hs2, G2⟩ := ((wd39 hW).ext O0.2)
  obtain ⟨T3, X3, e3, st3⟩ := getS2 X1 hx hZ hown (host := "") (Or.inl (wk4 hw)) Via.refl e1 ((wd0 hW).ext O0.2) (g := (mkF m 16 #[.val (.long (1 : Int64)), .second] [])) rfl (hb hby d1_16)
  obtain ⟨cl4, Ar4, q4, S4, Nn4, Hs4, G4⟩ := ((wd39 hW).ext O0.2)
  have hin4 : ¬ ((1 : Int32) < 0 ∨ cl4.slots.size ≤ ((1 : Int32)).toNatClampNeg) := inb_of S4 ⟨by decide, by decide⟩
  obtain ⟨fs, hr, hrun, hended, hWm, hsame⟩ := X3.leave (v := some (.ref (w 4))) (fun h => by rw [Bd.returns] at h; cases h)
  refine ⟨_, _, pre0 _ ?_, hrun, hended, _, _, rfl, ?_, ⟨_, rfl⟩, hWm, hsame.mono (by decide) (by decide)⟩
  · show Steps p.tables e below (s₁.setTop (mkF m 0 #[.val (.long (1 : Int64)), .second] [])) _
    refine sL X0 hx hby d1_0 rfl ?_
    refine XS.lconst X0.here hx rfl (hb hby d1_1) ?_
    refine XS.lcmp X0.here hx rfl (hb hby d1_2) rfl ?_
    refine sN X0 hx hby d1_3 (by decide) ?_
    refine sL X0 hx hby d1_6 rfl ?_
    show Steps p.tables e below (s₁.setTop (mkF m 7 #[.val (.long (1 : Int64)), .second] [(.long (1 : Int64))])) _
    refine st1 _ ?_
    refine X1.arraylength hx (by rw [e1]; exact Ar2.1) (State.isArrayOf_alike hZ.alike Ar2.2.1) (g := (mkF m 10 #[.val (.long (1 : Int64)), .second] [(.ref (w 0)), (.long (1 : Int64))])) rfl rfl (hb hby d1_10) _ ?_
    rw [len_of S2 Nn2]
    show Steps p.tables e below (T1.setTop (mkF m 11 #[.val (.long (1 : Int64)), .second] [(.int (33 : Int32)), (.long (1 : Int64))])) _
    refine XS.i2l X1.here hx rfl (hb hby d1_11) rfl ?_
    refine XS.lcmp X1.here hx rfl (hb hby d1_12) rfl ?_
    refine sN X1 hx hby d1_13 (by decide) ?_
    refine st3 _ ?_
    refine sL X3 hx hby d1_19 rfl ?_
    refine XS.l2i X3.here hx rfl (hb hby d1_20) rfl ?_
    refine X3.aaload hx (j := (1 : Int32)) (v := (.ref (w 4))) (by rw [e3]; exact Ar4.1) (State.isArrayOf_alike hZ.alike Ar4.2.1) rfl Ar4.2.2 hin4 (Hs4.at hin4 rfl) (g := (mkF m 21 #[.val (.long (1 : Int64)), .second] [(.int (1 : Int32)), (.ref (w 0))])) rfl rfl (hb hby d1_21) _ ?_
    refine sg (pc := 22) (pc' := 26) X3 hx hby d1_22 (by decide) (by decide) ?_
    jvm_step X3.here [X3.here.top, hx, (hb hby d1_26), X3.method', Bd.returns, Value.isRef, FieldType.isReference]
    first | (intro acts; rw [hr _ acts rfl rfl rfl]) | rw [hr _ _ rfl rfl rfl]
    exact Steps.refl _
  · show Q1_2 Z w h0 n0 _ T3.heap _
    rw [e3]
    exact ⟨rfl, N0, rfl⟩
theorem ef_1_3 (m : MethodId) : entryFrame m #[(.long (2 : Int64))] 2 = mkF m 0 #[.val (.long (2 : Int64)), .second] [] := by first | (simp [entryFrame, mkF, argsToLocals, Value.category]; done) | rfl
def Q1_3 (Z : State) (w : Nat → Addr) (h0 : Heap) (n0 : Nat) (v : Option Value) (h : Heap) (L : List Loc) : Prop := v = some (.ref (w 2)) ∧ Fr n0 L ∧ h = h0
set_option maxRecDepth 65536 in
set_option maxHeartbeats 40000000 in
theorem rm1_3 (l : Launch) (Z : State) (a0 : Array Value) (hw : ∀ d ∈ tables_1, d.before a0 Z = true) (w : Nat → Addr) (hW : Wd Z w) (ws : List Jvm.Cond) (h0 : Heap) (n0 : Nat) (O0 : Old Z n0 h0) :
    MetFree l ym0 (head1 (Jvm.Cond.code ym0 prog_47_method_5_code 2 (some (.object "com/example/ferrule/ferrule/io/TypeCode")) :: ws) ({ frames := 0, cells := 0, slots := 0, locals := 0 } : Room)) (fun a U => a = #[(.long (2 : Int64))] ∧ Z.Warmed39 U.vm ∧ U.heap = h0) (fun _ _ _ _ _ => True) (fun _ U o U' => ∃ v L, o = .returned v ∧ Q1_3 Z w h0 n0 v U'.heap L ∧ FrameEnd U o U' L ({ frames := 0, cells := 0, slots := 0, locals := 0 } : Room).cells ({ frames := 0, cells := 0, slots := 0, locals := 0 } : Room).slots) := by
  refine MetFree.of_bodySF (plainFor_of_name pnc_0) hisR ?_
  intro p e s m args below meth c s₁ Bd hml0 hP hK
  obtain ⟨rfl, hZ, hh⟩ := hP
  have hx := Bd.exec
  have hby := Bd.bytes
  have hml : c.maxLocals = 2 := hml0
  have hown : s.vm.findClass "com/example/ferrule/ferrule/io/TypeCode" = some m.cls := findClass_of_methodNamed Bd.named
  have hnm := (name_of_methodNamed Bd.named Bd.method).1
  have X0 : Stand p l e ({ frames := 0, cells := 0, slots := 0, locals := 0 } : Room) s m #[(.long (2 : Int64))] below meth c s₁ [] 0 0 := Stand.of_body Bd
  have e0 : s₁.heap = h0 := by rw [← hh, Bd.state]; rfl
  have N0 := Fr.nil n0
  skip
  have pre0 : ∀ t, Steps p.tables e below (s₁.setTop (mkF m 0 #[.val (.long (2 : Int64)), .second] [])) t → Steps p.tables e below (s₁.setTop (entryFrame m #[(.long (2 : Int64))] 2)) t := fun t k => castTop (ef_1_3 m) k
  obtain ⟨T1, X1, e1, st1⟩ := getS2 X0 hx hZ hown (host := "") (Or.inl (wk4 hw)) Via.refl e0 ((wd0 hW).ext O0.2) (g := (mkF m 7 #[.val (.long (2 : Int64)), .second] [(.long (2 : Int64))])) rfl (hb hby d1_7)
  obtain ⟨cl2, Ar2, q2, S2, Nn2, Hs2, G2⟩ := ((wd39 hW).ext O0.2)
  obtain ⟨T3, X3, e3, st3⟩ := getS2 X1 hx hZ hown (host := "") (Or.inl (wk4 hw)) Via.refl e1 ((wd0 hW).ext O0.2) (g := (mkF m 16 #[.val (.long (2 : Int64)), .second] [])) rfl (hb hby d1_16)
  obtain ⟨cl4, Ar4, q4, S4, Nn4, Hs4, G4⟩ := ((wd39 hW).ext O0.2)
  have hin4 : ¬ ((2 : Int32) < 0 ∨ cl4.slots.size ≤ ((2 : Int32)).toNatClampNeg) := inb_of S4 ⟨by decide, by decide⟩
  obtain ⟨fs, hr, hrun, hended, hWm, hsame⟩ := X3.leave (v := some (.ref (w 2))) (fun h => by rw [Bd.returns] at h; cases h)
  refine ⟨_, _, pre0 _ ?_, hrun, hended, _, _, rfl, ?_, ⟨_, rfl⟩, hWm, hsame.mono (by decide) (by decide)⟩
  · show Steps p.tables e below (s₁.setTop (mkF m 0 #[.val (.long (2 : Int64)), .second] [])) _
    refine sL X0 hx hby d1_0 rfl ?_
    refine XS.lconst X0.here hx rfl (hb hby d1_1) ?_
    refine XS.lcmp X0.here hx rfl (hb hby d1_2) rfl ?_
    refine sN X0 hx hby d1_3 (by decide) ?_
    refine sL X0 hx hby d1_6 rfl ?_
    show Steps p.tables e below (s₁.setTop (mkF m 7 #[.val (.long (2 : Int64)), .second] [(.long (2 : Int64))])) _
    refine st1 _ ?_
    refine X1.arraylength hx (by rw [e1]; exact Ar2.1) (State.isArrayOf_alike hZ.alike Ar2.2.1) (g := (mkF m 10 #[.val (.long (2 : Int64)), .second] [(.ref (w 0)), (.long (2 : Int64))])) rfl rfl (hb hby d1_10) _ ?_
    rw [len_of S2 Nn2]
    show Steps p.tables e below (T1.setTop (mkF m 11 #[.val (.long (2 : Int64)), .second] [(.int (33 : Int32)), (.long (2 : Int64))])) _
    refine XS.i2l X1.here hx rfl (hb hby d1_11) rfl ?_
    refine XS.lcmp X1.here hx rfl (hb hby d1_12) rfl ?_
    refine sN X1 hx hby d1_13 (by decide) ?_
    refine st3 _ ?_
    refine sL X3 hx hby d1_19 rfl ?_
    refine XS.l2i X3.here hx rfl (hb hby d1_20) rfl ?_
    refine X3.aaload hx (j := (2 : Int32)) (v := (.ref (w 2))) (by rw [e3]; exact Ar4.1) (State.isArrayOf_alike hZ.alike Ar4.2.1) rfl Ar4.2.2 hin4 (Hs4.at hin4 rfl) (g := (mkF m 21 #[.val (.long (2 : Int64)), .second] [(.int (2 : Int32)), (.ref (w 0))])) rfl rfl (hb hby d1_21) _ ?_
    refine sg (pc := 22) (pc' := 26) X3 hx hby d1_22 (by decide) (by decide) ?_
    jvm_step X3.here [X3.here.top, hx, (hb hby d1_26), X3.method', Bd.returns, Value.isRef, FieldType.isReference]
    first | (intro acts; rw [hr _ acts rfl rfl rfl]) | rw [hr _ _ rfl rfl rfl]
    exact Steps.refl _
  · show Q1_3 Z w h0 n0 _ T3.heap _
    rw [e3]
    exact ⟨rfl, N0, rfl⟩
theorem ef_1_4 (m : MethodId) : entryFrame m #[(.long (3 : Int64))] 2 = mkF m 0 #[.val (.long (3 : Int64)), .second] [] := by first | (simp [entryFrame, mkF, argsToLocals, Value.category]; done) | rfl
def Q1_4 (Z : State) (w : Nat → Addr) (h0 : Heap) (n0 : Nat) (v : Option Value) (h : Heap) (L : List Loc) : Prop := v = some (.ref (w 1)) ∧ Fr n0 L ∧ h = h0
set_option maxRecDepth 65536 in
set_option maxHeartbeats 40000000 in
theorem rm1_4 (l : Launch) (Z : State) (a0 : Array Value) (hw : ∀ d ∈ tables_1, d.before a0 Z = true) (w : Nat → Addr) (hW : Wd Z w) (ws : List Jvm.Cond) (h0 : Heap) (n0 : Nat) (O0 : Old Z n0 h0) :
    MetFree l ym0 (head1 (Jvm.Cond.code ym0 prog_47_method_5_code 2 (some (.object "com/example/ferrule/ferrule/io/TypeCode")) :: ws) ({ frames := 0, cells := 0, slots := 0, locals := 0 } : Room)) (fun a U => a = #[(.long (3 : Int64))] ∧ Z.Warmed39 U.vm ∧ U.heap = h0) (fun _ _ _ _ _ => True) (fun _ U o U' => ∃ v L, o = .returned v ∧ Q1_4 Z w h0 n0 v U'.heap L ∧ FrameEnd U o U' L ({ frames := 0, cells := 0, slots := 0, locals := 0 } : Room).cells ({ frames := 0, cells := 0, slots := 0, locals := 0 } : Room).slots) := by
  refine MetFree.of_bodySF (plainFor_of_name pnc_0) hisR ?_
  intro p e s m args below meth c s₁ Bd hml0 hP hK
  obtain ⟨rfl, hZ, hh⟩ := hP
  have hx := Bd.exec
  have hby := Bd.bytes
  have hml : c.maxLocals = 2 := hml0
  have hown : s.vm.findClass "com/example/ferrule/ferrule/io/TypeCode" = some m.cls := findClass_of_methodNamed Bd.named
  have hnm := (name_of_methodNamed Bd.named Bd.method).1
  have X0 : Stand p l e ({ frames := 0, cells := 0, slots := 0, locals := 0 } : Room) s m #[(.long (3 : Int64))] below meth c s₁ [] 0 0 := Stand.of_body Bd
  have e0 : s₁.heap = h0 := by rw [← hh, Bd.state]; rfl
  have N0 := Fr.nil n0
  skip
  have pre0 : ∀ t, Steps p.tables e below (s₁.setTop (mkF m 0 #[.val (.long (3 : Int64)), .second] [])) t → Steps p.tables e below (s₁.setTop (entryFrame m #[(.long (3 : Int64))] 2)) t := fun t k => castTop (ef_1_4 m) k
  obtain ⟨T1, X1, e1, st1⟩ := getS2 X0 hx hZ hown (host := "") (Or.inl (wk4 hw)) Via.refl e0 ((wd0 hW).ext O0.2) (g := (mkF m 7 #[.val (.long (3 : Int64)), .second] [(.long (3 : Int64))])) rfl (hb hby d1_7)
  obtain ⟨cl2, Ar2, q2, S2, Nn2, Hs2, G2⟩ := ((wd39 hW).ext O0.2)
  obtain ⟨T3, X3, e3, st3⟩ := getS2 X1 hx hZ hown (host := "") (Or.inl (wk4 hw)) Via.refl e1 ((wd0 hW).ext O0.2) (g := (mkF m 16 #[.val (.long (3 : Int64)), .second] [])) rfl (hb hby d1_16)
  obtain ⟨cl4, Ar4, q4, S4, Nn4, Hs4, G4⟩ := ((wd39 hW).ext O0.2)
  have hin4 : ¬ ((3 : Int32) < 0 ∨ cl4.slots.size ≤ ((3 : Int32)).toNatClampNeg) := inb_of S4 ⟨by decide, by decide⟩
  obtain ⟨fs, hr, hrun, hended, hWm, hsame⟩ := X3.leave (v := some (.ref (w 1))) (fun h => by rw [Bd.returns] at h; cases h)
  refine ⟨_, _, pre0 _ ?_, hrun, hended, _, _, rfl, ?_, ⟨_, rfl⟩, hWm, hsame.mono (by decide) (by decide)⟩
  · show Steps p.tables e below (s₁.setTop (mkF m 0 #[.val (.long (3 : Int64)), .second] [])) _
    refine sL X0 hx hby d1_0 rfl ?_
    refine XS.lconst X0.here hx rfl (hb hby d1_1) ?_
    refine XS.lcmp X0.here hx rfl (hb hby d1_2) rfl ?_
    refine sN X0 hx hby d1_3 (by decide) ?_
    refine sL X0 hx hby d1_6 rfl ?_
    show Steps p.tables e below (s₁.setTop (mkF m 7 #[.val (.long (3 : Int64)), .second] [(.long (3 : Int64))])) _
    refine st1 _ ?_
    refine X1.arraylength hx (by rw [e1]; exact Ar2.1) (State.isArrayOf_alike hZ.alike Ar2.2.1) (g := (mkF m 10 #[.val (.long (3 : Int64)), .second] [(.ref (w 0)), (.long (3 : Int64))])) rfl rfl (hb hby d1_10) _ ?_
    rw [len_of S2 Nn2]
    show Steps p.tables e below (T1.setTop (mkF m 11 #[.val (.long (3 : Int64)), .second] [(.int (33 : Int32)), (.long (3 : Int64))])) _
    refine XS.i2l X1.here hx rfl (hb hby d1_11) rfl ?_
    refine XS.lcmp X1.here hx rfl (hb hby d1_12) rfl ?_
    refine sN X1 hx hby d1_13 (by decide) ?_
    refine st3 _ ?_
    refine sL X3 hx hby d1_19 rfl ?_
    refine XS.l2i X3.here hx rfl (hb hby d1_20) rfl ?_
    refine X3.aaload hx (j := (3 : Int32)) (v := (.ref (w 1))) (by rw [e3]; exact Ar4.1) (State.isArrayOf_alike hZ.alike Ar4.2.1) rfl Ar4.2.2 hin4 (Hs4.at hin4 rfl) (g := (mkF m 21 #[.val (.long (3 : Int64)), .second] [(.int (3 : Int32)), (.ref (w 0))])) rfl rfl (hb hby d1_21) _ ?_
    refine sg (pc := 22) (pc' := 26) X3 hx hby d1_22 (by decide) (by decide) ?_
    jvm_step X3.here [X3.here.top, hx, (hb hby d1_26), X3.method', Bd.returns, Value.isRef, FieldType.isReference]
    first | (intro acts; rw [hr _ acts rfl rfl rfl]) | rw [hr _ _ rfl rfl rfl]
    exact Steps.refl _
  · show Q1_4 Z w h0 n0 _ T3.heap _
    rw [e3]
    exact ⟨rfl, N0, rfl⟩
theorem ef_1_5 (m : MethodId) : entryFrame m #[(.long (4 : Int64))] 2 = mkF m 0 #[.val (.long (4 : Int64)), .second] [] := by first | (simp [entryFrame, mkF, argsToLocals, Value.category]; done) | rfl
def Q1_5 (Z : State) (w : Nat → Addr) (h0 : Heap) (n0 : Nat) (v : Option Value) (h : Heap) (L : List Loc) : Prop := v = some (.ref (w 11)) ∧ Fr n0 L ∧ h = h0
set_option maxRecDepth 65536 in
set_option maxHeartbeats 40000000 in
theorem rm1_5 (l : Launch) (Z : State) (a0 : Array Value) (hw : ∀ d ∈ tables_1, d.before a0 Z = true) (w : Nat → Addr) (hW : Wd Z w) (ws : List Jvm.Cond) (h0 : Heap) (n0 : Nat) (O0 : Old Z n0 h0) :
    MetFree l ym0 (head1 (Jvm.Cond.code ym0 prog_47_method_5_code 2 (some (.object "com/example/ferrule/ferrule/io/TypeCode")) :: ws) ({ frames := 0, cells := 0, slots := 0, locals := 0 } : Room)) (fun a U => a = #[(.long (4 : Int64))] ∧ Z.Warmed39 U.vm ∧ U.heap = h0) (fun _ _ _ _ _ => True) (fun _ U o U' => ∃ v L, o = .returned v ∧ Q1_5 Z w h0 n0 v U'.heap L ∧ FrameEnd U o U' L ({ frames := 0, cells := 0, slots := 0, locals := 0 } : Room).cells ({ frames := 0, cells := 0, slots := 0, locals := 0 } : Room).slots) := by
  refine MetFree.of_bodySF (plainFor_of_name pnc_0) hisR ?_
  intro p e s m args below meth c s₁ Bd hml0 hP hK
  obtain ⟨rfl, hZ, hh⟩ := hP
  have hx := Bd.exec
  have hby := Bd.bytes
  have hml : c.maxLocals = 2 := hml0
  have hown : s.vm.findClass "com/example/ferrule/ferrule/io/TypeCode" = some m.cls := findClass_of_methodNamed Bd.named
  have hnm := (name_of_methodNamed Bd.named Bd.method).1
  have X0 : Stand p l e ({ frames := 0, cells := 0, slots := 0, locals := 0 } : Room) s m #[(.long (4 : Int64))] below meth c s₁ [] 0 0 := Stand.of_body Bd
  have e0 : s₁.heap = h0 := by rw [← hh, Bd.state]; rfl
  have N0 := Fr.nil n0
  skip
  have pre0 : ∀ t, Steps p.tables e below (s₁.setTop (mkF m 0 #[.val (.long (4 : Int64)), .second] [])) t → Steps p.tables e below (s₁.setTop (entryFrame m #[(.long (4 : Int64))] 2)) t := fun t k => castTop (ef_1_5 m) k
  obtain ⟨T1, X1, e1, st1⟩ := getS2 X0 hx hZ hown (host := "") (Or.inl (wk4 hw)) Via.refl e0 ((wd0 hW).ext O0.2) (g := (mkF m 7 #[.val (.long (4 : Int64)), .second] [(.long (4 : Int64))])) rfl (hb hby d1_7)
  obtain ⟨cl2, Ar2, q2, S2, Nn2, Hs2, G2⟩ := ((wd39 hW).ext O0.2)
  obtain ⟨T3, X3, e3, st3⟩ := getS2 X1 hx hZ hown (host := "") (Or.inl (wk4 hw)) Via.refl e1 ((wd0 hW).ext O0.2) (g := (mkF m 16 #[.val (.long (4 : Int64)), .second] [])) rfl (hb hby d1_16)
  obtain ⟨cl4, Ar4, q4, S4, Nn4, Hs4, G4⟩ := ((wd39 hW).ext O0.2)
  have hin4 : ¬ ((4 : Int32) < 0 ∨ cl4.slots.size ≤ ((4 : Int32)).toNatClampNeg) := inb_of S4 ⟨by decide, by decide⟩
  obtain ⟨fs, hr, hrun, hended, hWm, hsame⟩ := X3.leave (v := some (.ref (w 11))) (fun h => by rw [Bd.returns] at h; cases h)
  refine ⟨_, _, pre0 _ ?_, hrun, hended, _, _, rfl, ?_, ⟨_, rfl⟩, hWm, hsame.mono (by decide) (by decide)⟩
  · show Steps p.tables e below (s₁.setTop (mkF m 0 #[.val (.long (4 : Int64)), .second] [])) _
    refine sL X0 hx hby d1_0 rfl ?_
    refine XS.lconst X0.here hx rfl (hb hby d1_1) ?_
    refine XS.lcmp X0.here hx rfl (hb hby d1_2) rfl ?_
    refine sN X0 hx hby d1_3 (by decide) ?_
    refine sL X0 hx hby d1_6 rfl ?_
    show Steps p.tables e below (s₁.setTop (mkF m 7 #[.val (.long (4 : Int64)), .second] [(.long (4 : Int64))])) _
    refine st1 _ ?_
    refine X1.arraylength hx (by rw [e1]; exact Ar2.1) (State.isArrayOf_alike hZ.alike Ar2.2.1) (g := (mkF m 10 #[.val (.long (4 : Int64)), .second] [(.ref (w 0)), (.long (4 : Int64))])) rfl rfl (hb hby d1_10) _ ?_
    rw [len_of S2 Nn2]
    show Steps p.tables e below (T1.setTop (mkF m 11 #[.val (.long (4 : Int64)), .second] [(.int (33 : Int32)), (.long (4 : Int64))])) _
    refine XS.i2l X1.here hx rfl (hb hby d1_11) rfl ?_
    refine XS.lcmp X1.here hx rfl (hb hby d1_12) rfl ?_
    refine sN X1 hx hby d1_13 (by decide) ?_
    refine st3 _ ?_
    refine sL X3 hx hby d1_19 rfl ?_
    refine XS.l2i X3.here hx rfl (hb hby d1_20) rfl ?_
    refine X3.aaload hx (j := (4 : Int32)) (v := (.ref (w 11))) (by rw [e3]; exact Ar4.1) (State.isArrayOf_alike hZ.alike Ar4.2.1) rfl Ar4.2.2 hin4 (Hs4.at hin4 rfl) (g := (mkF m 21 #[.val (.long (4 : Int64)), .second] [(.int (4 : Int32)), (.ref (w 0))])) rfl rfl (hb hby d1_21) _ ?_
    refine sg (pc := 22) (pc' := 26) X3 hx hby d1_22 (by decide) (by decide) ?_
    jvm_step X3.here [X3.here.top, hx, (hb hby d1_26), X3.method', Bd.returns, Value.isRef, FieldType.isReference]
    first | (intro acts; rw [hr _ acts rfl rfl rfl]) | rw [hr _ _ rfl rfl rfl]
    exact Steps.refl _
  · show Q1_5 Z w h0 n0 _ T3.heap _
    rw [e3]
    exact ⟨rfl, N0, rfl⟩
theorem ef_1_6 (m : MethodId) : entryFrame m #[(.long (5 : Int64))] 2 = mkF m 0 #[.val (.long (5 : Int64)), .second] [] := by first | (simp [entryFrame, mkF, argsToLocals, Value.category]; done) | rfl
def Q1_6 (Z : State) (w : Nat → Addr) (h0 : Heap) (n0 : Nat) (v : Option Value) (h : Heap) (L : List Loc) : Prop := v = some (.ref (w 14)) ∧ Fr n0 L ∧ h = h0
set_option maxRecDepth 65536 in
set_option maxHeartbeats 40000000 in
theorem rm1_6 (l : Launch) (Z : State) (a0 : Array Value) (hw : ∀ d ∈ tables_1, d.before a0 Z = true) (w : Nat → Addr) (hW : Wd Z w) (ws : List Jvm.Cond) (h0 : Heap) (n0 : Nat) (O0 : Old Z n0 h0) :
    MetFree l ym0 (head1 (Jvm.Cond.code ym0 prog_47_method_5_code 2 (some (.object "com/example/ferrule/ferrule/io/TypeCode")) :: ws) ({ frames := 0, cells := 0, slots := 0, locals := 0 } : Room)) (fun a U => a = #[(.long (5 : Int64))] ∧ Z.Warmed39 U.vm ∧ U.heap = h0) (fun _ _ _ _ _ => True) (fun _ U o U' => ∃ v L, o = .returned v ∧ Q1_6 Z w h0 n0 v U'.heap L ∧ FrameEnd U o U' L ({ frames := 0, cells := 0, slots := 0, locals := 0 } : Room).cells ({ frames := 0, cells := 0, slots := 0, locals := 0 } : Room).slots) := by
  refine MetFree.of_bodySF (plainFor_of_name pnc_0) hisR ?_
  intro p e s m args below meth c s₁ Bd hml0 hP hK
  obtain ⟨rfl, hZ, hh⟩ := hP
  have hx := Bd.exec
  have hby := Bd.bytes
  have hml : c.maxLocals = 2 := hml0
  have hown : s.vm.findClass "com/example/ferrule/ferrule/io/TypeCode" = some m.cls := findClass_of_methodNamed Bd.named
  have hnm := (name_of_methodNamed Bd.named Bd.method).1
  have X0 : Stand p l e ({ frames := 0, cells := 0, slots := 0, locals := 0 } : Room) s m #[(.long (5 : Int64))] below meth c s₁ [] 0 0 := Stand.of_body Bd
  have e0 : s₁.heap = h0 := by rw [← hh, Bd.state]; rfl
  have N0 := Fr.nil n0
  skip
  have pre0 : ∀ t, Steps p.tables e below (s₁.setTop (mkF m 0 #[.val (.long (5 : Int64)), .second] [])) t → Steps p.tables e below (s₁.setTop (entryFrame m #[(.long (5 : Int64))] 2)) t := fun t k => castTop (ef_1_6 m) k
  obtain ⟨T1, X1, e1, st1⟩ := getS2 X0 hx hZ hown (host := "") (Or.inl (wk4 hw)) Via.refl e0 ((wd0 hW).ext O0.2) (g := (mkF m 7 #[.val (.long (5 : Int64)), .second] [(.long (5 : Int64))])) rfl (hb hby d1_7)
  obtain ⟨cl2, Ar2, q2, S2, Nn2, Hs2, G2⟩ := ((wd39 hW).ext O0.2)
  obtain ⟨T3, X3, e3, st3⟩ := getS2 X1 hx hZ hown (host := "") (Or.inl (wk4 hw)) Via.refl e1 ((wd0 hW).ext O0.2) (g := (mkF m 16 #[.val (.long (5 : Int64)), .second] [])) rfl (hb hby d1_16)
  obtain ⟨cl4, Ar4, q4, S4, Nn4, Hs4, G4⟩ := ((wd39 hW).ext O0.2)
  have hin4 : ¬ ((5 : Int32) < 0 ∨ cl4.slots.size ≤ ((5 : Int32)).toNatClampNeg) := inb_of S4 ⟨by decide, by decide⟩
  obtain ⟨fs, hr, hrun, hended, hWm, hsame⟩ := X3.leave (v := some (.ref (w 14))) (fun h => by rw [Bd.returns] at h; cases h)
  refine ⟨_, _, pre0 _ ?_, hrun, hended, _, _, rfl, ?_, ⟨_, rfl⟩, hWm, hsame.mono (by decide) (by decide)⟩
  · show Steps p.tables e below (s₁.setTop (mkF m 0 #[.val (.long (5 : Int64)), .second] [])) _
    refine sL X0 hx hby d1_0 rfl ?_
    refine XS.lconst X0.here hx rfl (hb hby d1_1) ?_
    refine XS.lcmp X0.here hx rfl (hb hby d1_2) rfl ?_
    refine sN X0 hx hby d1_3 (by decide) ?_
    refine sL X0 hx hby d1_6 rfl ?_
    show Steps p.tables e below (s₁.setTop (mkF m 7 #[.val (.long (5 : Int64)), .second] [(.long (5 : Int64))])) _
    refine st1 _ ?_
    refine X1.arraylength hx (by rw [e1]; exact Ar2.1) (State.isArrayOf_alike hZ.alike Ar2.2.1) (g := (mkF m 10 #[.val (.long (5 : Int64)), .second] [(.ref (w 0)), (.long (5 : Int64))])) rfl rfl (hb hby d1_10) _ ?_
    rw [len_of S2 Nn2]
    show Steps p.tables e below (T1.setTop (mkF m 11 #[.val (.long (5 : Int64)), .second] [(.int (33 : Int32)), (.long (5 : Int64))])) _
    refine XS.i2l X1.here hx rfl (hb hby d1_11) rfl ?_
    refine XS.lcmp X1.here hx rfl (hb hby d1_12) rfl ?_
    refine sN X1 hx hby d1_13 (by decide) ?_
    refine st3 _ ?_
    refine sL X3 hx hby d1_19 rfl ?_
    refine XS.l2i X3.here hx rfl (hb hby d1_20) rfl ?_
    refine X3.aaload hx (j := (5 : Int32)) (v := (.ref (w 14))) (by rw [e3]; exact Ar4.1) (State.isArrayOf_alike hZ.alike Ar4.2.1) rfl Ar4.2.2 hin4 (Hs4.at hin4 rfl) (g := (mkF m 21 #[.val (.long (5 : Int64)), .second] [(.int (5 : Int32)), (.ref (w 0))])) rfl rfl (hb hby d1_21) _ ?_
    refine sg (pc := 22) (pc' := 26) X3 hx hby d1_22 (by decide) (by decide) ?_
    jvm_step X3.here [X3.here.top, hx, (hb hby d1_26), X3.method', Bd.returns, Value.isRef, FieldType.isReference]
    first | (intro acts; rw [hr _ acts rfl rfl rfl]) | rw [hr _ _ rfl rfl rfl]
    exact Steps.refl _
  · show Q1_6 Z w h0 n0 _ T3.heap _
    rw [e3]
    exact ⟨rfl, N0, rfl⟩
theorem ef_1_7 (m : MethodId) : entryFrame m #[(.long (6 : Int64))] 2 = mkF m 0 #[.val (.long (6 : Int64)), .second] [] := by first | (simp [entryFrame, mkF, argsToLocals, Value.category]; done) | rfl
def Q1_7 (Z : State) (w : Nat → Addr) (h0 : Heap) (n0 : Nat) (v : Option Value) (h : Heap) (L : List Loc) : Prop := v = some (.ref (w 15)) ∧ Fr n0 L ∧ h = h0
set_option maxRecDepth 65536 in
set_option maxHeartbeats 40000000 in
theorem rm1_7 (l : Launch) (Z : State) (a0 : Array Value) (hw : ∀ d ∈ tables_1, d.before a0 Z = true) (w : Nat → Addr) (hW : Wd Z w) (ws : List Jvm.Cond) (h0 : Heap) (n0 : Nat) (O0 : Old Z n0 h0) :
    MetFree l ym0 (head1 (Jvm.Cond.code ym0 prog_47_method_5_code 2 (some (.object "com/example/ferrule/ferrule/io/TypeCode")) :: ws) ({ frames := 0, cells := 0, slots := 0, locals := 0 } : Room)) (fun a U => a = #[(.long (6 : Int64))] ∧ Z.Warmed39 U.vm ∧ U.heap = h0) (fun _ _ _ _ _ => True) (fun _ U o U' => ∃ v L, o = .returned v ∧ Q1_7 Z w h0 n0 v U'.heap L ∧ FrameEnd U o U' L ({ frames := 0, cells := 0, slots := 0, locals := 0 } : Room).cells ({ frames := 0, cells := 0, slots := 0, locals := 0 } : Room).slots) := by
  refine MetFree.of_bodySF (plainFor_of_name pnc_0) hisR ?_
  intro p e s m args below meth c s₁ Bd hml0 hP hK
  obtain ⟨rfl, hZ, hh⟩ := hP
  have hx := Bd.exec
  have hby := Bd.bytes
  have hml : c.maxLocals = 2 := hml0
  have hown : s.vm.findClass "com/example/ferrule/ferrule/io/TypeCode" = some m.cls := findClass_of_methodNamed Bd.named
  have hnm := (name_of_methodNamed Bd.named Bd.method).1
  have X0 : Stand p l e ({ frames := 0, cells := 0, slots := 0, locals := 0 } : Room) s m #[(.long (6 : Int64))] below meth c s₁ [] 0 0 := Stand.of_body Bd
  have e0 : s₁.heap = h0 := by rw [← hh, Bd.state]; rfl
  have N0 := Fr.nil n0
  skip
  have pre0 : ∀ t, Steps p.tables e below (s₁.setTop (mkF m 0 #[.val (.long (6 : Int64)), .second] [])) t → Steps p.tables e below (s₁.setTop (entryFrame m #[(.long (6 : Int64))] 2)) t := fun t k => castTop (ef_1_7 m) k
  obtain ⟨T1, X1, e1, st1⟩ := getS2 X0 hx hZ hown (host := "") (Or.inl (wk4 hw)) Via.refl e0 ((wd0 hW).ext O0.2) (g := (mkF m 7 #[.val (.long (6 : Int64)), .second] [(.long (6 : Int64))])) rfl (hb hby d1_7)
  obtain ⟨cl2, Ar2, q2, S2, Nn2, Hs2, G2⟩ := ((wd39 hW).ext O0.2)
  obtain ⟨T3, X3, e3, st3⟩ := getS2 X1 hx hZ hown (host := "") (Or.inl (wk4 hw)) Via.refl e1 ((wd0 hW).ext O0.2) (g := (mkF m 16 #[.val (.long (6 : Int64)), .second] [])) rfl (hb hby d1_16)
  obtain ⟨cl4, Ar4, q4, S4, Nn4, Hs4, G4⟩ := ((wd39 hW).ext O0.2)
  have hin4 : ¬ ((6 : Int32) < 0 ∨ cl4.slots.size ≤ ((6 : Int32)).toNatClampNeg) := inb_of S4 ⟨by decide, by decide⟩
  obtain ⟨fs, hr, hrun, hended, hWm, hsame⟩ := X3.leave (v := some (.ref (w 15))) (fun h => by rw [Bd.returns] at h; cases h)
  refine ⟨_, _, pre0 _ ?_, hrun, hended, _, _, rfl, ?_, ⟨_, rfl⟩, hWm, hsame.mono (by decide) (by decide)⟩
  · show Steps p.tables e below (s₁.setTop (mkF m 0 #[.val (.long (6 : Int64)), .second] [])) _
    refine sL X0 hx hby d1_0 rfl ?_
    refine XS.lconst X0.here hx rfl (hb hby d1_1) ?_
    refine XS.lcmp X0.here hx rfl (hb hby d1_2) rfl ?_
    refine sN X0 hx hby d1_3 (by decide) ?_
    refine sL X0 hx hby d1_6 rfl ?_
    show Steps p.tables e below (s₁.setTop (mkF m 7 #[.val (.long (6 : Int64)), .second] [(.long (6 : Int64))])) _
    refine st1 _ ?_
    refine X1.arraylength hx (by rw [e1]; exact Ar2.1) (State.isArrayOf_alike hZ.alike Ar2.2.1) (g := (mkF m 10 #[.val (.long (6 : Int64)), .second] [(.ref (w 0)), (.long (6 : Int64))])) rfl rfl (hb hby d1_10) _ ?_
    rw [len_of S2 Nn2]
    show Steps p.tables e below (T1.setTop (mkF m 11 #[.val (.long (6 : Int64)), .second] [(.int (33 : Int32)), (.long (6 : Int64))])) _
    refine XS.i2l X1.here hx rfl (hb hby d1_11) rfl ?_
    refine XS.lcmp X1.here hx rfl (hb hby d1_12) rfl ?_
    refine sN X1 hx hby d1_13 (by decide) ?_
    refine st3 _ ?_
    refine sL X3 hx hby d1_19 rfl ?_
    refine XS.l2i X3.here hx rfl (hb hby d1_20) rfl ?_
    refine X3.aaload hx (j := (6 : Int32)) (v := (.ref (w 15))) (by rw [e3]; exact Ar4.1) (State.isArrayOf_alike hZ.alike Ar4.2.1) rfl Ar4.2.2 hin4 (Hs4.at hin4 rfl) (g := (mkF m 21 #[.val (.long (6 : Int64)), .second] [(.int (6 : Int32)), (.ref (w 0))])) rfl rfl (hb hby d1_21) _ ?_
    refine sg (pc := 22) (pc' := 26) X3 hx hby d1_22 (by decide) (by decide) ?_
    jvm_step X3.here [X3.here.top, hx, (hb hby d1_26), X3.method', Bd.returns, Value.isRef, FieldType.isReference]
    first | (intro acts; rw [hr _ acts rfl rfl rfl]) | rw [hr _ _ rfl rfl rfl]
    exact Steps.refl _
  · show Q1_7 Z w h0 n0 _ T3.heap _
    rw [e3]
    exact ⟨rfl, N0, rfl⟩
theorem ef_1_8 (m : MethodId) : entryFrame m #[(.long (7 : Int64))] 2 = mkF m 0 #[.val (.long (7 : Int64)), .second] [] := by first | (simp [entryFrame, mkF, argsToLocals, Value.category]; done) | rfl
def Q1_8 (Z : State) (w : Nat → Addr) (h0 : Heap) (n0 : Nat) (v : Option Value) (h : Heap) (L : List Loc) : Prop := v = some (.ref (w 5)) ∧ Fr n0 L ∧ h = h0
set_option maxRecDepth 65536 in
set_option maxHeartbeats 40000000 in
theorem rm1_8 (l : Launch) (Z : State) (a0 : Array Value) (hw : ∀ d ∈ tables_1, d.before a0 Z = true) (w : Nat → Addr) (hW : Wd Z w) (ws : List Jvm.Cond) (h0 : Heap) (n0 : Nat) (O0 : Old Z n0 h0) :
    MetFree l ym0 (head1 (Jvm.Cond.code ym0 prog_47_method_5_code 2 (some (.object "com/example/ferrule/ferrule/io/TypeCode")) :: ws) ({ frames := 0, cells := 0, slots := 0, locals := 0 } : Room)) (fun a U => a = #[(.long (7 : Int64))] ∧ Z.Warmed39 U.vm ∧ U.heap = h0) (fun _ _ _ _ _ => True) (fun _ U o U' => ∃ v L, o = .returned v ∧ Q1_8 Z w h0 n0 v U'.heap L ∧ FrameEnd U o U' L ({ frames := 0, cells := 0, slots := 0, locals := 0 } : Room).cells ({ frames := 0, cells := 0, slots := 0, locals := 0 } : Room).slots) := by
  refine MetFree.of_bodySF (plainFor_of_name pnc_0) hisR ?_
  intro p e s m args below meth c s₁ Bd hml0 hP hK
  obtain ⟨rfl, hZ, hh⟩ := hP
  have hx := Bd.exec
  have hby := Bd.bytes
  have hml : c.maxLocals = 2 := hml0
  have hown : s.vm.findClass "com/example/ferrule/ferrule/io/TypeCode" = some m.cls := findClass_of_methodNamed Bd.named
  have hnm := (name_of_methodNamed Bd.named Bd.method).1
  have X0 : Stand p l e ({ frames := 0, cells := 0, slots := 0, locals := 0 } : Room) s m #[(.long (7 : Int64))] below meth c s₁ [] 0 0 := Stand.of_body Bd
  have e0 : s₁.heap = h0 := by rw [← hh, Bd.state]; rfl
  have N0 := Fr.nil n0
  skip
  have pre0 : ∀ t, Steps p.tables e below (s₁.setTop (mkF m 0 #[.val (.long (7 : Int64)), .second] [])) t → Steps p.tables e below (s₁.setTop (entryFrame m #[(.long (7 : Int64))] 2)) t := fun t k => castTop (ef_1_8 m) k
  obtain ⟨T1, X1, e1, st1⟩ := getS2 X0 hx hZ hown (host := "") (Or.inl (wk4 hw)) Via.refl e0 ((wd0 hW).ext O0.2) (g := (mkF m 7 #[.val (.long (7 : Int64)), .second] [(.long (7 : Int64))])) rfl (hb hby d1_7)
  obtain ⟨cl2, Ar2, q2, S2, Nn2, Hs2, G2⟩ := ((wd39 hW).ext O0.2)
  obtain ⟨T3, X3, e3, st3⟩ := getS2 X1 hx hZ hown (host := "") (Or.inl (wk4 hw)) Via.refl e1 ((wd0 hW).ext O0.2) (g := (mkF m 16 #[.val (.long (7 : Int64)), .second] [])) rfl (hb hby d1_16)
  obtain ⟨cl4, Ar4, q4, S4, Nn4, Hs4, G4⟩ := ((wd39 hW).ext O0.2)
  have hin4 : ¬ ((7 : Int32) < 0 ∨ cl4.slots.size ≤ ((7 : Int32)).toNatClampNeg) := inb_of S4 ⟨by decide, by decide⟩
  obtain ⟨fs, hr, hrun, hended, hWm, hsame⟩ := X3.leave (v := some (.ref (w 5))) (fun h => by rw [Bd.returns] at h; cases h)
  refine ⟨_, _, pre0 _ ?_, hrun, hended, _, _, rfl, ?_, ⟨_, rfl⟩, hWm, hsame.mono (by decide) (by decide)⟩
  · show Steps p.tables e below (s₁.setTop (mkF m 0 #[.val (.long (7 : Int64)), .second] [])) _
    refine sL X0 hx hby d1_0 rfl ?_
    refine XS.lconst X0.here hx rfl (hb hby d1_1) ?_
    refine XS.lcmp X0.here hx rfl (hb hby d1_2) rfl ?_
    refine sN X0 hx hby d1_3 (by decide) ?_
    refine sL X0 hx hby d1_6 rfl ?_
    show Steps p.tables e below (s₁.setTop (mkF m 7 #[.val (.long (7 : Int64)), .second] [(.long (7 : Int64))])) _
    refine st1 _ ?_
    refine X1.arraylength hx (by rw [e1]; exact Ar2.1) (State.isArrayOf_alike hZ.alike Ar2.2.1) (g := (mkF m 10 #[.val (.long (7 : Int64)), .second] [(.ref (w 0)), (.long (7 : Int64))])) rfl rfl (hb hby d1_10) _ ?_
    rw [len_of S2 Nn2]
    show Steps p.tables e below (T1.setTop (mkF m 11 #[.val (.long (7 : Int64)), .second] [(.int (33 : Int32)), (.long (7 : Int64))])) _
    refine XS.i2l X1.here hx rfl (hb hby d1_11) rfl ?_
    refine XS.lcmp X1.here hx rfl (hb hby d1_12) rfl ?_
    refine sN X1 hx hby d1_13 (by decide) ?_
    refine st3 _ ?_
    refine sL X3 hx hby d1_19 rfl ?_
    refine XS.l2i X3.here hx rfl (hb hby d1_20) rfl ?_
    refine X3.aaload hx (j := (7 : Int32)) (v := (.ref (w 5))) (by rw [e3]; exact Ar4.1) (State.isArrayOf_alike hZ.alike Ar4.2.1) rfl Ar4.2.2 hin4 (Hs4.at hin4 rfl) (g := (mkF m 21 #[.val (.long (7 : Int64)), .second] [(.int (7 : Int32)), (.ref (w 0))])) rfl rfl (hb hby d1_21) _ ?_
    refine sg (pc := 22) (pc' := 26) X3 hx hby d1_22 (by decide) (by decide) ?_
    jvm_step X3.here [X3.here.top, hx, (hb hby d1_26), X3.method', Bd.returns, Value.isRef, FieldType.isReference]
    first | (intro acts; rw [hr _ acts rfl rfl rfl]) | rw [hr _ _ rfl rfl rfl]
    exact Steps.refl _
  · show Q1_8 Z w h0 n0 _ T3.heap _
    rw [e3]
    exact ⟨rfl, N0, rfl⟩
theorem ef_1_9 (m : MethodId) : entryFrame m #[(.long (8 : Int64))] 2 = mkF m 0 #[.val (.long (8 : Int64)), .second] [] := by first | (simp [entryFrame, mkF, argsToLocals, Value.category]; done) | rfl
def Q1_9 (Z : State) (w : Nat → Addr) (h0 : Heap) (n0 : Nat) (v : Option Value) (h : Heap) (L : List Loc) : Prop := v = some (.ref (w 13)) ∧ Fr n0 L ∧ h = h0
set_option maxRecDepth 65536 in
set_option maxHeartbeats 40000000 in
theorem rm1_9 (l : Launch) (Z : State) (a0 : Array Value) (hw : ∀ d ∈ tables_1, d.before a0 Z = true) (w : Nat → Addr) (hW : Wd Z w) (ws : List Jvm.Cond) (h0 : Heap) (n0 : Nat) (O0 : Old Z n0 h0) :
    MetFree l ym0 (head1 (Jvm.Cond.code ym0 prog_47_method_5_code 2 (some (.object "com/example/ferrule/ferrule/io/TypeCode")) :: ws) ({ frames := 0, cells := 0, slots := 0, locals := 0 } : Room)) (fun a U => a = #[(.long (8 : Int64))] ∧ Z.Warmed39 U.vm ∧ U.heap = h0) (fun _ _ _ _ _ => True) (fun _ U o U' => ∃ v L, o = .returned v ∧ Q1_9 Z w h0 n0 v U'.heap L ∧ FrameEnd U o U' L ({ frames := 0, cells := 0, slots := 0, locals := 0 } : Room).cells ({ frames := 0, cells := 0, slots := 0, locals := 0 } : Room).slots) := by
  refine MetFree.of_bodySF (plainFor_of_name pnc_0) hisR ?_
  intro p e s m args below meth c s₁ Bd hml0 hP hK
  obtain ⟨rfl, hZ, hh⟩ := hP
  have hx := Bd.exec
  have hby := Bd.bytes
  have hml : c.maxLocals = 2 := hml0
  have hown : s.vm.findClass "com/example/ferrule/ferrule/io/TypeCode" = some m.cls := findClass_of_methodNamed Bd.named
  have hnm := (name_of_methodNamed Bd.named Bd.method).1
  have X0 : Stand p l e ({ frames := 0, cells := 0, slots := 0, locals := 0 } : Room) s m #[(.long (8 : Int64))] below meth c s₁ [] 0 0 := Stand.of_body Bd
  have e0 : s₁.heap = h0 := by rw [← hh, Bd.state]; rfl
  have N0 := Fr.nil n0
  skip
  have pre0 : ∀ t, Steps p.tables e below (s₁.setTop (mkF m 0 #[.val (.long (8 : Int64)), .second] [])) t → Steps p.tables e below (s₁.setTop (entryFrame m #[(.long (8 : Int64))] 2)) t := fun t k => castTop (ef_1_9 m) k
  obtain ⟨T1, X1, e1, st1⟩ := getS2 X0 hx hZ hown (host := "") (Or.inl (wk4 hw)) Via.refl e0 ((wd0 hW).ext O0.2) (g := (mkF m 7 #[.val (.long (8 : Int64)), .second] [(.long (8 : Int64))])) rfl (hb hby d1_7)
  obtain ⟨cl2, Ar2, q2, S2, Nn2, Hs2, G2⟩ := ((wd39 hW).ext O0.2)
  obtain ⟨T3, X3, e3, st3⟩ := getS2 X1 hx hZ hown (host := "") (Or.inl (wk4 hw)) Via.refl e1 ((wd0 hW).ext O0.2) (g := (mkF m 16 #[.val (.long (8 : Int64)), .second] [])) rfl (hb hby d1_16)
  obtain ⟨cl4, Ar4, q4, S4, Nn4, Hs4, G4⟩ := ((wd39 hW).ext O0.2)
  have hin4 : ¬ ((8 : Int32) < 0 ∨ cl4.slots.size ≤ ((8 : Int32)).toNatClampNeg) := inb_of S4 ⟨by decide, by decide⟩
  obtain ⟨fs, hr, hrun, hended, hWm, hsame⟩ := X3.leave (v := some (.ref (w 13))) (fun h => by rw [Bd.returns] at h; cases h)
  refine ⟨_, _, pre0 _ ?_, hrun, hended, _, _, rfl, ?_, ⟨_, rfl⟩, hWm, hsame.mono (by decide) (by decide)⟩
  · show Steps p.tables e below (s₁.setTop (mkF m 0 #[.val (.long (8 : Int64)), .second] [])) _
    refine sL X0 hx hby d1_0 rfl ?_
    refine XS.lconst X0.here hx rfl (hb hby d1_1) ?_
    refine XS.lcmp X0.here hx rfl (hb hby d1_2) rfl ?_
    refine sN X0 hx hby d1_3 (by decide) ?_
    refine sL X0 hx hby d1_6 rfl ?_
    show Steps p.tables e below (s₁.setTop (mkF m 7 #[.val (.long (8 : Int64)), .second] [(.long (8 : Int64))])) _
    refine st1 _ ?_
    refine X1.arraylength hx (by rw [e1]; exact Ar2.1) (State.isArrayOf_alike hZ.alike Ar2.2.1) (g := (mkF m 10 #[.val (.long (8 : Int64)), .second] [(.ref (w 0)), (.long (8 : Int64))])) rfl rfl (hb hby d1_10) _ ?_
    rw [len_of S2 Nn2]
    show Steps p.tables e below (T1.setTop (mkF m 11 #[.val (.long (8 : Int64)), .second] [(.int (33 : Int32)), (.long (8 : Int64))])) _
    refine XS.i2l X1.here hx rfl (hb hby d1_11) rfl ?_
    refine XS.lcmp X1.here hx rfl (hb hby d1_12) rfl ?_
    refine sN X1 hx hby d1_13 (by decide) ?_
    refine st3 _ ?_
    refine sL X3 hx hby d1_19 rfl ?_
    refine XS.l2i X3.here hx rfl (hb hby d1_20) rfl ?_
    refine X3.aaload hx (j := (8 : Int32)) (v := (.ref (w 13))) (by rw [e3]; exact Ar4.1) (State.isArrayOf_alike hZ.alike Ar4.2.1) rfl Ar4.2.2 hin4 (Hs4.at hin4 rfl) (g := (mkF m 21 #[.val (.long (8 : Int64)), .second] [(.int (8 : Int32)), (.ref (w 0))])) rfl rfl (hb hby d1_21) _ ?_
    refine sg (pc := 22) (pc' := 26) X3 hx hby d1_22 (by decide) (by decide) ?_
    jvm_step X3.here [X3.here.top, hx, (hb hby d1_26), X3.method', Bd.returns, Value.isRef, FieldType.isReference]
    first | (intro acts; rw [hr _ acts rfl rfl rfl]) | rw [hr _ _ rfl rfl rfl]
    exact Steps.refl _
  · show Q1_9 Z w h0 n0 _ T3.heap _
    rw [e3]
    exact ⟨rfl, N0, rfl⟩
theorem ef_1_10 (m : MethodId) : entryFrame m #[(.long (9 : Int64))] 2 = mkF m 0 #[.val (.long (9 : Int64)), .second] [] := by first | (simp [entryFrame, mkF, argsToLocals, Value.category]; done) | rfl
def Q1_10 (Z : State) (w : Nat → Addr) (h0 : Heap) (n0 : Nat) (v : Option Value) (h : Heap) (L : List Loc) : Prop := v = some (.ref (w 18)) ∧ Fr n0 L ∧ h = h0
set_option maxRecDepth 65536 in
set_option maxHeartbeats 40000000 in
theorem rm1_10 (l : Launch) (Z : State) (a0 : Array Value) (hw : ∀ d ∈ tables_1, d.before a0 Z = true) (w : Nat → Addr) (hW : Wd Z w) (ws : List Jvm.Cond) (h0 : Heap) (n0 : Nat) (O0 : Old Z n0 h0) :
    MetFree l ym0 (head1 (Jvm.Cond.code ym0 prog_47_method_5_code 2 (some (.object "com/example/ferrule/ferrule/io/TypeCode")) :: ws) ({ frames := 0, cells := 0, slots := 0, locals := 0 } : Room)) (fun a U => a = #[(.long (9 : Int64))] ∧ Z.Warmed39 U.vm ∧ U.heap = h0) (fun _ _ _ _ _ => True) (fun _ U o U' => ∃ v L, o = .returned v ∧ Q1_10 Z w h0 n0 v U'.heap L ∧ FrameEnd U o U' L ({ frames := 0, cells := 0, slots := 0, locals := 0 } : Room).cells ({ frames := 0, cells := 0, slots := 0, locals := 0 } : Room).slots) := by
  refine MetFree.of_bodySF (plainFor_of_name pnc_0) hisR ?_
  intro p e s m args below meth c s₁ Bd hml0 hP hK
  obtain ⟨rfl, hZ, hh⟩ := hP
  have hx := Bd.exec
  have hby := Bd.bytes
  have hml : c.maxLocals = 2 := hml0
  have hown : s.vm.findClass "com/example/ferrule/ferrule/io/TypeCode" = some m.cls := findClass_of_methodNamed Bd.named
  have hnm := (name_of_methodNamed Bd.named Bd.method).1
  have X0 : Stand p l e ({ frames := 0, cells := 0, slots := 0, locals := 0 } : Room) s m #[(.long (9 : Int64))] below meth c s₁ [] 0 0 := Stand.of_body Bd
  have e0 : s₁.heap = h0 := by rw [← hh, Bd.state]; rfl
  have N0 := Fr.nil n0
  skip
  have pre0 : ∀ t, Steps p.tables e below (s₁.setTop (mkF m 0 #[.val (.long (9 : Int64)), .second] [])) t → Steps p.tables e below (s₁.setTop (entryFrame m #[(.long (9 : Int64))] 2)) t := fun t k => castTop (ef_1_10 m) k
  obtain ⟨T1, X1, e1, st1⟩ := getS2 X0 hx hZ hown (host := "") (Or.inl (wk4 hw)) Via.refl e0 ((wd0 hW).ext O0.2) (g := (mkF m 7 #[.val (.long (9 : Int64)), .second] [(.long (9 : Int64))])) rfl (hb hby d1_7)
  obtain ⟨cl2, Ar2, q2, S2, Nn2, Hs2, G2⟩ := ((wd39 hW).ext O0.2)
  obtain ⟨T3, X3, e3, st3⟩ := getS2 X1 hx hZ hown (host := "") (Or.inl (wk4 hw)) Via.refl e1 ((wd0 hW).ext O0.2) (g := (mkF m 16 #[.val (.long (9 : Int64)), .second] [])) rfl (hb hby d1_16)
  obtain ⟨cl4, Ar4, q4, S4, Nn4, Hs4, G4⟩ := ((wd39 hW).ext O0.2)
  have hin4 : ¬ ((9 : Int32) < 0 ∨ cl4.slots.size ≤ ((9 : Int32)).toNatClampNeg) := inb_of S4 ⟨by decide, by decide⟩
  obtain ⟨fs, hr, hrun, hended, hWm, hsame⟩ := X3.leave (v := some (.ref (w 18))) (fun h => by rw [Bd.returns] at h; cases h)
  refine ⟨_, _, pre0 _ ?_, hrun, hended, _, _, rfl, ?_, ⟨_, rfl⟩, hWm, hsame.mono (by decide) (by decide)⟩
  · show Steps p.tables e below (s₁.setTop (mkF m 0 #[.val (.long (9 : Int64)), .second] [])) _
    refine sL X0 hx hby d1_0 rfl ?_
    refine XS.lconst X0.here hx rfl (hb hby d1_1) ?_
    refine XS.lcmp X0.here hx rfl (hb hby d1_2) rfl ?_
    refine sN X0 hx hby d1_3 (by decide) ?_
    refine sL X0 hx hby d1_6 rfl ?_
    show Steps p.tables e below (s₁.setTop (mkF m 7 #[.val (.long (9 : Int64)), .second] [(.long (9 : Int64))])) _
    refine st1 _ ?_
    refine X1.arraylength hx (by rw [e1]; exact Ar2.1) (State.isArrayOf_alike hZ.alike Ar2.2.1) (g := (mkF m 10 #[.val (.long (9 : Int64)), .second] [(.ref (w 0)), (.long (9 : Int64))])) rfl rfl (hb hby d1_10) _ ?_
    rw [len_of S2 Nn2]
    show Steps p.tables e below (T1.setTop (mkF m 11 #[.val (.long (9 : Int64)), .second] [(.int (33 : Int32)), (.long (9 : Int64))])) _
    refine XS.i2l X1.here hx rfl (hb hby d1_11) rfl ?_
    refine XS.lcmp X1.here hx rfl (hb hby d1_12) rfl ?_
    refine sN X1 hx hby d1_13 (by decide) ?_
    refine st3 _ ?_
    refine sL X3 hx hby d1_19 rfl ?_
    refine XS.l2i X3.here hx rfl (hb hby d1_20) rfl ?_
    refine X3.aaload hx (j := (9 : Int32)) (v := (.ref (w 18))) (by rw [e3]; exact Ar4.1) (State.isArrayOf_alike hZ.alike Ar4.2.1) rfl Ar4.2.2 hin4 (Hs4.at hin4 rfl) (g := (mkF m 21 #[.val (.long (9 : Int64)), .second] [(.int (9 : Int32)), (.ref (w 0))])) rfl rfl (hb hby d1_21) _ ?_
    refine sg (pc := 22) (pc' := 26) X3 hx hby d1_22 (by decide) (by decide) ?_
    jvm_step X3.here [X3.here.top, hx, (hb hby d1_26), X3.method', Bd.returns, Value.isRef, FieldType.isReference]
    first | (intro acts; rw [hr _ acts rfl rfl rfl]) | rw [hr _ _ rfl rfl rfl]
    exact Steps.refl _
  · show Q1_10 Z w h0 n0 _ T3.heap _
    rw [e3]
    exact ⟨rfl, N0, rfl⟩
theorem ef_1_11 (m : MethodId) : entryFrame m #[(.long (10 : Int64))] 2 = mkF m 0 #[.val (.long (10 : Int64)), .second] [] := by first | (simp [entryFrame, mkF, argsToLocals, Value.category]; done) | rfl
def Q1_11 (Z : State) (w : Nat → Addr) (h0 : Heap) (n0 : Nat) (v : Option Value) (h : Heap) (L : List Loc) : Prop := v = some (.ref (w 9)) ∧ Fr n0 L ∧ h = h0
set_option maxRecDepth 65536 in
set_option maxHeartbeats 40000000 in
theorem rm1_11 (l : Launch) (Z : State) (a0 : Array Value) (hw : ∀ d ∈ tables_1, d.before a0 Z = true) (w : Nat → Addr) (hW : Wd Z w) (ws : List Jvm.Cond) (h0 : Heap) (n0 : Nat) (O0 : Old Z n0 h0) :
    MetFree l ym0 (head1 (Jvm.Cond.code ym0 prog_47_method_5_code 2 (some (.object "com/example/ferrule/ferrule/io/TypeCode")) :: ws) ({ frames := 0, cells := 0, slots := 0, locals := 0 } : Room)) (fun a U => a = #[(.long (10 : Int64))] ∧ Z.Warmed39 U.vm ∧ U.heap = h0) (fun _ _ _ _ _ => True) (fun _ U o U' => ∃ v L, o = .returned v ∧ Q1_11 Z w h0 n0 v U'.heap L ∧ FrameEnd U o U' L ({ frames := 0, cells := 0, slots := 0, locals := 0 } : Room).cells ({ frames := 0, cells := 0, slots := 0, locals := 0 } : Room).slots) := by
  refine MetFree.of_bodySF (plainFor_of_name pnc_0) hisR ?_
  intro p e s m args below meth c s₁ Bd hml0 hP hK
  obtain ⟨rfl, hZ, hh⟩ := hP
  have hx := Bd.exec
  have hby := Bd.bytes
  have hml : c.maxLocals = 2 := hml0
  have hown : s.vm.findClass "com/example/ferrule/ferrule/io/TypeCode" = some m.cls := findClass_of_methodNamed Bd.named
  have hnm := (name_of_methodNamed Bd.named Bd.method).1
  have X0 : Stand p l e ({ frames := 0, cells := 0, slots := 0, locals := 0 } : Room) s m #[(.long (10 : Int64))] below meth c s₁ [] 0 0 := Stand.of_body Bd
  have e0 : s₁.heap = h0 := by rw [← hh, Bd.state]; rfl
  have N0 := Fr.nil n0
  skip
  have pre0 : ∀ t, Steps p.tables e below (s₁.setTop (mkF m 0 #[.val (.long (10 : Int64)), .second] [])) t → Steps p.tables e below (s₁.setTop (entryFrame m #[(.long (10 : Int64))] 2)) t := fun t k => castTop (ef_1_11 m) k
  obtain ⟨T1, X1, e1, st1⟩ := getS2 X0 hx hZ hown (host := "") (Or.inl (wk4 hw)) Via.refl e0 ((wd0 hW).ext O0.2) (g := (mkF m 7 #[.val (.long (10 : Int64)), .second] [(.long (10 : Int64))])) rfl (hb hby d1_7)
  obtain ⟨cl2, Ar2, q2, S2, Nn2, Hs2, G2⟩ := ((wd39 hW).ext O0.2)
  obtain ⟨T3, X3, e3, st3⟩ := getS2 X1 hx hZ hown (host := "") (Or.inl (wk4 hw)) Via.refl e1 ((wd0 hW).ext O0.2) (g := (mkF m 16 #[.val (.long (10 : Int64)), .second] [])) rfl (hb hby d1_16)
  obtain ⟨cl4, Ar4, q4, S4, Nn4, Hs4, G4⟩ := ((wd39 hW).ext O0.2)
  have hin4 : ¬ ((10 : Int32) < 0 ∨ cl4.slots.size ≤ ((10 : Int32)).toNatClampNeg) := inb_of S4 ⟨by decide, by decide⟩
  obtain ⟨fs, hr, hrun, hended, hWm, hsame⟩ := X3.leave (v := some (.ref (w 9))) (fun h => by rw [Bd.returns] at h; cases h)
  refine ⟨_, _, pre0 _ ?_, hrun, hended, _, _, rfl, ?_, ⟨_, rfl⟩, hWm, hsame.mono (by decide) (by decide)⟩
  · show Steps p.tables e below (s₁.setTop (mkF m 0 #[.val (.long (10 : Int64)), .second] [])) _
    refine sL X0 hx hby d1_0 rfl ?_
    refine XS.lconst X0.here hx rfl (hb hby d1_1) ?_
    refine XS.lcmp X0.here hx rfl (hb hby d1_2) rfl ?_
    refine sN X0 hx hby d1_3 (by decide) ?_
    refine sL X0 hx hby d1_6 rfl ?_
    show Steps p.tables e below (s₁.setTop (mkF m 7 #[.val (.long (10 : Int64)), .second] [(.long (10 : Int64))])) _
    refine st1 _ ?_
    refine X1.arraylength hx (by rw [e1]; exact Ar2.1) (State.isArrayOf_alike hZ.alike Ar2.2.1) (g := (mkF m 10 #[.val (.long (10 : Int64)), .second] [(.ref (w 0)), (.long (10 : Int64))])) rfl rfl (hb hby d1_10) _ ?_
    rw [len_of S2 Nn2]
    show Steps p.tables e below (T1.setTop (mkF m 11 #[.val (.long (10 : Int64)), .second] [(.int (33 : Int32)), (.long (10 : Int64))])) _
    refine XS.i2l X1.here hx rfl (hb hby d1_11) rfl ?_
    refine XS.lcmp X1.here hx rfl (hb hby d1_12) rfl ?_
    refine sN X1 hx hby d1_13 (by decide) ?_
    refine st3 _ ?_
    refine sL X3 hx hby d1_19 rfl ?_
    refine XS.l2i X3.here hx rfl (hb hby d1_20) rfl ?_
    refine X3.aaload hx (j := (10 : Int32)) (v := (.ref (w 9))) (by rw [e3]; exact Ar4.1) (State.isArrayOf_alike hZ.alike Ar4.2.1) rfl Ar4.2.2 hin4 (Hs4.at hin4 rfl) (g := (mkF m 21 #[.val (.long (10 : Int64)), .second] [(.int (10 : Int32)), (.ref (w 0))])) rfl rfl (hb hby d1_21) _ ?_
    refine sg (pc := 22) (pc' := 26) X3 hx hby d1_22 (by decide) (by decide) ?_
    jvm_step X3.here [X3.here.top, hx, (hb hby d1_26), X3.method', Bd.returns, Value.isRef, FieldType.isReference]
    first | (intro acts; rw [hr _ acts rfl rfl rfl]) | rw [hr _ _ rfl rfl rfl]
    exact Steps.refl _
  · show Q1_11 Z w h0 n0 _ T3.heap _
    rw [e3]
    exact ⟨rfl, N0, rfl⟩
theorem ef_1_12 (m : MethodId) : entryFrame m #[(.long (11 : Int64))] 2 = mkF m 0 #[.val (.long (11 : Int64)), .second] [] := by first | (simp [entryFrame, mkF, argsToLocals, Value.category]; done) | rfl
def Q1_12 (Z : State) (w : Nat → Addr) (h0 : Heap) (n0 : Nat) (v : Option Value) (h : Heap) (L : List Loc) : Prop := v = some (.ref (w 16)) ∧ Fr n0 L ∧ h = h0
set_option maxRecDepth 65536 in
set_option maxHeartbeats 40000000 in
theorem rm1_12 (l : Launch) (Z : State) (a0 : Array Value) (hw : ∀ d ∈ tables_1, d.before a0 Z = true) (w : Nat → Addr) (hW : Wd Z w) (ws : List Jvm.Cond) (h0 : Heap) (n0 : Nat) (O0 : Old Z n0 h0) :
    MetFree l ym0 (head1 (Jvm.Cond.code ym0 prog_47_method_5_code 2 (some (.object "com/example/ferrule/ferrule/io/TypeCode")) :: ws) ({ frames := 0, cells := 0, slots := 0, locals := 0 } : Room)) (fun a U => a = #[(.long (11 : Int64))] ∧ Z.Warmed39 U.vm ∧ U.heap = h0) (fun _ _ _ _ _ => True) (fun _ U o U' => ∃ v L, o = .returned v ∧ Q1_12 Z w h0 n0 v U'.heap L ∧ FrameEnd U o U' L ({ frames := 0, cells := 0, slots := 0, locals := 0 } : Room).cells ({ frames := 0, cells := 0, slots := 0, locals := 0 } : Room).slots) := by
  refine MetFree.of_bodySF (plainFor_of_name pnc_0) hisR ?_
  intro p e s m args below meth c s₁ Bd hml0 hP hK
  obtain ⟨rfl, hZ, hh⟩ := hP
  have hx := Bd.exec
  have hby := Bd.bytes
  have hml : c.maxLocals = 2 := hml0
  have hown : s.vm.findClass "com/example/ferrule/ferrule/io/TypeCode" = some m.cls := findClass_of_methodNamed Bd.named
  have hnm := (name_of_methodNamed Bd.named Bd.method).1
  have X0 : Stand p l e ({ frames := 0, cells := 0, slots := 0, locals := 0 } : Room) s m #[(.long (11 : Int64))] below meth c s₁ [] 0 0 := Stand.of_body Bd
  have e0 : s₁.heap = h0 := by rw [← hh, Bd.state]; rfl
  have N0 := Fr.nil n0
  skip
  have pre0 : ∀ t, Steps p.tables e below (s₁.setTop (mkF m 0 #[.val (.long (11 : Int64)), .second] [])) t → Steps p.tables e below (s₁.setTop (entryFrame m #[(.long (11 : Int64))] 2)) t := fun t k => castTop (ef_1_12 m) k
  obtain ⟨T1, X1, e1, st1⟩ := getS2 X0 hx hZ hown (host := "") (Or.inl (wk4 hw)) Via.refl e0 ((wd0 hW).ext O0.2) (g := (mkF m 7 #[.val (.long (11 : Int64)), .second] [(.long (11 : Int64))])) rfl (hb hby d1_7)
  obtain ⟨cl2, Ar2, q2, S2, Nn2, Hs2, G2⟩ := ((wd39 hW).ext O0.2)
  obtain ⟨T3, X3, e3, st3⟩ := getS2 X1 hx hZ hown (host := "") (Or.inl (wk4 hw)) Via.refl e1 ((wd0 hW).ext O0.2) (g := (mkF m 16 #[.val (.long (11 : Int64)), .second] [])) rfl (hb hby d1_16)
  obtain ⟨cl4, Ar4, q4, S4, Nn4, Hs4, G4⟩ := ((wd39 hW).ext O0.2)
  have hin4 : ¬ ((11 : Int32) < 0 ∨ cl4.slots.size ≤ ((11 : Int32)).toNatClampNeg) := inb_of S4 ⟨by decide, by decide⟩
  obtain ⟨fs, hr, hrun, hended, hWm, hsame⟩ := X3.leave (v := some (.ref (w 16))) (fun h => by rw [Bd.returns] at h; cases h)
  refine ⟨_, _, pre0 _ ?_, hrun, hended, _, _, rfl, ?_, ⟨_, rfl⟩, hWm, hsame.mono (by decide) (by decide)⟩
  · show Steps p.tables e below (s₁.setTop (mkF m 0 #[.val (.long (11 : Int64)), .second] [])) _
    refine sL X0 hx hby d1_0 rfl ?_
    refine XS.lconst X0.here hx rfl (hb hby d1_1) ?_
    refine XS.lcmp X0.here hx rfl (hb hby d1_2) rfl ?_
    refine sN X0 hx hby d1_3 (by decide) ?_
    refine sL X0 hx hby d1_6 rfl ?_
    show Steps p.tables e below (s₁.setTop (mkF m 7 #[.val (.long (11 : Int64)), .second] [(.long (11 : Int64))])) _
    refine st1 _ ?_
    refine X1.arraylength hx (by rw [e1]; exact Ar2.1) (State.isArrayOf_alike hZ.alike Ar2.2.1) (g := (mkF m 10 #[.val (.long (11 : Int64)), .second] [(.ref (w 0)), (.long (11 : Int64))])) rfl rfl (hb hby d1_10) _ ?_
    rw [len_of S2 Nn2]
    show Steps p.tables e below (T1.setTop (mkF m 11 #[.val (.long (11 : Int64)), .second] [(.int (33 : Int32)), (.long (11 : Int64))])) _
    refine XS.i2l X1.here hx rfl (hb hby d1_11) rfl ?_
    refine XS.lcmp X1.here hx rfl (hb hby d1_12) rfl ?_
    refine sN X1 hx hby d1_13 (by decide) ?_
    refine st3 _ ?_
    refine sL X3 hx hby d1_19 rfl ?_
    refine XS.l2i X3.here hx rfl (hb hby d1_20) rfl ?_
    refine X3.aaload hx (j := (11 : Int32)) (v := (.ref (w 16))) (by rw [e3]; exact Ar4.1) (State.isArrayOf_alike hZ.alike Ar4.2.1) rfl Ar4.2.2 hin4 (Hs4.at hin4 rfl) (g := (mkF m 21 #[.val (.long (11 : Int64)), .second] [(.int (11 : Int32)), (.ref (w 0))])) rfl rfl (hb hby d1_21) _ ?_
    refine sg (pc := 22) (pc' := 26) X3 hx hby d1_22 (by decide) (by decide) ?_
    jvm_step X3.here [X3.here.top, hx, (hb hby d1_26), X3.method', Bd.returns, Value.isRef, FieldType.isReference]
    first | (intro acts; rw [hr _ acts rfl rfl rfl]) | rw [hr _ _ rfl rfl rfl]
    exact Steps.refl _
  · show Q1_12 Z w h0 n0 _ T3.heap _
    rw [e3]
    exact ⟨rfl, N0, rfl⟩
theorem ef_1_13 (m : MethodId) : entryFrame m #[(.long (12 : Int64))] 2 = mkF m 0 #[.val (.long (12 : Int64)), .second] [] := by first | (simp [entryFrame, mkF, argsToLocals, Value.category]; done) | rfl
def Q1_13 (Z : State) (w : Nat → Addr) (h0 : Heap) (n0 : Nat) (v : Option Value) (h : Heap) (L : List Loc) : Prop := v = some (.ref (w 10)) ∧ Fr n0 L ∧ h = h0
set_option maxRecDepth 65536 in
set_option maxHeartbeats 40000000 in
theorem rm1_13 (l : Launch) (Z : State) (a0 : Array Value) (hw : ∀ d ∈ tables_1, d.before a0 Z = true) (w : Nat → Addr) (hW : Wd Z w) (ws : List Jvm.Cond) (h0 : Heap) (n0 : Nat) (O0 : Old Z n0 h0) :
    MetFree l ym0 (head1 (Jvm.Cond.code ym0 prog_47_method_5_code 2 (some (.object "com/example/ferrule/ferrule/io/TypeCode")) :: ws) ({ frames := 0, cells := 0, slots := 0, locals := 0 } : Room)) (fun a U => a = #[(.long (12 : Int64))] ∧ Z.Warmed39 U.vm ∧ U.heap = h0) (fun _ _ _ _ _ => True) (fun _ U o U' => ∃ v L, o = .returned v ∧ Q1_13 Z w h0 n0 v U'.heap L ∧ FrameEnd U o U' L ({ frames := 0, cells := 0, slots := 0, locals := 0 } : Room).cells ({ frames := 0, cells := 0, slots := 0, locals := 0 } : Room).slots) := by
  refine MetFree.of_bodySF (plainFor_of_name pnc_0) hisR ?_
  intro p e s m args below meth c s₁ Bd hml0 hP hK
  obtain ⟨rfl, hZ, hh⟩ := hP
  have hx := Bd.exec
  have hby := Bd.bytes
  have hml : c.maxLocals = 2 := hml0
  have hown : s.vm.findClass "com/example/ferrule/ferrule/io/TypeCode" = some m.cls := findClass_of_methodNamed Bd.named
  have hnm := (name_of_methodNamed Bd.named Bd.method).1
  have X0 : Stand p l e ({ frames := 0, cells := 0, slots := 0, locals := 0 } : Room) s m #[(.long (12 : Int64))] below meth c s₁ [] 0 0 := Stand.of_body Bd
  have e0 : s₁.heap = h0 := by rw [← hh, Bd.state]; rfl
  have N0 := Fr.nil n0
  skip
  have pre0 : ∀ t, Steps p.tables e below (s₁.setTop (mkF m 0 #[.val (.long (12 : Int64)), .second] [])) t → Steps p.tables e below (s₁.setTop (entryFrame m #[(.long (12 : Int64))] 2)) t := fun t k => castTop (ef_1_13 m) k
  obtain ⟨T1, X1, e1, st1⟩ := getS2 X0 hx hZ hown (host := "") (Or.inl (wk4 hw)) Via.refl e0 ((wd0 hW).ext O0.2) (g := (mkF m 7 #[.val (.long (12 : Int64)), .second] [(.long (12 : Int64))])) rfl (hb hby d1_7)
  obtain ⟨cl2, Ar2, q2, S2, Nn2, Hs2, G2⟩ := ((wd39 hW).ext O0.2)
  obtain ⟨T3, X3, e3, st3⟩ := getS2 X1 hx hZ hown (host := "") (Or.inl (wk4 hw)) Via.refl e1 ((wd0 hW).ext O0.2) (g := (mkF m 16 #[.val (.long (12 : Int64)), .second] [])) rfl (hb hby d1_16)
  obtain ⟨cl4, Ar4, q4, S4, Nn4, Hs4, G4⟩ := ((wd39 hW).ext O0.2)
  have hin4 : ¬ ((12 : Int32) < 0 ∨ cl4.slots.size ≤ ((12 : Int32)).toNatClampNeg) := inb_of S4 ⟨by decide, by decide⟩
  obtain ⟨fs, hr, hrun, hended, hWm, hsame⟩ := X3.leave (v := some (.ref (w 10))) (fun h => by rw [Bd.returns] at h; cases h)
  refine ⟨_, _, pre0 _ ?_, hrun, hended, _, _, rfl, ?_, ⟨_, rfl⟩, hWm, hsame.mono (by decide) (by decide)⟩
  · show Steps p.tables e below (s₁.setTop (mkF m 0 #[.val (.long (12 : Int64)), .second] [])) _
    refine sL X0 hx hby d1_0 rfl ?_
    refine XS.lconst X0.here hx rfl (hb hby d1_1) ?_
    refine XS.lcmp X0.here hx rfl (hb hby d1_2) rfl ?_
    refine sN X0 hx hby d1_3 (by decide) ?_
    refine sL X0 hx hby d1_6 rfl ?_
    show Steps p.tables e below (s₁.setTop (mkF m 7 #[.val (.long (12 : Int64)), .second] [(.long (12 : Int64))])) _
    refine st1 _ ?_
    refine X1.arraylength hx (by rw [e1]; exact Ar2.1) (State.isArrayOf_alike hZ.alike Ar2.2.1) (g := (mkF m 10 #[.val (.long (12 : Int64)), .second] [(.ref (w 0)), (.long (12 : Int64))])) rfl rfl (hb hby d1_10) _ ?_
    rw [len_of S2 Nn2]
    show Steps p.tables e below (T1.setTop (mkF m 11 #[.val (.long (12 : Int64)), .second] [(.int (33 : Int32)), (.long (12 : Int64))])) _
    refine XS.i2l X1.here hx rfl (hb hby d1_11) rfl ?_
    refine XS.lcmp X1.here hx rfl (hb hby d1_12) rfl ?_
    refine sN X1 hx hby d1_13 (by decide) ?_
    refine st3 _ ?_
    refine sL X3 hx hby d1_19 rfl ?_
    refine XS.l2i X3.here hx rfl (hb hby d1_20) rfl ?_
    refine X3.aaload hx (j := (12 : Int32)) (v := (.ref (w 10))) (by rw [e3]; exact Ar4.1) (State.isArrayOf_alike hZ.alike Ar4.2.1) rfl Ar4.2.2 hin4 (Hs4.at hin4 rfl) (g := (mkF m 21 #[.val (.long (12 : Int64)), .second] [(.int (12 : Int32)), (.ref (w 0))])) rfl rfl (hb hby d1_21) _ ?_
    refine sg (pc := 22) (pc' := 26) X3 hx hby d1_22 (by decide) (by decide) ?_
    jvm_step X3.here [X3.here.top, hx, (hb hby d1_26), X3.method', Bd.returns, Value.isRef, FieldType.isReference]
    first | (intro acts; rw [hr _ acts rfl rfl rfl]) | rw [hr _ _ rfl rfl rfl]
    exact Steps.refl _
  · show Q1_13 Z w h0 n0 _ T3.heap _
    rw [e3]
    exact ⟨rfl, N0, rfl⟩
theorem ef_1_14 (m : MethodId) : entryFrame m #[(.long (13 : Int64))] 2 = mkF m 0 #[.val (.long (13 : Int64)), .second] [] := by first | (simp [entryFrame, mkF, argsToLocals, Value.category]; done) | rfl
def Q1_14 (Z : State) (w : Nat → Addr) (h0 : Heap) (n0 : Nat) (v : Option Value) (h : Heap) (L : List Loc) : Prop := v = some (.ref (w 3)) ∧ Fr n0 L ∧ h = h0
set_option maxRecDepth 65536 in
set_option maxHeartbeats 40000000 in
theorem rm1_14 (l : Launch) (Z : State) (a0 : Array Value) (hw : ∀ d ∈ tables_1, d.before a0 Z = true) (w : Nat → Addr) (hW : Wd Z w) (ws : List Jvm.Cond) (h0 : Heap) (n0 : Nat) (O0 : Old Z n0 h0) :
    MetFree l ym0 (head1 (Jvm.Cond.code ym0 prog_47_method_5_code 2 (some (.object "com/example/ferrule/ferrule/io/TypeCode")) :: ws) ({ frames := 0, cells := 0, slots := 0, locals := 0 } : Room)) (fun a U => a = #[(.long (13 : Int64))] ∧ Z.Warmed39 U.vm ∧ U.heap = h0) (fun _ _ _ _ _ => True) (fun _ U o U' => ∃ v L, o = .returned v ∧ Q1_14 Z w h0 n0 v U'.heap L ∧ FrameEnd U o U' L ({ frames := 0, cells := 0, slots := 0, locals := 0 } : Room).cells ({ frames := 0, cells := 0, slots := 0, locals := 0 } : Room).slots) := by
  refine MetFree.of_bodySF (plainFor_of_name pnc_0) hisR ?_
  intro p e s m args below meth c s₁ Bd hml0 hP hK
  obtain ⟨rfl, hZ, hh⟩ := hP
  have hx := Bd.exec
  have hby := Bd.bytes
  have hml : c.maxLocals = 2 := hml0
  have hown : s.vm.findClass "com/example/ferrule/ferrule/io/TypeCode" = some m.cls := findClass_of_methodNamed Bd.named
  have hnm := (name_of_methodNamed Bd.named Bd.method).1
  have X0 : Stand p l e ({ frames := 0, cells := 0, slots := 0, locals := 0 } : Room) s m #[(.long (13 : Int64))] below meth c s₁ [] 0 0 := Stand.of_body Bd
  have e0 : s₁.heap = h0 := by rw [← hh, Bd.state]; rfl
  have N0 := Fr.nil n0
  skip
  have pre0 : ∀ t, Steps p.tables e below (s₁.setTop (mkF m 0 #[.val (.long (13 : Int64)), .second] [])) t → Steps p.tables e below (s₁.setTop (entryFrame m #[(.long (13 : Int64))] 2)) t := fun t k => castTop (ef_1_14 m) k
  obtain ⟨T1, X1, e1, st1⟩ := getS2 X0 hx hZ hown (host := "") (Or.inl (wk4 hw)) Via.refl e0 ((wd0 hW).ext O0.2) (g := (mkF m 7 #[.val (.long (13 : Int64)), .second] [(.long (13 : Int64))])) rfl (hb hby d1_7)
  obtain ⟨cl2, Ar2, q2, S2, Nn2, Hs2, G2⟩ := ((wd39 hW).ext O0.2)
  obtain ⟨T3, X3, e3, st3⟩ := getS2 X1 hx hZ hown (host := "") (Or.inl (wk4 hw)) Via.refl e1 ((wd0 hW).ext O0.2) (g := (mkF m 16 #[.val (.long (13 : Int64)), .second] [])) rfl (hb hby d1_16)
  obtain ⟨cl4, Ar4, q4, S4, Nn4, Hs4, G4⟩ := ((wd39 hW).ext O0.2)
  have hin4 : ¬ ((13 : Int32) < 0 ∨ cl4.slots.size ≤ ((13 : Int32)).toNatClampNeg) := inb_of S4 ⟨by decide, by decide⟩
  obtain ⟨fs, hr, hrun, hended, hWm, hsame⟩ := X3.leave (v := some (.ref (w 3))) (fun h => by rw [Bd.returns] at h; cases h)
  refine ⟨_, _, pre0 _ ?_, hrun, hended, _, _, rfl, ?_, ⟨_, rfl⟩, hWm, hsame.mono (by decide) (by decide)⟩
  · show Steps p.tables e below (s₁.setTop (mkF m 0 #[.val (.long (13 : Int64)), .second] [])) _
    refine sL X0 hx hby d1_0 rfl ?_
    refine XS.lconst X0.here hx rfl (hb hby d1_1) ?_
    refine XS.lcmp X0.here hx rfl (hb hby d1_2) rfl ?_
    refine sN X0 hx hby d1_3 (by decide) ?_
    refine sL X0 hx hby d1_6 rfl ?_
    show Steps p.tables e below (s₁.setTop (mkF m 7 #[.val (.long (13 : Int64)), .second] [(.long (13 : Int64))])) _
    refine st1 _ ?_
    refine X1.arraylength hx (by rw [e1]; exact Ar2.1) (State.isArrayOf_alike hZ.alike Ar2.2.1) (g := (mkF m 10 #[.val (.long (13 : Int64)), .second] [(.ref (w 0)), (.long (13 : Int64))])) rfl rfl (hb hby d1_10) _ ?_
    rw [len_of S2 Nn2]
    show Steps p.tables e below (T1.setTop (mkF m 11 #[.val (.long (13 : Int64)), .second] [(.int (33 : Int32)), (.long (13 : Int64))])) _
    refine XS.i2l X1.here hx rfl (hb hby d1_11) rfl ?_
    refine XS.lcmp X1.here hx rfl (hb hby d1_12) rfl ?_
    refine sN X1 hx hby d1_13 (by decide) ?_
    refine st3 _ ?_
    refine sL X3 hx hby d1_19 rfl ?_
    refine XS.l2i X3.here hx rfl (hb hby d1_20) rfl ?_
    refine X3.aaload hx (j := (13 : Int32)) (v := (.ref (w 3))) (by rw [e3]; exact Ar4.1) (State.isArrayOf_alike hZ.alike Ar4.2.1) rfl Ar4.2.2 hin4 (Hs4.at hin4 rfl) (g := (mkF m 21 #[.val (.long (13 : Int64)), .second] [(.int (13 : Int32)), (.ref (w 0))])) rfl rfl (hb hby d1_21) _ ?_
    refine sg (pc := 22) (pc' := 26) X3 hx hby d1_22 (by decide) (by decide) ?_
    jvm_step X3.here [X3.here.top, hx, (hb hby d1_26), X3.method', Bd.returns, Value.isRef, FieldType.isReference]
    first | (intro acts; rw [hr _ acts rfl rfl rfl]) | rw [hr _ _ rfl rfl rfl]
    exact Steps.refl _
  · show Q1_14 Z w h0 n0 _ T3.heap _
    rw [e3]
    exact ⟨rfl, N0, rfl⟩
theorem ef_1_15 (m : MethodId) : entryFrame m #[(.long (14 : Int64))] 2 = mkF m 0 #[.val (.long (14 : Int64)), .second] [] := by first | (simp [entryFrame, mkF, argsToLocals, Value.category]; done) | rfl
def Q1_15 (Z : State) (w : Nat → Addr) (h0 : Heap) (n0 : Nat) (v : Option Value) (h : Heap) (L : List Loc) : Prop := v = some (.ref (w 8)) ∧ Fr n0 L ∧ h = h0
set_option maxRecDepth 65536 in
set_option maxHeartbeats 40000000 in
theorem rm1_15 (l : Launch) (Z : State) (a0 : Array Value) (hw : ∀ d ∈ tables_1, d.before a0 Z = true) (w : Nat → Addr) (hW : Wd Z w) (ws : List Jvm.Cond) (h0 : Heap) (n0 : Nat) (O0 : Old Z n0 h0) :
    MetFree l ym0 (head1 (Jvm.Cond.code ym0 prog_47_method_5_code 2 (some (.object "com/example/ferrule/ferrule/io/TypeCode")) :: ws) ({ frames := 0, cells := 0, slots := 0, locals := 0 } : Room)) (fun a U => a = #[(.long (14 : Int64))] ∧ Z.Warmed39 U.vm ∧ U.heap = h0) (fun _ _ _ _ _ => True) (fun _ U o U' => ∃ v L, o = .returned v ∧ Q1_15 Z w h0 n0 v U'.heap L ∧ FrameEnd U o U' L ({ frames := 0, cells := 0, slots := 0, locals := 0 } : Room).cells ({ frames := 0, cells := 0, slots := 0, locals := 0 } : Room).slots) := by
  refine MetFree.of_bodySF (plainFor_of_name pnc_0) hisR ?_
  intro p e s m args below meth c s₁ Bd hml0 hP hK
  obtain ⟨rfl, hZ, hh⟩ := hP
  have hx := Bd.exec
  have hby := Bd.bytes
  have hml : c.maxLocals = 2 := hml0
  have hown : s.vm.findClass "com/example/ferrule/ferrule/io/TypeCode" = some m.cls := findClass_of_methodNamed Bd.named
  have hnm := (name_of_methodNamed Bd.named Bd.method).1
  have X0 : Stand p l e ({ frames := 0, cells := 0, slots := 0, locals := 0 } : Room) s m #[(.long (14 : Int64))] below meth c s₁ [] 0 0 := Stand.of_body Bd
  have e0 : s₁.heap = h0 := by rw [← hh, Bd.state]; rfl
  have N0 := Fr.nil n0
  skip
  have pre0 : ∀ t, Steps p.tables e below (s₁.setTop (mkF m 0 #[.val (.long (14 : Int64)), .second] [])) t → Steps p.tables e below (s₁.setTop (entryFrame m #[(.long (14 : Int64))] 2)) t := fun t k => castTop (ef_1_15 m) k
  obtain ⟨T1, X1, e1, st1⟩ := getS2 X0 hx hZ hown (host := "") (Or.inl (wk4 hw)) Via.refl e0 ((wd0 hW).ext O0.2) (g := (mkF m 7 #[.val (.long (14 : Int64)), .second] [(.long (14 : Int64))])) rfl (hb hby d1_7)
  obtain ⟨cl2, Ar2, q2, S2, Nn2, Hs2, G2⟩ := ((wd39 hW).ext O0.2)
  obtain ⟨T3, X3, e3, st3⟩ := getS2 X1 hx hZ hown (host := "") (Or.inl (wk4 hw)) Via.refl e1 ((wd0 hW).ext O0.2) (g := (mkF m 16 #[.val (.long (14 : Int64)), .second] [])) rfl (hb hby d1_16)
  obtain ⟨cl4, Ar4, q4, S4, Nn4, Hs4, G4⟩ := ((wd39 hW).ext O0.2)
  have hin4 : ¬ ((14 : Int32) < 0 ∨ cl4.slots.size ≤ ((14 : Int32)).toNatClampNeg) := inb_of S4 ⟨by decide, by decide⟩
  obtain ⟨fs, hr, hrun, hended, hWm, hsame⟩ := X3.leave (v := some (.ref (w 8))) (fun h => by rw [Bd.returns] at h; cases h)
  refine ⟨_, _, pre0 _ ?_, hrun, hended, _, _, rfl, ?_, ⟨_, rfl⟩, hWm, hsame.mono (by decide) (by decide)⟩
  · show Steps p.tables e below (s₁.setTop (mkF m 0 #[.val (.long (14 : Int64)), .second] [])) _
    refine sL X0 hx hby d1_0 rfl ?_
    refine XS.lconst X0.here hx rfl (hb hby d1_1) ?_
    refine XS.lcmp X0.here hx rfl (hb hby d1_2) rfl ?_
    refine sN X0 hx hby d1_3 (by decide) ?_
    refine sL X0 hx hby d1_6 rfl ?_
    show Steps p.tables e below (s₁.setTop (mkF m 7 #[.val (.long (14 : Int64)), .second] [(.long (14 : Int64))])) _
    refine st1 _ ?_
    refine X1.arraylength hx (by rw [e1]; exact Ar2.1) (State.isArrayOf_alike hZ.alike Ar2.2.1) (g := (mkF m 10 #[.val (.long (14 : Int64)), .second] [(.ref (w 0)), (.long (14 : Int64))])) rfl rfl (hb hby d1_10) _ ?_
    rw [len_of S2 Nn2]
    show Steps p.tables e below (T1.setTop (mkF m 11 #[.val (.long (14 : Int64)), .second] [(.int (33 : Int32)), (.long (14 : Int64))])) _
    refine XS.i2l X1.here hx rfl (hb hby d1_11) rfl ?_
    refine XS.lcmp X1.here hx rfl (hb hby d1_12) rfl ?_
    refine sN X1 hx hby d1_13 (by decide) ?_
    refine st3 _ ?_
    refine sL X3 hx hby d1_19 rfl ?_
    refine XS.l2i X3.here hx rfl (hb hby d1_20) rfl ?_
    refine X3.aaload hx (j := (14 : Int32)) (v := (.ref (w 8))) (by rw [e3]; exact Ar4.1) (State.isArrayOf_alike hZ.alike Ar4.2.1) rfl Ar4.2.2 hin4 (Hs4.at hin4 rfl) (g := (mkF m 21 #[.val (.long (14 : Int64)), .second] [(.int (14 : Int32)), (.ref (w 0))])) rfl rfl (hb hby d1_21) _ ?_
    refine sg (pc := 22) (pc' := 26) X3 hx hby d1_22 (by decide) (by decide) ?_
    jvm_step X3.here [X3.here.top, hx, (hb hby d1_26), X3.method', Bd.returns, Value.isRef, FieldType.isReference]
    first | (intro acts; rw [hr _ acts rfl rfl rfl]) | rw [hr _ _ rfl rfl rfl]
    exact Steps.refl _
  · show Q1_15 Z w h0 n0 _ T3.heap _
    rw [e3]
    exact ⟨rfl, N0, rfl⟩
theorem ef_1_16 (m : MethodId) : entryFrame m #[(.long (15 : Int64))] 2 = mkF m 0 #[.val (.long (15 : Int64)), .second] [] := by first | (simp [entryFrame, mkF, argsToLocals, Value.category]; done) | rfl
def Q1_16 (Z : State) (w : Nat → Addr) (h0 : Heap) (n0 : Nat) (v : Option Value) (h : Heap) (L : List Loc) : Prop := v = some (.ref (w 6)) ∧ Fr n0 L ∧ h = h0
set_option maxRecDepth 65536 in
set_option maxHeartbeats 40000000 in
theorem rm1_16 (l : Launch) (Z : State) (a0 : Array Value) (hw : ∀ d ∈ tables_1, d.before a0 Z = true) (w : Nat → Addr) (hW : Wd Z w) (ws : List Jvm.Cond) (h0 : Heap) (n0 : Nat) (O0 : Old Z n0 h0) :
    MetFree l ym0 (head1 (Jvm.Cond.code ym0 prog_47_method_5_code 2 (some (.object "com/example/ferrule/ferrule/io/TypeCode")) :: ws) ({ frames := 0, cells := 0, slots := 0, locals := 0 } : Room)) (fun a U => a = #[(.long (15 : Int64))] ∧ Z.Warmed39 U.vm ∧ U.heap = h0) (fun _ _ _ _ _ => True) (fun _ U o U' => ∃ v L, o = .returned v ∧ Q1_16 Z w h0 n0 v U'.heap L ∧ FrameEnd U o U' L ({ frames := 0, cells := 0, slots := 0, locals := 0 } : Room).cells ({ frames := 0, cells := 0, slots := 0, locals := 0 } : Room).slots) := by
  refine MetFree.of_bodySF (plainFor_of_name pnc_0) hisR ?_
  intro p e s m args below meth c s₁ Bd hml0 hP hK
  obtain ⟨rfl, hZ, hh⟩ := hP
  have hx := Bd.exec
  have hby := Bd.bytes
  have hml : c.maxLocals = 2 := hml0
  have hown : s.vm.findClass "com/example/ferrule/ferrule/io/TypeCode" = some m.cls := findClass_of_methodNamed Bd.named
  have hnm := (name_of_methodNamed Bd.named Bd.method).1
  have X0 : Stand p l e ({ frames := 0, cells := 0, slots := 0, locals := 0 } : Room) s m #[(.long (15 : Int64))] below meth c s₁ [] 0 0 := Stand.of_body Bd
  have e0 : s₁.heap = h0 := by rw [← hh, Bd.state]; rfl
  have N0 := Fr.nil n0
  skip
  have pre0 : ∀ t, Steps p.tables e below (s₁.setTop (mkF m 0 #[.val (.long (15 : Int64)), .second] [])) t → Steps p.tables e below (s₁.setTop (entryFrame m #[(.long (15 : Int64))] 2)) t := fun t k => castTop (ef_1_16 m) k
  obtain ⟨T1, X1, e1, st1⟩ := getS2 X0 hx hZ hown (host := "") (Or.inl (wk4 hw)) Via.refl e0 ((wd0 hW).ext O0.2) (g := (mkF m 7 #[.val (.long (15 : Int64)), .second] [(.long (15 : Int64))])) rfl (hb hby d1_7)
  obtain ⟨cl2, Ar2, q2, S2, Nn2, Hs2, G2⟩ := ((wd39 hW).ext O0.2)
  obtain ⟨T3, X3, e3, st3⟩ := getS2 X1 hx hZ hown (host := "") (Or.inl (wk4 hw)) Via.refl e1 ((wd0 hW).ext O0.2) (g := (mkF m 16 #[.val (.long (15 : Int64)), .second] [])) rfl (hb hby d1_16)
  obtain ⟨cl4, Ar4, q4, S4, Nn4, Hs4, G4⟩ := ((wd39 hW).ext O0.2)
  have hin4 : ¬ ((15 : Int32) < 0 ∨ cl4.slots.size ≤ ((15 : Int32)).toNatClampNeg) := inb_of S4 ⟨by decide, by decide⟩
  obtain ⟨fs, hr, hrun, hended, hWm, hsame⟩ := X3.leave (v := some (.ref (w 6))) (fun h => by rw [Bd.returns] at h; cases h)
  refine ⟨_, _, pre0 _ ?_, hrun, hended, _, _, rfl, ?_, ⟨_, rfl⟩, hWm, hsame.mono (by decide) (by decide)⟩
  · show Steps p.tables e below (s₁.setTop (mkF m 0 #[.val (.long (15 : Int64)), .second] [])) _
    refine sL X0 hx hby d1_0 rfl ?_
    refine XS.lconst X0.here hx rfl (hb hby d1_1) ?_
    refine XS.lcmp X0.here hx rfl (hb hby d1_2) rfl ?_
    refine sN X0 hx hby d1_3 (by decide) ?_
    refine sL X0 hx hby d1_6 rfl ?_
    show Steps p.tables e below (s₁.setTop (mkF m 7 #[.val (.long (15 : Int64)), .second] [(.long (15 : Int64))])) _
    refine st1 _ ?_
    refine X1.arraylength hx (by rw [e1]; exact Ar2.1) (State.isArrayOf_alike hZ.alike Ar2.2.1) (g := (mkF m 10 #[.val (.long (15 : Int64)), .second] [(.ref (w 0)), (.long (15 : Int64))])) rfl rfl (hb hby d1_10) _ ?_
    rw [len_of S2 Nn2]
    show Steps p.tables e below (T1.setTop (mkF m 11 #[.val (.long (15 : Int64)), .second] [(.int (33 : Int32)), (.long (15 : Int64))])) _
    refine XS.i2l X1.here hx rfl (hb hby d1_11) rfl ?_
    refine XS.lcmp X1.here hx rfl (hb hby d1_12) rfl ?_
    refine sN X1 hx hby d1_13 (by decide) ?_
    refine st3 _ ?_
    refine sL X3 hx hby d1_19 rfl ?_
    refine XS.l2i X3.here hx rfl (hb hby d1_20) rfl ?_
    refine X3.aaload hx (j := (15 : Int32)) (v := (.ref (w 6))) (by rw [e3]; exact Ar4.1) (State.isArrayOf_alike hZ.alike Ar4.2.1) rfl Ar4.2.2 hin4 (Hs4.at hin4 rfl) (g := (mkF m 21 #[.val (.long (15 : Int64)), .second] [(.int (15 : Int32)), (.ref (w 0))])) rfl rfl (hb hby d1_21) _ ?_
    refine sg (pc := 22) (pc' := 26) X3 hx hby d1_22 (by decide) (by decide) ?_
    jvm_step X3.here [X3.here.top, hx, (hb hby d1_26), X3.method', Bd.returns, Value.isRef, FieldType.isReference]
    first | (intro acts; rw [hr _ acts rfl rfl rfl]) | rw [hr _ _ rfl rfl rfl]
    exact Steps.refl _
  · show Q1_16 Z w h0 n0 _ T3.heap _
    rw [e3]
    exact ⟨rfl, N0, rfl⟩
theorem ef_1_17 (m : MethodId) : entryFrame m #[(.long (16 : Int64))] 2 = mkF m 0 #[.val (.long (16 : Int64)), .second] [] := by first | (simp [entryFrame, mkF, argsToLocals, Value.category]; done) | rfl
def Q1_17 (Z : State) (w : Nat → Addr) (h0 : Heap) (n0 : Nat) (v : Option Value) (h : Heap) (L : List Loc) : Prop := v = some (.ref (w 19)) ∧ Fr n0 L ∧ h = h0
set_option maxRecDepth 65536 in
set_option maxHeartbeats 40000000 in
theorem rm1_17 (l : Launch) (Z : State) (a0 : Array Value) (hw : ∀ d ∈ tables_1, d.before a0 Z = true) (w : Nat → Addr) (hW : Wd Z w) (ws : List Jvm.Cond) (h0 : Heap) (n0 : Nat) (O0 : Old Z n0 h0) :
    MetFree l ym0 (head1 (Jvm.Cond.code ym0 prog_47_method_5_code 2 (some (.object "com/example/ferrule/ferrule/io/TypeCode")) :: ws) ({ frames := 0, cells := 0, slots := 0, locals := 0 } : Room)) (fun a U => a = #[(.long (16 : Int64))] ∧ Z.Warmed39 U.vm ∧ U.heap = h0) (fun _ _ _ _ _ => True) (fun _ U o U' => ∃ v L, o = .returned v ∧ Q1_17 Z w h0 n0 v U'.heap L ∧ FrameEnd U o U' L ({ frames := 0, cells := 0, slots := 0, locals := 0 } : Room).cells ({ frames := 0, cells := 0, slots := 0, locals := 0 } : Room).slots) := by
  refine MetFree.of_bodySF (plainFor_of_name pnc_0) hisR ?_
  intro p e s m args below meth c s₁ Bd hml0 hP hK
  obtain ⟨rfl, hZ, hh⟩ := hP
  have hx := Bd.exec
  have hby := Bd.bytes
  have hml : c.maxLocals = 2 := hml0
  have hown : s.vm.findClass "com/example/ferrule/ferrule/io/TypeCode" = some m.cls := findClass_of_methodNamed Bd.named
  have hnm := (name_of_methodNamed Bd.named Bd.method).1
  have X0 : Stand p l e ({ frames := 0, cells := 0, slots := 0, locals := 0 } : Room) s m #[(.long (16 : Int64))] below meth c s₁ [] 0 0 := Stand.of_body Bd
  have e0 : s₁.heap = h0 := by rw [← hh, Bd.state]; rfl
  have N0 := Fr.nil n0
  skip
  have pre0 : ∀ t, Steps p.tables e below (s₁.setTop (mkF m 0 #[.val (.long (16 : Int64)), .second] [])) t → Steps p.tables e below (s₁.setTop (entryFrame m #[(.long (16 : Int64))] 2)) t := fun t k => castTop (ef_1_17 m) k
  obtain ⟨T1, X1, e1, st1⟩ := getS2 X0 hx hZ hown (host := "") (Or.inl (wk4 hw)) Via.refl e0 ((wd0 hW).ext O0.2) (g := (mkF m 7 #[.val (.long (16 : Int64)), .second] [(.long (16 : Int64))])) rfl (hb hby d1_7)
  obtain ⟨cl2, Ar2, q2, S2, Nn2, Hs2, G2⟩ := ((wd39 hW).ext O0.2)
  obtain ⟨T3, X3, e3, st3⟩ := getS2 X1 hx hZ hown (host := "") (Or.inl (wk4 hw)) Via.refl e1 ((wd0 hW).ext O0.2) (g := (mkF m 16 #[.val (.long (16 : Int64)), .second] [])) rfl (hb hby d1_16)
  obtain ⟨cl4, Ar4, q4, S4, Nn4, Hs4, G4⟩ := ((wd39 hW).ext O0.2)
  have hin4 : ¬ ((16 : Int32) < 0 ∨ cl4.slots.size ≤ ((16 : Int32)).toNatClampNeg) := inb_of S4 ⟨by decide, by decide⟩
  obtain ⟨fs, hr, hrun, hended, hWm, hsame⟩ := X3.leave (v := some (.ref (w 19))) (fun h => by rw [Bd.returns] at h; cases h)
  refine ⟨_, _, pre0 _ ?_, hrun, hended, _, _, rfl, ?_, ⟨_, rfl⟩, hWm, hsame.mono (by decide) (by decide)⟩
  · show Steps p.tables e below (s₁.setTop (mkF m 0 #[.val (.long (16 : Int64)), .second] [])) _
    refine sL X0 hx hby d1_0 rfl ?_
    refine XS.lconst X0.here hx rfl (hb hby d1_1) ?_
    refine XS.lcmp X0.here hx rfl (hb hby d1_2) rfl ?_
    refine sN X0 hx hby d1_3 (by decide) ?_
    refine sL X0 hx hby d1_6 rfl ?_
    show Steps p.tables e below (s₁.setTop (mkF m 7 #[.val (.long (16 : Int64)), .second] [(.long (16 : Int64))])) _
    refine st1 _ ?_
    refine X1.arraylength hx (by rw [e1]; exact Ar2.1) (State.isArrayOf_alike hZ.alike Ar2.2.1) (g := (mkF m 10 #[.val (.long (16 : Int64)), .second] [(.ref (w 0)), (.long (16 : Int64))])) rfl rfl (hb hby d1_10) _ ?_
    rw [len_of S2 Nn2]
    show Steps p.tables e below (T1.setTop (mkF m 11 #[.val (.long (16 : Int64)), .second] [(.int (33 : Int32)), (.long (16 : Int64))])) _
    refine XS.i2l X1.here hx rfl (hb hby d1_11) rfl ?_
    refine XS.lcmp X1.here hx rfl (hb hby d1_12) rfl ?_
    refine sN X1 hx hby d1_13 (by decide) ?_
    refine st3 _ ?_
    refine sL X3 hx hby d1_19 rfl ?_
    refine XS.l2i X3.here hx rfl (hb hby d1_20) rfl ?_
    refine X3.aaload hx (j := (16 : Int32)) (v := (.ref (w 19))) (by rw [e3]; exact Ar4.1) (State.isArrayOf_alike hZ.alike Ar4.2.1) rfl Ar4.2.2 hin4 (Hs4.at hin4 rfl) (g := (mkF m 21 #[.val (.long (16 : Int64)), .second] [(.int (16 : Int32)), (.ref (w 0))])) rfl rfl (hb hby d1_21) _ ?_
    refine sg (pc := 22) (pc' := 26) X3 hx hby d1_22 (by decide) (by decide) ?_
    jvm_step X3.here [X3.here.top, hx, (hb hby d1_26), X3.method', Bd.returns, Value.isRef, FieldType.isReference]
    first | (intro acts; rw [hr _ acts rfl rfl rfl]) | rw [hr _ _ rfl rfl rfl]
    exact Steps.refl _
  · show Q1_17 Z w h0 n0 _ T3.heap _
    rw [e3]
    exact ⟨rfl, N0, rfl⟩
theorem ef_1_18 (m : MethodId) : entryFrame m #[(.long (17 : Int64))] 2 = mkF m 0 #[.val (.long (17 : Int64)), .second] [] := by first | (simp [entryFrame, mkF, argsToLocals, Value.category]; done) | rfl
def Q1_18 (Z : State) (w : Nat → Addr) (h0 : Heap) (n0 : Nat) (v : Option Value) (h : Heap) (L : List Loc) : Prop := v = some (.ref (w 17)) ∧ Fr n0 L ∧ h = h0
set_option maxRecDepth 65536 in
set_option maxHeartbeats 40000000 in
theorem rm1_18 (l : Launch) (Z : State) (a0 : Array Value) (hw : ∀ d ∈ tables_1, d.before a0 Z = true) (w : Nat → Addr) (hW : Wd Z w) (ws : List Jvm.Cond) (h0 : Heap) (n0 : Nat) (O0 : Old Z n0 h0) :
    MetFree l ym0 (head1 (Jvm.Cond.code ym0 prog_47_method_5_code 2 (some (.object "com/example/ferrule/ferrule/io/TypeCode")) :: ws) ({ frames := 0, cells := 0, slots := 0, locals := 0 } : Room)) (fun a U => a = #[(.long (17 : Int64))] ∧ Z.Warmed39 U.vm ∧ U.heap = h0) (fun _ _ _ _ _ => True) (fun _ U o U' => ∃ v L, o = .returned v ∧ Q1_18 Z w h0 n0 v U'.heap L ∧ FrameEnd U o U' L ({ frames := 0, cells := 0, slots := 0, locals := 0 } : Room).cells ({ frames := 0, cells := 0, slots := 0, locals := 0 } : Room).slots) := by
  refine MetFree.of_bodySF (plainFor_of_name pnc_0) hisR ?_
  intro p e s m args below meth c s₁ Bd hml0 hP hK
  obtain ⟨rfl, hZ, hh⟩ := hP
  have hx := Bd.exec
  have hby := Bd.bytes
  have hml : c.maxLocals = 2 := hml0
  have hown : s.vm.findClass "com/example/ferrule/ferrule/io/TypeCode" = some m.cls := findClass_of_methodNamed Bd.named
  have hnm := (name_of_methodNamed Bd.named Bd.method).1
  have X0 : Stand p l e ({ frames := 0, cells := 0, slots := 0, locals := 0 } : Room) s m #[(.long (17 : Int64))] below meth c s₁ [] 0 0 := Stand.of_body Bd
  have e0 : s₁.heap = h0 := by rw [← hh, Bd.state]; rfl
  have N0 := Fr.nil n0
  skip
  have pre0 : ∀ t, Steps p.tables e below (s₁.setTop (mkF m 0 #[.val (.long (17 : Int64)), .second] [])) t → Steps p.tables e below (s₁.setTop (entryFrame m #[(.long (17 : Int64))] 2)) t := fun t k => castTop (ef_1_18 m) k
  obtain ⟨T1, X1, e1, st1⟩ := getS2 X0 hx hZ hown (host := "") (Or.inl (wk4 hw)) Via.refl e0 ((wd0 hW).ext O0.2) (g := (mkF m 7 #[.val (.long (17 : Int64)), .second] [(.long (17 : Int64))])) rfl (hb hby d1_7)
  obtain ⟨cl2, Ar2, q2, S2, Nn2, Hs2, G2⟩ := ((wd39 hW).ext O0.2)
  obtain ⟨T3, X3, e3, st3⟩ := getS2 X1 hx hZ hown (host := "") (Or.inl (wk4 hw)) Via.refl e1 ((wd0 hW).ext O0.2) (g := (mkF m 16 #[.val (.long (17 : Int64)), .second] [])) rfl (hb hby d1_16)
  obtain ⟨cl4, Ar4, q4, S4, Nn4, Hs4, G4⟩ := ((wd39 hW).ext O0.2)
  have hin4 : ¬ ((17 : Int32) < 0 ∨ cl4.slots.size ≤ ((17 : Int32)).toNatClampNeg) := inb_of S4 ⟨by decide, by decide⟩
  obtain ⟨fs, hr, hrun, hended, hWm, hsame⟩ := X3.leave (v := some (.ref (w 17))) (fun h => by rw [Bd.returns] at h; cases h)
  refine ⟨_, _, pre0 _ ?_, hrun, hended, _, _, rfl, ?_, ⟨_, rfl⟩, hWm, hsame.mono (by decide) (by decide)⟩
  · show Steps p.tables e below (s₁.setTop (mkF m 0 #[.val (.long (17 : Int64)), .second] [])) _
    refine sL X0 hx hby d1_0 rfl ?_
    refine XS.lconst X0.here hx rfl (hb hby d1_1) ?_
    refine XS.lcmp X0.here hx rfl (hb hby d1_2) rfl ?_
    refine sN X0 hx hby d1_3 (by decide) ?_
    refine sL X0 hx hby d1_6 rfl ?_
    show Steps p.tables e below (s₁.setTop (mkF m 7 #[.val (.long (17 : Int64)), .second] [(.long (17 : Int64))])) _
    refine st1 _ ?_
    refine X1.arraylength hx (by rw [e1]; exact Ar2.1) (State.isArrayOf_alike hZ.alike Ar2.2.1) (g := (mkF m 10 #[.val (.long (17 : Int64)), .second] [(.ref (w 0)), (.long (17 : Int64))])) rfl rfl (hb hby d1_10) _ ?_
    rw [len_of S2 Nn2]
    show Steps p.tables e below (T1.setTop (mkF m 11 #[.val (.long (17 : Int64)), .second] [(.int (33 : Int32)), (.long (17 : Int64))])) _
    refine XS.i2l X1.here hx rfl (hb hby d1_11) rfl ?_
    refine XS.lcmp X1.here hx rfl (hb hby d1_12) rfl ?_
    refine sN X1 hx hby d1_13 (by decide) ?_
    refine st3 _ ?_
    refine sL X3 hx hby d1_19 rfl ?_
    refine XS.l2i X3.here hx rfl (hb hby d1_20) rfl ?_
    refine X3.aaload hx (j := (17 : Int32)) (v := (.ref (w 17))) (by rw [e3]; exact Ar4.1) (State.isArrayOf_alike hZ.alike Ar4.2.1) rfl Ar4.2.2 hin4 (Hs4.at hin4 rfl) (g := (mkF m 21 #[.val (.long (17 : Int64)), .second] [(.int (17 : Int32)), (.ref (w 0))])) rfl rfl (hb hby d1_21) _ ?_
    refine sg (pc := 22) (pc' := 26) X3 hx hby d1_22 (by decide) (by decide) ?_
    jvm_step X3.here [X3.here.top, hx, (hb hby d1_26), X3.method', Bd.returns, Value.isRef, FieldType.isReference]
    first | (intro acts; rw [hr _ acts rfl rfl rfl]) | rw [hr _ _ rfl rfl rfl]
    exact Steps.refl _
  · show Q1_18 Z w h0 n0 _ T3.heap _
    rw [e3]
    exact ⟨rfl, N0, rfl⟩
theorem ef_1_19 (m : MethodId) : entryFrame m #[(.long (18 : Int64))] 2 = mkF m 0 #[.val (.long (18 : Int64)), .second] [] := by first | (simp [entryFrame, mkF, argsToLocals, Value.category]; done) | rfl
def Q1_19 (Z : State) (w : Nat → Addr) (h0 : Heap) (n0 : Nat) (v : Option Value) (h : Heap) (L : List Loc) : Prop := v = some (.ref (w 7)) ∧ Fr n0 L ∧ h = h0
set_option maxRecDepth 65536 in
set_option maxHeartbeats 40000000 in
theorem rm1_19 (l : Launch) (Z : State) (a0 : Array Value) (hw : ∀ d ∈ tables_1, d.before a0 Z = true) (w : Nat → Addr) (hW : Wd Z w) (ws : List Jvm.Cond) (h0 : Heap) (n0 : Nat) (O0 : Old Z n0 h0) :
    MetFree l ym0 (head1 (Jvm.Cond.code ym0 prog_47_method_5_code 2 (some (.object "com/example/ferrule/ferrule/io/TypeCode")) :: ws) ({ frames := 0, cells := 0, slots := 0, locals := 0 } : Room)) (fun a U => a = #[(.long (18 : Int64))] ∧ Z.Warmed39 U.vm ∧ U.heap = h0) (fun _ _ _ _ _ => True) (fun _ U o U' => ∃ v L, o = .returned v ∧ Q1_19 Z w h0 n0 v U'.heap L ∧ FrameEnd U o U' L ({ frames := 0, cells := 0, slots := 0, locals := 0 } : Room).cells ({ frames := 0, cells := 0, slots := 0, locals := 0 } : Room).slots) := by
  refine MetFree.of_bodySF (plainFor_of_name pnc_0) hisR ?_
  intro p e s m args below meth c s₁ Bd hml0 hP hK
  obtain ⟨rfl, hZ, hh⟩ := hP
  have hx := Bd.exec
  have hby := Bd.bytes
  have hml : c.maxLocals = 2 := hml0
  have hown : s.vm.findClass "com/example/ferrule/ferrule/io/TypeCode" = some m.cls := findClass_of_methodNamed Bd.named
  have hnm := (name_of_methodNamed Bd.named Bd.method).1
  have X0 : Stand p l e ({ frames := 0, cells := 0, slots := 0, locals := 0 } : Room) s m #[(.long (18 : Int64))] below meth c s₁ [] 0 0 := Stand.of_body Bd
  have e0 : s₁.heap = h0 := by rw [← hh, Bd.state]; rfl
  have N0 := Fr.nil n0
  skip
  have pre0 : ∀ t, Steps p.tables e below (s₁.setTop (mkF m 0 #[.val (.long (18 : Int64)), .second] [])) t → Steps p.tables e below (s₁.setTop (entryFrame m #[(.long (18 : Int64))] 2)) t := fun t k => castTop (ef_1_19 m) k
  obtain ⟨T1, X1, e1, st1⟩ := getS2 X0 hx hZ hown (host := "") (Or.inl (wk4 hw)) Via.refl e0 ((wd0 hW).ext O0.2) (g := (mkF m 7 #[.val (.long (18 : Int64)), .second] [(.long (18 : Int64))])) rfl (hb hby d1_7)
  obtain ⟨cl2, Ar2, q2, S2, Nn2, Hs2, G2⟩ := ((wd39 hW).ext O0.2)
  obtain ⟨T3, X3, e3, st3⟩ := getS2 X1 hx hZ hown (host := "") (Or.inl (wk4 hw)) Via.refl e1 ((wd0 hW).ext O0.2) (g := (mkF m 16 #[.val (.long (18 : Int64)), .second] [])) rfl (hb hby d1_16)
  obtain ⟨cl4, Ar4, q4, S4, Nn4, Hs4, G4⟩ := ((wd39 hW).ext O0.2)
  have hin4 : ¬ ((18 : Int32) < 0 ∨ cl4.slots.size ≤ ((18 : Int32)).toNatClampNeg) := inb_of S4 ⟨by decide, by decide⟩
  obtain ⟨fs, hr, hrun, hended, hWm, hsame⟩ := X3.leave (v := some (.ref (w 7))) (fun h => by rw [Bd.returns] at h; cases h)
  refine ⟨_, _, pre0 _ ?_, hrun, hended, _, _, rfl, ?_, ⟨_, rfl⟩, hWm, hsame.mono (by decide) (by decide)⟩
  · show Steps p.tables e below (s₁.setTop (mkF m 0 #[.val (.long (18 : Int64)), .second] [])) _
    refine sL X0 hx hby d1_0 rfl ?_
    refine XS.lconst X0.here hx rfl (hb hby d1_1) ?_
    refine XS.lcmp X0.here hx rfl (hb hby d1_2) rfl ?_
    refine sN X0 hx hby d1_3 (by decide) ?_
    refine sL X0 hx hby d1_6 rfl ?_
    show Steps p.tables e below (s₁.setTop (mkF m 7 #[.val (.long (18 : Int64)), .second] [(.long (18 : Int64))])) _
    refine st1 _ ?_
    refine X1.arraylength hx (by rw [e1]; exact Ar2.1) (State.isArrayOf_alike hZ.alike Ar2.2.1) (g := (mkF m 10 #[.val (.long (18 : Int64)), .second] [(.ref (w 0)), (.long (18 : Int64))])) rfl rfl (hb hby d1_10) _ ?_
    rw [len_of S2 Nn2]
    show Steps p.tables e below (T1.setTop (mkF m 11 #[.val (.long (18 : Int64)), .second] [(.int (33 : Int32)), (.long (18 : Int64))])) _
    refine XS.i2l X1.here hx rfl (hb hby d1_11) rfl ?_
    refine XS.lcmp X1.here hx rfl (hb hby d1_12) rfl ?_
    refine sN X1 hx hby d1_13 (by decide) ?_
    refine st3 _ ?_
    refine sL X3 hx hby d1_19 rfl ?_
    refine XS.l2i X3.here hx rfl (hb hby d1_20) rfl ?_
    refine X3.aaload hx (j := (18 : Int32)) (v := (.ref (w 7))) (by rw [e3]; exact Ar4.1) (State.isArrayOf_alike hZ.alike Ar4.2.1) rfl Ar4.2.2 hin4 (Hs4.at hin4 rfl) (g := (mkF m 21 #[.val (.long (18 : Int64)), .second] [(.int (18 : Int32)), (.ref (w 0))])) rfl rfl (hb hby d1_21) _ ?_
    refine sg (pc := 22) (pc' := 26) X3 hx hby d1_22 (by decide) (by decide) ?_
    jvm_step X3.here [X3.here.top, hx, (hb hby d1_26), X3.method', Bd.returns, Value.isRef, FieldType.isReference]
    first | (intro acts; rw [hr _ acts rfl rfl rfl]) | rw [hr _ _ rfl rfl rfl]
    exact Steps.refl _
  · show Q1_19 Z w h0 n0 _ T3.heap _
    rw [e3]
    exact ⟨rfl, N0, rfl⟩
theorem ef_1_20 (m : MethodId) : entryFrame m #[(.long (19 : Int64))] 2 = mkF m 0 #[.val (.long (19 : Int64)), .second] [] := by first | (simp [entryFrame, mkF, argsToLocals, Value.category]; done) | rfl
def Q1_20 (Z : State) (w : Nat → Addr) (h0 : Heap) (n0 : Nat) (v : Option Value) (h : Heap) (L : List Loc) : Prop := v = some .null ∧ Fr n0 L ∧ h = h0
set_option maxRecDepth 65536 in
set_option maxHeartbeats 40000000 in
theorem rm1_20 (l : Launch) (Z : State) (a0 : Array Value) (hw : ∀ d ∈ tables_1, d.before a0 Z = true) (w : Nat → Addr) (hW : Wd Z w) (ws : List Jvm.Cond) (h0 : Heap) (n0 : Nat) (O0 : Old Z n0 h0) :
    MetFree l ym0 (head1 (Jvm.Cond.code ym0 prog_47_method_5_code 2 (some (.object "com/example/ferrule/ferrule/io/TypeCode")) :: ws) ({ frames := 0, cells := 0, slots := 0, locals := 0 } : Room)) (fun a U => a = #[(.long (19 : Int64))] ∧ Z.Warmed39 U.vm ∧ U.heap = h0) (fun _ _ _ _ _ => True) (fun _ U o U' => ∃ v L, o = .returned v ∧ Q1_20 Z w h0 n0 v U'.heap L ∧ FrameEnd U o U' L ({ frames := 0, cells := 0, slots := 0, locals := 0 } : Room).cells ({ frames := 0, cells := 0, slots := 0, locals := 0 } : Room).slots) := by
  refine MetFree.of_bodySF (plainFor_of_name pnc_0) hisR ?_
  intro p e s m args below meth c s₁ Bd hml0 hP hK
  obtain ⟨rfl, hZ, hh⟩ := hP
  have hx := Bd.exec
  have hby := Bd.bytes
  have hml : c.maxLocals = 2 := hml0
  have hown : s.vm.findClass "com/example/ferrule/ferrule/io/TypeCode" = some m.cls := findClass_of_methodNamed Bd.named
  have hnm := (name_of_methodNamed Bd.named Bd.method).1
  have X0 : Stand p l e ({ frames := 0, cells := 0, slots := 0, locals := 0 } : Room) s m #[(.long (19 : Int64))] below meth c s₁ [] 0 0 := Stand.of_body Bd
  have e0 : s₁.heap = h0 := by rw [← hh, Bd.state]; rfl
  have N0 := Fr.nil n0
  skip
  have pre0 : ∀ t, Steps p.tables e below (s₁.setTop (mkF m 0 #[.val (.long (19 : Int64)), .second] [])) t → Steps p.tables e below (s₁.setTop (entryFrame m #[(.long (19 : Int64))] 2)) t := fun t k => castTop (ef_1_20 m) k
  obtain ⟨T1, X1, e1, st1⟩ := getS2 X0 hx hZ hown (host := "") (Or.inl (wk4 hw)) Via.refl e0 ((wd0 hW).ext O0.2) (g := (mkF m 7 #[.val (.long (19 : Int64)), .second] [(.long (19 : Int64))])) rfl (hb hby d1_7)
  obtain ⟨cl2, Ar2, q2, S2, Nn2, Hs2, G2⟩ := ((wd39 hW).ext O0.2)
  obtain ⟨T3, X3, e3, st3⟩ := getS2 X1 hx hZ hown (host := "") (Or.inl (wk4 hw)) Via.refl e1 ((wd0 hW).ext O0.2) (g := (mkF m 16 #[.val (.long (19 : Int64)), .second] [])) rfl (hb hby d1_16)
  obtain ⟨cl4, Ar4, q4, S4, Nn4, Hs4, G4⟩ := ((wd39 hW).ext O0.2)
  have hin4 : ¬ ((19 : Int32) < 0 ∨ cl4.slots.size ≤ ((19 : Int32)).toNatClampNeg) := inb_of S4 ⟨by decide, by decide⟩
  obtain ⟨fs, hr, hrun, hended, hWm, hsame⟩ := X3.leave (v := some .null) (fun h => by rw [Bd.returns] at h; cases h)
  refine ⟨_, _, pre0 _ ?_, hrun, hended, _, _, rfl, ?_, ⟨_, rfl⟩, hWm, hsame.mono (by decide) (by decide)⟩
  · show Steps p.tables e below (s₁.setTop (mkF m 0 #[.val (.long (19 : Int64)), .second] [])) _
    refine sL X0 hx hby d1_0 rfl ?_
    refine XS.lconst X0.here hx rfl (hb hby d1_1) ?_
    refine XS.lcmp X0.here hx rfl (hb hby d1_2) rfl ?_
    refine sN X0 hx hby d1_3 (by decide) ?_
    refine sL X0 hx hby d1_6 rfl ?_
    show Steps p.tables e below (s₁.setTop (mkF m 7 #[.val (.long (19 : Int64)), .second] [(.long (19 : Int64))])) _
    refine st1 _ ?_
    refine X1.arraylength hx (by rw [e1]; exact Ar2.1) (State.isArrayOf_alike hZ.alike Ar2.2.1) (g := (mkF m 10 #[.val (.long (19 : Int64)), .second] [(.ref (w 0)), (.long (19 : Int64))])) rfl rfl (hb hby d1_10) _ ?_
    rw [len_of S2 Nn2]
    show Steps p.tables e below (T1.setTop (mkF m 11 #[.val (.long (19 : Int64)), .second] [(.int (33 : Int32)), (.long (19 : Int64))])) _
    refine XS.i2l X1.here hx rfl (hb hby d1_11) rfl ?_
    refine XS.lcmp X1.here hx rfl (hb hby d1_12) rfl ?_
    refine sN X1 hx hby d1_13 (by decide) ?_
    refine st3 _ ?_
    refine sL X3 hx hby d1_19 rfl ?_
    refine XS.l2i X3.here hx rfl (hb hby d1_20) rfl ?_
    refine X3.aaload hx (j := (19 : Int32)) (v := .null) (by rw [e3]; exact Ar4.1) (State.isArrayOf_alike hZ.alike Ar4.2.1) rfl Ar4.2.2 hin4 (Hs4.at hin4 rfl) (g := (mkF m 21 #[.val (.long (19 : Int64)), .second] [(.int (19 : Int32)), (.ref (w 0))])) rfl rfl (hb hby d1_21) _ ?_
    refine sg (pc := 22) (pc' := 26) X3 hx hby d1_22 (by decide) (by decide) ?_
    jvm_step X3.here [X3.here.top, hx, (hb hby d1_26), X3.method', Bd.returns, Value.isRef, FieldType.isReference]
    first | (intro acts; rw [hr _ acts rfl rfl rfl]) | rw [hr _ _ rfl rfl rfl]
    exact Steps.refl _
  · show Q1_20 Z w h0 n0 _ T3.heap _
    rw [e3]
    exact ⟨rfl, N0, rfl⟩
theorem ef_1_21 (m : MethodId) : entryFrame m #[(.long (20 : Int64))] 2 = mkF m 0 #[.val (.long (20 : Int64)), .second] [] := by first | (simp [entryFrame, mkF, argsToLocals, Value.category]; done) | rfl
def Q1_21 (Z : State) (w : Nat → Addr) (h0 : Heap) (n0 : Nat) (v : Option Value) (h : Heap) (L : List Loc) : Prop := v = some .null ∧ Fr n0 L ∧ h = h0
set_option maxRecDepth 65536 in
set_option maxHeartbeats 40000000 in
theorem rm1_21 (l : Launch) (Z : State) (a0 : Array Value) (hw : ∀ d ∈ tables_1, d.before a0 Z = true) (w : Nat → Addr) (hW : Wd Z w) (ws : List Jvm.Cond) (h0 : Heap) (n0 : Nat) (O0 : Old Z n0 h0) :
    MetFree l ym0 (head1 (Jvm.Cond.code ym0 prog_47_method_5_code 2 (some (.object "com/example/ferrule/ferrule/io/TypeCode")) :: ws) ({ frames := 0, cells := 0, slots := 0, locals := 0 } : Room)) (fun a U => a = #[(.long (20 : Int64))] ∧ Z.Warmed39 U.vm ∧ U.heap = h0) (fun _ _ _ _ _ => True) (fun _ U o U' => ∃ v L, o = .returned v ∧ Q1_21 Z w h0 n0 v U'.heap L ∧ FrameEnd U o U' L ({ frames := 0, cells := 0, slots := 0, locals := 0 } : Room).cells ({ frames := 0, cells := 0, slots := 0, locals := 0 } : Room).slots) := by
  refine MetFree.of_bodySF (plainFor_of_name pnc_0) hisR ?_
  intro p e s m args below meth c s₁ Bd hml0 hP hK
  obtain ⟨rfl, hZ, hh⟩ := hP
  have hx := Bd.exec
  have hby := Bd.bytes
  have hml : c.maxLocals = 2 := hml0
  have hown : s.vm.findClass "com/example/ferrule/ferrule/io/TypeCode" = some m.cls := findClass_of_methodNamed Bd.named
  have hnm := (name_of_methodNamed Bd.named Bd.method).1
  have X0 : Stand p l e ({ frames := 0, cells := 0, slots := 0, locals := 0 } : Room) s m #[(.long (20 : Int64))] below meth c s₁ [] 0 0 := Stand.of_body Bd
  have e0 : s₁.heap = h0 := by rw [← hh, Bd.state]; rfl
  have N0 := Fr.nil n0
  skip
  have pre0 : ∀ t, Steps p.tables e below (s₁.setTop (mkF m 0 #[.val (.long (20 : Int64)), .second] [])) t → Steps p.tables e below (s₁.setTop (entryFrame m #[(.long (20 : Int64))] 2)) t := fun t k => castTop (ef_1_21 m) k
  obtain ⟨T1, X1, e1, st1⟩ := getS2 X0 hx hZ hown (host := "") (Or.inl (wk4 hw)) Via.refl e0 ((wd0 hW).ext O0.2) (g := (mkF m 7 #[.val (.long (20 : Int64)), .second] [(.long (20 : Int64))])) rfl (hb hby d1_7)
  obtain ⟨cl2, Ar2, q2, S2, Nn2, Hs2, G2⟩ := ((wd39 hW).ext O0.2)
  obtain ⟨T3, X3, e3, st3⟩ := getS2 X1 hx hZ hown (host := "") (Or.inl (wk4 hw)) Via.refl e1 ((wd0 hW).ext O0.2) (g := (mkF m 16 #[.val (.long (20 : Int64)), .second] [])) rfl (hb hby d1_16)
  obtain ⟨cl4, Ar4, q4, S4, Nn4, Hs4, G4⟩ := ((wd39 hW).ext O0.2)
  have hin4 : ¬ ((20 : Int32) < 0 ∨ cl4.slots.size ≤ ((20 : Int32)).toNatClampNeg) := inb_of S4 ⟨by decide, by decide⟩
  obtain ⟨fs, hr, hrun, hended, hWm, hsame⟩ := X3.leave (v := some .null) (fun h => by rw [Bd.returns] at h; cases h)
  refine ⟨_, _, pre0 _ ?_, hrun, hended, _, _, rfl, ?_, ⟨_, rfl⟩, hWm, hsame.mono (by decide) (by decide)⟩
  · show Steps p.tables e below (s₁.setTop (mkF m 0 #[.val (.long (20 : Int64)), .second] [])) _
    refine sL X0 hx hby d1_0 rfl ?_
    refine XS.lconst X0.here hx rfl (hb hby d1_1) ?_
    refine XS.lcmp X0.here hx rfl (hb hby d1_2) rfl ?_
    refine sN X0 hx hby d1_3 (by decide) ?_
    refine sL X0 hx hby d1_6 rfl ?_
    show Steps p.tables e below (s₁.setTop (mkF m 7 #[.val (.long (20 : Int64)), .second] [(.long (20 : Int64))])) _
    refine st1 _ ?_
    refine X1.arraylength hx (by rw [e1]; exact Ar2.1) (State.isArrayOf_alike hZ.alike Ar2.2.1) (g := (mkF m 10 #[.val (.long (20 : Int64)), .second] [(.ref (w 0)), (.long (20 : Int64))])) rfl rfl (hb hby d1_10) _ ?_
    rw [len_of S2 Nn2]
    show Steps p.tables e below (T1.setTop (mkF m 11 #[.val (.long (20 : Int64)), .second] [(.int (33 : Int32)), (.long (20 : Int64))])) _
    refine XS.i2l X1.here hx rfl (hb hby d1_11) rfl ?_
    refine XS.lcmp X1.here hx rfl (hb hby d1_12) rfl ?_
    refine sN X1 hx hby d1_13 (by decide) ?_
    refine st3 _ ?_
    refine sL X3 hx hby d1_19 rfl ?_
    refine XS.l2i X3.here hx rfl (hb hby d1_20) rfl ?_
    refine X3.aaload hx (j := (20 : Int32)) (v := .null) (by rw [e3]; exact Ar4.1) (State.isArrayOf_alike hZ.alike Ar4.2.1) rfl Ar4.2.2 hin4 (Hs4.at hin4 rfl) (g := (mkF m 21 #[.val (.long (20 : Int64)), .second] [(.int (20 : Int32)), (.ref (w 0))])) rfl rfl (hb hby d1_21) _ ?_
    refine sg (pc := 22) (pc' := 26) X3 hx hby d1_22 (by decide) (by decide) ?_
    jvm_step X3.here [X3.here.top, hx, (hb hby d1_26), X3.method', Bd.returns, Value.isRef, FieldType.isReference]
    first | (intro acts; rw [hr _ acts rfl rfl rfl]) | rw [hr _ _ rfl rfl rfl]
    exact Steps.refl _
  · show Q1_21 Z w h0 n0 _ T3.heap _
    rw [e3]
    exact ⟨rfl, N0, rfl⟩
theorem ef_1_22 (m : MethodId) : entryFrame m #[(.long (21 : Int64))] 2 = mkF m 0 #[.val (.long (21 : Int64)), .second] [] := by first | (simp [entryFrame, mkF, argsToLocals, Value.category]; done) | rfl
def Q1_22 (Z : State) (w : Nat → Addr) (h0 : Heap) (n0 : Nat) (v : Option Value) (h : Heap) (L : List Loc) : Prop := v = some .null ∧ Fr n0 L ∧ h = h0
set_option maxRecDepth 65536 in
set_option maxHeartbeats 40000000 in
theorem rm1_22 (l : Launch) (Z : State) (a0 : Array Value) (hw : ∀ d ∈ tables_1, d.before a0 Z = true) (w : Nat → Addr) (hW : Wd Z w) (ws : List Jvm.Cond) (h0 : Heap) (n0 : Nat) (O0 : Old Z n0 h0) :
    MetFree l ym0 (head1 (Jvm.Cond.code ym0 prog_47_method_5_code 2 (some (.object "com/example/ferrule/ferrule/io/TypeCode")) :: ws) ({ frames := 0, cells := 0, slots := 0, locals := 0 } : Room)) (fun a U => a = #[(.long (21 : Int64))] ∧ Z.Warmed39 U.vm ∧ U.heap = h0) (fun _ _ _ _ _ => True) (fun _ U o U' => ∃ v L, o = .returned v ∧ Q1_22 Z w h0 n0 v U'.heap L ∧ FrameEnd U o U' L ({ frames := 0, cells := 0, slots := 0, locals := 0 } : Room).cells ({ frames := 0, cells := 0, slots := 0, locals := 0 } : Room).slots) := by
  refine MetFree.of_bodySF (plainFor_of_name pnc_0) hisR ?_
  intro p e s m args below meth c s₁ Bd hml0 hP hK
  obtain ⟨rfl, hZ, hh⟩ := hP
  have hx := Bd.exec
  have hby := Bd.bytes
  have hml : c.maxLocals = 2 := hml0
  have hown : s.vm.findClass "com/example/ferrule/ferrule/io/TypeCode" = some m.cls := findClass_of_methodNamed Bd.named
  have hnm := (name_of_methodNamed Bd.named Bd.method).1
  have X0 : Stand p l e ({ frames := 0, cells := 0, slots := 0, locals := 0 } : Room) s m #[(.long (21 : Int64))] below meth c s₁ [] 0 0 := Stand.of_body Bd
  have e0 : s₁.heap = h0 := by rw [← hh, Bd.state]; rfl
  have N0 := Fr.nil n0
  skip
  have pre0 : ∀ t, Steps p.tables e below (s₁.setTop (mkF m 0 #[.val (.long (21 : Int64)), .second] [])) t → Steps p.tables e below (s₁.setTop (entryFrame m #[(.long (21 : Int64))] 2)) t := fun t k => castTop (ef_1_22 m) k
  obtain ⟨T1, X1, e1, st1⟩ := getS2 X0 hx hZ hown (host := "") (Or.inl (wk4 hw)) Via.refl e0 ((wd0 hW).ext O0.2) (g := (mkF m 7 #[.val (.long (21 : Int64)), .second] [(.long (21 : Int64))])) rfl (hb hby d1_7)
  obtain ⟨cl2, Ar2, q2, S2, Nn2, Hs2, G2⟩ := ((wd39 hW).ext O0.2)
  obtain ⟨T3, X3, e3, st3⟩ := getS2 X1 hx hZ hown (host := "") (Or.inl (wk4 hw)) Via.refl e1 ((wd0 hW).ext O0.2) (g := (mkF m 16 #[.val (.long (21 : Int64)), .second] [])) rfl (hb hby d1_16)
  obtain ⟨cl4, Ar4, q4, S4, Nn4, Hs4, G4⟩ := ((wd39 hW).ext O0.2)
  have hin4 : ¬ ((21 : Int32) < 0 ∨ cl4.slots.size ≤ ((21 : Int32)).toNatClampNeg) := inb_of S4 ⟨by decide, by decide⟩
  obtain ⟨fs, hr, hrun, hended, hWm, hsame⟩ := X3.leave (v := some .null) (fun h => by rw [Bd.returns] at h; cases h)
  refine ⟨_, _, pre0 _ ?_, hrun, hended, _, _, rfl, ?_, ⟨_, rfl⟩, hWm, hsame.mono (by decide) (by decide)⟩
  · show Steps p.tables e below (s₁.setTop (mkF m 0 #[.val (.long (21 : Int64)), .second] [])) _
    refine sL X0 hx hby d1_0 rfl ?_
    refine XS.lconst X0.here hx rfl (hb hby d1_1) ?_
    refine XS.lcmp X0.here hx rfl (hb hby d1_2) rfl ?_
    refine sN X0 hx hby d1_3 (by decide) ?_
    refine sL X0 hx hby d1_6 rfl ?_
    show Steps p.tables e below (s₁.setTop (mkF m 7 #[.val (.long (21 : Int64)), .second] [(.long (21 : Int64))])) _
    refine st1 _ ?_
    refine X1.arraylength hx (by rw [e1]; exact Ar2.1) (State.isArrayOf_alike hZ.alike Ar2.2.1) (g := (mkF m 10 #[.val (.long (21 : Int64)), .second] [(.ref (w 0)), (.long (21 : Int64))])) rfl rfl (hb hby d1_10) _ ?_
    rw [len_of S2 Nn2]
    show Steps p.tables e below (T1.setTop (mkF m 11 #[.val (.long (21 : Int64)), .second] [(.int (33 : Int32)), (.long (21 : Int64))])) _
    refine XS.i2l X1.here hx rfl (hb hby d1_11) rfl ?_
    refine XS.lcmp X1.here hx rfl (hb hby d1_12) rfl ?_
    refine sN X1 hx hby d1_13 (by decide) ?_
    refine st3 _ ?_
    refine sL X3 hx hby d1_19 rfl ?_
    refine XS.l2i X3.here hx rfl (hb hby d1_20) rfl ?_
    refine X3.aaload hx (j := (21 : Int32)) (v := .null) (by rw [e3]; exact Ar4.1) (State.isArrayOf_alike hZ.alike Ar4.2.1) rfl Ar4.2.2 hin4 (Hs4.at hin4 rfl) (g := (mkF m 21 #[.val (.long (21 : Int64)), .second] [(.int (21 : Int32)), (.ref (w 0))])) rfl rfl (hb hby d1_21) _ ?_
    refine sg (pc := 22) (pc' := 26) X3 hx hby d1_22 (by decide) (by decide) ?_
    jvm_step X3.here [X3.here.top, hx, (hb hby d1_26), X3.method', Bd.returns, Value.isRef, FieldType.isReference]
    first | (intro acts; rw [hr _ acts rfl rfl rfl]) | rw [hr _ _ rfl rfl rfl]
    exact Steps.refl _
  · show Q1_22 Z w h0 n0 _ T3.heap _
    rw [e3]
    exact ⟨rfl, N0, rfl⟩
theorem ef_1_23 (m : MethodId) : entryFrame m #[(.long (22 : Int64))] 2 = mkF m 0 #[.val (.long (22 : Int64)), .second] [] := by first | (simp [entryFrame, mkF, argsToLocals, Value.category]; done) | rfl
def Q1_23 (Z : State) (w : Nat → Addr) (h0 : Heap) (n0 : Nat) (v : Option Value) (h : Heap) (L : List Loc) : Prop := v = some .null ∧ Fr n0 L ∧ h = h0
set_option maxRecDepth 65536 in
set_option maxHeartbeats 40000000 in
theorem rm1_23 (l : Launch) (Z : State) (a0 : Array Value) (hw : ∀ d ∈ tables_1, d.before a0 Z = true) (w : Nat → Addr) (hW : Wd Z w) (ws : List Jvm.Cond) (h0 : Heap) (n0 : Nat) (O0 : Old Z n0 h0) :
    MetFree l ym0 (head1 (Jvm.Cond.code ym0 prog_47_method_5_code 2 (some (.object "com/example/ferrule/ferrule/io/TypeCode")) :: ws) ({ frames := 0, cells := 0, slots := 0, locals := 0 } : Room)) (fun a U => a = #[(.long (22 : Int64))] ∧ Z.Warmed39 U.vm ∧ U.heap = h0) (fun _ _ _ _ _ => True) (fun _ U o U' => ∃ v L, o = .returned v ∧ Q1_23 Z w h0 n0 v U'.heap L ∧ FrameEnd U o U' L ({ frames := 0, cells := 0, slots := 0, locals := 0 } : Room).cells ({ frames := 0, cells := 0, slots := 0, locals := 0 } : Room).slots) := by
  refine MetFree.of_bodySF (plainFor_of_name pnc_0) hisR ?_
  intro p e s m args below meth c s₁ Bd hml0 hP hK
  obtain ⟨rfl, hZ, hh⟩ := hP
  have hx := Bd.exec
  have hby := Bd.bytes
  have hml : c.maxLocals = 2 := hml0
  have hown : s.vm.findClass "com/example/ferrule/ferrule/io/TypeCode" = some m.cls := findClass_of_methodNamed Bd.named
  have hnm := (name_of_methodNamed Bd.named Bd.method).1
  have X0 : Stand p l e ({ frames := 0, cells := 0, slots := 0, locals := 0 } : Room) s m #[(.long (22 : Int64))] below meth c s₁ [] 0 0 := Stand.of_body Bd
  have e0 : s₁.heap = h0 := by rw [← hh, Bd.state]; rfl
  have N0 := Fr.nil n0
  skip
  have pre0 : ∀ t, Steps p.tables e below (s₁.setTop (mkF m 0 #[.val (.long (22 : Int64)), .second] [])) t → Steps p.tables e below (s₁.setTop (entryFrame m #[(.long (22 : Int64))] 2)) t := fun t k => castTop (ef_1_23 m) k
  obtain ⟨T1, X1, e1, st1⟩ := getS2 X0 hx hZ hown (host := "") (Or.inl (wk4 hw)) Via.refl e0 ((wd0 hW).ext O0.2) (g := (mkF m 7 #[.val (.long (22 : Int64)), .second] [(.long (22 : Int64))])) rfl (hb hby d1_7)
  obtain ⟨cl2, Ar2, q2, S2, Nn2, Hs2, G2⟩ := ((wd39 hW).ext O0.2)
  obtain ⟨T3, X3, e3, st3⟩ := getS2 X1 hx hZ hown (host := "") (Or.inl (wk4 hw)) Via.refl e1 ((wd0 hW).ext O0.2) (g := (mkF m 16 #[.val (.long (22 : Int64)), .second] [])) rfl (hb hby d1_16)
  obtain ⟨cl4, Ar4, q4, S4, Nn4, Hs4, G4⟩ := ((wd39 hW).ext O0.2)
  have hin4 : ¬ ((22 : Int32) < 0 ∨ cl4.slots.size ≤ ((22 : Int32)).toNatClampNeg) := inb_of S4 ⟨by decide, by decide⟩
  obtain ⟨fs, hr, hrun, hended, hWm, hsame⟩ := X3.leave (v := some .null) (fun h => by rw [Bd.returns] at h; cases h)
  refine ⟨_, _, pre0 _ ?_, hrun, hended, _, _, rfl, ?_, ⟨_, rfl⟩, hWm, hsame.mono (by decide) (by decide)⟩
  · show Steps p.tables e below (s₁.setTop (mkF m 0 #[.val (.long (22 : Int64)), .second] [])) _
    refine sL X0 hx hby d1_0 rfl ?_
    refine XS.lconst X0.here hx rfl (hb hby d1_1) ?_
    refine XS.lcmp X0.here hx rfl (hb hby d1_2) rfl ?_
    refine sN X0 hx hby d1_3 (by decide) ?_
    refine sL X0 hx hby d1_6 rfl ?_
    show Steps p.tables e below (s₁.setTop (mkF m 7 #[.val (.long (22 : Int64)), .second] [(.long (22 : Int64))])) _
    refine st1 _ ?_
    refine X1.arraylength hx (by rw [e1]; exact Ar2.1) (State.isArrayOf_alike hZ.alike Ar2.2.1) (g := (mkF m 10 #[.val (.long (22 : Int64)), .second] [(.ref (w 0)), (.long (22 : Int64))])) rfl rfl (hb hby d1_10) _ ?_
    rw [len_of S2 Nn2]
    show Steps p.tables e below (T1.setTop (mkF m 11 #[.val (.long (22 : Int64)), .second] [(.int (33 : Int32)), (.long (22 : Int64))])) _
    refine XS.i2l X1.here hx rfl (hb hby d1_11) rfl ?_
    refine XS.lcmp X1.here hx rfl (hb hby d1_12) rfl ?_
    refine sN X1 hx hby d1_13 (by decide) ?_
    refine st3 _ ?_
    refine sL X3 hx hby d1_19 rfl ?_
    refine XS.l2i X3.here hx rfl (hb hby d1_20) rfl ?_
    refine X3.aaload hx (j := (22 : Int32)) (v := .null) (by rw [e3]; exact Ar4.1) (State.isArrayOf_alike hZ.alike Ar4.2.1) rfl Ar4.2.2 hin4 (Hs4.at hin4 rfl) (g := (mkF m 21 #[.val (.long (22 : Int64)), .second] [(.int (22 : Int32)), (.ref (w 0))])) rfl rfl (hb hby d1_21) _ ?_
    refine sg (pc := 22) (pc' := 26) X3 hx hby d1_22 (by decide) (by decide) ?_
    jvm_step X3.here [X3.here.top, hx, (hb hby d1_26), X3.method', Bd.returns, Value.isRef, FieldType.isReference]
    first | (intro acts; rw [hr _ acts rfl rfl rfl]) | rw [hr _ _ rfl rfl rfl]
    exact Steps.refl _
  · show Q1_23 Z w h0 n0 _ T3.heap _
    rw [e3]
    exact ⟨rfl, N0, rfl⟩
theorem ef_1_24 (m : MethodId) : entryFrame m #[(.long (23 : Int64))] 2 = mkF m 0 #[.val (.long (23 : Int64)), .second] [] := by first | (simp [entryFrame, mkF, argsToLocals, Value.category]; done) | rfl
def Q1_24 (Z : State) (w : Nat → Addr) (h0 : Heap) (n0 : Nat) (v : Option Value) (h : Heap) (L : List Loc) : Prop := v = some .null ∧ Fr n0 L ∧ h = h0
set_option maxRecDepth 65536 in
set_option maxHeartbeats 40000000 in
theorem rm1_24 (l : Launch) (Z : State) (a0 : Array Value) (hw : ∀ d ∈ tables_1, d.before a0 Z = true) (w : Nat → Addr) (hW : Wd Z w) (ws : List Jvm.Cond) (h0 : Heap) (n0 : Nat) (O0 : Old Z n0 h0) :
    MetFree l ym0 (head1 (Jvm.Cond.code ym0 prog_47_method_5_code 2 (some (.object "com/example/ferrule/ferrule/io/TypeCode")) :: ws) ({ frames := 0, cells := 0, slots := 0, locals := 0 } : Room)) (fun a U => a = #[(.long (23 : Int64))] ∧ Z.Warmed39 U.vm ∧ U.heap = h0) (fun _ _ _ _ _ => True) (fun _ U o U' => ∃ v L, o = .returned v ∧ Q1_24 Z w h0 n0 v U'.heap L ∧ FrameEnd U o U' L ({ frames := 0, cells := 0, slots := 0, locals := 0 } : Room).cells ({ frames := 0, cells := 0, slots := 0, locals := 0 } : Room).slots) := by
  refine MetFree.of_bodySF (plainFor_of_name pnc_0) hisR ?_
  intro p e s m args below meth c s₁ Bd hml0 hP hK
  obtain ⟨rfl, hZ, hh⟩ := hP
  have hx := Bd.exec
  have hby := Bd.bytes
  have hml : c.maxLocals = 2 := hml0
  have hown : s.vm.findClass "com/example/ferrule/ferrule/io/TypeCode" = some m.cls := findClass_of_methodNamed Bd.named
  have hnm := (name_of_methodNamed Bd.named Bd.method).1
  have X0 : Stand p l e ({ frames := 0, cells := 0, slots := 0, locals := 0 } : Room) s m #[(.long (23 : Int64))] below meth c s₁ [] 0 0 := Stand.of_body Bd
  have e0 : s₁.heap = h0 := by rw [← hh, Bd.state]; rfl
  have N0 := Fr.nil n0
  skip
  have pre0 : ∀ t, Steps p.tables e below (s₁.setTop (mkF m 0 #[.val (.long (23 : Int64)), .second] [])) t → Steps p.tables e below (s₁.setTop (entryFrame m #[(.long (23 : Int64))] 2)) t := fun t k => castTop (ef_1_24 m) k
  obtain ⟨T1, X1, e1, st1⟩ := getS2 X0 hx hZ hown (host := "") (Or.inl (wk4 hw)) Via.refl e0 ((wd0 hW).ext O0.2) (g := (mkF m 7 #[.val (.long (23 : Int64)), .second] [(.long (23 : Int64))])) rfl (hb hby d1_7)
  obtain ⟨cl2, Ar2, q2, S2, Nn2, Hs2, G2⟩ := ((wd39 hW).ext O0.2)
  obtain ⟨T3, X3, e3, st3⟩ := getS2 X1 hx hZ hown (host := "") (Or.inl (wk4 hw)) Via.refl e1 ((wd0 hW).ext O0.2) (g := (mkF m 16 #[.val (.long (23 : Int64)), .second] [])) rfl (hb hby d1_16)
  obtain ⟨cl4, Ar4, q4, S4, Nn4, Hs4, G4⟩ := ((wd39 hW).ext O0.2)
  have hin4 : ¬ ((23 : Int32) < 0 ∨ cl4.slots.size ≤ ((23 : Int32)).toNatClampNeg) := inb_of S4 ⟨by decide, by decide⟩
  obtain ⟨fs, hr, hrun, hended, hWm, hsame⟩ := X3.leave (v := some .null) (fun h => by rw [Bd.returns] at h; cases h)
  refine ⟨_, _, pre0 _ ?_, hrun, hended, _, _, rfl, ?_, ⟨_, rfl⟩, hWm, hsame.mono (by decide) (by decide)⟩
  · show Steps p.tables e below (s₁.setTop (mkF m 0 #[.val (.long (23 : Int64)), .second] [])) _
    refine sL X0 hx hby d1_0 rfl ?_
    refine XS.lconst X0.here hx rfl (hb hby d1_1) ?_
    refine XS.lcmp X0.here hx rfl (hb hby d1_2) rfl ?_
    refine sN X0 hx hby d1_3 (by decide) ?_
    refine sL X0 hx hby d1_6 rfl ?_
    show Steps p.tables e below (s₁.setTop (mkF m 7 #[.val (.long (23 : Int64)), .second] [(.long (23 : Int64))])) _
    refine st1 _ ?_
    refine X1.arraylength hx (by rw [e1]; exact Ar2.1) (State.isArrayOf_alike hZ.alike Ar2.2.1) (g := (mkF m 10 #[.val (.long (23 : Int64)), .second] [(.ref (w 0)), (.long (23 : Int64))])) rfl rfl (hb hby d1_10) _ ?_
    rw [len_of S2 Nn2]
    show Steps p.tables e below (T1.setTop (mkF m 11 #[.val (.long (23 : Int64)), .second] [(.int (33 : Int32)), (.long (23 : Int64))])) _
    refine XS.i2l X1.here hx rfl (hb hby d1_11) rfl ?_
    refine XS.lcmp X1.here hx rfl (hb hby d1_12) rfl ?_
    refine sN X1 hx hby d1_13 (by decide) ?_
    refine st3 _ ?_
    refine sL X3 hx hby d1_19 rfl ?_
    refine XS.l2i X3.here hx rfl (hb hby d1_20) rfl ?_
    refine X3.aaload hx (j := (23 : Int32)) (v := .null) (by rw [e3]; exact Ar4.1) (State.isArrayOf_alike hZ.alike Ar4.2.1) rfl Ar4.2.2 hin4 (Hs4.at hin4 rfl) (g := (mkF m 21 #[.val (.long (23 : Int64)), .second] [(.int (23 : Int32)), (.ref (w 0))])) rfl rfl (hb hby d1_21) _ ?_
    refine sg (pc := 22) (pc' := 26) X3 hx hby d1_22 (by decide) (by decide) ?_
    jvm_step X3.here [X3.here.top, hx, (hb hby d1_26), X3.method', Bd.returns, Value.isRef, FieldType.isReference]
    first | (intro acts; rw [hr _ acts rfl rfl rfl]) | rw [hr _ _ rfl rfl rfl]
    exact Steps.refl _
  · show Q1_24 Z w h0 n0 _ T3.heap _
    rw [e3]
    exact ⟨rfl, N0, rfl⟩
theorem ef_1_25 (m : MethodId) : entryFrame m #[(.long (24 : Int64))] 2 = mkF m 0 #[.val (.long (24 : Int64)), .second] [] := by first | (simp [entryFrame, mkF, argsToLocals, Value.category]; done) | rfl
def Q1_25 (Z : State) (w : Nat → Addr) (h0 : Heap) (n0 : Nat) (v : Option Value) (h : Heap) (L : List Loc) : Prop := v = some .null ∧ Fr n0 L ∧ h = h0
set_option maxRecDepth 65536 in
set_option maxHeartbeats 40000000 in
theorem rm1_25 (l : Launch) (Z : State) (a0 : Array Value) (hw : ∀ d ∈ tables_1, d.before a0 Z = true) (w : Nat → Addr) (hW : Wd Z w) (ws : List Jvm.Cond) (h0 : Heap) (n0 : Nat) (O0 : Old Z n0 h0) :
    MetFree l ym0 (head1 (Jvm.Cond.code ym0 prog_47_method_5_code 2 (some (.object "com/example/ferrule/ferrule/io/TypeCode")) :: ws) ({ frames := 0, cells := 0, slots := 0, locals := 0 } : Room)) (fun a U => a = #[(.long (24 : Int64))] ∧ Z.Warmed39 U.vm ∧ U.heap = h0) (fun _ _ _ _ _ => True) (fun _ U o U' => ∃ v L, o = .returned v ∧ Q1_25 Z w h0 n0 v U'.heap L ∧ FrameEnd U o U' L ({ frames := 0, cells := 0, slots := 0, locals := 0 } : Room).cells ({ frames := 0, cells := 0, slots := 0, locals := 0 } : Room).slots) := by
  refine MetFree.of_bodySF (plainFor_of_name pnc_0) hisR ?_
  intro p e s m args below meth c s₁ Bd hml0 hP hK
  obtain ⟨rfl, hZ, hh⟩ := hP
  have hx := Bd.exec
  have hby := Bd.bytes
  have hml : c.maxLocals = 2 := hml0
  have hown : s.vm.findClass "com/example/ferrule/ferrule/io/TypeCode" = some m.cls := findClass_of_methodNamed Bd.named
  have hnm := (name_of_methodNamed Bd.named Bd.method).1
  have X0 : Stand p l e ({ frames := 0, cells := 0, slots := 0, locals := 0 } : Room) s m #[(.long (24 : Int64))] below meth c s₁ [] 0 0 := Stand.of_body Bd
  have e0 : s₁.heap = h0 := by rw [← hh, Bd.state]; rfl
  have N0 := Fr.nil n0
  skip
  have pre0 : ∀ t, Steps p.tables e below (s₁.setTop (mkF m 0 #[.val (.long (24 : Int64)), .second] [])) t → Steps p.tables e below (s₁.setTop (entryFrame m #[(.long (24 : Int64))] 2)) t := fun t k => castTop (ef_1_25 m) k
  obtain ⟨T1, X1, e1, st1⟩ := getS2 X0 hx hZ hown (host := "") (Or.inl (wk4 hw)) Via.refl e0 ((wd0 hW).ext O0.2) (g := (mkF m 7 #[.val (.long (24 : Int64)), .second] [(.long (24 : Int64))])) rfl (hb hby d1_7)
  obtain ⟨cl2, Ar2, q2, S2, Nn2, Hs2, G2⟩ := ((wd39 hW).ext O0.2)
  obtain ⟨T3, X3, e3, st3⟩ := getS2 X1 hx hZ hown (host := "") (Or.inl (wk4 hw)) Via.refl e1 ((wd0 hW).ext O0.2) (g := (mkF m 16 #[.val (.long (24 : Int64)), .second] [])) rfl (hb hby d1_16)
  obtain ⟨cl4, Ar4, q4, S4, Nn4, Hs4, G4⟩ := ((wd39 hW).ext O0.2)
  have hin4 : ¬ ((24 : Int32) < 0 ∨ cl4.slots.size ≤ ((24 : Int32)).toNatClampNeg) := inb_of S4 ⟨by decide, by decide⟩
  obtain ⟨fs, hr, hrun, hended, hWm, hsame⟩ := X3.leave (v := some .null) (fun h => by rw [Bd.returns] at h; cases h)
  refine ⟨_, _, pre0 _ ?_, hrun, hended, _, _, rfl, ?_, ⟨_, rfl⟩, hWm, hsame.mono (by decide) (by decide)⟩
  · show Steps p.tables e below (s₁.setTop (mkF m 0 #[.val (.long (24 : Int64)), .second] [])) _
    refine sL X0 hx hby d1_0 rfl ?_
    refine XS.lconst X0.here hx rfl (hb hby d1_1) ?_
    refine XS.lcmp X0.here hx rfl (hb hby d1_2) rfl ?_
    refine sN X0 hx hby d1_3 (by decide) ?_
    refine sL X0 hx hby d1_6 rfl ?_
    show Steps p.tables e below (s₁.setTop (mkF m 7 #[.val (.long (24 : Int64)), .second] [(.long (24 : Int64))])) _
    refine st1 _ ?_
    refine X1.arraylength hx (by rw [e1]; exact Ar2.1) (State.isArrayOf_alike hZ.alike Ar2.2.1) (g := (mkF m 10 #[.val (.long (24 : Int64)), .second] [(.ref (w 0)), (.long (24 : Int64))])) rfl rfl (hb hby d1_10) _ ?_
    rw [len_of S2 Nn2]
    show Steps p.tables e below (T1.setTop (mkF m 11 #[.val (.long (24 : Int64)), .second] [(.int (33 : Int32)), (.long (24 : Int64))])) _
    refine XS.i2l X1.here hx rfl (hb hby d1_11) rfl ?_
    refine XS.lcmp X1.here hx rfl (hb hby d1_12) rfl ?_
    refine sN X1 hx hby d1_13 (by decide) ?_
    refine st3 _ ?_
    refine sL X3 hx hby d1_19 rfl ?_
    refine XS.l2i X3.here hx rfl (hb hby d1_20) rfl ?_
    refine X3.aaload hx (j := (24 : Int32)) (v := .null) (by rw [e3]; exact Ar4.1) (State.isArrayOf_alike hZ.alike Ar4.2.1) rfl Ar4.2.2 hin4 (Hs4.at hin4 rfl) (g := (mkF m 21 #[.val (.long (24 : Int64)), .second] [(.int (24 : Int32)), (.ref (w 0))])) rfl rfl (hb hby d1_21) _ ?_
    refine sg (pc := 22) (pc' := 26) X3 hx hby d1_22 (by decide) (by decide) ?_
    jvm_step X3.here [X3.here.top, hx, (hb hby d1_26), X3.method', Bd.returns, Value.isRef, FieldType.isReference]
    first | (intro acts; rw [hr _ acts rfl rfl rfl]) | rw [hr _ _ rfl rfl rfl]
    exact Steps.refl _
  · show Q1_25 Z w h0 n0 _ T3.heap _
    rw [e3]
    exact ⟨rfl, N0, rfl⟩
theorem ef_1_26 (m : MethodId) : entryFrame m #[(.long (25 : Int64))] 2 = mkF m 0 #[.val (.long (25 : Int64)), .second] [] := by first | (simp [entryFrame, mkF, argsToLocals, Value.category]; done) | rfl
def Q1_26 (Z : State) (w : Nat → Addr) (h0 : Heap) (n0 : Nat) (v : Option Value) (h : Heap) (L : List Loc) : Prop := v = some .null ∧ Fr n0 L ∧ h = h0
set_option maxRecDepth 65536 in
set_option maxHeartbeats 40000000 in
theorem rm1_26 (l : Launch) (Z : State) (a0 : Array Value) (hw : ∀ d ∈ tables_1, d.before a0 Z = true) (w : Nat → Addr) (hW : Wd Z w) (ws : List Jvm.Cond) (h0 : Heap) (n0 : Nat) (O0 : Old Z n0 h0) :
    MetFree l ym0 (head1 (Jvm.Cond.code ym0 prog_47_method_5_code 2 (some (.object "com/example/ferrule/ferrule/io/TypeCode")) :: ws) ({ frames := 0, cells := 0, slots := 0, locals := 0 } : Room)) (fun a U => a = #[(.long (25 : Int64))] ∧ Z.Warmed39 U.vm ∧ U.heap = h0) (fun _ _ _ _ _ => True) (fun _ U o U' => ∃ v L, o = .returned v ∧ Q1_26 Z w h0 n0 v U'.heap L ∧ FrameEnd U o U' L ({ frames := 0, cells := 0, slots := 0, locals := 0 } : Room).cells ({ frames := 0, cells := 0, slots := 0, locals := 0 } : Room).slots) := by
  refine MetFree.of_bodySF (plainFor_of_name pnc_0) hisR ?_
  intro p e s m args below meth c s₁ Bd hml0 hP hK
  obtain ⟨rfl, hZ, hh⟩ := hP
  have hx := Bd.exec
  have hby := Bd.bytes
  have hml : c.maxLocals = 2 := hml0
  have hown : s.vm.findClass "com/example/ferrule/ferrule/io/TypeCode" = some m.cls := findClass_of_methodNamed Bd.named
  have hnm := (name_of_methodNamed Bd.named Bd.method).1
  have X0 : Stand p l e ({ frames := 0, cells := 0, slots := 0, locals := 0 } : Room) s m #[(.long (25 : Int64))] below meth c s₁ [] 0 0 := Stand.of_body Bd
  have e0 : s₁.heap = h0 := by rw [← hh, Bd.state]; rfl
  have N0 := Fr.nil n0
  skip
  have pre0 : ∀ t, Steps p.tables e below (s₁.setTop (mkF m 0 #[.val (.long (25 : Int64)), .second] [])) t → Steps p.tables e below (s₁.setTop (entryFrame m #[(.long (25 : Int64))] 2)) t := fun t k => castTop (ef_1_26 m) k
  obtain ⟨T1, X1, e1, st1⟩ := getS2 X0 hx hZ hown (host := "") (Or.inl (wk4 hw)) Via.refl e0 ((wd0 hW).ext O0.2) (g := (mkF m 7 #[.val (.long (25 : Int64)), .second] [(.long (25 : Int64))])) rfl (hb hby d1_7)
  obtain ⟨cl2, Ar2, q2, S2, Nn2, Hs2, G2⟩ := ((wd39 hW).ext O0.2)
  obtain ⟨T3, X3, e3, st3⟩ := getS2 X1 hx hZ hown (host := "") (Or.inl (wk4 hw)) Via.refl e1 ((wd0 hW).ext O0.2) (g := (mkF m 16 #[.val (.long (25 : Int64)), .second] [])) rfl (hb hby d1_16)
  obtain ⟨cl4, Ar4, q4, S4, Nn4, Hs4, G4⟩ := ((wd39 hW).ext O0.2)
  have hin4 : ¬ ((25 : Int32) < 0 ∨ cl4.slots.size ≤ ((25 : Int32)).toNatClampNeg) := inb_of S4 ⟨by decide, by decide⟩
  obtain ⟨fs, hr, hrun, hended, hWm, hsame⟩ := X3.leave (v := some .null) (fun h => by rw [Bd.returns] at h; cases h)
  refine ⟨_, _, pre0 _ ?_, hrun, hended, _, _, rfl, ?_, ⟨_, rfl⟩, hWm, hsame.mono (by decide) (by decide)⟩
  · show Steps p.tables e below (s₁.setTop (mkF m 0 #[.val (.long (25 : Int64)), .second] [])) _
    refine sL X0 hx hby d1_0 rfl ?_
    refine XS.lconst X0.here hx rfl (hb hby d1_1) ?_
    refine XS.lcmp X0.here hx rfl (hb hby d1_2) rfl ?_
    refine sN X0 hx hby d1_3 (by decide) ?_
    refine sL X0 hx hby d1_6 rfl ?_
    show Steps p.tables e below (s₁.setTop (mkF m 7 #[.val (.long (25 : Int64)), .second] [(.long (25 : Int64))])) _
    refine st1 _ ?_
    refine X1.arraylength hx (by rw [e1]; exact Ar2.1) (State.isArrayOf_alike hZ.alike Ar2.2.1) (g := (mkF m 10 #[.val (.long (25 : Int64)), .second] [(.ref (w 0)), (.long (25 : Int64))])) rfl rfl (hb hby d1_10) _ ?_
    rw [len_of S2 Nn2]
    show Steps p.tables e below (T1.setTop (mkF m 11 #[.val (.long (25 : Int64)), .second] [(.int (33 : Int32)), (.long (25 : Int64))])) _
    refine XS.i2l X1.here hx rfl (hb hby d1_11) rfl ?_
    refine XS.lcmp X1.here hx rfl (hb hby d1_12) rfl ?_
    refine sN X1 hx hby d1_13 (by decide) ?_
    refine st3 _ ?_
    refine sL X3 hx hby d1_19 rfl ?_
    refine XS.l2i X3.here hx rfl (hb hby d1_20) rfl ?_
    refine X3.aaload hx (j := (25 : Int32)) (v := .null) (by rw [e3]; exact Ar4.1) (State.isArrayOf_alike hZ.alike Ar4.2.1) rfl Ar4.2.2 hin4 (Hs4.at hin4 rfl) (g := (mkF m 21 #[.val (.long (25 : Int64)), .second] [(.int (25 : Int32)), (.ref (w 0))])) rfl rfl (hb hby d1_21) _ ?_
    refine sg (pc := 22) (pc' := 26) X3 hx hby d1_22 (by decide) (by decide) ?_
    jvm_step X3.here [X3.here.top, hx, (hb hby d1_26), X3.method', Bd.returns, Value.isRef, FieldType.isReference]
    first | (intro acts; rw [hr _ acts rfl rfl rfl]) | rw [hr _ _ rfl rfl rfl]
    exact Steps.refl _
  · show Q1_26 Z w h0 n0 _ T3.heap _
    rw [e3]
    exact ⟨rfl, N0, rfl⟩
theorem ef_1_27 (m : MethodId) : entryFrame m #[(.long (26 : Int64))] 2 = mkF m 0 #[.val (.long (26 : Int64)), .second] [] := by first | (simp [entryFrame, mkF, argsToLocals, Value.category]; done) | rfl
def Q1_27 (Z : State) (w : Nat → Addr) (h0 : Heap) (n0 : Nat) (v : Option Value) (h : Heap) (L : List Loc) : Prop := v = some .null ∧ Fr n0 L ∧ h = h0
set_option maxRecDepth 65536 in
set_option maxHeartbeats 40000000 in
theorem rm1_27 (l : Launch) (Z : State) (a0 : Array Value) (hw : ∀ d ∈ tables_1, d.before a0 Z = true) (w : Nat → Addr) (hW : Wd Z w) (ws : List Jvm.Cond) (h0 : Heap) (n0 : Nat) (O0 : Old Z n0 h0) :
    MetFree l ym0 (head1 (Jvm.Cond.code ym0 prog_47_method_5_code 2 (some (.object "com/example/ferrule/ferrule/io/TypeCode")) :: ws) ({ frames := 0, cells := 0, slots := 0, locals := 0 } : Room)) (fun a U => a = #[(.long (26 : Int64))] ∧ Z.Warmed39 U.vm ∧ U.heap = h0) (fun _ _ _ _ _ => True) (fun _ U o U' => ∃ v L, o = .returned v ∧ Q1_27 Z w h0 n0 v U'.heap L ∧ FrameEnd U o U' L ({ frames := 0, cells := 0, slots := 0, locals := 0 } : Room).cells ({ frames := 0, cells := 0, slots := 0, locals := 0 } : Room).slots) := by
  refine MetFree.of_bodySF (plainFor_of_name pnc_0) hisR ?_
  intro p e s m args below meth c s₁ Bd hml0 hP hK
  obtain ⟨rfl, hZ, hh⟩ := hP
  have hx := Bd.exec
  have hby := Bd.bytes
  have hml : c.maxLocals = 2 := hml0
  have hown : s.vm.findClass "com/example/ferrule/ferrule/io/TypeCode" = some m.cls := findClass_of_methodNamed Bd.named
  have hnm := (name_of_methodNamed Bd.named Bd.method).1
  have X0 : Stand p l e ({ frames := 0, cells := 0, slots := 0, locals := 0 } : Room) s m #[(.long (26 : Int64))] below meth c s₁ [] 0 0 := Stand.of_body Bd
  have e0 : s₁.heap = h0 := by rw [← hh, Bd.state]; rfl
  have N0 := Fr.nil n0
  skip
  have pre0 : ∀ t, Steps p.tables e below (s₁.setTop (mkF m 0 #[.val (.long (26 : Int64)), .second] [])) t → Steps p.tables e below (s₁.setTop (entryFrame m #[(.long (26 : Int64))] 2)) t := fun t k => castTop (ef_1_27 m) k
  obtain ⟨T1, X1, e1, st1⟩ := getS2 X0 hx hZ hown (host := "") (Or.inl (wk4 hw)) Via.refl e0 ((wd0 hW).ext O0.2) (g := (mkF m 7 #[.val (.long (26 : Int64)), .second] [(.long (26 : Int64))])) rfl (hb hby d1_7)
  obtain ⟨cl2, Ar2, q2, S2, Nn2, Hs2, G2⟩ := ((wd39 hW).ext O0.2)
  obtain ⟨T3, X3, e3, st3⟩ := getS2 X1 hx hZ hown (host := "") (Or.inl (wk4 hw)) Via.refl e1 ((wd0 hW).ext O0.2) (g := (mkF m 16 #[.val (.long (26 : Int64)), .second] [])) rfl (hb hby d1_16)
  obtain ⟨cl4, Ar4, q4, S4, Nn4, Hs4, G4⟩ := ((wd39 hW).ext O0.2)
  have hin4 : ¬ ((26 : Int32) < 0 ∨ cl4.slots.size ≤ ((26 : Int32)).toNatClampNeg) := inb_of S4 ⟨by decide, by decide⟩
  obtain ⟨fs, hr, hrun, hended, hWm, hsame⟩ := X3.leave (v := some .null) (fun h => by rw [Bd.returns] at h; cases h)
  refine ⟨_, _, pre0 _ ?_, hrun, hended, _, _, rfl, ?_, ⟨_, rfl⟩, hWm, hsame.mono (by decide) (by decide)⟩
  · show Steps p.tables e below (s₁.setTop (mkF m 0 #[.val (.long (26 : Int64)), .second] [])) _
    refine sL X0 hx hby d1_0 rfl ?_
    refine XS.lconst X0.here hx rfl (hb hby d1_1) ?_
    refine XS.lcmp X0.here hx rfl (hb hby d1_2) rfl ?_
    refine sN X0 hx hby d1_3 (by decide) ?_
    refine sL X0 hx hby d1_6 rfl ?_
    show Steps p.tables e below (s₁.setTop (mkF m 7 #[.val (.long (26 : Int64)), .second] [(.long (26 : Int64))])) _
    refine st1 _ ?_
    refine X1.arraylength hx (by rw [e1]; exact Ar2.1) (State.isArrayOf_alike hZ.alike Ar2.2.1) (g := (mkF m 10 #[.val (.long (26 : Int64)), .second] [(.ref (w 0)), (.long (26 : Int64))])) rfl rfl (hb hby d1_10) _ ?_
    rw [len_of S2 Nn2]
    show Steps p.tables e below (T1.setTop (mkF m 11 #[.val (.long (26 : Int64)), .second] [(.int (33 : Int32)), (.long (26 : Int64))])) _
    refine XS.i2l X1.here hx rfl (hb hby d1_11) rfl ?_
    refine XS.lcmp X1.here hx rfl (hb hby d1_12) rfl ?_
    refine sN X1 hx hby d1_13 (by decide) ?_
    refine st3 _ ?_
    refine sL X3 hx hby d1_19 rfl ?_
    refine XS.l2i X3.here hx rfl (hb hby d1_20) rfl ?_
    refine X3.aaload hx (j := (26 : Int32)) (v := .null) (by rw [e3]; exact Ar4.1) (State.isArrayOf_alike hZ.alike Ar4.2.1) rfl Ar4.2.2 hin4 (Hs4.at hin4 rfl) (g := (mkF m 21 #[.val (.long (26 : Int64)), .second] [(.int (26 : Int32)), (.ref (w 0))])) rfl rfl (hb hby d1_21) _ ?_
    refine sg (pc := 22) (pc' := 26) X3 hx hby d1_22 (by decide) (by decide) ?_
    jvm_step X3.here [X3.here.top, hx, (hb hby d1_26), X3.method', Bd.returns, Value.isRef, FieldType.isReference]
    first | (intro acts; rw [hr _ acts rfl rfl rfl]) | rw [hr _ _ rfl rfl rfl]
    exact Steps.refl _
  · show Q1_27 Z w h0 n0 _ T3.heap _
    rw [e3]
    exact ⟨rfl, N0, rfl⟩
theorem ef_1_28 (m : MethodId) : entryFrame m #[(.long (27 : Int64))] 2 = mkF m 0 #[.val (.long (27 : Int64)), .second] [] := by first | (simp [entryFrame, mkF, argsToLocals, Value.category]; done) | rfl
def Q1_28 (Z : State) (w : Nat → Addr) (h0 : Heap) (n0 : Nat) (v : Option Value) (h : Heap) (L : List Loc) : Prop := v = some .null ∧ Fr n0 L ∧ h = h0
set_option maxRecDepth 65536 in
set_option maxHeartbeats 40000000 in
theorem rm1_28 (l : Launch) (Z : State) (a0 : Array Value) (hw : ∀ d ∈ tables_1, d.before a0 Z = true) (w : Nat → Addr) (hW : Wd Z w) (ws : List Jvm.Cond) (h0 : Heap) (n0 : Nat) (O0 : Old Z n0 h0) :
    MetFree l ym0 (head1 (Jvm.Cond.code ym0 prog_47_method_5_code 2 (some (.object "com/example/ferrule/ferrule/io/TypeCode")) :: ws) ({ frames := 0, cells := 0, slots := 0, locals := 0 } : Room)) (fun a U => a = #[(.long (27 : Int64))] ∧ Z.Warmed39 U.vm ∧ U.heap = h0) (fun _ _ _ _ _ => True) (fun _ U o U' => ∃ v L, o = .returned v ∧ Q1_28 Z w h0 n0 v U'.heap L ∧ FrameEnd U o U' L ({ frames := 0, cells := 0, slots := 0, locals := 0 } : Room).cells ({ frames := 0, cells := 0, slots := 0, locals := 0 } : Room).slots) := by
  refine MetFree.of_bodySF (plainFor_of_name pnc_0) hisR ?_
  intro p e s m args below meth c s₁ Bd hml0 hP hK
  obtain ⟨rfl, hZ, hh⟩ := hP
  have hx := Bd.exec
  have hby := Bd.bytes
  have hml : c.maxLocals = 2 := hml0
  have hown : s.vm.findClass "com/example/ferrule/ferrule/io/TypeCode" = some m.cls := findClass_of_methodNamed Bd.named
  have hnm := (name_of_methodNamed Bd.named Bd.method).1
  have X0 : Stand p l e ({ frames := 0, cells := 0, slots := 0, locals := 0 } : Room) s m #[(.long (27 : Int64))] below meth c s₁ [] 0 0 := Stand.of_body Bd
  have e0 : s₁.heap = h0 := by rw [← hh, Bd.state]; rfl
  have N0 := Fr.nil n0
  skip
  have pre0 : ∀ t, Steps p.tables e below (s₁.setTop (mkF m 0 #[.val (.long (27 : Int64)), .second] [])) t → Steps p.tables e below (s₁.setTop (entryFrame m #[(.long (27 : Int64))] 2)) t := fun t k => castTop (ef_1_28 m) k
  obtain ⟨T1, X1, e1, st1⟩ := getS2 X0 hx hZ hown (host := "") (Or.inl (wk4 hw)) Via.refl e0 ((wd0 hW).ext O0.2) (g := (mkF m 7 #[.val (.long (27 : Int64)), .second] [(.long (27 : Int64))])) rfl (hb hby d1_7)
  obtain ⟨cl2, Ar2, q2, S2, Nn2, Hs2, G2⟩ := ((wd39 hW).ext O0.2)
  obtain ⟨T3, X3, e3, st3⟩ := getS2 X1 hx hZ hown (host := "") (Or.inl (wk4 hw)) Via.refl e1 ((wd0 hW).ext O0.2) (g := (mkF m 16 #[.val (.long (27 : Int64)), .second] [])) rfl (hb hby d1_16)
  obtain ⟨cl4, Ar4, q4, S4, Nn4, Hs4, G4⟩ := ((wd39 hW).ext O0.2)
  have hin4 : ¬ ((27 : Int32) < 0 ∨ cl4.slots.size ≤ ((27 : Int32)).toNatClampNeg) := inb_of S4 ⟨by decide, by decide⟩
  obtain ⟨fs, hr, hrun, hended, hWm, hsame⟩ := X3.leave (v := some .null) (fun h => by rw [Bd.returns] at h; cases h)
  refine ⟨_, _, pre0 _ ?_, hrun, hended, _, _, rfl, ?_, ⟨_, rfl⟩, hWm, hsame.mono (by decide) (by decide)⟩
  · show Steps p.tables e below (s₁.setTop (mkF m 0 #[.val (.long (27 : Int64)), .second] [])) _
    refine sL X0 hx hby d1_0 rfl ?_
    refine XS.lconst X0.here hx rfl (hb hby d1_1) ?_
    refine XS.lcmp X0.here hx rfl (hb hby d1_2) rfl ?_
    refine sN X0 hx hby d1_3 (by decide) ?_
    refine sL X0 hx hby d1_6 rfl ?_
    show Steps p.tables e below (s₁.setTop (mkF m 7 #[.val (.long (27 : Int64)), .second] [(.long (27 : Int64))])) _
    refine st1 _ ?_
    refine X1.arraylength hx (by rw [e1]; exact Ar2.1) (State.isArrayOf_alike hZ.alike Ar2.2.1) (g := (mkF m 10 #[.val (.long (27 : Int64)), .second] [(.ref (w 0)), (.long (27 : Int64))])) rfl rfl (hb hby d1_10) _ ?_
    rw [len_of S2 Nn2]
    show Steps p.tables e below (T1.setTop (mkF m 11 #[.val (.long (27 : Int64)), .second] [(.int (33 : Int32)), (.long (27 : Int64))])) _
    refine XS.i2l X1.here hx rfl (hb hby d1_11) rfl ?_
    refine XS.lcmp X1.here hx rfl (hb hby d1_12) rfl ?_
    refine sN X1 hx hby d1_13 (by decide) ?_
    refine st3 _ ?_
    refine sL X3 hx hby d1_19 rfl ?_
    refine XS.l2i X3.here hx rfl (hb hby d1_20) rfl ?_
    refine X3.aaload hx (j := (27 : Int32)) (v := .null) (by rw [e3]; exact Ar4.1) (State.isArrayOf_alike hZ.alike Ar4.2.1) rfl Ar4.2.2 hin4 (Hs4.at hin4 rfl) (g := (mkF m 21 #[.val (.long (27 : Int64)), .second] [(.int (27 : Int32)), (.ref (w 0))])) rfl rfl (hb hby d1_21) _ ?_
    refine sg (pc := 22) (pc' := 26) X3 hx hby d1_22 (by decide) (by decide) ?_
    jvm_step X3.here [X3.here.top, hx, (hb hby d1_26), X3.method', Bd.returns, Value.isRef, FieldType.isReference]
    first | (intro acts; rw [hr _ acts rfl rfl rfl]) | rw [hr _ _ rfl rfl rfl]
    exact Steps.refl _
  · show Q1_28 Z w h0 n0 _ T3.heap _
    rw [e3]
    exact ⟨rfl, N0, rfl⟩
theorem ef_1_29 (m : MethodId) : entryFrame m #[(.long (28 : Int64))] 2 = mkF m 0 #[.val (.long (28 : Int64)), .second] [] := by first | (simp [entryFrame, mkF, argsToLocals, Value.category]; done) | rfl
def Q1_29 (Z : State) (w : Nat → Addr) (h0 : Heap) (n0 : Nat) (v : Option Value) (h : Heap) (L : List Loc) : Prop := v = some .null ∧ Fr n0 L ∧ h = h0
set_option maxRecDepth 65536 in
set_option maxHeartbeats 40000000 in
theorem rm1_29 (l : Launch) (Z : State) (a0 : Array Value) (hw : ∀ d ∈ tables_1, d.before a0 Z = true) (w : Nat → Addr) (hW : Wd Z w) (ws : List Jvm.Cond) (h0 : Heap) (n0 : Nat) (O0 : Old Z n0 h0) :
    MetFree l ym0 (head1 (Jvm.Cond.code ym0 prog_47_method_5_code 2 (some (.object "com/example/ferrule/ferrule/io/TypeCode")) :: ws) ({ frames := 0, cells := 0, slots := 0, locals := 0 } : Room)) (fun a U => a = #[(.long (28 : Int64))] ∧ Z.Warmed39 U.vm ∧ U.heap = h0) (fun _ _ _ _ _ => True) (fun _ U o U' => ∃ v L, o = .returned v ∧ Q1_29 Z w h0 n0 v U'.heap L ∧ FrameEnd U o U' L ({ frames := 0, cells := 0, slots := 0, locals := 0 } : Room).cells ({ frames := 0, cells := 0, slots := 0, locals := 0 } : Room).slots) := by
  refine MetFree.of_bodySF (plainFor_of_name pnc_0) hisR ?_
  intro p e s m args below meth c s₁ Bd hml0 hP hK
  obtain ⟨rfl, hZ, hh⟩ := hP
  have hx := Bd.exec
  have hby := Bd.bytes
  have hml : c.maxLocals = 2 := hml0
  have hown : s.vm.findClass "com/example/ferrule/ferrule/io/TypeCode" = some m.cls := findClass_of_methodNamed Bd.named
  have hnm := (name_of_methodNamed Bd.named Bd.method).1
  have X0 : Stand p l e ({ frames := 0, cells := 0, slots := 0, locals := 0 } : Room) s m #[(.long (28 : Int64))] below meth c s₁ [] 0 0 := Stand.of_body Bd
  have e0 : s₁.heap = h0 := by rw [← hh, Bd.state]; rfl
  have N0 := Fr.nil n0
  skip
  have pre0 : ∀ t, Steps p.tables e below (s₁.setTop (mkF m 0 #[.val (.long (28 : Int64)), .second] [])) t → Steps p.tables e below (s₁.setTop (entryFrame m #[(.long (28 : Int64))] 2)) t := fun t k => castTop (ef_1_29 m) k
  obtain ⟨T1, X1, e1, st1⟩ := getS2 X0 hx hZ hown (host := "") (Or.inl (wk4 hw)) Via.refl e0 ((wd0 hW).ext O0.2) (g := (mkF m 7 #[.val (.long (28 : Int64)), .second] [(.long (28 : Int64))])) rfl (hb hby d1_7)
  obtain ⟨cl2, Ar2, q2, S2, Nn2, Hs2, G2⟩ := ((wd39 hW).ext O0.2)
  obtain ⟨T3, X3, e3, st3⟩ := getS2 X1 hx hZ hown (host := "") (Or.inl (wk4 hw)) Via.refl e1 ((wd0 hW).ext O0.2) (g := (mkF m 16 #[.val (.long (28 : Int64)), .second] [])) rfl (hb hby d1_16)
  obtain ⟨cl4, Ar4, q4, S4, Nn4, Hs4, G4⟩ := ((wd39 hW).ext O0.2)
  have hin4 : ¬ ((28 : Int32) < 0 ∨ cl4.slots.size ≤ ((28 : Int32)).toNatClampNeg) := inb_of S4 ⟨by decide, by decide⟩
  obtain ⟨fs, hr, hrun, hended, hWm, hsame⟩ := X3.leave (v := some .null) (fun h => by rw [Bd.returns] at h; cases h)
  refine ⟨_, _, pre0 _ ?_, hrun, hended, _, _, rfl, ?_, ⟨_, rfl⟩, hWm, hsame.mono (by decide) (by decide)⟩
  · show Steps p.tables e below (s₁.setTop (mkF m 0 #[.val (.long (28 : Int64)), .second] [])) _
    refine sL X0 hx hby d1_0 rfl ?_
    refine XS.lconst X0.here hx rfl (hb hby d1_1) ?_
    refine XS.lcmp X0.here hx rfl (hb hby d1_2) rfl ?_
    refine sN X0 hx hby d1_3 (by decide) ?_
    refine sL X0 hx hby d1_6 rfl ?_
    show Steps p.tables e below (s₁.setTop (mkF m 7 #[.val (.long (28 : Int64)), .second] [(.long (28 : Int64))])) _
    refine st1 _ ?_
    refine X1.arraylength hx (by rw [e1]; exact Ar2.1) (State.isArrayOf_alike hZ.alike Ar2.2.1) (g := (mkF m 10 #[.val (.long (28 : Int64)), .second] [(.ref (w 0)), (.long (28 : Int64))])) rfl rfl (hb hby d1_10) _ ?_
    rw [len_of S2 Nn2]
    show Steps p.tables e below (T1.setTop (mkF m 11 #[.val (.long (28 : Int64)), .second] [(.int (33 : Int32)), (.long (28 : Int64))])) _
    refine XS.i2l X1.here hx rfl (hb hby d1_11) rfl ?_
    refine XS.lcmp X1.here hx rfl (hb hby d1_12) rfl ?_
    refine sN X1 hx hby d1_13 (by decide) ?_
    refine st3 _ ?_
    refine sL X3 hx hby d1_19 rfl ?_
    refine XS.l2i X3.here hx rfl (hb hby d1_20) rfl ?_
    refine X3.aaload hx (j := (28 : Int32)) (v := .null) (by rw [e3]; exact Ar4.1) (State.isArrayOf_alike hZ.alike Ar4.2.1) rfl Ar4.2.2 hin4 (Hs4.at hin4 rfl) (g := (mkF m 21 #[.val (.long (28 : Int64)), .second] [(.int (28 : Int32)), (.ref (w 0))])) rfl rfl (hb hby d1_21) _ ?_
    refine sg (pc := 22) (pc' := 26) X3 hx hby d1_22 (by decide) (by decide) ?_
    jvm_step X3.here [X3.here.top, hx, (hb hby d1_26), X3.method', Bd.returns, Value.isRef, FieldType.isReference]
    first | (intro acts; rw [hr _ acts rfl rfl rfl]) | rw [hr _ _ rfl rfl rfl]
    exact Steps.refl _
  · show Q1_29 Z w h0 n0 _ T3.heap _
    rw [e3]
    exact ⟨rfl, N0, rfl⟩
theorem ef_1_30 (m : MethodId) : entryFrame m #[(.long (29 : Int64))] 2 = mkF m 0 #[.val (.long (29 : Int64)), .second] [] := by first | (simp [entryFrame, mkF, argsToLocals, Value.category]; done) | rfl
def Q1_30 (Z : State) (w : Nat → Addr) (h0 : Heap) (n0 : Nat) (v : Option Value) (h : Heap) (L : List Loc) : Prop := v = some .null ∧ Fr n0 L ∧ h = h0
set_option maxRecDepth 65536 in
set_option maxHeartbeats 40000000 in
theorem rm1_30 (l : Launch) (Z : State) (a0 : Array Value) (hw : ∀ d ∈ tables_1, d.before a0 Z = true) (w : Nat → Addr) (hW : Wd Z w) (ws : List Jvm.Cond) (h0 : Heap) (n0 : Nat) (O0 : Old Z n0 h0) :
    MetFree l ym0 (head1 (Jvm.Cond.code ym0 prog_47_method_5_code 2 (some (.object "com/example/ferrule/ferrule/io/TypeCode")) :: ws) ({ frames := 0, cells := 0, slots := 0, locals := 0 } : Room)) (fun a U => a = #[(.long (29 : Int64))] ∧ Z.Warmed39 U.vm ∧ U.heap = h0) (fun _ _ _ _ _ => True) (fun _ U o U' => ∃ v L, o = .returned v ∧ Q1_30 Z w h0 n0 v U'.heap L ∧ FrameEnd U o U' L ({ frames := 0, cells := 0, slots := 0, locals := 0 } : Room).cells ({ frames := 0, cells := 0, slots := 0, locals := 0 } : Room).slots) := by
  refine MetFree.of_bodySF (plainFor_of_name pnc_0) hisR ?_
  intro p e s m args below meth c s₁ Bd hml0 hP hK
  obtain ⟨rfl, hZ, hh⟩ := hP
  have hx := Bd.exec
  have hby := Bd.bytes
  have hml : c.maxLocals = 2 := hml0
  have hown : s.vm.findClass "com/example/ferrule/ferrule/io/TypeCode" = some m.cls := findClass_of_methodNamed Bd.named
  have hnm := (name_of_methodNamed Bd.named Bd.method).1
  have X0 : Stand p l e ({ frames := 0, cells := 0, slots := 0, locals := 0 } : Room) s m #[(.long (29 : Int64))] below meth c s₁ [] 0 0 := Stand.of_body Bd
  have e0 : s₁.heap = h0 := by rw [← hh, Bd.state]; rfl
  have N0 := Fr.nil n0
  skip
  have pre0 : ∀ t, Steps p.tables e below (s₁.setTop (mkF m 0 #[.val (.long (29 : Int64)), .second] [])) t → Steps p.tables e below (s₁.setTop (entryFrame m #[(.long (29 : Int64))] 2)) t := fun t k => castTop (ef_1_30 m) k
  obtain ⟨T1, X1, e1, st1⟩ := getS2 X0 hx hZ hown (host := "") (Or.inl (wk4 hw)) Via.refl e0 ((wd0 hW).ext O0.2) (g := (mkF m 7 #[.val (.long (29 : Int64)), .second] [(.long (29 : Int64))])) rfl (hb hby d1_7)
  obtain ⟨cl2, Ar2, q2, S2, Nn2, Hs2, G2⟩ := ((wd39 hW).ext O0.2)
  obtain ⟨T3, X3, e3, st3⟩ := getS2 X1 hx hZ hown (host := "") (Or.inl (wk4 hw)) Via.refl e1 ((wd0 hW).ext O0.2) (g := (mkF m 16 #[.val (.long (29 : Int64)), .second] [])) rfl (hb hby d1_16)
  obtain ⟨cl4, Ar4, q4, S4, Nn4, Hs4, G4⟩ := ((wd39 hW).ext O0.2)
  have hin4 : ¬ ((29 : Int32) < 0 ∨ cl4.slots.size ≤ ((29 : Int32)).toNatClampNeg) := inb_of S4 ⟨by decide, by decide⟩
  obtain ⟨fs, hr, hrun, hended, hWm, hsame⟩ := X3.leave (v := some .null) (fun h => by rw [Bd.returns] at h; cases h)
  refine ⟨_, _, pre0 _ ?_, hrun, hended, _, _, rfl, ?_, ⟨_, rfl⟩, hWm, hsame.mono (by decide) (by decide)⟩
  · show Steps p.tables e below (s₁.setTop (mkF m 0 #[.val (.long (29 : Int64)), .second] [])) _
    refine sL X0 hx hby d1_0 rfl ?_
    refine XS.lconst X0.here hx rfl (hb hby d1_1) ?_
    refine XS.lcmp X0.here hx rfl (hb hby d1_2) rfl ?_
    refine sN X0 hx hby d1_3 (by decide) ?_
    refine sL X0 hx hby d1_6 rfl ?_
    show Steps p.tables e below (s₁.setTop (mkF m 7 #[.val (.long (29 : Int64)), .second] [(.long (29 : Int64))])) _
    refine st1 _ ?_
    refine X1.arraylength hx (by rw [e1]; exact Ar2.1) (State.isArrayOf_alike hZ.alike Ar2.2.1) (g := (mkF m 10 #[.val (.long (29 : Int64)), .second] [(.ref (w 0)), (.long (29 : Int64))])) rfl rfl (hb hby d1_10) _ ?_
    rw [len_of S2 Nn2]
    show Steps p.tables e below (T1.setTop (mkF m 11 #[.val (.long (29 : Int64)), .second] [(.int (33 : Int32)), (.long (29 : Int64))])) _
    refine XS.i2l X1.here hx rfl (hb hby d1_11) rfl ?_
    refine XS.lcmp X1.here hx rfl (hb hby d1_12) rfl ?_
    refine sN X1 hx hby d1_13 (by decide) ?_
    refine st3 _ ?_
    refine sL X3 hx hby d1_19 rfl ?_
    refine XS.l2i X3.here hx rfl (hb hby d1_20) rfl ?_
    refine X3.aaload hx (j := (29 : Int32)) (v := .null) (by rw [e3]; exact Ar4.1) (State.isArrayOf_alike hZ.alike Ar4.2.1) rfl Ar4.2.2 hin4 (Hs4.at hin4 rfl) (g := (mkF m 21 #[.val (.long (29 : Int64)), .second] [(.int (29 : Int32)), (.ref (w 0))])) rfl rfl (hb hby d1_21) _ ?_
    refine sg (pc := 22) (pc' := 26) X3 hx hby d1_22 (by decide) (by decide) ?_
    jvm_step X3.here [X3.here.top, hx, (hb hby d1_26), X3.method', Bd.returns, Value.isRef, FieldType.isReference]
    first | (intro acts; rw [hr _ acts rfl rfl rfl]) | rw [hr _ _ rfl rfl rfl]
    exact Steps.refl _
  · show Q1_30 Z w h0 n0 _ T3.heap _
    rw [e3]
    exact ⟨rfl, N0, rfl⟩
theorem ef_1_31 (m : MethodId) : entryFrame m #[(.long (30 : Int64))] 2 = mkF m 0 #[.val (.long (30 : Int64)), .second] [] := by first | (simp [entryFrame, mkF, argsToLocals, Value.category]; done) | rfl
def Q1_31 (Z : State) (w : Nat → Addr) (h0 : Heap) (n0 : Nat) (v : Option Value) (h : Heap) (L : List Loc) : Prop := v = some .null ∧ Fr n0 L ∧ h = h0
set_option maxRecDepth 65536 in
set_option maxHeartbeats 40000000 in
theorem rm1_31 (l : Launch) (Z : State) (a0 : Array Value) (hw : ∀ d ∈ tables_1, d.before a0 Z = true) (w : Nat → Addr) (hW : Wd Z w) (ws : List Jvm.Cond) (h0 : Heap) (n0 : Nat) (O0 : Old Z n0 h0) :
    MetFree l ym0 (head1 (Jvm.Cond.code ym0 prog_47_method_5_code 2 (some (.object "com/example/ferrule/ferrule/io/TypeCode")) :: ws) ({ frames := 0, cells := 0, slots := 0, locals := 0 } : Room)) (fun a U => a = #[(.long (30 : Int64))] ∧ Z.Warmed39 U.vm ∧ U.heap = h0) (fun _ _ _ _ _ => True) (fun _ U o U' => ∃ v L, o = .returned v ∧ Q1_31 Z w h0 n0 v U'.heap L ∧ FrameEnd U o U' L ({ frames := 0, cells := 0, slots := 0, locals := 0 } : Room).cells ({ frames := 0, cells := 0, slots := 0, locals := 0 } : Room).slots) := by
  refine MetFree.of_bodySF (plainFor_of_name pnc_0) hisR ?_
  intro p e s m args below meth c s₁ Bd hml0 hP hK
  obtain ⟨rfl, hZ, hh⟩ := hP
  have hx := Bd.exec
  have hby := Bd.bytes
  have hml : c.maxLocals = 2 := hml0
  have hown : s.vm.findClass "com/example/ferrule/ferrule/io/TypeCode" = some m.cls := findClass_of_methodNamed Bd.named
  have hnm := (name_of_methodNamed Bd.named Bd.method).1
  have X0 : Stand p l e ({ frames := 0, cells := 0, slots := 0, locals := 0 } : Room) s m #[(.long (30 : Int64))] below meth c s₁ [] 0 0 := Stand.of_body Bd
  have e0 : s₁.heap = h0 := by rw [← hh, Bd.state]; rfl
  have N0 := Fr.nil n0
  skip
  have pre0 : ∀ t, Steps p.tables e below (s₁.setTop (mkF m 0 #[.val (.long (30 : Int64)), .second] [])) t → Steps p.tables e below (s₁.setTop (entryFrame m #[(.long (30 : Int64))] 2)) t := fun t k => castTop (ef_1_31 m) k
  obtain ⟨T1, X1, e1, st1⟩ := getS2 X0 hx hZ hown (host := "") (Or.inl (wk4 hw)) Via.refl e0 ((wd0 hW).ext O0.2) (g := (mkF m 7 #[.val (.long (30 : Int64)), .second] [(.long (30 : Int64))])) rfl (hb hby d1_7)
  obtain ⟨cl2, Ar2, q2, S2, Nn2, Hs2, G2⟩ := ((wd39 hW).ext O0.2)
  obtain ⟨T3, X3, e3, st3⟩ := getS2 X1 hx hZ hown (host := "") (Or.inl (wk4 hw)) Via.refl e1 ((wd0 hW).ext O0.2) (g := (mkF m 16 #[.val (.long (30 : Int64)), .second] [])) rfl (hb hby d1_16)
  obtain ⟨cl4, Ar4, q4, S4, Nn4, Hs4, G4⟩ := ((wd39 hW).ext O0.2)
  have hin4 : ¬ ((30 : Int32) < 0 ∨ cl4.slots.size ≤ ((30 : Int32)).toNatClampNeg) := inb_of S4 ⟨by decide, by decide⟩
  obtain ⟨fs, hr, hrun, hended, hWm, hsame⟩ := X3.leave (v := some .null) (fun h => by rw [Bd.returns] at h; cases h)
  refine ⟨_, _, pre0 _ ?_, hrun, hended, _, _, rfl, ?_, ⟨_, rfl⟩, hWm, hsame.mono (by decide) (by decide)⟩
  · show Steps p.tables e below (s₁.setTop (mkF m 0 #[.val (.long (30 : Int64)), .second] [])) _
    refine sL X0 hx hby d1_0 rfl ?_
    refine XS.lconst X0.here hx rfl (hb hby d1_1) ?_
    refine XS.lcmp X0.here hx rfl (hb hby d1_2) rfl ?_
    refine sN X0 hx hby d1_3 (by decide) ?_
    refine sL X0 hx hby d1_6 rfl ?_
    show Steps p.tables e below (s₁.setTop (mkF m 7 #[.val (.long (30 : Int64)), .second] [(.long (30 : Int64))])) _
    refine st1 _ ?_
    refine X1.arraylength hx (by rw [e1]; exact Ar2.1) (State.isArrayOf_alike hZ.alike Ar2.2.1) (g := (mkF m 10 #[.val (.long (30 : Int64)), .second] [(.ref (w 0)), (.long (30 : Int64))])) rfl rfl (hb hby d1_10) _ ?_
    rw [len_of S2 Nn2]
    show Steps p.tables e below (T1.setTop (mkF m 11 #[.val (.long (30 : Int64)), .second] [(.int (33 : Int32)), (.long (30 : Int64))])) _
    refine XS.i2l X1.here hx rfl (hb hby d1_11) rfl ?_
    refine XS.lcmp X1.here hx rfl (hb hby d1_12) rfl ?_
    refine sN X1 hx hby d1_13 (by decide) ?_
    refine st3 _ ?_
    refine sL X3 hx hby d1_19 rfl ?_
    refine XS.l2i X3.here hx rfl (hb hby d1_20) rfl ?_
    refine X3.aaload hx (j := (30 : Int32)) (v := .null) (by rw [e3]; exact Ar4.1) (State.isArrayOf_alike hZ.alike Ar4.2.1) rfl Ar4.2.2 hin4 (Hs4.at hin4 rfl) (g := (mkF m 21 #[.val (.long (30 : Int64)), .second] [(.int (30 : Int32)), (.ref (w 0))])) rfl rfl (hb hby d1_21) _ ?_
    refine sg (pc := 22) (pc' := 26) X3 hx hby d1_22 (by decide) (by decide) ?_
    jvm_step X3.here [X3.here.top, hx, (hb hby d1_26), X3.method', Bd.returns, Value.isRef, FieldType.isReference]
    first | (intro acts; rw [hr _ acts rfl rfl rfl]) | rw [hr _ _ rfl rfl rfl]
    exact Steps.refl _
  · show Q1_31 Z w h0 n0 _ T3.heap _
    rw [e3]
    exact ⟨rfl, N0, rfl⟩
theorem ef_1_32 (m : MethodId) : entryFrame m #[(.long (31 : Int64))] 2 = mkF m 0 #[.val (.long (31 : Int64)), .second] [] := by first | (simp [entryFrame, mkF, argsToLocals, Value.category]; done) | rfl
def Q1_32 (Z : State) (w : Nat → Addr) (h0 : Heap) (n0 : Nat) (v : Option Value) (h : Heap) (L : List Loc) : Prop := v = some .null ∧ Fr n0 L ∧ h = h0
set_option maxRecDepth 65536 in
set_option maxHeartbeats 40000000 in
theorem rm1_32 (l : Launch) (Z : State) (a0 : Array Value) (hw : ∀ d ∈ tables_1, d.before a0 Z = true) (w : Nat → Addr) (hW : Wd Z w) (ws : List Jvm.Cond) (h0 : Heap) (n0 : Nat) (O0 : Old Z n0 h0) :
    MetFree l ym0 (head1 (Jvm.Cond.code ym0 prog_47_method_5_code 2 (some (.object "com/example/ferrule/ferrule/io/TypeCode")) :: ws) ({ frames := 0, cells := 0, slots := 0, locals := 0 } : Room)) (fun a U => a = #[(.long (31 : Int64))] ∧ Z.Warmed39 U.vm ∧ U.heap = h0) (fun _ _ _ _ _ => True) (fun _ U o U' => ∃ v L, o = .returned v ∧ Q1_32 Z w h0 n0 v U'.heap L ∧ FrameEnd U o U' L ({ frames := 0, cells := 0, slots := 0, locals := 0 } : Room).cells ({ frames := 0, cells := 0, slots := 0, locals := 0 } : Room).slots) := by
  refine MetFree.of_bodySF (plainFor_of_name pnc_0) hisR ?_
  intro p e s m args below meth c s₁ Bd hml0 hP hK
  obtain ⟨rfl, hZ, hh⟩ := hP
  have hx := Bd.exec
  have hby := Bd.bytes
  have hml : c.maxLocals = 2 := hml0
  have hown : s.vm.findClass "com/example/ferrule/ferrule/io/TypeCode" = some m.cls := findClass_of_methodNamed Bd.named
  have hnm := (name_of_methodNamed Bd.named Bd.method).1
  have X0 : Stand p l e ({ frames := 0, cells := 0, slots := 0, locals := 0 } : Room) s m #[(.long (31 : Int64))] below meth c s₁ [] 0 0 := Stand.of_body Bd
  have e0 : s₁.heap = h0 := by rw [← hh, Bd.state]; rfl
  have N0 := Fr.nil n0
  skip
  have pre0 : ∀ t, Steps p.tables e below (s₁.setTop (mkF m 0 #[.val (.long (31 : Int64)), .second] [])) t → Steps p.tables e below (s₁.setTop (entryFrame m #[(.long (31 : Int64))] 2)) t := fun t k => castTop (ef_1_32 m) k
  obtain ⟨T1, X1, e1, st1⟩ := getS2 X0 hx hZ hown (host := "") (Or.inl (wk4 hw)) Via.refl e0 ((wd0 hW).ext O0.2) (g := (mkF m 7 #[.val (.long (31 : Int64)), .second] [(.long (31 : Int64))])) rfl (hb hby d1_7)
  obtain ⟨cl2, Ar2, q2, S2, Nn2, Hs2, G2⟩ := ((wd39 hW).ext O0.2)
  obtain ⟨T3, X3, e3, st3⟩ := getS2 X1 hx hZ hown (host := "") (Or.inl (wk4 hw)) Via.refl e1 ((wd0 hW).ext O0.2) (g := (mkF m 16 #[.val (.long (31 : Int64)), .second] [])) rfl (hb hby d1_16)
  obtain ⟨cl4, Ar4, q4, S4, Nn4, Hs4, G4⟩ := ((wd39 hW).ext O0.2)
  have hin4 : ¬ ((31 : Int32) < 0 ∨ cl4.slots.size ≤ ((31 : Int32)).toNatClampNeg) := inb_of S4 ⟨by decide, by decide⟩
  obtain ⟨fs, hr, hrun, hended, hWm, hsame⟩ := X3.leave (v := some .null) (fun h => by rw [Bd.returns] at h; cases h)
  refine ⟨_, _, pre0 _ ?_, hrun, hended, _, _, rfl, ?_, ⟨_, rfl⟩, hWm, hsame.mono (by decide) (by decide)⟩
  · show Steps p.tables e below (s₁.setTop (mkF m 0 #[.val (.long (31 : Int64)), .second] [])) _
    refine sL X0 hx hby d1_0 rfl ?_
    refine XS.lconst X0.here hx rfl (hb hby d1_1) ?_
    refine XS.lcmp X0.here hx rfl (hb hby d1_2) rfl ?_
    refine sN X0 hx hby d1_3 (by decide) ?_
    refine sL X0 hx hby d1_6 rfl ?_
    show Steps p.tables e below (s₁.setTop (mkF m 7 #[.val (.long (31 : Int64)), .second] [(.long (31 : Int64))])) _
    refine st1 _ ?_
    refine X1.arraylength hx (by rw [e1]; exact Ar2.1) (State.isArrayOf_alike hZ.alike Ar2.2.1) (g := (mkF m 10 #[.val (.long (31 : Int64)), .second] [(.ref (w 0)), (.long (31 : Int64))])) rfl rfl (hb hby d1_10) _ ?_
    rw [len_of S2 Nn2]
    show Steps p.tables e below (T1.setTop (mkF m 11 #[.val (.long (31 : Int64)), .second] [(.int (33 : Int32)), (.long (31 : Int64))])) _
    refine XS.i2l X1.here hx rfl (hb hby d1_11) rfl ?_
    refine XS.lcmp X1.here hx rfl (hb hby d1_12) rfl ?_
    refine sN X1 hx hby d1_13 (by decide) ?_
    refine st3 _ ?_
    refine sL X3 hx hby d1_19 rfl ?_
    refine XS.l2i X3.here hx rfl (hb hby d1_20) rfl ?_
    refine X3.aaload hx (j := (31 : Int32)) (v := .null) (by rw [e3]; exact Ar4.1) (State.isArrayOf_alike hZ.alike Ar4.2.1) rfl Ar4.2.2 hin4 (Hs4.at hin4 rfl) (g := (mkF m 21 #[.val (.long (31 : Int64)), .second] [(.int (31 : Int32)), (.ref (w 0))])) rfl rfl (hb hby d1_21) _ ?_
    refine sg (pc := 22) (pc' := 26) X3 hx hby d1_22 (by decide) (by decide) ?_
    jvm_step X3.here [X3.here.top, hx, (hb hby d1_26), X3.method', Bd.returns, Value.isRef, FieldType.isReference]
    first | (intro acts; rw [hr _ acts rfl rfl rfl]) | rw [hr _ _ rfl rfl rfl]
    exact Steps.refl _
  · show Q1_32 Z w h0 n0 _ T3.heap _
    rw [e3]
    exact ⟨rfl, N0, rfl⟩
theorem ef_1_33 (m : MethodId) : entryFrame m #[(.long (32 : Int64))] 2 = mkF m 0 #[.val (.long (32 : Int64)), .second] [] := by first | (simp [entryFrame, mkF, argsToLocals, Value.category]; done) | rfl
def Q1_33 (Z : State) (w : Nat → Addr) (h0 : Heap) (n0 : Nat) (v : Option Value) (h : Heap) (L : List Loc) : Prop := v = some (.ref (w 12)) ∧ Fr n0 L ∧ h = h0
set_option maxRecDepth 65536 in
set_option maxHeartbeats 40000000 in
theorem rm1_33 (l : Launch) (Z : State) (a0 : Array Value) (hw : ∀ d ∈ tables_1, d.before a0 Z = true) (w : Nat → Addr) (hW : Wd Z w) (ws : List Jvm.Cond) (h0 : Heap) (n0 : Nat) (O0 : Old Z n0 h0) :
    MetFree l ym0 (head1 (Jvm.Cond.code ym0 prog_47_method_5_code 2 (some (.object "com/example/ferrule/ferrule/io/TypeCode")) :: ws) ({ frames := 0, cells := 0, slots := 0, locals := 0 } : Room)) (fun a U => a = #[(.long (32 : Int64))] ∧ Z.Warmed39 U.vm ∧ U.heap = h0) (fun _ _ _ _ _ => True) (fun _ U o U' => ∃ v L, o = .returned v ∧ Q1_33 Z w h0 n0 v U'.heap L ∧ FrameEnd U o U' L ({ frames := 0, cells := 0, slots := 0, locals := 0 } : Room).cells ({ frames := 0, cells := 0, slots := 0, locals := 0 } : Room).slots) := by
  refine MetFree.of_bodySF (plainFor_of_name pnc_0) hisR ?_
  intro p e s m args below meth c s₁ Bd hml0 hP hK
  obtain ⟨rfl, hZ, hh⟩ := hP
  have hx := Bd.exec
  have hby := Bd.bytes
  have hml : c.maxLocals = 2 := hml0
  have hown : s.vm.findClass "com/example/ferrule/ferrule/io/TypeCode" = some m.cls := findClass_of_methodNamed Bd.named
  have hnm := (name_of_methodNamed Bd.named Bd.method).1
  have X0 : Stand p l e ({ frames := 0, cells := 0, slots := 0, locals := 0 } : Room) s m #[(.long (32 : Int64))] below meth c s₁ [] 0 0 := Stand.of_body Bd
  have e0 : s₁.heap = h0 := by rw [← hh, Bd.state]; rfl
  have N0 := Fr.nil n0
  skip
  have pre0 : ∀ t, Steps p.tables e below (s₁.setTop (mkF m 0 #[.val (.long (32 : Int64)), .second] [])) t → Steps p.tables e below (s₁.setTop (entryFrame m #[(.long (32 : Int64))] 2)) t := fun t k => castTop (ef_1_33 m) k
  obtain ⟨T1, X1, e1, st1⟩ := getS2 X0 hx hZ hown (host := "") (Or.inl (wk4 hw)) Via.refl e0 ((wd0 hW).ext O0.2) (g := (mkF m 7 #[.val (.long (32 : Int64)), .second] [(.long (32 : Int64))])) rfl (hb hby d1_7)
  obtain ⟨cl2, Ar2, q2, S2, Nn2, Hs2, G2⟩ := ((wd39 hW).ext O0.2)
  obtain ⟨T3, X3, e3, st3⟩ := getS2 X1 hx hZ hown (host := "") (Or.inl (wk4 hw)) Via.refl e1 ((wd0 hW).ext O0.2) (g := (mkF m 16 #[.val (.long (32 : Int64)), .second] [])) rfl (hb hby d1_16)
  obtain ⟨cl4, Ar4, q4, S4, Nn4, Hs4, G4⟩ := ((wd39 hW).ext O0.2)
  have hin4 : ¬ ((32 : Int32) < 0 ∨ cl4.slots.size ≤ ((32 : Int32)).toNatClampNeg) := inb_of S4 ⟨by decide, by decide⟩
  obtain ⟨fs, hr, hrun, hended, hWm, hsame⟩ := X3.leave (v := some (.ref (w 12))) (fun h => by rw [Bd.returns] at h; cases h)
  refine ⟨_, _, pre0 _ ?_, hrun, hended, _, _, rfl, ?_, ⟨_, rfl⟩, hWm, hsame.mono (by decide) (by decide)⟩
  · show Steps p.tables e below (s₁.setTop (mkF m 0 #[.val (.long (32 : Int64)), .second] [])) _
    refine sL X0 hx hby d1_0 rfl ?_
    refine XS.lconst X0.here hx rfl (hb hby d1_1) ?_
    refine XS.lcmp X0.here hx rfl (hb hby d1_2) rfl ?_
    refine sN X0 hx hby d1_3 (by decide) ?_
    refine sL X0 hx hby d1_6 rfl ?_
    show Steps p.tables e below (s₁.setTop (mkF m 7 #[.val (.long (32 : Int64)), .second] [(.long (32 : Int64))])) _
    refine st1 _ ?_
    refine X1.arraylength hx (by rw [e1]; exact Ar2.1) (State.isArrayOf_alike hZ.alike Ar2.2.1) (g := (mkF m 10 #[.val (.long (32 : Int64)), .second] [(.ref (w 0)), (.long (32 : Int64))])) rfl rfl (hb hby d1_10) _ ?_
    rw [len_of S2 Nn2]
    show Steps p.tables e below (T1.setTop (mkF m 11 #[.val (.long (32 : Int64)), .second] [(.int (33 : Int32)), (.long (32 : Int64))])) _
    refine XS.i2l X1.here hx rfl (hb hby d1_11) rfl ?_
    refine XS.lcmp X1.here hx rfl (hb hby d1_12) rfl ?_
    refine sN X1 hx hby d1_13 (by decide) ?_
    refine st3 _ ?_
    refine sL X3 hx hby d1_19 rfl ?_
    refine XS.l2i X3.here hx rfl (hb hby d1_20) rfl ?_
    refine X3.aaload hx (j := (32 : Int32)) (v := (.ref (w 12))) (by rw [e3]; exact Ar4.1) (State.isArrayOf_alike hZ.alike Ar4.2.1) rfl Ar4.2.2 hin4 (Hs4.at hin4 rfl) (g := (mkF m 21 #[.val (.long (32 : Int64)), .second] [(.int (32 : Int32)), (.ref (w 0))])) rfl rfl (hb hby d1_21) _ ?_
    refine sg (pc := 22) (pc' := 26) X3 hx hby d1_22 (by decide) (by decide) ?_
    jvm_step X3.here [X3.here.top, hx, (hb hby d1_26), X3.method', Bd.returns, Value.isRef, FieldType.isReference]
    first | (intro acts; rw [hr _ acts rfl rfl rfl]) | rw [hr _ _ rfl rfl rfl]
    exact Steps.refl _
  · show Q1_33 Z w h0 n0 _ T3.heap _
    rw [e3]
    exact ⟨rfl, N0, rfl⟩
theorem d1_25 : decode prog_47_method_5_code 25 = .ok (.aconst_null, 1) := by decide +kernel
theorem ef_1_34 (m : MethodId) (q1 : Int64) : entryFrame m #[(.long q1)] 2 = mkF m 0 #[.val (.long q1), .second] [] := by first | (simp [entryFrame, mkF, argsToLocals, Value.category]; done) | rfl
def Q1_34 (Z : State) (w : Nat → Addr) (q1 : Int64) (h0 : Heap) (n0 : Nat) (v : Option Value) (h : Heap) (L : List Loc) : Prop := v = some .null ∧ Fr n0 L ∧ h = h0
set_option maxRecDepth 65536 in
set_option maxHeartbeats 40000000 in
theorem rm1_34 (l : Launch) (Z : State) (a0 : Array Value) (hw : ∀ d ∈ tables_1, d.before a0 Z = true) (w : Nat → Addr) (hW : Wd Z w) (ws : List Jvm.Cond) (q1 : Int64) (h0 : Heap) (n0 : Nat) (O0 : Old Z n0 h0) (c1 : q1 < (0 : Int64)) :
    MetFree l ym0 (head1 (Jvm.Cond.code ym0 prog_47_method_5_code 2 (some (.object "com/example/ferrule/ferrule/io/TypeCode")) :: ws) ({ frames := 0, cells := 0, slots := 0, locals := 0 } : Room)) (fun a U => a = #[(.long q1)] ∧ Z.Warmed39 U.vm ∧ U.heap = h0) (fun _ _ _ _ _ => True) (fun _ U o U' => ∃ v L, o = .returned v ∧ Q1_34 Z w q1 h0 n0 v U'.heap L ∧ FrameEnd U o U' L ({ frames := 0, cells := 0, slots := 0, locals := 0 } : Room).cells ({ frames := 0, cells := 0, slots := 0, locals := 0 } : Room).slots) := by
  refine MetFree.of_bodySF (plainFor_of_name pnc_0) hisR ?_
  intro p e s m args below meth c s₁ Bd hml0 hP hK
  obtain ⟨rfl, hZ, hh⟩ := hP
  have hx := Bd.exec
  have hby := Bd.bytes
  have hml : c.maxLocals = 2 := hml0
  have hown : s.vm.findClass "com/example/ferrule/ferrule/io/TypeCode" = some m.cls := findClass_of_methodNamed Bd.named
  have hnm := (name_of_methodNamed Bd.named Bd.method).1
  have X0 : Stand p l e ({ frames := 0, cells := 0, slots := 0, locals := 0 } : Room) s m #[(.long q1)] below meth c s₁ [] 0 0 := Stand.of_body Bd
  have e0 : s₁.heap = h0 := by rw [← hh, Bd.state]; rfl
  have N0 := Fr.nil n0
  skip
  have pre0 : ∀ t, Steps p.tables e below (s₁.setTop (mkF m 0 #[.val (.long q1), .second] [])) t → Steps p.tables e below (s₁.setTop (entryFrame m #[(.long q1)] 2)) t := fun t k => castTop (ef_1_34 m q1) k
  obtain ⟨fs, hr, hrun, hended, hWm, hsame⟩ := X0.leave (v := some .null) (fun h => by rw [Bd.returns] at h; cases h)
  refine ⟨_, _, pre0 _ ?_, hrun, hended, _, _, rfl, ?_, ⟨_, rfl⟩, hWm, hsame.mono (by decide) (by decide)⟩
  · show Steps p.tables e below (s₁.setTop (mkF m 0 #[.val (.long q1), .second] [])) _
    refine sL X0 hx hby d1_0 rfl ?_
    refine XS.lconst X0.here hx rfl (hb hby d1_1) ?_
    refine XS.lcmp X0.here hx rfl (hb hby d1_2) rfl ?_
    refine XS.ifYes X0.here hx rfl (pc0 := 3) (pc' := 25) rfl (hb hby d1_3) rfl ((if0 _ _).trans (tlt (((lw_lt _ _).mpr c1) : (lcmpW q1 (0 : Int64)) < (0 : Int32))).1) (by decide) (by decide) ?_
    refine XS.aconstNull X0.here hx rfl (hb hby d1_25) ?_
    show Steps p.tables e below (s₁.setTop (mkF m 26 #[.val (.long q1), .second] [.null])) _
    jvm_step X0.here [X0.here.top, hx, (hb hby d1_26), X0.method', Bd.returns, Value.isRef, FieldType.isReference]
    first | (intro acts; rw [hr _ acts rfl rfl rfl]) | rw [hr _ _ rfl rfl rfl]
    exact Steps.refl _
  · show Q1_34 Z w q1 h0 n0 _ s₁.heap _
    rw [e0]
    exact ⟨rfl, N0, rfl⟩
theorem ef_1_35 (m : MethodId) (q1 : Int64) : entryFrame m #[(.long q1)] 2 = mkF m 0 #[.val (.long q1), .second] [] := by first | (simp [entryFrame, mkF, argsToLocals, Value.category]; done) | rfl
def Q1_35 (Z : State) (w : Nat → Addr) (q1 : Int64) (h0 : Heap) (n0 : Nat) (v : Option Value) (h : Heap) (L : List Loc) : Prop := v = some .null ∧ Fr n0 L ∧ h = h0
set_option maxRecDepth 65536 in
set_option maxHeartbeats 40000000 in
theorem rm1_35 (l : Launch) (Z : State) (a0 : Array Value) (hw : ∀ d ∈ tables_1, d.before a0 Z = true) (w : Nat → Addr) (hW : Wd Z w) (ws : List Jvm.Cond) (q1 : Int64) (h0 : Heap) (n0 : Nat) (O0 : Old Z n0 h0) (c1 : ¬ (q1 < (0 : Int64))) (c2 : ¬ (q1 < (33 : Int64))) :
    MetFree l ym0 (head1 (Jvm.Cond.code ym0 prog_47_method_5_code 2 (some (.object "com/example/ferrule/ferrule/io/TypeCode")) :: ws) ({ frames := 0, cells := 0, slots := 0, locals := 0 } : Room)) (fun a U => a = #[(.long q1)] ∧ Z.Warmed39 U.vm ∧ U.heap = h0) (fun _ _ _ _ _ => True) (fun _ U o U' => ∃ v L, o = .returned v ∧ Q1_35 Z w q1 h0 n0 v U'.heap L ∧ FrameEnd U o U' L ({ frames := 0, cells := 0, slots := 0, locals := 0 } : Room).cells ({ frames := 0, cells := 0, slots := 0, locals := 0 } : Room).slots) := by
  refine MetFree.of_bodySF (plainFor_of_name pnc_0) hisR ?_
  intro p e s m args below meth c s₁ Bd hml0 hP hK
  obtain ⟨rfl, hZ, hh⟩ := hP
  have hx := Bd.exec
  have hby := Bd.bytes
  have hml : c.maxLocals = 2 := hml0
  have hown : s.vm.findClass "com/example/ferrule/ferrule/io/TypeCode" = some m.cls := findClass_of_methodNamed Bd.named
  have hnm := (name_of_methodNamed Bd.named Bd.method).1
  have X0 : Stand p l e ({ frames := 0, cells := 0, slots := 0, locals := 0 } : Room) s m #[(.long q1)] below meth c s₁ [] 0 0 := Stand.of_body Bd
  have e0 : s₁.heap = h0 := by rw [← hh, Bd.state]; rfl
  have N0 := Fr.nil n0
  skip
  have pre0 : ∀ t, Steps p.tables e below (s₁.setTop (mkF m 0 #[.val (.long q1), .second] [])) t → Steps p.tables e below (s₁.setTop (entryFrame m #[(.long q1)] 2)) t := fun t k => castTop (ef_1_35 m q1) k
  obtain ⟨T1, X1, e1, st1⟩ := getS2 X0 hx hZ hown (host := "") (Or.inl (wk4 hw)) Via.refl e0 ((wd0 hW).ext O0.2) (g := (mkF m 7 #[.val (.long q1), .second] [(.long q1)])) rfl (hb hby d1_7)
  obtain ⟨cl2, Ar2, q2, S2, Nn2, Hs2, G2⟩ := ((wd39 hW).ext O0.2)
  obtain ⟨fs, hr, hrun, hended, hWm, hsame⟩ := X1.leave (v := some .null) (fun h => by rw [Bd.returns] at h; cases h)
  refine ⟨_, _, pre0 _ ?_, hrun, hended, _, _, rfl, ?_, ⟨_, rfl⟩, hWm, hsame.mono (by decide) (by decide)⟩
  · show Steps p.tables e below (s₁.setTop (mkF m 0 #[.val (.long q1), .second] [])) _
    refine sL X0 hx hby d1_0 rfl ?_
    refine XS.lconst X0.here hx rfl (hb hby d1_1) ?_
    refine XS.lcmp X0.here hx rfl (hb hby d1_2) rfl ?_
    refine sN X0 hx hby d1_3 ((if0 _ _).trans (flt ((fun q => c1 ((lw_lt _ _).mp q)) : ¬ ((lcmpW q1 (0 : Int64)) < (0 : Int32)))).1) ?_
    refine sL X0 hx hby d1_6 rfl ?_
    show Steps p.tables e below (s₁.setTop (mkF m 7 #[.val (.long q1), .second] [(.long q1)])) _
    refine st1 _ ?_
    refine X1.arraylength hx (by rw [e1]; exact Ar2.1) (State.isArrayOf_alike hZ.alike Ar2.2.1) (g := (mkF m 10 #[.val (.long q1), .second] [(.ref (w 0)), (.long q1)])) rfl rfl (hb hby d1_10) _ ?_
    rw [len_of S2 Nn2]
    show Steps p.tables e below (T1.setTop (mkF m 11 #[.val (.long q1), .second] [(.int (33 : Int32)), (.long q1)])) _
    refine XS.i2l X1.here hx rfl (hb hby d1_11) rfl ?_
    refine XS.lcmp X1.here hx rfl (hb hby d1_12) rfl ?_
    refine XS.ifYes X1.here hx rfl (pc0 := 13) (pc' := 25) rfl (hb hby d1_13) rfl ((if0 _ _).trans (flt ((fun q => c2 ((lw_lt _ _).mp q)) : ¬ ((lcmpW q1 (33 : Int64)) < (0 : Int32)))).2.1) (by decide) (by decide) ?_
    refine XS.aconstNull X1.here hx rfl (hb hby d1_25) ?_
    jvm_step X1.here [X1.here.top, hx, (hb hby d1_26), X1.method', Bd.returns, Value.isRef, FieldType.isReference]
    first | (intro acts; rw [hr _ acts rfl rfl rfl]) | rw [hr _ _ rfl rfl rfl]
    exact Steps.refl _
  · show Q1_35 Z w q1 h0 n0 _ T1.heap _
    rw [e1]
    exact ⟨rfl, N0, rfl⟩
def Qx1 (Z : State) (w : Nat → Addr) (q1 : Int64) (h0 : Heap) (n0 : Nat) (v : Option Value) (h : Heap) (L : List Loc) : Prop := v = some (ownE w q1) ∧ Fr n0 L ∧ h = h0
set_option maxRecDepth 65536 in
set_option maxHeartbeats 40000000 in
theorem rmx1 (l : Launch) (Z : State) (a0 : Array Value) (hw : ∀ d ∈ tables_1, d.before a0 Z = true) (w : Nat → Addr) (hW : Wd Z w) (ws : List Jvm.Cond) (q1 : Int64) (h0 : Heap) (n0 : Nat) (O0 : Old Z n0 h0) :
    MetFree l ym0 (head1 (Jvm.Cond.code ym0 prog_47_method_5_code 2 (some (.object "com/example/ferrule/ferrule/io/TypeCode")) :: ws) ({ frames := 0, cells := 0, slots := 0, locals := 0 } : Room)) (fun a U => a = #[(.long q1)] ∧ Z.Warmed39 U.vm ∧ U.heap = h0) (fun _ _ _ _ _ => True) (fun _ U o U' => ∃ v L, o = .returned v ∧ Qx1 Z w q1 h0 n0 v U'.heap L ∧ FrameEnd U o U' L ({ frames := 0, cells := 0, slots := 0, locals := 0 } : Room).cells ({ frames := 0, cells := 0, slots := 0, locals := 0 } : Room).slots) := by
  rcases own_cases q1 with rfl | rfl | rfl | rfl | rfl | rfl | rfl | rfl | rfl | rfl | rfl | rfl | rfl | rfl | rfl | rfl | rfl | rfl | rfl | rfl | rfl | rfl | rfl | rfl | rfl | rfl | rfl | rfl | rfl | rfl | rfl | rfl | rfl | hh | hh
  · exact rm1_1 l Z a0 hw w hW ws h0 n0 O0 
  · exact rm1_2 l Z a0 hw w hW ws h0 n0 O0 
  · exact rm1_3 l Z a0 hw w hW ws h0 n0 O0 
  · exact rm1_4 l Z a0 hw w hW ws h0 n0 O0 
  · exact rm1_5 l Z a0 hw w hW ws h0 n0 O0 
  · exact rm1_6 l Z a0 hw w hW ws h0 n0 O0 
  · exact rm1_7 l Z a0 hw w hW ws h0 n0 O0 
  · exact rm1_8 l Z a0 hw w hW ws h0 n0 O0 
  · exact rm1_9 l Z a0 hw w hW ws h0 n0 O0 
  · exact rm1_10 l Z a0 hw w hW ws h0 n0 O0 
  · exact rm1_11 l Z a0 hw w hW ws h0 n0 O0 
  · exact rm1_12 l Z a0 hw w hW ws h0 n0 O0 
  · exact rm1_13 l Z a0 hw w hW ws h0 n0 O0 
  · exact rm1_14 l Z a0 hw w hW ws h0 n0 O0 
  · exact rm1_15 l Z a0 hw w hW ws h0 n0 O0 
  · exact rm1_16 l Z a0 hw w hW ws h0 n0 O0 
  · exact rm1_17 l Z a0 hw w hW ws h0 n0 O0 
  · exact rm1_18 l Z a0 hw w hW ws h0 n0 O0 
  · exact rm1_19 l Z a0 hw w hW ws h0 n0 O0 
  · exact rm1_20 l Z a0 hw w hW ws h0 n0 O0 
  · exact rm1_21 l Z a0 hw w hW ws h0 n0 O0 
  · exact rm1_22 l Z a0 hw w hW ws h0 n0 O0 
  · exact rm1_23 l Z a0 hw w hW ws h0 n0 O0 
  · exact rm1_24 l Z a0 hw w hW ws h0 n0 O0 
  · exact rm1_25 l Z a0 hw w hW ws h0 n0 O0 
  · exact rm1_26 l Z a0 hw w hW ws h0 n0 O0 
  · exact rm1_27 l Z a0 hw w hW ws h0 n0 O0 
  · exact rm1_28 l Z a0 hw w hW ws h0 n0 O0 
  · exact rm1_29 l Z a0 hw w hW ws h0 n0 O0 
  · exact rm1_30 l Z a0 hw w hW ws h0 n0 O0 
  · exact rm1_31 l Z a0 hw w hW ws h0 n0 O0 
  · exact rm1_32 l Z a0 hw w hW ws h0 n0 O0 
  · exact rm1_33 l Z a0 hw w hW ws h0 n0 O0 
  · unfold Qx1
    rw [ownE_lo w hh]
    exact rm1_34 l Z a0 hw w hW ws q1 h0 n0 O0 hh
  · unfold Qx1
    rw [ownE_hi w hh]
    exact rm1_35 l Z a0 hw w hW ws q1 h0 n0 O0 (own_g1 hh) (own_g2 hh)
theorem pds_0 : parseMethodDescriptor "(J)Lcom/example/ferrule/ferrule/io/TypeCode;" = some ⟨[.long], some (.object "com/example/ferrule/ferrule/io/TypeCode")⟩ := by decide +kernel
theorem d2_0 : decode method_2_code 0 = .ok (.lload_n 0, 1) := by decide +kernel
theorem d2_1 : decode method_2_code 1 = .ok (.lconst 1, 1) := by decide +kernel
theorem d2_2 : decode method_2_code 2 = .ok (.lcmp, 1) := by decide +kernel
theorem d2_3 : decode method_2_code 3 = .ok (.ifCond .ne 7, 3) := by decide +kernel
theorem d2_10 : decode method_2_code 10 = .ok (.lload_n 0, 1) := by decide +kernel
theorem d2_11 : decode method_2_code 11 = .ok (.ldc2_w 13, 3) := by decide +kernel
theorem d2_14 : decode method_2_code 14 = .ok (.lcmp, 1) := by decide +kernel
theorem d2_15 : decode method_2_code 15 = .ok (.ifCond .ne 7, 3) := by decide +kernel
theorem d2_22 : decode method_2_code 22 = .ok (.lload_n 0, 1) := by decide +kernel
theorem d2_23 : decode method_2_code 23 = .ok (.ldc2_w 18, 3) := by decide +kernel
theorem d2_26 : decode method_2_code 26 = .ok (.lcmp, 1) := by decide +kernel
theorem d2_27 : decode method_2_code 27 = .ok (.ifCond .ne 7, 3) := by decide +kernel
theorem d2_34 : decode method_2_code 34 = .ok (.lload_n 0, 1) := by decide +kernel
theorem d2_35 : decode method_2_code 35 = .ok (.ldc2_w 23, 3) := by decide +kernel
theorem d2_38 : decode method_2_code 38 = .ok (.lcmp, 1) := by decide +kernel
theorem d2_39 : decode method_2_code 39 = .ok (.ifCond .ne 7, 3) := by decide +kernel
theorem d2_46 : decode method_2_code 46 = .ok (.lload_n 0, 1) := by decide +kernel
theorem d2_47 : decode method_2_code 47 = .ok (.ldc2_w 28, 3) := by decide +kernel
theorem d2_50 : decode method_2_code 50 = .ok (.lcmp, 1) := by decide +kernel
theorem d2_51 : decode method_2_code 51 = .ok (.ifCond .ne 7, 3) := by decide +kernel
theorem d2_58 : decode method_2_code 58 = .ok (.lload_n 0, 1) := by decide +kernel
theorem d2_59 : decode method_2_code 59 = .ok (.ldc2_w 33, 3) := by decide +kernel
theorem d2_62 : decode method_2_code 62 = .ok (.lcmp, 1) := by decide +kernel
theorem d2_63 : decode method_2_code 63 = .ok (.ifCond .ne 7, 3) := by decide +kernel
theorem d2_70 : decode method_2_code 70 = .ok (.lload_n 0, 1) := by decide +kernel
theorem d2_71 : decode method_2_code 71 = .ok (.ldc2_w 38, 3) := by decide +kernel
theorem d2_74 : decode method_2_code 74 = .ok (.lcmp, 1) := by decide +kernel
theorem d2_75 : decode method_2_code 75 = .ok (.ifCond .ne 7, 3) := by decide +kernel
theorem d2_82 : decode method_2_code 82 = .ok (.lload_n 0, 1) := by decide +kernel
theorem d2_83 : decode method_2_code 83 = .ok (.ldc2_w 43, 3) := by decide +kernel
theorem d2_86 : decode method_2_code 86 = .ok (.lcmp, 1) := by decide +kernel
theorem d2_87 : decode method_2_code 87 = .ok (.ifCond .ne 7, 3) := by decide +kernel
theorem d2_94 : decode method_2_code 94 = .ok (.lload_n 0, 1) := by decide +kernel
theorem d2_95 : decode method_2_code 95 = .ok (.ldc2_w 48, 3) := by decide +kernel
theorem d2_98 : decode method_2_code 98 = .ok (.lcmp, 1) := by decide +kernel
theorem d2_99 : decode method_2_code 99 = .ok (.ifCond .ne 7, 3) := by decide +kernel
theorem d2_106 : decode method_2_code 106 = .ok (.lload_n 0, 1) := by decide +kernel
theorem d2_107 : decode method_2_code 107 = .ok (.ldc2_w 53, 3) := by decide +kernel
theorem d2_110 : decode method_2_code 110 = .ok (.lcmp, 1) := by decide +kernel
theorem d2_111 : decode method_2_code 111 = .ok (.ifCond .ne 7, 3) := by decide +kernel
theorem d2_118 : decode method_2_code 118 = .ok (.lload_n 0, 1) := by decide +kernel
theorem d2_119 : decode method_2_code 119 = .ok (.ldc2_w 58, 3) := by decide +kernel
theorem d2_122 : decode method_2_code 122 = .ok (.lcmp, 1) := by decide +kernel
theorem d2_123 : decode method_2_code 123 = .ok (.ifCond .ne 7, 3) := by decide +kernel
theorem d2_130 : decode method_2_code 130 = .ok (.lload_n 0, 1) := by decide +kernel
theorem d2_131 : decode method_2_code 131 = .ok (.ldc2_w 63, 3) := by decide +kernel
theorem d2_134 : decode method_2_code 134 = .ok (.lcmp, 1) := by decide +kernel
theorem d2_135 : decode method_2_code 135 = .ok (.ifCond .ne 7, 3) := by decide +kernel
theorem d2_142 : decode method_2_code 142 = .ok (.lload_n 0, 1) := by decide +kernel
theorem d2_143 : decode method_2_code 143 = .ok (.ldc2_w 68, 3) := by decide +kernel
theorem d2_146 : decode method_2_code 146 = .ok (.lcmp, 1) := by decide +kernel
theorem d2_147 : decode method_2_code 147 = .ok (.ifCond .ne 7, 3) := by decide +kernel
theorem d2_154 : decode method_2_code 154 = .ok (.lload_n 0, 1) := by decide +kernel
theorem d2_155 : decode method_2_code 155 = .ok (.ldc2_w 73, 3) := by decide +kernel
theorem d2_158 : decode method_2_code 158 = .ok (.lcmp, 1) := by decide +kernel
theorem d2_159 : decode method_2_code 159 = .ok (.ifCond .ne 7, 3) := by decide +kernel
theorem d2_166 : decode method_2_code 166 = .ok (.lload_n 0, 1) := by decide +kernel
theorem d2_167 : decode method_2_code 167 = .ok (.ldc2_w 78, 3) := by decide +kernel
theorem d2_170 : decode method_2_code 170 = .ok (.lcmp, 1) := by decide +kernel
theorem d2_171 : decode method_2_code 171 = .ok (.ifCond .ne 7, 3) := by decide +kernel
theorem d2_178 : decode method_2_code 178 = .ok (.lload_n 0, 1) := by decide +kernel
theorem d2_179 : decode method_2_code 179 = .ok (.ldc2_w 83, 3) := by decide +kernel
theorem d2_182 : decode method_2_code 182 = .ok (.lcmp, 1) := by decide +kernel
theorem d2_183 : decode method_2_code 183 = .ok (.ifCond .ne 7, 3) := by decide +kernel
theorem d2_190 : decode method_2_code 190 = .ok (.lload_n 0, 1) := by decide +kernel
theorem d2_191 : decode method_2_code 191 = .ok (.ldc2_w 88, 3) := by decide +kernel
theorem d2_194 : decode method_2_code 194 = .ok (.lcmp, 1) := by decide +kernel
theorem d2_195 : decode method_2_code 195 = .ok (.ifCond .ne 7, 3) := by decide +kernel
theorem d2_202 : decode method_2_code 202 = .ok (.lload_n 0, 1) := by decide +kernel
theorem d2_203 : decode method_2_code 203 = .ok (.ldc2_w 93, 3) := by decide +kernel
theorem d2_206 : decode method_2_code 206 = .ok (.lcmp, 1) := by decide +kernel
theorem d2_207 : decode method_2_code 207 = .ok (.ifCond .ne 7, 3) := by decide +kernel
theorem d2_214 : decode method_2_code 214 = .ok (.lload_n 0, 1) := by decide +kernel
theorem d2_215 : decode method_2_code 215 = .ok (.ldc2_w 98, 3) := by decide +kernel
theorem d2_218 : decode method_2_code 218 = .ok (.lcmp, 1) := by decide +kernel
theorem d2_219 : decode method_2_code 219 = .ok (.ifCond .ne 7, 3) := by decide +kernel
theorem d2_226 : decode method_2_code 226 = .ok (.aconst_null, 1) := by decide +kernel
theorem d2_227 : decode method_2_code 227 = .ok (.areturn, 1) := by decide +kernel
theorem ef_2_36 (m : MethodId) : entryFrame m #[(.long (0 : Int64))] 2 = mkF m 0 #[.val (.long (0 : Int64)), .second] [] := by first | (simp [entryFrame, mkF, argsToLocals, Value.category]; done) | rfl
theorem pnc_1 : plainName "com/example/ferrule/ferrule/io/TypeCodeOfPinLaw" = true := by first | (simp [plainName, overriddenIn]; done) | decide +kernel
def Q2_36 (Z : State) (w : Nat → Addr) (h0 : Heap) (n0 : Nat) (v : Option Value) (h : Heap) (L : List Loc) : Prop := v = some .null ∧ Fr n0 L ∧ h = h0
set_option maxRecDepth 65536 in
set_option maxHeartbeats 40000000 in
theorem rm2_36 (l : Launch) (Z : State) (a0 : Array Value) (hw : ∀ d ∈ tables_1, d.before a0 Z = true) (w : Nat → Addr) (hW : Wd Z w) (ws : List Jvm.Cond) (h0 : Heap) (n0 : Nat) (O0 : Old Z n0 h0) :
    MetFree l ym1 (head1 (Jvm.Cond.code ym1 method_2_code 2 (some (.object "com/example/ferrule/ferrule/io/TypeCode")) :: ws) ({ frames := 0, cells := 0, slots := 0, locals := 0 } : Room)) (fun a U => a = #[(.long (0 : Int64))] ∧ Z.Warmed39 U.vm ∧ U.heap = h0) (fun _ _ _ _ _ => True) (fun _ U o U' => ∃ v L, o = .returned v ∧ Q2_36 Z w h0 n0 v U'.heap L ∧ FrameEnd U o U' L ({ frames := 0, cells := 0, slots := 0, locals := 0 } : Room).cells ({ frames := 0, cells := 0, slots := 0, locals := 0 } : Room).slots) := by
  refine MetFree.of_bodySF (plainFor_of_name pnc_1) hisR ?_
  intro p e s m args below meth c s₁ Bd hml0 hP hK
  obtain ⟨rfl, hZ, hh⟩ := hP
  have hx := Bd.exec
  have hby := Bd.bytes
  have hml : c.maxLocals = 2 := hml0
  have hown : s.vm.findClass "com/example/ferrule/ferrule/io/TypeCodeOfPinLaw" = some m.cls := findClass_of_methodNamed Bd.named
  have hnm := (name_of_methodNamed Bd.named Bd.method).1
  have X0 : Stand p l e ({ frames := 0, cells := 0, slots := 0, locals := 0 } : Room) s m #[(.long (0 : Int64))] below meth c s₁ [] 0 0 := Stand.of_body Bd
  have e0 : s₁.heap = h0 := by rw [← hh, Bd.state]; rfl
  have N0 := Fr.nil n0
  skip
  have pre0 : ∀ t, Steps p.tables e below (s₁.setTop (mkF m 0 #[.val (.long (0 : Int64)), .second] [])) t → Steps p.tables e below (s₁.setTop (entryFrame m #[(.long (0 : Int64))] 2)) t := fun t k => castTop (ef_2_36 m) k
  obtain ⟨fs, hr, hrun, hended, hWm, hsame⟩ := X0.leave (v := some .null) (fun h => by rw [Bd.returns] at h; cases h)
  refine ⟨_, _, pre0 _ ?_, hrun, hended, _, _, rfl, ?_, ⟨_, rfl⟩, hWm, hsame.mono (by decide) (by decide)⟩
  · show Steps p.tables e below (s₁.setTop (mkF m 0 #[.val (.long (0 : Int64)), .second] [])) _
    refine sL X0 hx hby d2_0 rfl ?_
    refine XS.lconst X0.here hx rfl (hb hby d2_1) ?_
    refine XS.lcmp X0.here hx rfl (hb hby d2_2) rfl ?_
    refine XS.ifYes X0.here hx rfl (pc0 := 3) (pc' := 10) rfl (hb hby d2_3) rfl (by decide) (by decide) (by decide) ?_
    refine sL X0 hx hby d2_10 rfl ?_
    show Steps p.tables e below (s₁.setTop (mkF m 11 #[.val (.long (0 : Int64)), .second] [(.long (0 : Int64))])) _
    refine X0.ldc2Long hx hown (mvT hZ (wk11 hw)) (g := (mkF m 11 #[.val (.long (0 : Int64)), .second] [(.long (0 : Int64))])) rfl (hb hby d2_11) _ ?_
    refine XS.lcmp X0.here hx rfl (hb hby d2_14) rfl ?_
    refine XS.ifYes X0.here hx rfl (pc0 := 15) (pc' := 22) rfl (hb hby d2_15) rfl (by decide) (by decide) (by decide) ?_
    refine sL X0 hx hby d2_22 rfl ?_
    refine X0.ldc2Long hx hown (mvT hZ (wk12 hw)) (g := (mkF m 23 #[.val (.long (0 : Int64)), .second] [(.long (0 : Int64))])) rfl (hb hby d2_23) _ ?_
    show Steps p.tables e below (s₁.setTop (mkF m 26 #[.val (.long (0 : Int64)), .second] [(.long (3 : Int64)), (.long (0 : Int64))])) _
    refine XS.lcmp X0.here hx rfl (hb hby d2_26) rfl ?_
    refine XS.ifYes X0.here hx rfl (pc0 := 27) (pc' := 34) rfl (hb hby d2_27) rfl (by decide) (by decide) (by decide) ?_
    refine sL X0 hx hby d2_34 rfl ?_
    refine X0.ldc2Long hx hown (mvT hZ (wk14 hw)) (g := (mkF m 35 #[.val (.long (0 : Int64)), .second] [(.long (0 : Int64))])) rfl (hb hby d2_35) _ ?_
    refine XS.lcmp X0.here hx rfl (hb hby d2_38) rfl ?_
    show Steps p.tables e below (s₁.setTop (mkF m 39 #[.val (.long (0 : Int64)), .second] [(.int (-1 : Int32))])) _
    refine XS.ifYes X0.here hx rfl (pc0 := 39) (pc' := 46) rfl (hb hby d2_39) rfl (by decide) (by decide) (by decide) ?_
    refine sL X0 hx hby d2_46 rfl ?_
    refine X0.ldc2Long hx hown (mvT hZ (wk15 hw)) (g := (mkF m 47 #[.val (.long (0 : Int64)), .second] [(.long (0 : Int64))])) rfl (hb hby d2_47) _ ?_
    refine XS.lcmp X0.here hx rfl (hb hby d2_50) rfl ?_
    refine XS.ifYes X0.here hx rfl (pc0 := 51) (pc' := 58) rfl (hb hby d2_51) rfl (by decide) (by decide) (by decide) ?_
    show Steps p.tables e below (s₁.setTop (mkF m 58 #[.val (.long (0 : Int64)), .second] [])) _
    refine sL X0 hx hby d2_58 rfl ?_
    refine X0.ldc2Long hx hown (mvT hZ (wk16 hw)) (g := (mkF m 59 #[.val (.long (0 : Int64)), .second] [(.long (0 : Int64))])) rfl (hb hby d2_59) _ ?_
    refine XS.lcmp X0.here hx rfl (hb hby d2_62) rfl ?_
    refine XS.ifYes X0.here hx rfl (pc0 := 63) (pc' := 70) rfl (hb hby d2_63) rfl (by decide) (by decide) (by decide) ?_
    refine sL X0 hx hby d2_70 rfl ?_
    show Steps p.tables e below (s₁.setTop (mkF m 71 #[.val (.long (0 : Int64)), .second] [(.long (0 : Int64))])) _
    refine X0.ldc2Long hx hown (mvT hZ (wk17 hw)) (g := (mkF m 71 #[.val (.long (0 : Int64)), .second] [(.long (0 : Int64))])) rfl (hb hby d2_71) _ ?_
    refine XS.lcmp X0.here hx rfl (hb hby d2_74) rfl ?_
    refine XS.ifYes X0.here hx rfl (pc0 := 75) (pc' := 82) rfl (hb hby d2_75) rfl (by decide) (by decide) (by decide) ?_
    refine sL X0 hx hby d2_82 rfl ?_
    refine X0.ldc2Long hx hown (mvT hZ (wk18 hw)) (g := (mkF m 83 #[.val (.long (0 : Int64)), .second] [(.long (0 : Int64))])) rfl (hb hby d2_83) _ ?_
    show Steps p.tables e below (s₁.setTop (mkF m 86 #[.val (.long (0 : Int64)), .second] [(.long (8 : Int64)), (.long (0 : Int64))])) _
    refine XS.lcmp X0.here hx rfl (hb hby d2_86) rfl ?_
    refine XS.ifYes X0.here hx rfl (pc0 := 87) (pc' := 94) rfl (hb hby d2_87) rfl (by decide) (by decide) (by decide) ?_
    refine sL X0 hx hby d2_94 rfl ?_
    refine X0.ldc2Long hx hown (mvT hZ (wk19 hw)) (g := (mkF m 95 #[.val (.long (0 : Int64)), .second] [(.long (0 : Int64))])) rfl (hb hby d2_95) _ ?_
    refine XS.lcmp X0.here hx rfl (hb hby d2_98) rfl ?_
    show Steps p.tables e below (s₁.setTop (mkF m 99 #[.val (.long (0 : Int64)), .second] [(.int (-1 : Int32))])) _
    refine XS.ifYes X0.here hx rfl (pc0 := 99) (pc' := 106) rfl (hb hby d2_99) rfl (by decide) (by decide) (by decide) ?_
    refine sL X0 hx hby d2_106 rfl ?_
    refine X0.ldc2Long hx hown (mvT hZ (wk20 hw)) (g := (mkF m 107 #[.val (.long (0 : Int64)), .second] [(.long (0 : Int64))])) rfl (hb hby d2_107) _ ?_
    refine XS.lcmp X0.here hx rfl (hb hby d2_110) rfl ?_
    refine XS.ifYes X0.here hx rfl (pc0 := 111) (pc' := 118) rfl (hb hby d2_111) rfl (by decide) (by decide) (by decide) ?_
    show Steps p.tables e below (s₁.setTop (mkF m 118 #[.val (.long (0 : Int64)), .second] [])) _
    refine sL X0 hx hby d2_118 rfl ?_
    refine X0.ldc2Long hx hown (mvT hZ (wk21 hw)) (g := (mkF m 119 #[.val (.long (0 : Int64)), .second] [(.long (0 : Int64))])) rfl (hb hby d2_119) _ ?_
    refine XS.lcmp X0.here hx rfl (hb hby d2_122) rfl ?_
    refine XS.ifYes X0.here hx rfl (pc0 := 123) (pc' := 130) rfl (hb hby d2_123) rfl (by decide) (by decide) (by decide) ?_
    refine sL X0 hx hby d2_130 rfl ?_
    show Steps p.tables e below (s₁.setTop (mkF m 131 #[.val (.long (0 : Int64)), .second] [(.long (0 : Int64))])) _
    refine X0.ldc2Long hx hown (mvT hZ (wk22 hw)) (g := (mkF m 131 #[.val (.long (0 : Int64)), .second] [(.long (0 : Int64))])) rfl (hb hby d2_131) _ ?_
    refine XS.lcmp X0.here hx rfl (hb hby d2_134) rfl ?_
    refine XS.ifYes X0.here hx rfl (pc0 := 135) (pc' := 142) rfl (hb hby d2_135) rfl (by decide) (by decide) (by decide) ?_
    refine sL X0 hx hby d2_142 rfl ?_
    refine X0.ldc2Long hx hown (mvT hZ (wk23 hw)) (g := (mkF m 143 #[.val (.long (0 : Int64)), .second] [(.long (0 : Int64))])) rfl (hb hby d2_143) _ ?_
    show Steps p.tables e below (s₁.setTop (mkF m 146 #[.val (.long (0 : Int64)), .second] [(.long (13 : Int64)), (.long (0 : Int64))])) _
    refine XS.lcmp X0.here hx rfl (hb hby d2_146) rfl ?_
    refine XS.ifYes X0.here hx rfl (pc0 := 147) (pc' := 154) rfl (hb hby d2_147) rfl (by decide) (by decide) (by decide) ?_
    refine sL X0 hx hby d2_154 rfl ?_
    refine X0.ldc2Long hx hown (mvT hZ (wk24 hw)) (g := (mkF m 155 #[.val (.long (0 : Int64)), .second] [(.long (0 : Int64))])) rfl (hb hby d2_155) _ ?_
    refine XS.lcmp X0.here hx rfl (hb hby d2_158) rfl ?_
    show Steps p.tables e below (s₁.setTop (mkF m 159 #[.val (.long (0 : Int64)), .second] [(.int (-1 : Int32))])) _
    refine XS.ifYes X0.here hx rfl (pc0 := 159) (pc' := 166) rfl (hb hby d2_159) rfl (by decide) (by decide) (by decide) ?_
    refine sL X0 hx hby d2_166 rfl ?_
    refine X0.ldc2Long hx hown (mvT hZ (wk25 hw)) (g := (mkF m 167 #[.val (.long (0 : Int64)), .second] [(.long (0 : Int64))])) rfl (hb hby d2_167) _ ?_
    refine XS.lcmp X0.here hx rfl (hb hby d2_170) rfl ?_
    refine XS.ifYes X0.here hx rfl (pc0 := 171) (pc' := 178) rfl (hb hby d2_171) rfl (by decide) (by decide) (by decide) ?_
    show Steps p.tables e below (s₁.setTop (mkF m 178 #[.val (.long (0 : Int64)), .second] [])) _
    refine sL X0 hx hby d2_178 rfl ?_
    refine X0.ldc2Long hx hown (mvT hZ (wk26 hw)) (g := (mkF m 179 #[.val (.long (0 : Int64)), .second] [(.long (0 : Int64))])) rfl (hb hby d2_179) _ ?_
    refine XS.lcmp X0.here hx rfl (hb hby d2_182) rfl ?_
    refine XS.ifYes X0.here hx rfl (pc0 := 183) (pc' := 190) rfl (hb hby d2_183) rfl (by decide) (by decide) (by decide) ?_
    refine sL X0 hx hby d2_190 rfl ?_
    show Steps p.tables e below (s₁.setTop (mkF m 191 #[.val (.long (0 : Int64)), .second] [(.long (0 : Int64))])) _
    refine X0.ldc2Long hx hown (mvT hZ (wk27 hw)) (g := (mkF m 191 #[.val (.long (0 : Int64)), .second] [(.long (0 : Int64))])) rfl (hb hby d2_191) _ ?_
    refine XS.lcmp X0.here hx rfl (hb hby d2_194) rfl ?_
    refine XS.ifYes X0.here hx rfl (pc0 := 195) (pc' := 202) rfl (hb hby d2_195) rfl (by decide) (by decide) (by decide) ?_
    refine sL X0 hx hby d2_202 rfl ?_
    refine X0.ldc2Long hx hown (mvT hZ (wk28 hw)) (g := (mkF m 203 #[.val (.long (0 : Int64)), .second] [(.long (0 : Int64))])) rfl (hb hby d2_203) _ ?_
    show Steps p.tables e below (s₁.setTop (mkF m 206 #[.val (.long (0 : Int64)), .second] [(.long (18 : Int64)), (.long (0 : Int64))])) _
    refine XS.lcmp X0.here hx rfl (hb hby d2_206) rfl ?_
    refine XS.ifYes X0.here hx rfl (pc0 := 207) (pc' := 214) rfl (hb hby d2_207) rfl (by decide) (by decide) (by decide) ?_
    refine sL X0 hx hby d2_214 rfl ?_
    refine X0.ldc2Long hx hown (mvT hZ (wk29 hw)) (g := (mkF m 215 #[.val (.long (0 : Int64)), .second] [(.long (0 : Int64))])) rfl (hb hby d2_215) _ ?_
    refine XS.lcmp X0.here hx rfl (hb hby d2_218) rfl ?_
    show Steps p.tables e below (s₁.setTop (mkF m 219 #[.val (.long (0 : Int64)), .second] [(.int (-1 : Int32))])) _
    refine XS.ifYes X0.here hx rfl (pc0 := 219) (pc' := 226) rfl (hb hby d2_219) rfl (by decide) (by decide) (by decide) ?_
    refine XS.aconstNull X0.here hx rfl (hb hby d2_226) ?_
    jvm_step X0.here [X0.here.top, hx, (hb hby d2_227), X0.method', Bd.returns, Value.isRef, FieldType.isReference]
    first | (intro acts; rw [hr _ acts rfl rfl rfl]) | rw [hr _ _ rfl rfl rfl]
    exact Steps.refl _
  · show Q2_36 Z w h0 n0 _ s₁.heap _
    rw [e0]
    exact ⟨rfl, N0, rfl⟩
theorem d2_6 : decode method_2_code 6 = .ok (.getstatic 7, 3) := by decide +kernel
theorem d2_9 : decode method_2_code 9 = .ok (.areturn, 1) := by decide +kernel
theorem ef_2_37 (m : MethodId) : entryFrame m #[(.long (1 : Int64))] 2 = mkF m 0 #[.val (.long (1 : Int64)), .second] [] := by first | (simp [entryFrame, mkF, argsToLocals, Value.category]; done) | rfl
def Q2_37 (Z : State) (w : Nat → Addr) (h0 : Heap) (n0 : Nat) (v : Option Value) (h : Heap) (L : List Loc) : Prop := v = some (.ref (w 4)) ∧ Fr n0 L ∧ h = h0
set_option maxRecDepth 65536 in
set_option maxHeartbeats 40000000 in
theorem rm2_37 (l : Launch) (Z : State) (a0 : Array Value) (hw : ∀ d ∈ tables_1, d.before a0 Z = true) (w : Nat → Addr) (hW : Wd Z w) (ws : List Jvm.Cond) (h0 : Heap) (n0 : Nat) (O0 : Old Z n0 h0) :
    MetFree l ym1 (head1 (Jvm.Cond.code ym1 method_2_code 2 (some (.object "com/example/ferrule/ferrule/io/TypeCode")) :: ws) ({ frames := 0, cells := 0, slots := 0, locals := 0 } : Room)) (fun a U => a = #[(.long (1 : Int64))] ∧ Z.Warmed39 U.vm ∧ U.heap = h0) (fun _ _ _ _ _ => True) (fun _ U o U' => ∃ v L, o = .returned v ∧ Q2_37 Z w h0 n0 v U'.heap L ∧ FrameEnd U o U' L ({ frames := 0, cells := 0, slots := 0, locals := 0 } : Room).cells ({ frames := 0, cells := 0, slots := 0, locals := 0 } : Room).slots) := by
  refine MetFree.of_bodySF (plainFor_of_name pnc_1) hisR ?_
  intro p e s m args below meth c s₁ Bd hml0 hP hK
  obtain ⟨rfl, hZ, hh⟩ := hP
  have hx := Bd.exec
  have hby := Bd.bytes
  have hml : c.maxLocals = 2 := hml0
  have hown : s.vm.findClass "com/example/ferrule/ferrule/io/TypeCodeOfPinLaw" = some m.cls := findClass_of_methodNamed Bd.named
  have hnm := (name_of_methodNamed Bd.named Bd.method).1
  have X0 : Stand p l e ({ frames := 0, cells := 0, slots := 0, locals := 0 } : Room) s m #[(.long (1 : Int64))] below meth c s₁ [] 0 0 := Stand.of_body Bd
  have e0 : s₁.heap = h0 := by rw [← hh, Bd.state]; rfl
  have N0 := Fr.nil n0
  skip
  have pre0 : ∀ t, Steps p.tables e below (s₁.setTop (mkF m 0 #[.val (.long (1 : Int64)), .second] [])) t → Steps p.tables e below (s₁.setTop (entryFrame m #[(.long (1 : Int64))] 2)) t := fun t k => castTop (ef_2_37 m) k
  obtain ⟨T1, X1, e1, st1⟩ := getS2 X0 hx hZ hown (host := "") (Or.inl (wk35 hw)) Via.refl e0 ((wd7 hW).ext O0.2) (g := (mkF m 6 #[.val (.long (1 : Int64)), .second] [])) rfl (hb hby d2_6)
  obtain ⟨fs, hr, hrun, hended, hWm, hsame⟩ := X1.leave (v := some (.ref (w 4))) (fun h => by rw [Bd.returns] at h; cases h)
  refine ⟨_, _, pre0 _ ?_, hrun, hended, _, _, rfl, ?_, ⟨_, rfl⟩, hWm, hsame.mono (by decide) (by decide)⟩
  · show Steps p.tables e below (s₁.setTop (mkF m 0 #[.val (.long (1 : Int64)), .second] [])) _
    refine sL X0 hx hby d2_0 rfl ?_
    refine XS.lconst X0.here hx rfl (hb hby d2_1) ?_
    refine XS.lcmp X0.here hx rfl (hb hby d2_2) rfl ?_
    refine sN X0 hx hby d2_3 (by decide) ?_
    refine st1 _ ?_
    jvm_step X1.here [X1.here.top, hx, (hb hby d2_9), X1.method', Bd.returns, Value.isRef, FieldType.isReference]
    first | (intro acts; rw [hr _ acts rfl rfl rfl]) | rw [hr _ _ rfl rfl rfl]
    exact Steps.refl _
  · show Q2_37 Z w h0 n0 _ T1.heap _
    rw [e1]
    exact ⟨rfl, N0, rfl⟩
theorem d2_18 : decode method_2_code 18 = .ok (.getstatic 15, 3) := by decide +kernel
theorem d2_21 : decode method_2_code 21 = .ok (.areturn, 1) := by decide +kernel
theorem ef_2_38 (m : MethodId) : entryFrame m #[(.long (2 : Int64))] 2 = mkF m 0 #[.val (.long (2 : Int64)), .second] [] := by first | (simp [entryFrame, mkF, argsToLocals, Value.category]; done) | rfl
def Q2_38 (Z : State) (w : Nat → Addr) (h0 : Heap) (n0 : Nat) (v : Option Value) (h : Heap) (L : List Loc) : Prop := v = some (.ref (w 2)) ∧ Fr n0 L ∧ h = h0
set_option maxRecDepth 65536 in
set_option maxHeartbeats 40000000 in
theorem rm2_38 (l : Launch) (Z : State) (a0 : Array Value) (hw : ∀ d ∈ tables_1, d.before a0 Z = true) (w : Nat → Addr) (hW : Wd Z w) (ws : List Jvm.Cond) (h0 : Heap) (n0 : Nat) (O0 : Old Z n0 h0) :
    MetFree l ym1 (head1 (Jvm.Cond.code ym1 method_2_code 2 (some (.object "com/example/ferrule/ferrule/io/TypeCode")) :: ws) ({ frames := 0, cells := 0, slots := 0, locals := 0 } : Room)) (fun a U => a = #[(.long (2 : Int64))] ∧ Z.Warmed39 U.vm ∧ U.heap = h0) (fun _ _ _ _ _ => True) (fun _ U o U' => ∃ v L, o = .returned v ∧ Q2_38 Z w h0 n0 v U'.heap L ∧ FrameEnd U o U' L ({ frames := 0, cells := 0, slots := 0, locals := 0 } : Room).cells ({ frames := 0, cells := 0, slots := 0, locals := 0 } : Room).slots) := by
  refine MetFree.of_bodySF (plainFor_of_name pnc_1) hisR ?_
  intro p e s m args below meth c s₁ Bd hml0 hP hK
  obtain ⟨rfl, hZ, hh⟩ := hP
  have hx := Bd.exec
  have hby := Bd.bytes
  have hml : c.maxLocals = 2 := hml0
  have hown : s.vm.findClass "com/example/ferrule/ferrule/io/TypeCodeOfPinLaw" = some m.cls := findClass_of_methodNamed Bd.named
  have hnm := (name_of_methodNamed Bd.named Bd.method).1
  have X0 : Stand p l e ({ frames := 0, cells := 0, slots := 0, locals := 0 } : Room) s m #[(.long (2 : Int64))] below meth c s₁ [] 0 0 := Stand.of_body Bd
  have e0 : s₁.heap = h0 := by rw [← hh, Bd.state]; rfl
  have N0 := Fr.nil n0
  skip
  have pre0 : ∀ t, Steps p.tables e below (s₁.setTop (mkF m 0 #[.val (.long (2 : Int64)), .second] [])) t → Steps p.tables e below (s₁.setTop (entryFrame m #[(.long (2 : Int64))] 2)) t := fun t k => castTop (ef_2_38 m) k
  obtain ⟨T1, X1, e1, st1⟩ := getS2 X0 hx hZ hown (host := "") (Or.inl (wk31 hw)) Via.refl e0 ((wd3 hW).ext O0.2) (g := (mkF m 18 #[.val (.long (2 : Int64)), .second] [])) rfl (hb hby d2_18)
  obtain ⟨fs, hr, hrun, hended, hWm, hsame⟩ := X1.leave (v := some (.ref (w 2))) (fun h => by rw [Bd.returns] at h; cases h)
  refine ⟨_, _, pre0 _ ?_, hrun, hended, _, _, rfl, ?_, ⟨_, rfl⟩, hWm, hsame.mono (by decide) (by decide)⟩
  · show Steps p.tables e below (s₁.setTop (mkF m 0 #[.val (.long (2 : Int64)), .second] [])) _
    refine sL X0 hx hby d2_0 rfl ?_
    refine XS.lconst X0.here hx rfl (hb hby d2_1) ?_
    refine XS.lcmp X0.here hx rfl (hb hby d2_2) rfl ?_
    refine XS.ifYes X0.here hx rfl (pc0 := 3) (pc' := 10) rfl (hb hby d2_3) rfl (by decide) (by decide) (by decide) ?_
    refine sL X0 hx hby d2_10 rfl ?_
    show Steps p.tables e below (s₁.setTop (mkF m 11 #[.val (.long (2 : Int64)), .second] [(.long (2 : Int64))])) _
    refine X0.ldc2Long hx hown (mvT hZ (wk11 hw)) (g := (mkF m 11 #[.val (.long (2 : Int64)), .second] [(.long (2 : Int64))])) rfl (hb hby d2_11) _ ?_
    refine XS.lcmp X0.here hx rfl (hb hby d2_14) rfl ?_
    refine sN X0 hx hby d2_15 (by decide) ?_
    refine st1 _ ?_
    jvm_step X1.here [X1.here.top, hx, (hb hby d2_21), X1.method', Bd.returns, Value.isRef, FieldType.isReference]
    first | (intro acts; rw [hr _ acts rfl rfl rfl]) | rw [hr _ _ rfl rfl rfl]
    exact Steps.refl _
  · show Q2_38 Z w h0 n0 _ T1.heap _
    rw [e1]
    exact ⟨rfl, N0, rfl⟩
theorem d2_30 : decode method_2_code 30 = .ok (.getstatic 20, 3) := by decide +kernel
theorem d2_33 : decode method_2_code 33 = .ok (.areturn, 1) := by decide +kernel
theorem ef_2_39 (m : MethodId) : entryFrame m #[(.long (3 : Int64))] 2 = mkF m 0 #[.val (.long (3 : Int64)), .second] [] := by first | (simp [entryFrame, mkF, argsToLocals, Value.category]; done) | rfl
def Q2_39 (Z : State) (w : Nat → Addr) (h0 : Heap) (n0 : Nat) (v : Option Value) (h : Heap) (L : List Loc) : Prop := v = some (.ref (w 1)) ∧ Fr n0 L ∧ h = h0
set_option maxRecDepth 65536 in
set_option maxHeartbeats 40000000 in
theorem rm2_39 (l : Launch) (Z : State) (a0 : Array Value) (hw : ∀ d ∈ tables_1, d.before a0 Z = true) (w : Nat → Addr) (hW : Wd Z w) (ws : List Jvm.Cond) (h0 : Heap) (n0 : Nat) (O0 : Old Z n0 h0) :
    MetFree l ym1 (head1 (Jvm.Cond.code ym1 method_2_code 2 (some (.object "com/example/ferrule/ferrule/io/TypeCode")) :: ws) ({ frames := 0, cells := 0, slots := 0, locals := 0 } : Room)) (fun a U => a = #[(.long (3 : Int64))] ∧ Z.Warmed39 U.vm ∧ U.heap = h0) (fun _ _ _ _ _ => True) (fun _ U o U' => ∃ v L, o = .returned v ∧ Q2_39 Z w h0 n0 v U'.heap L ∧ FrameEnd U o U' L ({ frames := 0, cells := 0, slots := 0, locals := 0 } : Room).cells ({ frames := 0, cells := 0, slots := 0, locals := 0 } : Room).slots) := by
  refine MetFree.of_bodySF (plainFor_of_name pnc_1) hisR ?_
  intro p e s m args below meth c s₁ Bd hml0 hP hK
  obtain ⟨rfl, hZ, hh⟩ := hP
  have hx := Bd.exec
  have hby := Bd.bytes
  have hml : c.maxLocals = 2 := hml0
  have hown : s.vm.findClass "com/example/ferrule/ferrule/io/TypeCodeOfPinLaw" = some m.cls := findClass_of_methodNamed Bd.named
  have hnm := (name_of_methodNamed Bd.named Bd.method).1
  have X0 : Stand p l e ({ frames := 0, cells := 0, slots := 0, locals := 0 } : Room) s m #[(.long (3 : Int64))] below meth c s₁ [] 0 0 := Stand.of_body Bd
  have e0 : s₁.heap = h0 := by rw [← hh, Bd.state]; rfl
  have N0 := Fr.nil n0
  skip
  have pre0 : ∀ t, Steps p.tables e below (s₁.setTop (mkF m 0 #[.val (.long (3 : Int64)), .second] [])) t → Steps p.tables e below (s₁.setTop (entryFrame m #[(.long (3 : Int64))] 2)) t := fun t k => castTop (ef_2_39 m) k
  obtain ⟨T1, X1, e1, st1⟩ := getS2 X0 hx hZ hown (host := "") (Or.inl (wk13 hw)) Via.refl e0 ((wd1 hW).ext O0.2) (g := (mkF m 30 #[.val (.long (3 : Int64)), .second] [])) rfl (hb hby d2_30)
  obtain ⟨fs, hr, hrun, hended, hWm, hsame⟩ := X1.leave (v := some (.ref (w 1))) (fun h => by rw [Bd.returns] at h; cases h)
  refine ⟨_, _, pre0 _ ?_, hrun, hended, _, _, rfl, ?_, ⟨_, rfl⟩, hWm, hsame.mono (by decide) (by decide)⟩
  · show Steps p.tables e below (s₁.setTop (mkF m 0 #[.val (.long (3 : Int64)), .second] [])) _
    refine sL X0 hx hby d2_0 rfl ?_
    refine XS.lconst X0.here hx rfl (hb hby d2_1) ?_
    refine XS.lcmp X0.here hx rfl (hb hby d2_2) rfl ?_
    refine XS.ifYes X0.here hx rfl (pc0 := 3) (pc' := 10) rfl (hb hby d2_3) rfl (by decide) (by decide) (by decide) ?_
    refine sL X0 hx hby d2_10 rfl ?_
    show Steps p.tables e below (s₁.setTop (mkF m 11 #[.val (.long (3 : Int64)), .second] [(.long (3 : Int64))])) _
    refine X0.ldc2Long hx hown (mvT hZ (wk11 hw)) (g := (mkF m 11 #[.val (.long (3 : Int64)), .second] [(.long (3 : Int64))])) rfl (hb hby d2_11) _ ?_
    refine XS.lcmp X0.here hx rfl (hb hby d2_14) rfl ?_
    refine XS.ifYes X0.here hx rfl (pc0 := 15) (pc' := 22) rfl (hb hby d2_15) rfl (by decide) (by decide) (by decide) ?_
    refine sL X0 hx hby d2_22 rfl ?_
    refine X0.ldc2Long hx hown (mvT hZ (wk12 hw)) (g := (mkF m 23 #[.val (.long (3 : Int64)), .second] [(.long (3 : Int64))])) rfl (hb hby d2_23) _ ?_
    show Steps p.tables e below (s₁.setTop (mkF m 26 #[.val (.long (3 : Int64)), .second] [(.long (3 : Int64)), (.long (3 : Int64))])) _
    refine XS.lcmp X0.here hx rfl (hb hby d2_26) rfl ?_
    refine sN X0 hx hby d2_27 (by decide) ?_
    refine st1 _ ?_
    jvm_step X1.here [X1.here.top, hx, (hb hby d2_33), X1.method', Bd.returns, Value.isRef, FieldType.isReference]
    first | (intro acts; rw [hr _ acts rfl rfl rfl]) | rw [hr _ _ rfl rfl rfl]
    exact Steps.refl _
  · show Q2_39 Z w h0 n0 _ T1.heap _
    rw [e1]
    exact ⟨rfl, N0, rfl⟩
theorem d2_42 : decode method_2_code 42 = .ok (.getstatic 25, 3) := by decide +kernel
theorem d2_45 : decode method_2_code 45 = .ok (.areturn, 1) := by decide +kernel
theorem ef_2_40 (m : MethodId) : entryFrame m #[(.long (4 : Int64))] 2 = mkF m 0 #[.val (.long (4 : Int64)), .second] [] := by first | (simp [entryFrame, mkF, argsToLocals, Value.category]; done) | rfl
def Q2_40 (Z : State) (w : Nat → Addr) (h0 : Heap) (n0 : Nat) (v : Option Value) (h : Heap) (L : List Loc) : Prop := v = some (.ref (w 11)) ∧ Fr n0 L ∧ h = h0
set_option maxRecDepth 65536 in
set_option maxHeartbeats 40000000 in
theorem rm2_40 (l : Launch) (Z : State) (a0 : Array Value) (hw : ∀ d ∈ tables_1, d.before a0 Z = true) (w : Nat → Addr) (hW : Wd Z w) (ws : List Jvm.Cond) (h0 : Heap) (n0 : Nat) (O0 : Old Z n0 h0) :
    MetFree l ym1 (head1 (Jvm.Cond.code ym1 method_2_code 2 (some (.object "com/example/ferrule/ferrule/io/TypeCode")) :: ws) ({ frames := 0, cells := 0, slots := 0, locals := 0 } : Room)) (fun a U => a = #[(.long (4 : Int64))] ∧ Z.Warmed39 U.vm ∧ U.heap = h0) (fun _ _ _ _ _ => True) (fun _ U o U' => ∃ v L, o = .returned v ∧ Q2_40 Z w h0 n0 v U'.heap L ∧ FrameEnd U o U' L ({ frames := 0, cells := 0, slots := 0, locals := 0 } : Room).cells ({ frames := 0, cells := 0, slots := 0, locals := 0 } : Room).slots) := by
  refine MetFree.of_bodySF (plainFor_of_name pnc_1) hisR ?_
  intro p e s m args below meth c s₁ Bd hml0 hP hK
  obtain ⟨rfl, hZ, hh⟩ := hP
  have hx := Bd.exec
  have hby := Bd.bytes
  have hml : c.maxLocals = 2 := hml0
  have hown : s.vm.findClass "com/example/ferrule/ferrule/io/TypeCodeOfPinLaw" = some m.cls := findClass_of_methodNamed Bd.named
  have hnm := (name_of_methodNamed Bd.named Bd.method).1
  have X0 : Stand p l e ({ frames := 0, cells := 0, slots := 0, locals := 0 } : Room) s m #[(.long (4 : Int64))] below meth c s₁ [] 0 0 := Stand.of_body Bd
  have e0 : s₁.heap = h0 := by rw [← hh, Bd.state]; rfl
  have N0 := Fr.nil n0
  skip
  have pre0 : ∀ t, Steps p.tables e below (s₁.setTop (mkF m 0 #[.val (.long (4 : Int64)), .second] [])) t → Steps p.tables e below (s₁.setTop (entryFrame m #[(.long (4 : Int64))] 2)) t := fun t k => castTop (ef_2_40 m) k
  obtain ⟨T1, X1, e1, st1⟩ := getS2 X0 hx hZ hown (host := "") (Or.inl (wk49 hw)) Via.refl e0 ((wd21 hW).ext O0.2) (g := (mkF m 42 #[.val (.long (4 : Int64)), .second] [])) rfl (hb hby d2_42)
  obtain ⟨fs, hr, hrun, hended, hWm, hsame⟩ := X1.leave (v := some (.ref (w 11))) (fun h => by rw [Bd.returns] at h; cases h)
  refine ⟨_, _, pre0 _ ?_, hrun, hended, _, _, rfl, ?_, ⟨_, rfl⟩, hWm, hsame.mono (by decide) (by decide)⟩
  · show Steps p.tables e below (s₁.setTop (mkF m 0 #[.val (.long (4 : Int64)), .second] [])) _
    refine sL X0 hx hby d2_0 rfl ?_
    refine XS.lconst X0.here hx rfl (hb hby d2_1) ?_
    refine XS.lcmp X0.here hx rfl (hb hby d2_2) rfl ?_
    refine XS.ifYes X0.here hx rfl (pc0 := 3) (pc' := 10) rfl (hb hby d2_3) rfl (by decide) (by decide) (by decide) ?_
    refine sL X0 hx hby d2_10 rfl ?_
    show Steps p.tables e below (s₁.setTop (mkF m 11 #[.val (.long (4 : Int64)), .second] [(.long (4 : Int64))])) _
    refine X0.ldc2Long hx hown (mvT hZ (wk11 hw)) (g := (mkF m 11 #[.val (.long (4 : Int64)), .second] [(.long (4 : Int64))])) rfl (hb hby d2_11) _ ?_
    refine XS.lcmp X0.here hx rfl (hb hby d2_14) rfl ?_
    refine XS.ifYes X0.here hx rfl (pc0 := 15) (pc' := 22) rfl (hb hby d2_15) rfl (by decide) (by decide) (by decide) ?_
    refine sL X0 hx hby d2_22 rfl ?_
    refine X0.ldc2Long hx hown (mvT hZ (wk12 hw)) (g := (mkF m 23 #[.val (.long (4 : Int64)), .second] [(.long (4 : Int64))])) rfl (hb hby d2_23) _ ?_
    show Steps p.tables e below (s₁.setTop (mkF m 26 #[.val (.long (4 : Int64)), .second] [(.long (3 : Int64)), (.long (4 : Int64))])) _
    refine XS.lcmp X0.here hx rfl (hb hby d2_26) rfl ?_
    refine XS.ifYes X0.here hx rfl (pc0 := 27) (pc' := 34) rfl (hb hby d2_27) rfl (by decide) (by decide) (by decide) ?_
    refine sL X0 hx hby d2_34 rfl ?_
    refine X0.ldc2Long hx hown (mvT hZ (wk14 hw)) (g := (mkF m 35 #[.val (.long (4 : Int64)), .second] [(.long (4 : Int64))])) rfl (hb hby d2_35) _ ?_
    refine XS.lcmp X0.here hx rfl (hb hby d2_38) rfl ?_
    show Steps p.tables e below (s₁.setTop (mkF m 39 #[.val (.long (4 : Int64)), .second] [(.int (0 : Int32))])) _
    refine sN X0 hx hby d2_39 (by decide) ?_
    refine st1 _ ?_
    jvm_step X1.here [X1.here.top, hx, (hb hby d2_45), X1.method', Bd.returns, Value.isRef, FieldType.isReference]
    first | (intro acts; rw [hr _ acts rfl rfl rfl]) | rw [hr _ _ rfl rfl rfl]
    exact Steps.refl _
  · show Q2_40 Z w h0 n0 _ T1.heap _
    rw [e1]
    exact ⟨rfl, N0, rfl⟩
theorem d2_54 : decode method_2_code 54 = .ok (.getstatic 30, 3) := by decide +kernel
theorem d2_57 : decode method_2_code 57 = .ok (.areturn, 1) := by decide +kernel
theorem ef_2_41 (m : MethodId) : entryFrame m #[(.long (5 : Int64))] 2 = mkF m 0 #[.val (.long (5 : Int64)), .second] [] := by first | (simp [entryFrame, mkF, argsToLocals, Value.category]; done) | rfl
def Q2_41 (Z : State) (w : Nat → Addr) (h0 : Heap) (n0 : Nat) (v : Option Value) (h : Heap) (L : List Loc) : Prop := v = some (.ref (w 14)) ∧ Fr n0 L ∧ h = h0
set_option maxRecDepth 65536 in
set_option maxHeartbeats 40000000 in
theorem rm2_41 (l : Launch) (Z : State) (a0 : Array Value) (hw : ∀ d ∈ tables_1, d.before a0 Z = true) (w : Nat → Addr) (hW : Wd Z w) (ws : List Jvm.Cond) (h0 : Heap) (n0 : Nat) (O0 : Old Z n0 h0) :
    MetFree l ym1 (head1 (Jvm.Cond.code ym1 method_2_code 2 (some (.object "com/example/ferrule/ferrule/io/TypeCode")) :: ws) ({ frames := 0, cells := 0, slots := 0, locals := 0 } : Room)) (fun a U => a = #[(.long (5 : Int64))] ∧ Z.Warmed39 U.vm ∧ U.heap = h0) (fun _ _ _ _ _ => True) (fun _ U o U' => ∃ v L, o = .returned v ∧ Q2_41 Z w h0 n0 v U'.heap L ∧ FrameEnd U o U' L ({ frames := 0, cells := 0, slots := 0, locals := 0 } : Room).cells ({ frames := 0, cells := 0, slots := 0, locals := 0 } : Room).slots) := by
  refine MetFree.of_bodySF (plainFor_of_name pnc_1) hisR ?_
  intro p e s m args below meth c s₁ Bd hml0 hP hK
  obtain ⟨rfl, hZ, hh⟩ := hP
  have hx := Bd.exec
  have hby := Bd.bytes
  have hml : c.maxLocals = 2 := hml0
  have hown : s.vm.findClass "com/example/ferrule/ferrule/io/TypeCodeOfPinLaw" = some m.cls := findClass_of_methodNamed Bd.named
  have hnm := (name_of_methodNamed Bd.named Bd.method).1
  have X0 : Stand p l e ({ frames := 0, cells := 0, slots := 0, locals := 0 } : Room) s m #[(.long (5 : Int64))] below meth c s₁ [] 0 0 := Stand.of_body Bd
  have e0 : s₁.heap = h0 := by rw [← hh, Bd.state]; rfl
  have N0 := Fr.nil n0
  skip
  have pre0 : ∀ t, Steps p.tables e below (s₁.setTop (mkF m 0 #[.val (.long (5 : Int64)), .second] [])) t → Steps p.tables e below (s₁.setTop (entryFrame m #[(.long (5 : Int64))] 2)) t := fun t k => castTop (ef_2_41 m) k
  obtain ⟨T1, X1, e1, st1⟩ := getS2 X0 hx hZ hown (host := "") (Or.inl (wk55 hw)) Via.refl e0 ((wd27 hW).ext O0.2) (g := (mkF m 54 #[.val (.long (5 : Int64)), .second] [])) rfl (hb hby d2_54)
  obtain ⟨fs, hr, hrun, hended, hWm, hsame⟩ := X1.leave (v := some (.ref (w 14))) (fun h => by rw [Bd.returns] at h; cases h)
  refine ⟨_, _, pre0 _ ?_, hrun, hended, _, _, rfl, ?_, ⟨_, rfl⟩, hWm, hsame.mono (by decide) (by decide)⟩
  · show Steps p.tables e below (s₁.setTop (mkF m 0 #[.val (.long (5 : Int64)), .second] [])) _
    refine sL X0 hx hby d2_0 rfl ?_
    refine XS.lconst X0.here hx rfl (hb hby d2_1) ?_
    refine XS.lcmp X0.here hx rfl (hb hby d2_2) rfl ?_
    refine XS.ifYes X0.here hx rfl (pc0 := 3) (pc' := 10) rfl (hb hby d2_3) rfl (by decide) (by decide) (by decide) ?_
    refine sL X0 hx hby d2_10 rfl ?_
    show Steps p.tables e below (s₁.setTop (mkF m 11 #[.val (.long (5 : Int64)), .second] [(.long (5 : Int64))])) _
    refine X0.ldc2Long hx hown (mvT hZ (wk11 hw)) (g := (mkF m 11 #[.val (.long (5 : Int64)), .second] [(.long (5 : Int64))])) rfl (hb hby d2_11) _ ?_
    refine XS.lcmp X0.here hx rfl (hb hby d2_14) rfl ?_
    refine XS.ifYes X0.here hx rfl (pc0 := 15) (pc' := 22) rfl (hb hby d2_15) rfl (by decide) (by decide) (by decide) ?_
    refine sL X0 hx hby d2_22 rfl ?_
    refine X0.ldc2Long hx hown (mvT hZ (wk12 hw)) (g := (mkF m 23 #[.val (.long (5 : Int64)), .second] [(.long (5 : Int64))])) rfl (hb hby d2_23) _ ?_
    show Steps p.tables e below (s₁.setTop (mkF m 26 #[.val (.long (5 : Int64)), .second] [(.long (3 : Int64)), (.long (5 : Int64))])) _
    refine XS.lcmp X0.here hx rfl (hb hby d2_26) rfl ?_
    refine XS.ifYes X0.here hx rfl (pc0 := 27) (pc' := 34) rfl (hb hby d2_27) rfl (by decide) (by decide) (by decide) ?_
    refine sL X0 hx hby d2_34 rfl ?_
    refine X0.ldc2Long hx hown (mvT hZ (wk14 hw)) (g := (mkF m 35 #[.val (.long (5 : Int64)), .second] [(.long (5 : Int64))])) rfl (hb hby d2_35) _ ?_
    refine XS.lcmp X0.here hx rfl (hb hby d2_38) rfl ?_
    show Steps p.tables e below (s₁.setTop (mkF m 39 #[.val (.long (5 : Int64)), .second] [(.int (1 : Int32))])) _
    refine XS.ifYes X0.here hx rfl (pc0 := 39) (pc' := 46) rfl (hb hby d2_39) rfl (by decide) (by decide) (by decide) ?_
    refine sL X0 hx hby d2_46 rfl ?_
    refine X0.ldc2Long hx hown (mvT hZ (wk15 hw)) (g := (mkF m 47 #[.val (.long (5 : Int64)), .second] [(.long (5 : Int64))])) rfl (hb hby d2_47) _ ?_
    refine XS.lcmp X0.here hx rfl (hb hby d2_50) rfl ?_
    refine sN X0 hx hby d2_51 (by decide) ?_
    show Steps p.tables e below (s₁.setTop (mkF m 54 #[.val (.long (5 : Int64)), .second] [])) _
    refine st1 _ ?_
    jvm_step X1.here [X1.here.top, hx, (hb hby d2_57), X1.method', Bd.returns, Value.isRef, FieldType.isReference]
    first | (intro acts; rw [hr _ acts rfl rfl rfl]) | rw [hr _ _ rfl rfl rfl]
    exact Steps.refl _
  · show Q2_41 Z w h0 n0 _ T1.heap _
    rw [e1]
    exact ⟨rfl, N0, rfl⟩
theorem d2_66 : decode method_2_code 66 = .ok (.getstatic 35, 3) := by decide +kernel
theorem d2_69 : decode method_2_code 69 = .ok (.areturn, 1) := by decide +kernel
theorem ef_2_42 (m : MethodId) : entryFrame m #[(.long (6 : Int64))] 2 = mkF m 0 #[.val (.long (6 : Int64)), .second] [] := by first | (simp [entryFrame, mkF, argsToLocals, Value.category]; done) | rfl
def Q2_42 (Z : State) (w : Nat → Addr) (h0 : Heap) (n0 : Nat) (v : Option Value) (h : Heap) (L : List Loc) : Prop := v = some (.ref (w 15)) ∧ Fr n0 L ∧ h = h0
set_option maxRecDepth 65536 in
set_option maxHeartbeats 40000000 in
theorem rm2_42 (l : Launch) (Z : State) (a0 : Array Value) (hw : ∀ d ∈ tables_1, d.before a0 Z = true) (w : Nat → Addr) (hW : Wd Z w) (ws : List Jvm.Cond) (h0 : Heap) (n0 : Nat) (O0 : Old Z n0 h0) :
    MetFree l ym1 (head1 (Jvm.Cond.code ym1 method_2_code 2 (some (.object "com/example/ferrule/ferrule/io/TypeCode")) :: ws) ({ frames := 0, cells := 0, slots := 0, locals := 0 } : Room)) (fun a U => a = #[(.long (6 : Int64))] ∧ Z.Warmed39 U.vm ∧ U.heap = h0) (fun _ _ _ _ _ => True) (fun _ U o U' => ∃ v L, o = .returned v ∧ Q2_42 Z w h0 n0 v U'.heap L ∧ FrameEnd U o U' L ({ frames := 0, cells := 0, slots := 0, locals := 0 } : Room).cells ({ frames := 0, cells := 0, slots := 0, locals := 0 } : Room).slots) := by
  refine MetFree.of_bodySF (plainFor_of_name pnc_1) hisR ?_
  intro p e s m args below meth c s₁ Bd hml0 hP hK
  obtain ⟨rfl, hZ, hh⟩ := hP
  have hx := Bd.exec
  have hby := Bd.bytes
  have hml : c.maxLocals = 2 := hml0
  have hown : s.vm.findClass "com/example/ferrule/ferrule/io/TypeCodeOfPinLaw" = some m.cls := findClass_of_methodNamed Bd.named
  have hnm := (name_of_methodNamed Bd.named Bd.method).1
  have X0 : Stand p l e ({ frames := 0, cells := 0, slots := 0, locals := 0 } : Room) s m #[(.long (6 : Int64))] below meth c s₁ [] 0 0 := Stand.of_body Bd
  have e0 : s₁.heap = h0 := by rw [← hh, Bd.state]; rfl
  have N0 := Fr.nil n0
  skip
  have pre0 : ∀ t, Steps p.tables e below (s₁.setTop (mkF m 0 #[.val (.long (6 : Int64)), .second] [])) t → Steps p.tables e below (s₁.setTop (entryFrame m #[(.long (6 : Int64))] 2)) t := fun t k => castTop (ef_2_42 m) k
  obtain ⟨T1, X1, e1, st1⟩ := getS2 X0 hx hZ hown (host := "") (Or.inl (wk57 hw)) Via.refl e0 ((wd29 hW).ext O0.2) (g := (mkF m 66 #[.val (.long (6 : Int64)), .second] [])) rfl (hb hby d2_66)
  obtain ⟨fs, hr, hrun, hended, hWm, hsame⟩ := X1.leave (v := some (.ref (w 15))) (fun h => by rw [Bd.returns] at h; cases h)
  refine ⟨_, _, pre0 _ ?_, hrun, hended, _, _, rfl, ?_, ⟨_, rfl⟩, hWm, hsame.mono (by decide) (by decide)⟩
  · show Steps p.tables e below (s₁.setTop (mkF m 0 #[.val (.long (6 : Int64)), .second] [])) _
    refine sL X0 hx hby d2_0 rfl ?_
    refine XS.lconst X0.here hx rfl (hb hby d2_1) ?_
    refine XS.lcmp X0.here hx rfl (hb hby d2_2) rfl ?_
    refine XS.ifYes X0.here hx rfl (pc0 := 3) (pc' := 10) rfl (hb hby d2_3) rfl (by decide) (by decide) (by decide) ?_
    refine sL X0 hx hby d2_10 rfl ?_
    show Steps p.tables e below (s₁.setTop (mkF m 11 #[.val (.long (6 : Int64)), .second] [(.long (6 : Int64))])) _
    refine X0.ldc2Long hx hown (mvT hZ (wk11 hw)) (g := (mkF m 11 #[.val (.long (6 : Int64)), .second] [(.long (6 : Int64))])) rfl (hb hby d2_11) _ ?_
    refine XS.lcmp X0.here hx rfl (hb hby d2_14) rfl ?_
    refine XS.ifYes X0.here hx rfl (pc0 := 15) (pc' := 22) rfl (hb hby d2_15) rfl (by decide) (by decide) (by decide) ?_
    refine sL X0 hx hby d2_22 rfl ?_
    refine X0.ldc2Long hx hown (mvT hZ (wk12 hw)) (g := (mkF m 23 #[.val (.long (6 : Int64)), .second] [(.long (6 : Int64))])) rfl (hb hby d2_23) _ ?_
    show Steps p.tables e below (s₁.setTop (mkF m 26 #[.val (.long (6 : Int64)), .second] [(.long (3 : Int64)), (.long (6 : Int64))])) _
    refine XS.lcmp X0.here hx rfl (hb hby d2_26) rfl ?_
    refine XS.ifYes X0.here hx rfl (pc0 := 27) (pc' := 34) rfl (hb hby d2_27) rfl (by decide) (by decide) (by decide) ?_
    refine sL X0 hx hby d2_34 rfl ?_
    refine X0.ldc2Long hx hown (mvT hZ (wk14 hw)) (g := (mkF m 35 #[.val (.long (6 : Int64)), .second] [(.long (6 : Int64))])) rfl (hb hby d2_35) _ ?_
    refine XS.lcmp X0.here hx rfl (hb hby d2_38) rfl ?_
    show Steps p.tables e below (s₁.setTop (mkF m 39 #[.val (.long (6 : Int64)), .second] [(.int (1 : Int32))])) _
    refine XS.ifYes X0.here hx rfl (pc0 := 39) (pc' := 46) rfl (hb hby d2_39) rfl (by decide) (by decide) (by decide) ?_
    refine sL X0 hx hby d2_46 rfl ?_
    refine X0.ldc2Long hx hown (mvT hZ (wk15 hw)) (g := (mkF m 47 #[.val (.long (6 : Int64)), .second] [(.long (6 : Int64))])) rfl (hb hby d2_47) _ ?_
    refine XS.lcmp X0.here hx rfl (hb hby d2_50) rfl ?_
    refine XS.ifYes X0.here hx rfl (pc0 := 51) (pc' := 58) rfl (hb hby d2_51) rfl (by decide) (by decide) (by decide) ?_
    show Steps p.tables e below (s₁.setTop (mkF m 58 #[.val (.long (6 : Int64)), .second] [])) _
    refine sL X0 hx hby d2_58 rfl ?_
    refine X0.ldc2Long hx hown (mvT hZ (wk16 hw)) (g := (mkF m 59 #[.val (.long (6 : Int64)), .second] [(.long (6 : Int64))])) rfl (hb hby d2_59) _ ?_
    refine XS.lcmp X0.here hx rfl (hb hby d2_62) rfl ?_
    refine sN X0 hx hby d2_63 (by decide) ?_
    refine st1 _ ?_
    jvm_step X1.here [X1.here.top, hx, (hb hby d2_69), X1.method', Bd.returns, Value.isRef, FieldType.isReference]
    first | (intro acts; rw [hr _ acts rfl rfl rfl]) | rw [hr _ _ rfl rfl rfl]
    exact Steps.refl _
  · show Q2_42 Z w h0 n0 _ T1.heap _
    rw [e1]
    exact ⟨rfl, N0, rfl⟩
theorem d2_78 : decode method_2_code 78 = .ok (.getstatic 40, 3) := by decide +kernel
theorem d2_81 : decode method_2_code 81 = .ok (.areturn, 1) := by decide +kernel
theorem ef_2_43 (m : MethodId) : entryFrame m #[(.long (7 : Int64))] 2 = mkF m 0 #[.val (.long (7 : Int64)), .second] [] := by first | (simp [entryFrame, mkF, argsToLocals, Value.category]; done) | rfl
def Q2_43 (Z : State) (w : Nat → Addr) (h0 : Heap) (n0 : Nat) (v : Option Value) (h : Heap) (L : List Loc) : Prop := v = some (.ref (w 5)) ∧ Fr n0 L ∧ h = h0
set_option maxRecDepth 65536 in
set_option maxHeartbeats 40000000 in
theorem rm2_43 (l : Launch) (Z : State) (a0 : Array Value) (hw : ∀ d ∈ tables_1, d.before a0 Z = true) (w : Nat → Addr) (hW : Wd Z w) (ws : List Jvm.Cond) (h0 : Heap) (n0 : Nat) (O0 : Old Z n0 h0) :
    MetFree l ym1 (head1 (Jvm.Cond.code ym1 method_2_code 2 (some (.object "com/example/ferrule/ferrule/io/TypeCode")) :: ws) ({ frames := 0, cells := 0, slots := 0, locals := 0 } : Room)) (fun a U => a = #[(.long (7 : Int64))] ∧ Z.Warmed39 U.vm ∧ U.heap = h0) (fun _ _ _ _ _ => True) (fun _ U o U' => ∃ v L, o = .returned v ∧ Q2_43 Z w h0 n0 v U'.heap L ∧ FrameEnd U o U' L ({ frames := 0, cells := 0, slots := 0, locals := 0 } : Room).cells ({ frames := 0, cells := 0, slots := 0, locals := 0 } : Room).slots) := by
  refine MetFree.of_bodySF (plainFor_of_name pnc_1) hisR ?_
  intro p e s m args below meth c s₁ Bd hml0 hP hK
  obtain ⟨rfl, hZ, hh⟩ := hP
  have hx := Bd.exec
  have hby := Bd.bytes
  have hml : c.maxLocals = 2 := hml0
  have hown : s.vm.findClass "com/example/ferrule/ferrule/io/TypeCodeOfPinLaw" = some m.cls := findClass_of_methodNamed Bd.named
  have hnm := (name_of_methodNamed Bd.named Bd.method).1
  have X0 : Stand p l e ({ frames := 0, cells := 0, slots := 0, locals := 0 } : Room) s m #[(.long (7 : Int64))] below meth c s₁ [] 0 0 := Stand.of_body Bd
  have e0 : s₁.heap = h0 := by rw [← hh, Bd.state]; rfl
  have N0 := Fr.nil n0
  skip
  have pre0 : ∀ t, Steps p.tables e below (s₁.setTop (mkF m 0 #[.val (.long (7 : Int64)), .second] [])) t → Steps p.tables e below (s₁.setTop (entryFrame m #[(.long (7 : Int64))] 2)) t := fun t k => castTop (ef_2_43 m) k
  obtain ⟨T1, X1, e1, st1⟩ := getS2 X0 hx hZ hown (host := "") (Or.inl (wk37 hw)) Via.refl e0 ((wd9 hW).ext O0.2) (g := (mkF m 78 #[.val (.long (7 : Int64)), .second] [])) rfl (hb hby d2_78)
  obtain ⟨fs, hr, hrun, hended, hWm, hsame⟩ := X1.leave (v := some (.ref (w 5))) (fun h => by rw [Bd.returns] at h; cases h)
  refine ⟨_, _, pre0 _ ?_, hrun, hended, _, _, rfl, ?_, ⟨_, rfl⟩, hWm, hsame.mono (by decide) (by decide)⟩
  · show Steps p.tables e below (s₁.setTop (mkF m 0 #[.val (.long (7 : Int64)), .second] [])) _
    refine sL X0 hx hby d2_0 rfl ?_
    refine XS.lconst X0.here hx rfl (hb hby d2_1) ?_
    refine XS.lcmp X0.here hx rfl (hb hby d2_2) rfl ?_
    refine XS.ifYes X0.here hx rfl (pc0 := 3) (pc' := 10) rfl (hb hby d2_3) rfl (by decide) (by decide) (by decide) ?_
    refine sL X0 hx hby d2_10 rfl ?_
    show Steps p.tables e below (s₁.setTop (mkF m 11 #[.val (.long (7 : Int64)), .second] [(.long (7 : Int64))])) _
    refine X0.ldc2Long hx hown (mvT hZ (wk11 hw)) (g := (mkF m 11 #[.val (.long (7 : Int64)), .second] [(.long (7 : Int64))])) rfl (hb hby d2_11) _ ?_
    refine XS.lcmp X0.here hx rfl (hb hby d2_14) rfl ?_
    refine XS.ifYes X0.here hx rfl (pc0 := 15) (pc' := 22) rfl (hb hby d2_15) rfl (by decide) (by decide) (by decide) ?_
    refine sL X0 hx hby d2_22 rfl ?_
    refine X0.ldc2Long hx hown (mvT hZ (wk12 hw)) (g := (mkF m 23 #[.val (.long (7 : Int64)), .second] [(.long (7 : Int64))])) rfl (hb hby d2_23) _ ?_
    show Steps p.tables e below (s₁.setTop (mkF m 26 #[.val (.long (7 : Int64)), .second] [(.long (3 : Int64)), (.long (7 : Int64))])) _
    refine XS.lcmp X0.here hx rfl (hb hby d2_26) rfl ?_
    refine XS.ifYes X0.here hx rfl (pc0 := 27) (pc' := 34) rfl (hb hby d2_27) rfl (by decide) (by decide) (by decide) ?_
    refine sL X0 hx hby d2_34 rfl ?_
    refine X0.ldc2Long hx hown (mvT hZ (wk14 hw)) (g := (mkF m 35 #[.val (.long (7 : Int64)), .second] [(.long (7 : Int64))])) rfl (hb hby d2_35) _ ?_
    refine XS.lcmp X0.here hx rfl (hb hby d2_38) rfl ?_
    show Steps p.tables e below (s₁.setTop (mkF m 39 #[.val (.long (7 : Int64)), .second] [(.int (1 : Int32))])) _
    refine XS.ifYes X0.here hx rfl (pc0 := 39) (pc' := 46) rfl (hb hby d2_39) rfl (by decide) (by decide) (by decide) ?_
    refine sL X0 hx hby d2_46 rfl ?_
    refine X0.ldc2Long hx hown (mvT hZ (wk15 hw)) (g := (mkF m 47 #[.val (.long (7 : Int64)), .second] [(.long (7 : Int64))])) rfl (hb hby d2_47) _ ?_
    refine XS.lcmp X0.here hx rfl (hb hby d2_50) rfl ?_
    refine XS.ifYes X0.here hx rfl (pc0 := 51) (pc' := 58) rfl (hb hby d2_51) rfl (by decide) (by decide) (by decide) ?_
    show Steps p.tables e below (s₁.setTop (mkF m 58 #[.val (.long (7 : Int64)), .second] [])) _
    refine sL X0 hx hby d2_58 rfl ?_
    refine X0.ldc2Long hx hown (mvT hZ (wk16 hw)) (g := (mkF m 59 #[.val (.long (7 : Int64)), .second] [(.long (7 : Int64))])) rfl (hb hby d2_59) _ ?_
    refine XS.lcmp X0.here hx rfl (hb hby d2_62) rfl ?_
    refine XS.ifYes X0.here hx rfl (pc0 := 63) (pc' := 70) rfl (hb hby d2_63) rfl (by decide) (by decide) (by decide) ?_
    refine sL X0 hx hby d2_70 rfl ?_
    show Steps p.tables e below (s₁.setTop (mkF m 71 #[.val (.long (7 : Int64)), .second] [(.long (7 : Int64))])) _
    refine X0.ldc2Long hx hown (mvT hZ (wk17 hw)) (g := (mkF m 71 #[.val (.long (7 : Int64)), .second] [(.long (7 : Int64))])) rfl (hb hby d2_71) _ ?_
    refine XS.lcmp X0.here hx rfl (hb hby d2_74) rfl ?_
    refine sN X0 hx hby d2_75 (by decide) ?_
    refine st1 _ ?_
    jvm_step X1.here [X1.here.top, hx, (hb hby d2_81), X1.method', Bd.returns, Value.isRef, FieldType.isReference]
    first | (intro acts; rw [hr _ acts rfl rfl rfl]) | rw [hr _ _ rfl rfl rfl]
    exact Steps.refl _
  · show Q2_43 Z w h0 n0 _ T1.heap _
    rw [e1]
    exact ⟨rfl, N0, rfl⟩
theorem d2_90 : decode method_2_code 90 = .ok (.getstatic 45, 3) := by decide +kernel
theorem d2_93 : decode method_2_code 93 = .ok (.areturn, 1) := by decide +kernel
theorem ef_2_44 (m : MethodId) : entryFrame m #[(.long (8 : Int64))] 2 = mkF m 0 #[.val (.long (8 : Int64)), .second] [] := by first | (simp [entryFrame, mkF, argsToLocals, Value.category]; done) | rfl
def Q2_44 (Z : State) (w : Nat → Addr) (h0 : Heap) (n0 : Nat) (v : Option Value) (h : Heap) (L : List Loc) : Prop := v = some (.ref (w 13)) ∧ Fr n0 L ∧ h = h0
set_option maxRecDepth 65536 in
set_option maxHeartbeats 40000000 in
theorem rm2_44 (l : Launch) (Z : State) (a0 : Array Value) (hw : ∀ d ∈ tables_1, d.before a0 Z = true) (w : Nat → Addr) (hW : Wd Z w) (ws : List Jvm.Cond) (h0 : Heap) (n0 : Nat) (O0 : Old Z n0 h0) :
    MetFree l ym1 (head1 (Jvm.Cond.code ym1 method_2_code 2 (some (.object "com/example/ferrule/ferrule/io/TypeCode")) :: ws) ({ frames := 0, cells := 0, slots := 0, locals := 0 } : Room)) (fun a U => a = #[(.long (8 : Int64))] ∧ Z.Warmed39 U.vm ∧ U.heap = h0) (fun _ _ _ _ _ => True) (fun _ U o U' => ∃ v L, o = .returned v ∧ Q2_44 Z w h0 n0 v U'.heap L ∧ FrameEnd U o U' L ({ frames := 0, cells := 0, slots := 0, locals := 0 } : Room).cells ({ frames := 0, cells := 0, slots := 0, locals := 0 } : Room).slots) := by
  refine MetFree.of_bodySF (plainFor_of_name pnc_1) hisR ?_
  intro p e s m args below meth c s₁ Bd hml0 hP hK
  obtain ⟨rfl, hZ, hh⟩ := hP
  have hx := Bd.exec
  have hby := Bd.bytes
  have hml : c.maxLocals = 2 := hml0
  have hown : s.vm.findClass "com/example/ferrule/ferrule/io/TypeCodeOfPinLaw" = some m.cls := findClass_of_methodNamed Bd.named
  have hnm := (name_of_methodNamed Bd.named Bd.method).1
  have X0 : Stand p l e ({ frames := 0, cells := 0, slots := 0, locals := 0 } : Room) s m #[(.long (8 : Int64))] below meth c s₁ [] 0 0 := Stand.of_body Bd
  have e0 : s₁.heap = h0 := by rw [← hh, Bd.state]; rfl
  have N0 := Fr.nil n0
  skip
  have pre0 : ∀ t, Steps p.tables e below (s₁.setTop (mkF m 0 #[.val (.long (8 : Int64)), .second] [])) t → Steps p.tables e below (s₁.setTop (entryFrame m #[(.long (8 : Int64))] 2)) t := fun t k => castTop (ef_2_44 m) k
  obtain ⟨T1, X1, e1, st1⟩ := getS2 X0 hx hZ hown (host := "") (Or.inl (wk53 hw)) Via.refl e0 ((wd25 hW).ext O0.2) (g := (mkF m 90 #[.val (.long (8 : Int64)), .second] [])) rfl (hb hby d2_90)
  obtain ⟨fs, hr, hrun, hended, hWm, hsame⟩ := X1.leave (v := some (.ref (w 13))) (fun h => by rw [Bd.returns] at h; cases h)
  refine ⟨_, _, pre0 _ ?_, hrun, hended, _, _, rfl, ?_, ⟨_, rfl⟩, hWm, hsame.mono (by decide) (by decide)⟩
  · show Steps p.tables e below (s₁.setTop (mkF m 0 #[.val (.long (8 : Int64)), .second] [])) _
    refine sL X0 hx hby d2_0 rfl ?_
    refine XS.lconst X0.here hx rfl (hb hby d2_1) ?_
    refine XS.lcmp X0.here hx rfl (hb hby d2_2) rfl ?_
    refine XS.ifYes X0.here hx rfl (pc0 := 3) (pc' := 10) rfl (hb hby d2_3) rfl (by decide) (by decide) (by decide) ?_
    refine sL X0 hx hby d2_10 rfl ?_
    show Steps p.tables e below (s₁.setTop (mkF m 11 #[.val (.long (8 : Int64)), .second] [(.long (8 : Int64))])) _
    refine X0.ldc2Long hx hown (mvT hZ (wk11 hw)) (g := (mkF m 11 #[.val (.long (8 : Int64)), .second] [(.long (8 : Int64))])) rfl (hb hby d2_11) _ ?_
    refine XS.lcmp X0.here hx rfl (hb hby d2_14) rfl ?_
    refine XS.ifYes X0.here hx rfl (pc0 := 15) (pc' := 22) rfl (hb hby d2_15) rfl (by decide) (by decide) (by decide) ?_
    refine sL X0 hx hby d2_22 rfl ?_
    refine X0.ldc2Long hx hown (mvT hZ (wk12 hw)) (g := (mkF m 23 #[.val (.long (8 : Int64)), .second] [(.long (8 : Int64))])) rfl (hb hby d2_23) _ ?_
    show Steps p.tables e below (s₁.setTop (mkF m 26 #[.val (.long (8 : Int64)), .second] [(.long (3 : Int64)), (.long (8 : Int64))])) _
    refine XS.lcmp X0.here hx rfl (hb hby d2_26) rfl ?_
    refine XS.ifYes X0.here hx rfl (pc0 := 27) (pc' := 34) rfl (hb hby d2_27) rfl (by decide) (by decide) (by decide) ?_
    refine sL X0 hx hby d2_34 rfl ?_
    refine X0.ldc2Long hx hown (mvT hZ (wk14 hw)) (g := (mkF m 35 #[.val (.long (8 : Int64)), .second] [(.long (8 : Int64))])) rfl (hb hby d2_35) _ ?_
    refine XS.lcmp X0.here hx rfl (hb hby d2_38) rfl ?_
    show Steps p.tables e below (s₁.setTop (mkF m 39 #[.val (.long (8 : Int64)), .second] [(.int (1 : Int32))])) _
    refine XS.ifYes X0.here hx rfl (pc0 := 39) (pc' := 46) rfl (hb hby d2_39) rfl (by decide) (by decide) (by decide) ?_
    refine sL X0 hx hby d2_46 rfl ?_
    refine X0.ldc2Long hx hown (mvT hZ (wk15 hw)) (g := (mkF m 47 #[.val (.long (8 : Int64)), .second] [(.long (8 : Int64))])) rfl (hb hby d2_47) _ ?_
    refine XS.lcmp X0.here hx rfl (hb hby d2_50) rfl ?_
    refine XS.ifYes X0.here hx rfl (pc0 := 51) (pc' := 58) rfl (hb hby d2_51) rfl (by decide) (by decide) (by decide) ?_
    show Steps p.tables e below (s₁.setTop (mkF m 58 #[.val (.long (8 : Int64)), .second] [])) _
    refine sL X0 hx hby d2_58 rfl ?_
    refine X0.ldc2Long hx hown (mvT hZ (wk16 hw)) (g := (mkF m 59 #[.val (.long (8 : Int64)), .second] [(.long (8 : Int64))])) rfl (hb hby d2_59) _ ?_
    refine XS.lcmp X0.here hx rfl (hb hby d2_62) rfl ?_
    refine XS.ifYes X0.here hx rfl (pc0 := 63) (pc' := 70) rfl (hb hby d2_63) rfl (by decide) (by decide) (by decide) ?_
    refine sL X0 hx hby d2_70 rfl ?_
    show Steps p.tables e below (s₁.setTop (mkF m 71 #[.val (.long (8 : Int64)), .second] [(.long (8 : Int64))])) _
    refine X0.ldc2Long hx hown (mvT hZ (wk17 hw)) (g := (mkF m 71 #[.val (.long (8 : Int64)), .second] [(.long (8 : Int64))])) rfl (hb hby d2_71) _ ?_
    refine XS.lcmp X0.here hx rfl (hb hby d2_74) rfl ?_
    refine XS.ifYes X0.here hx rfl (pc0 := 75) (pc' := 82) rfl (hb hby d2_75) rfl (by decide) (by decide) (by decide) ?_
    refine sL X0 hx hby d2_82 rfl ?_
    refine X0.ldc2Long hx hown (mvT hZ (wk18 hw)) (g := (mkF m 83 #[.val (.long (8 : Int64)), .second] [(.long (8 : Int64))])) rfl (hb hby d2_83) _ ?_
    show Steps p.tables e below (s₁.setTop (mkF m 86 #[.val (.long (8 : Int64)), .second] [(.long (8 : Int64)), (.long (8 : Int64))])) _
    refine XS.lcmp X0.here hx rfl (hb hby d2_86) rfl ?_
    refine sN X0 hx hby d2_87 (by decide) ?_
    refine st1 _ ?_
    jvm_step X1.here [X1.here.top, hx, (hb hby d2_93), X1.method', Bd.returns, Value.isRef, FieldType.isReference]
    first | (intro acts; rw [hr _ acts rfl rfl rfl]) | rw [hr _ _ rfl rfl rfl]
    exact Steps.refl _
  · show Q2_44 Z w h0 n0 _ T1.heap _
    rw [e1]
    exact ⟨rfl, N0, rfl⟩
theorem d2_102 : decode method_2_code 102 = .ok (.getstatic 50, 3) := by decide +kernel
theorem d2_105 : decode method_2_code 105 = .ok (.areturn, 1) := by decide +kernel
theorem ef_2_45 (m : MethodId) : entryFrame m #[(.long (9 : Int64))] 2 = mkF m 0 #[.val (.long (9 : Int64)), .second] [] := by first | (simp [entryFrame, mkF, argsToLocals, Value.category]; done) | rfl
def Q2_45 (Z : State) (w : Nat → Addr) (h0 : Heap) (n0 : Nat) (v : Option Value) (h : Heap) (L : List Loc) : Prop := v = some (.ref (w 18)) ∧ Fr n0 L ∧ h = h0
set_option maxRecDepth 65536 in
set_option maxHeartbeats 40000000 in
theorem rm2_45 (l : Launch) (Z : State) (a0 : Array Value) (hw : ∀ d ∈ tables_1, d.before a0 Z = true) (w : Nat → Addr) (hW : Wd Z w) (ws : List Jvm.Cond) (h0 : Heap) (n0 : Nat) (O0 : Old Z n0 h0) :
    MetFree l ym1 (head1 (Jvm.Cond.code ym1 method_2_code 2 (some (.object "com/example/ferrule/ferrule/io/TypeCode")) :: ws) ({ frames := 0, cells := 0, slots := 0, locals := 0 } : Room)) (fun a U => a = #[(.long (9 : Int64))] ∧ Z.Warmed39 U.vm ∧ U.heap = h0) (fun _ _ _ _ _ => True) (fun _ U o U' => ∃ v L, o = .returned v ∧ Q2_45 Z w h0 n0 v U'.heap L ∧ FrameEnd U o U' L ({ frames := 0, cells := 0, slots := 0, locals := 0 } : Room).cells ({ frames := 0, cells := 0, slots := 0, locals := 0 } : Room).slots) := by
  refine MetFree.of_bodySF (plainFor_of_name pnc_1) hisR ?_
  intro p e s m args below meth c s₁ Bd hml0 hP hK
  obtain ⟨rfl, hZ, hh⟩ := hP
  have hx := Bd.exec
  have hby := Bd.bytes
  have hml : c.maxLocals = 2 := hml0
  have hown : s.vm.findClass "com/example/ferrule/ferrule/io/TypeCodeOfPinLaw" = some m.cls := findClass_of_methodNamed Bd.named
  have hnm := (name_of_methodNamed Bd.named Bd.method).1
  have X0 : Stand p l e ({ frames := 0, cells := 0, slots := 0, locals := 0 } : Room) s m #[(.long (9 : Int64))] below meth c s₁ [] 0 0 := Stand.of_body Bd
  have e0 : s₁.heap = h0 := by rw [← hh, Bd.state]; rfl
  have N0 := Fr.nil n0
  skip
  have pre0 : ∀ t, Steps p.tables e below (s₁.setTop (mkF m 0 #[.val (.long (9 : Int64)), .second] [])) t → Steps p.tables e below (s₁.setTop (entryFrame m #[(.long (9 : Int64))] 2)) t := fun t k => castTop (ef_2_45 m) k
  obtain ⟨T1, X1, e1, st1⟩ := getS2 X0 hx hZ hown (host := "") (Or.inl (wk63 hw)) Via.refl e0 ((wd35 hW).ext O0.2) (g := (mkF m 102 #[.val (.long (9 : Int64)), .second] [])) rfl (hb hby d2_102)
  obtain ⟨fs, hr, hrun, hended, hWm, hsame⟩ := X1.leave (v := some (.ref (w 18))) (fun h => by rw [Bd.returns] at h; cases h)
  refine ⟨_, _, pre0 _ ?_, hrun, hended, _, _, rfl, ?_, ⟨_, rfl⟩, hWm, hsame.mono (by decide) (by decide)⟩
  · show Steps p.tables e below (s₁.setTop (mkF m 0 #[.val (.long (9 : Int64)), .second] [])) _
    refine sL X0 hx hby d2_0 rfl ?_
    refine XS.lconst X0.here hx rfl (hb hby d2_1) ?_
    refine XS.lcmp X0.here hx rfl (hb hby d2_2) rfl ?_
    refine XS.ifYes X0.here hx rfl (pc0 := 3) (pc' := 10) rfl (hb hby d2_3) rfl (by decide) (by decide) (by decide) ?_
    refine sL X0 hx hby d2_10 rfl ?_
    show Steps p.tables e below (s₁.setTop (mkF m 11 #[.val (.long (9 : Int64)), .second] [(.long (9 : Int64))])) _
    refine X0.ldc2Long hx hown (mvT hZ (wk11 hw)) (g := (mkF m 11 #[.val (.long (9 : Int64)), .second] [(.long (9 : Int64))])) rfl (hb hby d2_11) _ ?_
    refine XS.lcmp X0.here hx rfl (hb hby d2_14) rfl ?_
    refine XS.ifYes X0.here hx rfl (pc0 := 15) (pc' := 22) rfl (hb hby d2_15) rfl (by decide) (by decide) (by decide) ?_
    refine sL X0 hx hby d2_22 rfl ?_
    refine X0.ldc2Long hx hown (mvT hZ (wk12 hw)) (g := (mkF m 23 #[.val (.long (9 : Int64)), .second] [(.long (9 : Int64))])) rfl (hb hby d2_23) _ ?_
    show Steps p.tables e below (s₁.setTop (mkF m 26 #[.val (.long (9 : Int64)), .second] [(.long (3 : Int64)), (.long (9 : Int64))])) _
    refine XS.lcmp X0.here hx rfl (hb hby d2_26) rfl ?_
    refine XS.ifYes X0.here hx rfl (pc0 := 27) (pc' := 34) rfl (hb hby d2_27) rfl (by decide) (by decide) (by decide) ?_
    refine sL X0 hx hby d2_34 rfl ?_
    refine X0.ldc2Long hx hown (mvT hZ (wk14 hw)) (g := (mkF m 35 #[.val (.long (9 : Int64)), .second] [(.long (9 : Int64))])) rfl (hb hby d2_35) _ ?_
    refine XS.lcmp X0.here hx rfl (hb hby d2_38) rfl ?_
    show Steps p.tables e below (s₁.setTop (mkF m 39 #[.val (.long (9 : Int64)), .second] [(.int (1 : Int32))])) _
    refine XS.ifYes X0.here hx rfl (pc0 := 39) (pc' := 46) rfl (hb hby d2_39) rfl (by decide) (by decide) (by decide) ?_
    refine sL X0 hx hby d2_46 rfl ?_
    refine X0.ldc2Long hx hown (mvT hZ (wk15 hw)) (g := (mkF m 47 #[.val (.long (9 : Int64)), .second] [(.long (9 : Int64))])) rfl (hb hby d2_47) _ ?_
    refine XS.lcmp X0.here hx rfl (hb hby d2_50) rfl ?_
    refine XS.ifYes X0.here hx rfl (pc0 := 51) (pc' := 58) rfl (hb hby d2_51) rfl (by decide) (by decide) (by decide) ?_
    show Steps p.tables e below (s₁.setTop (mkF m 58 #[.val (.long (9 : Int64)), .second] [])) _
    refine sL X0 hx hby d2_58 rfl ?_
    refine X0.ldc2Long hx hown (mvT hZ (wk16 hw)) (g := (mkF m 59 #[.val (.long (9 : Int64)), .second] [(.long (9 : Int64))])) rfl (hb hby d2_59) _ ?_
    refine XS.lcmp X0.here hx rfl (hb hby d2_62) rfl ?_
    refine XS.ifYes X0.here hx rfl (pc0 := 63) (pc' := 70) rfl (hb hby d2_63) rfl (by decide) (by decide) (by decide) ?_
    refine sL X0 hx hby d2_70 rfl ?_
    show Steps p.tables e below (s₁.setTop (mkF m 71 #[.val (.long (9 : Int64)), .second] [(.long (9 : Int64))])) _
    refine X0.ldc2Long hx hown (mvT hZ (wk17 hw)) (g := (mkF m 71 #[.val (.long (9 : Int64)), .second] [(.long (9 : Int64))])) rfl (hb hby d2_71) _ ?_
    refine XS.lcmp X0.here hx rfl (hb hby d2_74) rfl ?_
    refine XS.ifYes X0.here hx rfl (pc0 := 75) (pc' := 82) rfl (hb hby d2_75) rfl (by decide) (by decide) (by decide) ?_
    refine sL X0 hx hby d2_82 rfl ?_
    refine X0.ldc2Long hx hown (mvT hZ (wk18 hw)) (g := (mkF m 83 #[.val (.long (9 : Int64)), .second] [(.long (9 : Int64))])) rfl (hb hby d2_83) _ ?_
    show Steps p.tables e below (s₁.setTop (mkF m 86 #[.val (.long (9 : Int64)), .second] [(.long (8 : Int64)), (.long (9 : Int64))])) _
    refine XS.lcmp X0.here hx rfl (hb hby d2_86) rfl ?_
    refine XS.ifYes X0.here hx rfl (pc0 := 87) (pc' := 94) rfl (hb hby d2_87) rfl (by decide) (by decide) (by decide) ?_
    refine sL X0 hx hby d2_94 rfl ?_
    refine X0.ldc2Long hx hown (mvT hZ (wk19 hw)) (g := (mkF m 95 #[.val (.long (9 : Int64)), .second] [(.long (9 : Int64))])) rfl (hb hby d2_95) _ ?_
    refine XS.lcmp X0.here hx rfl (hb hby d2_98) rfl ?_
    show Steps p.tables e below (s₁.setTop (mkF m 99 #[.val (.long (9 : Int64)), .second] [(.int (0 : Int32))])) _
    refine sN X0 hx hby d2_99 (by decide) ?_
    refine st1 _ ?_
    jvm_step X1.here [X1.here.top, hx, (hb hby d2_105), X1.method', Bd.returns, Value.isRef, FieldType.isReference]
    first | (intro acts; rw [hr _ acts rfl rfl rfl]) | rw [hr _ _ rfl rfl rfl]
    exact Steps.refl _
  · show Q2_45 Z w h0 n0 _ T1.heap _
    rw [e1]
    exact ⟨rfl, N0, rfl⟩
theorem d2_114 : decode method_2_code 114 = .ok (.getstatic 55, 3) := by decide +kernel
theorem d2_117 : decode method_2_code 117 = .ok (.areturn, 1) := by decide +kernel
theorem ef_2_46 (m : MethodId) : entryFrame m #[(.long (10 : Int64))] 2 = mkF m 0 #[.val (.long (10 : Int64)), .second] [] := by first | (simp [entryFrame, mkF, argsToLocals, Value.category]; done) | rfl
def Q2_46 (Z : State) (w : Nat → Addr) (h0 : Heap) (n0 : Nat) (v : Option Value) (h : Heap) (L : List Loc) : Prop := v = some (.ref (w 9)) ∧ Fr n0 L ∧ h = h0
set_option maxRecDepth 65536 in
set_option maxHeartbeats 40000000 in
theorem rm2_46 (l : Launch) (Z : State) (a0 : Array Value) (hw : ∀ d ∈ tables_1, d.before a0 Z = true) (w : Nat → Addr) (hW : Wd Z w) (ws : List Jvm.Cond) (h0 : Heap) (n0 : Nat) (O0 : Old Z n0 h0) :
    MetFree l ym1 (head1 (Jvm.Cond.code ym1 method_2_code 2 (some (.object "com/example/ferrule/ferrule/io/TypeCode")) :: ws) ({ frames := 0, cells := 0, slots := 0, locals := 0 } : Room)) (fun a U => a = #[(.long (10 : Int64))] ∧ Z.Warmed39 U.vm ∧ U.heap = h0) (fun _ _ _ _ _ => True) (fun _ U o U' => ∃ v L, o = .returned v ∧ Q2_46 Z w h0 n0 v U'.heap L ∧ FrameEnd U o U' L ({ frames := 0, cells := 0, slots := 0, locals := 0 } : Room).cells ({ frames := 0, cells := 0, slots := 0, locals := 0 } : Room).slots) := by
  refine MetFree.of_bodySF (plainFor_of_name pnc_1) hisR ?_
  intro p e s m args below meth c s₁ Bd hml0 hP hK
  obtain ⟨rfl, hZ, hh⟩ := hP
  have hx := Bd.exec
  have hby := Bd.bytes
  have hml : c.maxLocals = 2 := hml0
  have hown : s.vm.findClass "com/example/ferrule/ferrule/io/TypeCodeOfPinLaw" = some m.cls := findClass_of_methodNamed Bd.named
  have hnm := (name_of_methodNamed Bd.named Bd.method).1
  have X0 : Stand p l e ({ frames := 0, cells := 0, slots := 0, locals := 0 } : Room) s m #[(.long (10 : Int64))] below meth c s₁ [] 0 0 := Stand.of_body Bd
  have e0 : s₁.heap = h0 := by rw [← hh, Bd.state]; rfl
  have N0 := Fr.nil n0
  skip
  have pre0 : ∀ t, Steps p.tables e below (s₁.setTop (mkF m 0 #[.val (.long (10 : Int64)), .second] [])) t → Steps p.tables e below (s₁.setTop (entryFrame m #[(.long (10 : Int64))] 2)) t := fun t k => castTop (ef_2_46 m) k
  obtain ⟨T1, X1, e1, st1⟩ := getS2 X0 hx hZ hown (host := "") (Or.inl (wk45 hw)) Via.refl e0 ((wd17 hW).ext O0.2) (g := (mkF m 114 #[.val (.long (10 : Int64)), .second] [])) rfl (hb hby d2_114)
  obtain ⟨fs, hr, hrun, hended, hWm, hsame⟩ := X1.leave (v := some (.ref (w 9))) (fun h => by rw [Bd.returns] at h; cases h)
  refine ⟨_, _, pre0 _ ?_, hrun, hended, _, _, rfl, ?_, ⟨_, rfl⟩, hWm, hsame.mono (by decide) (by decide)⟩
  · show Steps p.tables e below (s₁.setTop (mkF m 0 #[.val (.long (10 : Int64)), .second] [])) _
    refine sL X0 hx hby d2_0 rfl ?_
    refine XS.lconst X0.here hx rfl (hb hby d2_1) ?_
    refine XS.lcmp X0.here hx rfl (hb hby d2_2) rfl ?_
    refine XS.ifYes X0.here hx rfl (pc0 := 3) (pc' := 10) rfl (hb hby d2_3) rfl (by decide) (by decide) (by decide) ?_
    refine sL X0 hx hby d2_10 rfl ?_
    show Steps p.tables e below (s₁.setTop (mkF m 11 #[.val (.long (10 : Int64)), .second] [(.long (10 : Int64))])) _
    refine X0.ldc2Long hx hown (mvT hZ (wk11 hw)) (g := (mkF m 11 #[.val (.long (10 : Int64)), .second] [(.long (10 : Int64))])) rfl (hb hby d2_11) _ ?_
    refine XS.lcmp X0.here hx rfl (hb hby d2_14) rfl ?_
    refine XS.ifYes X0.here hx rfl (pc0 := 15) (pc' := 22) rfl (hb hby d2_15) rfl (by decide) (by decide) (by decide) ?_
    refine sL X0 hx hby d2_22 rfl ?_
    refine X0.ldc2Long hx hown (mvT hZ (wk12 hw)) (g := (mkF m 23 #[.val (.long (10 : Int64)), .second] [(.long (10 : Int64))])) rfl (hb hby d2_23) _ ?_
    show Steps p.tables e below (s₁.setTop (mkF m 26 #[.val (.long (10 : Int64)), .second] [(.long (3 : Int64)), (.long (10 : Int64))])) _
    refine XS.lcmp X0.here hx rfl (hb hby d2_26) rfl ?_
    refine XS.ifYes X0.here hx rfl (pc0 := 27) (pc' := 34) rfl (hb hby d2_27) rfl (by decide) (by decide) (by decide) ?_
    refine sL X0 hx hby d2_34 rfl ?_
    refine X0.ldc2Long hx hown (mvT hZ (wk14 hw)) (g := (mkF m 35 #[.val (.long (10 : Int64)), .second] [(.long (10 : Int64))])) rfl (hb hby d2_35) _ ?_
    refine XS.lcmp X0.here hx rfl (hb hby d2_38) rfl ?_
    show Steps p.tables e below (s₁.setTop (mkF m 39 #[.val (.long (10 : Int64)), .second] [(.int (1 : Int32))])) _
    refine XS.ifYes X0.here hx rfl (pc0 := 39) (pc' := 46) rfl (hb hby d2_39) rfl (by decide) (by decide) (by decide) ?_
    refine sL X0 hx hby d2_46 rfl ?_
    refine X0.ldc2Long hx hown (mvT hZ (wk15 hw)) (g := (mkF m 47 #[.val (.long (10 : Int64)), .second] [(.long (10 : Int64))])) rfl (hb hby d2_47) _ ?_
    refine XS.lcmp X0.here hx rfl (hb hby d2_50) rfl ?_
    refine XS.ifYes X0.here hx rfl (pc0 := 51) (pc' := 58) rfl (hb hby d2_51) rfl (by decide) (by decide) (by decide) ?_
    show Steps p.tables e below (s₁.setTop (mkF m 58 #[.val (.long (10 : Int64)), .second] [])) _
    refine sL X0 hx hby d2_58 rfl ?_
    refine X0.ldc2Long hx hown (mvT hZ (wk16 hw)) (g := (mkF m 59 #[.val (.long (10 : Int64)), .second] [(.long (10 : Int64))])) rfl (hb hby d2_59) _ ?_
    refine XS.lcmp X0.here hx rfl (hb hby d2_62) rfl ?_
    refine XS.ifYes X0.here hx rfl (pc0 := 63) (pc' := 70) rfl (hb hby d2_63) rfl (by decide) (by decide) (by decide) ?_
    refine sL X0 hx hby d2_70 rfl ?_
    show Steps p.tables e below (s₁.setTop (mkF m 71 #[.val (.long (10 : Int64)), .second] [(.long (10 : Int64))])) _
    refine X0.ldc2Long hx hown (mvT hZ (wk17 hw)) (g := (mkF m 71 #[.val (.long (10 : Int64)), .second] [(.long (10 : Int64))])) rfl (hb hby d2_71) _ ?_
    refine XS.lcmp X0.here hx rfl (hb hby d2_74) rfl ?_
    refine XS.ifYes X0.here hx rfl (pc0 := 75) (pc' := 82) rfl (hb hby d2_75) rfl (by decide) (by decide) (by decide) ?_
    refine sL X0 hx hby d2_82 rfl ?_
    refine X0.ldc2Long hx hown (mvT hZ (wk18 hw)) (g := (mkF m 83 #[.val (.long (10 : Int64)), .second] [(.long (10 : Int64))])) rfl (hb hby d2_83) _ ?_
    show Steps p.tables e below (s₁.setTop (mkF m 86 #[.val (.long (10 : Int64)), .second] [(.long (8 : Int64)), (.long (10 : Int64))])) _
    refine XS.lcmp X0.here hx rfl (hb hby d2_86) rfl ?_
    refine XS.ifYes X0.here hx rfl (pc0 := 87) (pc' := 94) rfl (hb hby d2_87) rfl (by decide) (by decide) (by decide) ?_
    refine sL X0 hx hby d2_94 rfl ?_
    refine X0.ldc2Long hx hown (mvT hZ (wk19 hw)) (g := (mkF m 95 #[.val (.long (10 : Int64)), .second] [(.long (10 : Int64))])) rfl (hb hby d2_95) _ ?_
    refine XS.lcmp X0.here hx rfl (hb hby d2_98) rfl ?_
    show Steps p.tables e below (s₁.setTop (mkF m 99 #[.val (.long (10 : Int64)), .second] [(.int (1 : Int32))])) _
    refine XS.ifYes X0.here hx rfl (pc0 := 99) (pc' := 106) rfl (hb hby d2_99) rfl (by decide) (by decide) (by decide) ?_
    refine sL X0 hx hby d2_106 rfl ?_
    refine X0.ldc2Long hx hown (mvT hZ (wk20 hw)) (g := (mkF m 107 #[.val (.long (10 : Int64)), .second] [(.long (10 : Int64))])) rfl (hb hby d2_107) _ ?_
    refine XS.lcmp X0.here hx rfl (hb hby d2_110) rfl ?_
    refine sN X0 hx hby d2_111 (by decide) ?_
    show Steps p.tables e below (s₁.setTop (mkF m 114 #[.val (.long (10 : Int64)), .second] [])) _
    refine st1 _ ?_
    jvm_step X1.here [X1.here.top, hx, (hb hby d2_117), X1.method', Bd.returns, Value.isRef, FieldType.isReference]
    first | (intro acts; rw [hr _ acts rfl rfl rfl]) | rw [hr _ _ rfl rfl rfl]
    exact Steps.refl _
  · show Q2_46 Z w h0 n0 _ T1.heap _
    rw [e1]
    exact ⟨rfl, N0, rfl⟩
theorem d2_126 : decode method_2_code 126 = .ok (.getstatic 60, 3) := by decide +kernel
theorem d2_129 : decode method_2_code 129 = .ok (.areturn, 1) := by decide +kernel
theorem ef_2_47 (m : MethodId) : entryFrame m #[(.long (11 : Int64))] 2 = mkF m 0 #[.val (.long (11 : Int64)), .second] [] := by first | (simp [entryFrame, mkF, argsToLocals, Value.category]; done) | rfl
def Q2_47 (Z : State) (w : Nat → Addr) (h0 : Heap) (n0 : Nat) (v : Option Value) (h : Heap) (L : List Loc) : Prop := v = some (.ref (w 16)) ∧ Fr n0 L ∧ h = h0
set_option maxRecDepth 65536 in
set_option maxHeartbeats 40000000 in
theorem rm2_47 (l : Launch) (Z : State) (a0 : Array Value) (hw : ∀ d ∈ tables_1, d.before a0 Z = true) (w : Nat → Addr) (hW : Wd Z w) (ws : List Jvm.Cond) (h0 : Heap) (n0 : Nat) (O0 : Old Z n0 h0) :
    MetFree l ym1 (head1 (Jvm.Cond.code ym1 method_2_code 2 (some (.object "com/example/ferrule/ferrule/io/TypeCode")) :: ws) ({ frames := 0, cells := 0, slots := 0, locals := 0 } : Room)) (fun a U => a = #[(.long (11 : Int64))] ∧ Z.Warmed39 U.vm ∧ U.heap = h0) (fun _ _ _ _ _ => True) (fun _ U o U' => ∃ v L, o = .returned v ∧ Q2_47 Z w h0 n0 v U'.heap L ∧ FrameEnd U o U' L ({ frames := 0, cells := 0, slots := 0, locals := 0 } : Room).cells ({ frames := 0, cells := 0, slots := 0, locals := 0 } : Room).slots) := by
  refine MetFree.of_bodySF (plainFor_of_name pnc_1) hisR ?_
  intro p e s m args below meth c s₁ Bd hml0 hP hK
  obtain ⟨rfl, hZ, hh⟩ := hP
  have hx := Bd.exec
  have hby := Bd.bytes
  have hml : c.maxLocals = 2 := hml0
  have hown : s.vm.findClass "com/example/ferrule/ferrule/io/TypeCodeOfPinLaw" = some m.cls := findClass_of_methodNamed Bd.named
  have hnm := (name_of_methodNamed Bd.named Bd.method).1
  have X0 : Stand p l e ({ frames := 0, cells := 0, slots := 0, locals := 0 } : Room) s m #[(.long (11 : Int64))] below meth c s₁ [] 0 0 := Stand.of_body Bd
  have e0 : s₁.heap = h0 := by rw [← hh, Bd.state]; rfl
  have N0 := Fr.nil n0
  skip
  have pre0 : ∀ t, Steps p.tables e below (s₁.setTop (mkF m 0 #[.val (.long (11 : Int64)), .second] [])) t → Steps p.tables e below (s₁.setTop (entryFrame m #[(.long (11 : Int64))] 2)) t := fun t k => castTop (ef_2_47 m) k
  obtain ⟨T1, X1, e1, st1⟩ := getS2 X0 hx hZ hown (host := "") (Or.inl (wk59 hw)) Via.refl e0 ((wd31 hW).ext O0.2) (g := (mkF m 126 #[.val (.long (11 : Int64)), .second] [])) rfl (hb hby d2_126)
  obtain ⟨fs, hr, hrun, hended, hWm, hsame⟩ := X1.leave (v := some (.ref (w 16))) (fun h => by rw [Bd.returns] at h; cases h)
  refine ⟨_, _, pre0 _ ?_, hrun, hended, _, _, rfl, ?_, ⟨_, rfl⟩, hWm, hsame.mono (by decide) (by decide)⟩
  · show Steps p.tables e below (s₁.setTop (mkF m 0 #[.val (.long (11 : Int64)), .second] [])) _
    refine sL X0 hx hby d2_0 rfl ?_
    refine XS.lconst X0.here hx rfl (hb hby d2_1) ?_
    refine XS.lcmp X0.here hx rfl (hb hby d2_2) rfl ?_
    refine XS.ifYes X0.here hx rfl (pc0 := 3) (pc' := 10) rfl (hb hby d2_3) rfl (by decide) (by decide) (by decide) ?_
    refine sL X0 hx hby d2_10 rfl ?_
    show Steps p.tables e below (s₁.setTop (mkF m 11 #[.val (.long (11 : Int64)), .second] [(.long (11 : Int64))])) _
    refine X0.ldc2Long hx hown (mvT hZ (wk11 hw)) (g := (mkF m 11 #[.val (.long (11 : Int64)), .second] [(.long (11 : Int64))])) rfl (hb hby d2_11) _ ?_
    refine XS.lcmp X0.here hx rfl (hb hby d2_14) rfl ?_
    refine XS.ifYes X0.here hx rfl (pc0 := 15) (pc' := 22) rfl (hb hby d2_15) rfl (by decide) (by decide) (by decide) ?_
    refine sL X0 hx hby d2_22 rfl ?_
    refine X0.ldc2Long hx hown (mvT hZ (wk12 hw)) (g := (mkF m 23 #[.val (.long (11 : Int64)), .second] [(.long (11 : Int64))])) rfl (hb hby d2_23) _ ?_
    show Steps p.tables e below (s₁.setTop (mkF m 26 #[.val (.long (11 : Int64)), .second] [(.long (3 : Int64)), (.long (11 : Int64))])) _
    refine XS.lcmp X0.here hx rfl (hb hby d2_26) rfl ?_
    refine XS.ifYes X0.here hx rfl (pc0 := 27) (pc' := 34) rfl (hb hby d2_27) rfl (by decide) (by decide) (by decide) ?_
    refine sL X0 hx hby d2_34 rfl ?_
    refine X0.ldc2Long hx hown (mvT hZ (wk14 hw)) (g := (mkF m 35 #[.val (.long (11 : Int64)), .second] [(.long (11 : Int64))])) rfl (hb hby d2_35) _ ?_
    refine XS.lcmp X0.here hx rfl (hb hby d2_38) rfl ?_
    show Steps p.tables e below (s₁.setTop (mkF m 39 #[.val (.long (11 : Int64)), .second] [(.int (1 : Int32))])) _
    refine XS.ifYes X0.here hx rfl (pc0 := 39) (pc' := 46) rfl (hb hby d2_39) rfl (by decide) (by decide) (by decide) ?_
    refine sL X0 hx hby d2_46 rfl ?_
    refine X0.ldc2Long hx hown (mvT hZ (wk15 hw)) (g := (mkF m 47 #[.val (.long (11 : Int64)), .second] [(.long (11 : Int64))])) rfl (hb hby d2_47) _ ?_
    refine XS.lcmp X0.here hx rfl (hb hby d2_50) rfl ?_
    refine XS.ifYes X0.here hx rfl (pc0 := 51) (pc' := 58) rfl (hb hby d2_51) rfl (by decide) (by decide) (by decide) ?_
    show Steps p.tables e below (s₁.setTop (mkF m 58 #[.val (.long (11 : Int64)), .second] [])) _
    refine sL X0 hx hby d2_58 rfl ?_
    refine X0.ldc2Long hx hown (mvT hZ (wk16 hw)) (g := (mkF m 59 #[.val (.long (11 : Int64)), .second] [(.long (11 : Int64))])) rfl (hb hby d2_59) _ ?_
    refine XS.lcmp X0.here hx rfl (hb hby d2_62) rfl ?_
    refine XS.ifYes X0.here hx rfl (pc0 := 63) (pc' := 70) rfl (hb hby d2_63) rfl (by decide) (by decide) (by decide) ?_
    refine sL X0 hx hby d2_70 rfl ?_
    show Steps p.tables e below (s₁.setTop (mkF m 71 #[.val (.long (11 : Int64)), .second] [(.long (11 : Int64))])) _
    refine X0.ldc2Long hx hown (mvT hZ (wk17 hw)) (g := (mkF m 71 #[.val (.long (11 : Int64)), .second] [(.long (11 : Int64))])) rfl (hb hby d2_71) _ ?_
    refine XS.lcmp X0.here hx rfl (hb hby d2_74) rfl ?_
    refine XS.ifYes X0.here hx rfl (pc0 := 75) (pc' := 82) rfl (hb hby d2_75) rfl (by decide) (by decide) (by decide) ?_
    refine sL X0 hx hby d2_82 rfl ?_
    refine X0.ldc2Long hx hown (mvT hZ (wk18 hw)) (g := (mkF m 83 #[.val (.long (11 : Int64)), .second] [(.long (11 : Int64))])) rfl (hb hby d2_83) _ ?_
    show Steps p.tables e below (s₁.setTop (mkF m 86 #[.val (.long (11 : Int64)), .second] [(.long (8 : Int64)), (.long (11 : Int64))])) _
    refine XS.lcmp X0.here hx rfl (hb hby d2_86) rfl ?_
    refine XS.ifYes X0.here hx rfl (pc0 := 87) (pc' := 94) rfl (hb hby d2_87) rfl (by decide) (by decide) (by decide) ?_
    refine sL X0 hx hby d2_94 rfl ?_
    refine X0.ldc2Long hx hown (mvT hZ (wk19 hw)) (g := (mkF m 95 #[.val (.long (11 : Int64)), .second] [(.long (11 : Int64))])) rfl (hb hby d2_95) _ ?_
    refine XS.lcmp X0.here hx rfl (hb hby d2_98) rfl ?_
    show Steps p.tables e below (s₁.setTop (mkF m 99 #[.val (.long (11 : Int64)), .second] [(.int (1 : Int32))])) _
    refine XS.ifYes X0.here hx rfl (pc0 := 99) (pc' := 106) rfl (hb hby d2_99) rfl (by decide) (by decide) (by decide) ?_
    refine sL X0 hx hby d2_106 rfl ?_
    refine X0.ldc2Long hx hown (mvT hZ (wk20 hw)) (g := (mkF m 107 #[.val (.long (11 : Int64)), .second] [(.long (11 : Int64))])) rfl (hb hby d2_107) _ ?_
    refine XS.lcmp X0.here hx rfl (hb hby d2_110) rfl ?_
    refine XS.ifYes X0.here hx rfl (pc0 := 111) (pc' := 118) rfl (hb hby d2_111) rfl (by decide) (by decide) (by decide) ?_
    show Steps p.tables e below (s₁.setTop (mkF m 118 #[.val (.long (11 : Int64)), .second] [])) _
    refine sL X0 hx hby d2_118 rfl ?_
    refine X0.ldc2Long hx hown (mvT hZ (wk21 hw)) (g := (mkF m 119 #[.val (.long (11 : Int64)), .second] [(.long (11 : Int64))])) rfl (hb hby d2_119) _ ?_
    refine XS.lcmp X0.here hx rfl (hb hby d2_122) rfl ?_
    refine sN X0 hx hby d2_123 (by decide) ?_
    refine st1 _ ?_
    jvm_step X1.here [X1.here.top, hx, (hb hby d2_129), X1.method', Bd.returns, Value.isRef, FieldType.isReference]
    first | (intro acts; rw [hr _ acts rfl rfl rfl]) | rw [hr _ _ rfl rfl rfl]
    exact Steps.refl _
  · show Q2_47 Z w h0 n0 _ T1.heap _
    rw [e1]
    exact ⟨rfl, N0, rfl⟩
theorem d2_138 : decode method_2_code 138 = .ok (.getstatic 65, 3) := by decide +kernel
theorem d2_141 : decode method_2_code 141 = .ok (.areturn, 1) := by decide +kernel
theorem ef_2_48 (m : MethodId) : entryFrame m #[(.long (12 : Int64))] 2 = mkF m 0 #[.val (.long (12 : Int64)), .second] [] := by first | (simp [entryFrame, mkF, argsToLocals, Value.category]; done) | rfl
def Q2_48 (Z : State) (w : Nat → Addr) (h0 : Heap) (n0 : Nat) (v : Option Value) (h : Heap) (L : List Loc) : Prop := v = some (.ref (w 10)) ∧ Fr n0 L ∧ h = h0
set_option maxRecDepth 65536 in
set_option maxHeartbeats 40000000 in
theorem rm2_48 (l : Launch) (Z : State) (a0 : Array Value) (hw : ∀ d ∈ tables_1, d.before a0 Z = true) (w : Nat → Addr) (hW : Wd Z w) (ws : List Jvm.Cond) (h0 : Heap) (n0 : Nat) (O0 : Old Z n0 h0) :
    MetFree l ym1 (head1 (Jvm.Cond.code ym1 method_2_code 2 (some (.object "com/example/ferrule/ferrule/io/TypeCode")) :: ws) ({ frames := 0, cells := 0, slots := 0, locals := 0 } : Room)) (fun a U => a = #[(.long (12 : Int64))] ∧ Z.Warmed39 U.vm ∧ U.heap = h0) (fun _ _ _ _ _ => True) (fun _ U o U' => ∃ v L, o = .returned v ∧ Q2_48 Z w h0 n0 v U'.heap L ∧ FrameEnd U o U' L ({ frames := 0, cells := 0, slots := 0, locals := 0 } : Room).cells ({ frames := 0, cells := 0, slots := 0, locals := 0 } : Room).slots) := by
  refine MetFree.of_bodySF (plainFor_of_name pnc_1) hisR ?_
  intro p e s m args below meth c s₁ Bd hml0 hP hK
  obtain ⟨rfl, hZ, hh⟩ := hP
  have hx := Bd.exec
  have hby := Bd.bytes
  have hml : c.maxLocals = 2 := hml0
  have hown : s.vm.findClass "com/example/ferrule/ferrule/io/TypeCodeOfPinLaw" = some m.cls := findClass_of_methodNamed Bd.named
  have hnm := (name_of_methodNamed Bd.named Bd.method).1
  have X0 : Stand p l e ({ frames := 0, cells := 0, slots := 0, locals := 0 } : Room) s m #[(.long (12 : Int64))] below meth c s₁ [] 0 0 := Stand.of_body Bd
  have e0 : s₁.heap = h0 := by rw [← hh, Bd.state]; rfl
  have N0 := Fr.nil n0
  skip
  have pre0 : ∀ t, Steps p.tables e below (s₁.setTop (mkF m 0 #[.val (.long (12 : Int64)), .second] [])) t → Steps p.tables e below (s₁.setTop (entryFrame m #[(.long (12 : Int64))] 2)) t := fun t k => castTop (ef_2_48 m) k
  obtain ⟨T1, X1, e1, st1⟩ := getS2 X0 hx hZ hown (host := "") (Or.inl (wk47 hw)) Via.refl e0 ((wd19 hW).ext O0.2) (g := (mkF m 138 #[.val (.long (12 : Int64)), .second] [])) rfl (hb hby d2_138)
  obtain ⟨fs, hr, hrun, hended, hWm, hsame⟩ := X1.leave (v := some (.ref (w 10))) (fun h => by rw [Bd.returns] at h; cases h)
  refine ⟨_, _, pre0 _ ?_, hrun, hended, _, _, rfl, ?_, ⟨_, rfl⟩, hWm, hsame.mono (by decide) (by decide)⟩
  · show Steps p.tables e below (s₁.setTop (mkF m 0 #[.val (.long (12 : Int64)), .second] [])) _
    refine sL X0 hx hby d2_0 rfl ?_
    refine XS.lconst X0.here hx rfl (hb hby d2_1) ?_
    refine XS.lcmp X0.here hx rfl (hb hby d2_2) rfl ?_
    refine XS.ifYes X0.here hx rfl (pc0 := 3) (pc' := 10) rfl (hb hby d2_3) rfl (by decide) (by decide) (by decide) ?_
    refine sL X0 hx hby d2_10 rfl ?_
    show Steps p.tables e below (s₁.setTop (mkF m 11 #[.val (.long (12 : Int64)), .second] [(.long (12 : Int64))])) _
    refine X0.ldc2Long hx hown (mvT hZ (wk11 hw)) (g := (mkF m 11 #[.val (.long (12 : Int64)), .second] [(.long (12 : Int64))])) rfl (hb hby d2_11) _ ?_
    refine XS.lcmp X0.here hx rfl (hb hby d2_14) rfl ?_
    refine XS.ifYes X0.here hx rfl (pc0 := 15) (pc' := 22) rfl (hb hby d2_15) rfl (by decide) (by decide) (by decide) ?_
    refine sL X0 hx hby d2_22 rfl ?_
    refine X0.ldc2Long hx hown (mvT hZ (wk12 hw)) (g := (mkF m 23 #[.val (.long (12 : Int64)), .second] [(.long (12 : Int64))])) rfl (hb hby d2_23) _ ?_
    show Steps p.tables e below (s₁.setTop (mkF m 26 #[.val (.long (12 : Int64)), .second] [(.long (3 : Int64)), (.long (12 : Int64))])) _
    refine XS.lcmp X0.here hx rfl (hb hby d2_26) rfl ?_
    refine XS.ifYes X0.here hx rfl (pc0 := 27) (pc' := 34) rfl (hb hby d2_27) rfl (by decide) (by decide) (by decide) ?_
    refine sL X0 hx hby d2_34 rfl ?_
    refine X0.ldc2Long hx hown (mvT hZ (wk14 hw)) (g := (mkF m 35 #[.val (.long (12 : Int64)), .second] [(.long (12 : Int64))])) rfl (hb hby d2_35) _ ?_
    refine XS.lcmp X0.here hx rfl (hb hby d2_38) rfl ?_
    show Steps p.tables e below (s₁.setTop (mkF m 39 #[.val (.long (12 : Int64)), .second] [(.int (1 : Int32))])) _
    refine XS.ifYes X0.here hx rfl (pc0 := 39) (pc' := 46) rfl (hb hby d2_39) rfl (by decide) (by decide) (by decide) ?_
    refine sL X0 hx hby d2_46 rfl ?_
    refine X0.ldc2Long hx hown (mvT hZ (wk15 hw)) (g := (mkF m 47 #[.val (.long (12 : Int64)), .second] [(.long (12 : Int64))])) rfl (hb hby d2_47) _ ?_
    refine XS.lcmp X0.here hx rfl (hb hby d2_50) rfl ?_
    refine XS.ifYes X0.here hx rfl (pc0 := 51) (pc' := 58) rfl (hb hby d2_51) rfl (by decide) (by decide) (by decide) ?_
    show Steps p.tables e below (s₁.setTop (mkF m 58 #[.val (.long (12 : Int64)), .second] [])) _
    refine sL X0 hx hby d2_58 rfl ?_
    refine X0.ldc2Long hx hown (mvT hZ (wk16 hw)) (g := (mkF m 59 #[.val (.long (12 : Int64)), .second] [(.long (12 : Int64))])) rfl (hb hby d2_59) _ ?_
    refine XS.lcmp X0.here hx rfl (hb hby d2_62) rfl ?_
    refine XS.ifYes X0.here hx rfl (pc0 := 63) (pc' := 70) rfl (hb hby d2_63) rfl (by decide) (by decide) (by decide) ?_
    refine sL X0 hx hby d2_70 rfl ?_
    show Steps p.tables e below (s₁.setTop (mkF m 71 #[.val (.long (12 : Int64)), .second] [(.long (12 : Int64))])) _
    refine X0.ldc2Long hx hown (mvT hZ (wk17 hw)) (g := (mkF m 71 #[.val (.long (12 : Int64)), .second] [(.long (12 : Int64))])) rfl (hb hby d2_71) _ ?_
    refine XS.lcmp X0.here hx rfl (hb hby d2_74) rfl ?_
    refine XS.ifYes X0.here hx rfl (pc0 := 75) (pc' := 82) rfl (hb hby d2_75) rfl (by decide) (by decide) (by decide) ?_
    refine sL X0 hx hby d2_82 rfl ?_
    refine X0.ldc2Long hx hown (mvT hZ (wk18 hw)) (g := (mkF m 83 #[.val (.long (12 : Int64)), .second] [(.long (12 : Int64))])) rfl (hb hby d2_83) _ ?_
    show Steps p.tables e below (s₁.setTop (mkF m 86 #[.val (.long (12 : Int64)), .second] [(.long (8 : Int64)), (.long (12 : Int64))])) _
    refine XS.lcmp X0.here hx rfl (hb hby d2_86) rfl ?_
    refine XS.ifYes X0.here hx rfl (pc0 := 87) (pc' := 94) rfl (hb hby d2_87) rfl (by decide) (by decide) (by decide) ?_
    refine sL X0 hx hby d2_94 rfl ?_
    refine X0.ldc2Long hx hown (mvT hZ (wk19 hw)) (g := (mkF m 95 #[.val (.long (12 : Int64)), .second] [(.long (12 : Int64))])) rfl (hb hby d2_95) _ ?_
    refine XS.lcmp X0.here hx rfl (hb hby d2_98) rfl ?_
    show Steps p.tables e below (s₁.setTop (mkF m 99 #[.val (.long (12 : Int64)), .second] [(.int (1 : Int32))])) _
    refine XS.ifYes X0.here hx rfl (pc0 := 99) (pc' := 106) rfl (hb hby d2_99) rfl (by decide) (by decide) (by decide) ?_
    refine sL X0 hx hby d2_106 rfl ?_
    refine X0.ldc2Long hx hown (mvT hZ (wk20 hw)) (g := (mkF m 107 #[.val (.long (12 : Int64)), .second] [(.long (12 : Int64))])) rfl (hb hby d2_107) _ ?_
    refine XS.lcmp X0.here hx rfl (hb hby d2_110) rfl ?_
    refine XS.ifYes X0.here hx rfl (pc0 := 111) (pc' := 118) rfl (hb hby d2_111) rfl (by decide) (by decide) (by decide) ?_
    show Steps p.tables e below (s₁.setTop (mkF m 118 #[.val (.long (12 : Int64)), .second] [])) _
    refine sL X0 hx hby d2_118 rfl ?_
    refine X0.ldc2Long hx hown (mvT hZ (wk21 hw)) (g := (mkF m 119 #[.val (.long (12 : Int64)), .second] [(.long (12 : Int64))])) rfl (hb hby d2_119) _ ?_
    refine XS.lcmp X0.here hx rfl (hb hby d2_122) rfl ?_
    refine XS.ifYes X0.here hx rfl (pc0 := 123) (pc' := 130) rfl (hb hby d2_123) rfl (by decide) (by decide) (by decide) ?_
    refine sL X0 hx hby d2_130 rfl ?_
    show Steps p.tables e below (s₁.setTop (mkF m 131 #[.val (.long (12 : Int64)), .second] [(.long (12 : Int64))])) _
    refine X0.ldc2Long hx hown (mvT hZ (wk22 hw)) (g := (mkF m 131 #[.val (.long (12 : Int64)), .second] [(.long (12 : Int64))])) rfl (hb hby d2_131) _ ?_
    refine XS.lcmp X0.here hx rfl (hb hby d2_134) rfl ?_
    refine sN X0 hx hby d2_135 (by decide) ?_
    refine st1 _ ?_
    jvm_step X1.here [X1.here.top, hx, (hb hby d2_141), X1.method', Bd.returns, Value.isRef, FieldType.isReference]
    first | (intro acts; rw [hr _ acts rfl rfl rfl]) | rw [hr _ _ rfl rfl rfl]
    exact Steps.refl _
  · show Q2_48 Z w h0 n0 _ T1.heap _
    rw [e1]
    exact ⟨rfl, N0, rfl⟩
theorem d2_150 : decode method_2_code 150 = .ok (.getstatic 70, 3) := by decide +kernel
theorem d2_153 : decode method_2_code 153 = .ok (.areturn, 1) := by decide +kernel
theorem ef_2_49 (m : MethodId) : entryFrame m #[(.long (13 : Int64))] 2 = mkF m 0 #[.val (.long (13 : Int64)), .second] [] := by first | (simp [entryFrame, mkF, argsToLocals, Value.category]; done) | rfl
def Q2_49 (Z : State) (w : Nat → Addr) (h0 : Heap) (n0 : Nat) (v : Option Value) (h : Heap) (L : List Loc) : Prop := v = some (.ref (w 3)) ∧ Fr n0 L ∧ h = h0
set_option maxRecDepth 65536 in
set_option maxHeartbeats 40000000 in
theorem rm2_49 (l : Launch) (Z : State) (a0 : Array Value) (hw : ∀ d ∈ tables_1, d.before a0 Z = true) (w : Nat → Addr) (hW : Wd Z w) (ws : List Jvm.Cond) (h0 : Heap) (n0 : Nat) (O0 : Old Z n0 h0) :
    MetFree l ym1 (head1 (Jvm.Cond.code ym1 method_2_code 2 (some (.object "com/example/ferrule/ferrule/io/TypeCode")) :: ws) ({ frames := 0, cells := 0, slots := 0, locals := 0 } : Room)) (fun a U => a = #[(.long (13 : Int64))] ∧ Z.Warmed39 U.vm ∧ U.heap = h0) (fun _ _ _ _ _ => True) (fun _ U o U' => ∃ v L, o = .returned v ∧ Q2_49 Z w h0 n0 v U'.heap L ∧ FrameEnd U o U' L ({ frames := 0, cells := 0, slots := 0, locals := 0 } : Room).cells ({ frames := 0, cells := 0, slots := 0, locals := 0 } : Room).slots) := by
  refine MetFree.of_bodySF (plainFor_of_name pnc_1) hisR ?_
  intro p e s m args below meth c s₁ Bd hml0 hP hK
  obtain ⟨rfl, hZ, hh⟩ := hP
  have hx := Bd.exec
  have hby := Bd.bytes
  have hml : c.maxLocals = 2 := hml0
  have hown : s.vm.findClass "com/example/ferrule/ferrule/io/TypeCodeOfPinLaw" = some m.cls := findClass_of_methodNamed Bd.named
  have hnm := (name_of_methodNamed Bd.named Bd.method).1
  have X0 : Stand p l e ({ frames := 0, cells := 0, slots := 0, locals := 0 } : Room) s m #[(.long (13 : Int64))] below meth c s₁ [] 0 0 := Stand.of_body Bd
  have e0 : s₁.heap = h0 := by rw [← hh, Bd.state]; rfl
  have N0 := Fr.nil n0
  skip
  have pre0 : ∀ t, Steps p.tables e below (s₁.setTop (mkF m 0 #[.val (.long (13 : Int64)), .second] [])) t → Steps p.tables e below (s₁.setTop (entryFrame m #[(.long (13 : Int64))] 2)) t := fun t k => castTop (ef_2_49 m) k
  obtain ⟨T1, X1, e1, st1⟩ := getS2 X0 hx hZ hown (host := "") (Or.inl (wk33 hw)) Via.refl e0 ((wd5 hW).ext O0.2) (g := (mkF m 150 #[.val (.long (13 : Int64)), .second] [])) rfl (hb hby d2_150)
  obtain ⟨fs, hr, hrun, hended, hWm, hsame⟩ := X1.leave (v := some (.ref (w 3))) (fun h => by rw [Bd.returns] at h; cases h)
  refine ⟨_, _, pre0 _ ?_, hrun, hended, _, _, rfl, ?_, ⟨_, rfl⟩, hWm, hsame.mono (by decide) (by decide)⟩
  · show Steps p.tables e below (s₁.setTop (mkF m 0 #[.val (.long (13 : Int64)), .second] [])) _
    refine sL X0 hx hby d2_0 rfl ?_
    refine XS.lconst X0.here hx rfl (hb hby d2_1) ?_
    refine XS.lcmp X0.here hx rfl (hb hby d2_2) rfl ?_
    refine XS.ifYes X0.here hx rfl (pc0 := 3) (pc' := 10) rfl (hb hby d2_3) rfl (by decide) (by decide) (by decide) ?_
    refine sL X0 hx hby d2_10 rfl ?_
    show Steps p.tables e below (s₁.setTop (mkF m 11 #[.val (.long (13 : Int64)), .second] [(.long (13 : Int64))])) _
    refine X0.ldc2Long hx hown (mvT hZ (wk11 hw)) (g := (mkF m 11 #[.val (.long (13 : Int64)), .second] [(.long (13 : Int64))])) rfl (hb hby d2_11) _ ?_
    refine XS.lcmp X0.here hx rfl (hb hby d2_14) rfl ?_
    refine XS.ifYes X0.here hx rfl (pc0 := 15) (pc' := 22) rfl (hb hby d2_15) rfl (by decide) (by decide) (by decide) ?_
    refine sL X0 hx hby d2_22 rfl ?_
    refine X0.ldc2Long hx hown (mvT hZ (wk12 hw)) (g := (mkF m 23 #[.val (.long (13 : Int64)), .second] [(.long (13 : Int64))])) rfl (hb hby d2_23) _ ?_
    show Steps p.tables e below (s₁.setTop (mkF m 26 #[.val (.long (13 : Int64)), .second] [(.long (3 : Int64)), (.long (13 : Int64))])) _
    refine XS.lcmp X0.here hx rfl (hb hby d2_26) rfl ?_
    refine XS.ifYes X0.here hx rfl (pc0 := 27) (pc' := 34) rfl (hb hby d2_27) rfl (by decide) (by decide) (by decide) ?_
    refine sL X0 hx hby d2_34 rfl ?_
    refine X0.ldc2Long hx hown (mvT hZ (wk14 hw)) (g := (mkF m 35 #[.val (.long (13 : Int64)), .second] [(.long (13 : Int64))])) rfl (hb hby d2_35) _ ?_
    refine XS.lcmp X0.here hx rfl (hb hby d2_38) rfl ?_
    show Steps p.tables e below (s₁.setTop (mkF m 39 #[.val (.long (13 : Int64)), .second] [(.int (1 : Int32))])) _
    refine XS.ifYes X0.here hx rfl (pc0 := 39) (pc' := 46) rfl (hb hby d2_39) rfl (by decide) (by decide) (by decide) ?_
    refine sL X0 hx hby d2_46 rfl ?_
    refine X0.ldc2Long hx hown (mvT hZ (wk15 hw)) (g := (mkF m 47 #[.val (.long (13 : Int64)), .second] [(.long (13 : Int64))])) rfl (hb hby d2_47) _ ?_
    refine XS.lcmp X0.here hx rfl (hb hby d2_50) rfl ?_
    refine XS.ifYes X0.here hx rfl (pc0 := 51) (pc' := 58) rfl (hb hby d2_51) rfl (by decide) (by decide) (by decide) ?_
    show Steps p.tables e below (s₁.setTop (mkF m 58 #[.val (.long (13 : Int64)), .second] [])) _
    refine sL X0 hx hby d2_58 rfl ?_
    refine X0.ldc2Long hx hown (mvT hZ (wk16 hw)) (g := (mkF m 59 #[.val (.long (13 : Int64)), .second] [(.long (13 : Int64))])) rfl (hb hby d2_59) _ ?_
    refine XS.lcmp X0.here hx rfl (hb hby d2_62) rfl ?_
    refine XS.ifYes X0.here hx rfl (pc0 := 63) (pc' := 70) rfl (hb hby d2_63) rfl (by decide) (by decide) (by decide) ?_
    refine sL X0 hx hby d2_70 rfl ?_
    show Steps p.tables e below (s₁.setTop (mkF m 71 #[.val (.long (13 : Int64)), .second] [(.long (13 : Int64))])) _
    refine X0.ldc2Long hx hown (mvT hZ (wk17 hw)) (g := (mkF m 71 #[.val (.long (13 : Int64)), .second] [(.long (13 : Int64))])) rfl (hb hby d2_71) _ ?_
    refine XS.lcmp X0.here hx rfl (hb hby d2_74) rfl ?_
    refine XS.ifYes X0.here hx rfl (pc0 := 75) (pc' := 82) rfl (hb hby d2_75) rfl (by decide) (by decide) (by decide) ?_
    refine sL X0 hx hby d2_82 rfl ?_
    refine X0.ldc2Long hx hown (mvT hZ (wk18 hw)) (g := (mkF m 83 #[.val (.long (13 : Int64)), .second] [(.long (13 : Int64))])) rfl (hb hby d2_83) _ ?_
    show Steps p.tables e below (s₁.setTop (mkF m 86 #[.val (.long (13 : Int64)), .second] [(.long (8 : Int64)), (.long (13 : Int64))])) _
    refine XS.lcmp X0.here hx rfl (hb hby d2_86) rfl ?_
    refine XS.ifYes X0.here hx rfl (pc0 := 87) (pc' := 94) rfl (hb hby d2_87) rfl (by decide) (by decide) (by decide) ?_
    refine sL X0 hx hby d2_94 rfl ?_
    refine X0.ldc2Long hx hown (mvT hZ (wk19 hw)) (g := (mkF m 95 #[.val (.long (13 : Int64)), .second] [(.long (13 : Int64))])) rfl (hb hby d2_95) _ ?_
    refine XS.lcmp X0.here hx rfl (hb hby d2_98) rfl ?_
    show Steps p.tables e below (s₁.setTop (mkF m 99 #[.val (.long (13 : Int64)), .second] [(.int (1 : Int32))])) _
    refine XS.ifYes X0.here hx rfl (pc0 := 99) (pc' := 106) rfl (hb hby d2_99) rfl (by decide) (by decide) (by decide) ?_
    refine sL X0 hx hby d2_106 rfl ?_
    refine X0.ldc2Long hx hown (mvT hZ (wk20 hw)) (g := (mkF m 107 #[.val (.long (13 : Int64)), .second] [(.long (13 : Int64))])) rfl (hb hby d2_107) _ ?_
    refine XS.lcmp X0.here hx rfl (hb hby d2_110) rfl ?_
    refine XS.ifYes X0.here hx rfl (pc0 := 111) (pc' := 118) rfl (hb hby d2_111) rfl (by decide) (by decide) (by decide) ?_
    show Steps p.tables e below (s₁.setTop (mkF m 118 #[.val (.long (13 : Int64)), .second] [])) _
    refine sL X0 hx hby d2_118 rfl ?_
    refine X0.ldc2Long hx hown (mvT hZ (wk21 hw)) (g := (mkF m 119 #[.val (.long (13 : Int64)), .second] [(.long (13 : Int64))])) rfl (hb hby d2_119) _ ?_
    refine XS.lcmp X0.here hx rfl (hb hby d2_122) rfl ?_
    refine XS.ifYes X0.here hx rfl (pc0 := 123) (pc' := 130) rfl (hb hby d2_123) rfl (by decide) (by decide) (by decide) ?_
    refine sL X0 hx hby d2_130 rfl ?_
    show Steps p.tables e below (s₁.setTop (mkF m 131 #[.val (.long (13 : Int64)), .second] [(.long (13 : Int64))])) _
    refine X0.ldc2Long hx hown (mvT hZ (wk22 hw)) (g := (mkF m 131 #[.val (.long (13 : Int64)), .second] [(.long (13 : Int64))])) rfl (hb hby d2_131) _ ?_
    refine XS.lcmp X0.here hx rfl (hb hby d2_134) rfl ?_
    refine XS.ifYes X0.here hx rfl (pc0 := 135) (pc' := 142) rfl (hb hby d2_135) rfl (by decide) (by decide) (by decide) ?_
    refine sL X0 hx hby d2_142 rfl ?_
    refine X0.ldc2Long hx hown (mvT hZ (wk23 hw)) (g := (mkF m 143 #[.val (.long (13 : Int64)), .second] [(.long (13 : Int64))])) rfl (hb hby d2_143) _ ?_
    show Steps p.tables e below (s₁.setTop (mkF m 146 #[.val (.long (13 : Int64)), .second] [(.long (13 : Int64)), (.long (13 : Int64))])) _
    refine XS.lcmp X0.here hx rfl (hb hby d2_146) rfl ?_
    refine sN X0 hx hby d2_147 (by decide) ?_
    refine st1 _ ?_
    jvm_step X1.here [X1.here.top, hx, (hb hby d2_153), X1.method', Bd.returns, Value.isRef, FieldType.isReference]
    first | (intro acts; rw [hr _ acts rfl rfl rfl]) | rw [hr _ _ rfl rfl rfl]
    exact Steps.refl _
  · show Q2_49 Z w h0 n0 _ T1.heap _
    rw [e1]
    exact ⟨rfl, N0, rfl⟩
theorem d2_162 : decode method_2_code 162 = .ok (.getstatic 75, 3) := by decide +kernel
theorem d2_165 : decode method_2_code 165 = .ok (.areturn, 1) := by decide +kernel
theorem ef_2_50 (m : MethodId) : entryFrame m #[(.long (14 : Int64))] 2 = mkF m 0 #[.val (.long (14 : Int64)), .second] [] := by first | (simp [entryFrame, mkF, argsToLocals, Value.category]; done) | rfl
def Q2_50 (Z : State) (w : Nat → Addr) (h0 : Heap) (n0 : Nat) (v : Option Value) (h : Heap) (L : List Loc) : Prop := v = some (.ref (w 8)) ∧ Fr n0 L ∧ h = h0
set_option maxRecDepth 65536 in
set_option maxHeartbeats 40000000 in
theorem rm2_50 (l : Launch) (Z : State) (a0 : Array Value) (hw : ∀ d ∈ tables_1, d.before a0 Z = true) (w : Nat → Addr) (hW : Wd Z w) (ws : List Jvm.Cond) (h0 : Heap) (n0 : Nat) (O0 : Old Z n0 h0) :
    MetFree l ym1 (head1 (Jvm.Cond.code ym1 method_2_code 2 (some (.object "com/example/ferrule/ferrule/io/TypeCode")) :: ws) ({ frames := 0, cells := 0, slots := 0, locals := 0 } : Room)) (fun a U => a = #[(.long (14 : Int64))] ∧ Z.Warmed39 U.vm ∧ U.heap = h0) (fun _ _ _ _ _ => True) (fun _ U o U' => ∃ v L, o = .returned v ∧ Q2_50 Z w h0 n0 v U'.heap L ∧ FrameEnd U o U' L ({ frames := 0, cells := 0, slots := 0, locals := 0 } : Room).cells ({ frames := 0, cells := 0, slots := 0, locals := 0 } : Room).slots) := by
  refine MetFree.of_bodySF (plainFor_of_name pnc_1) hisR ?_
  intro p e s m args below meth c s₁ Bd hml0 hP hK
  obtain ⟨rfl, hZ, hh⟩ := hP
  have hx := Bd.exec
  have hby := Bd.bytes
  have hml : c.maxLocals = 2 := hml0
  have hown : s.vm.findClass "com/example/ferrule/ferrule/io/TypeCodeOfPinLaw" = some m.cls := findClass_of_methodNamed Bd.named
  have hnm := (name_of_methodNamed Bd.named Bd.method).1
  have X0 : Stand p l e ({ frames := 0, cells := 0, slots := 0, locals := 0 } : Room) s m #[(.long (14 : Int64))] below meth c s₁ [] 0 0 := Stand.of_body Bd
  have e0 : s₁.heap = h0 := by rw [← hh, Bd.state]; rfl
  have N0 := Fr.nil n0
  skip
  have pre0 : ∀ t, Steps p.tables e below (s₁.setTop (mkF m 0 #[.val (.long (14 : Int64)), .second] [])) t → Steps p.tables e below (s₁.setTop (entryFrame m #[(.long (14 : Int64))] 2)) t := fun t k => castTop (ef_2_50 m) k
  obtain ⟨T1, X1, e1, st1⟩ := getS2 X0 hx hZ hown (host := "") (Or.inl (wk43 hw)) Via.refl e0 ((wd15 hW).ext O0.2) (g := (mkF m 162 #[.val (.long (14 : Int64)), .second] [])) rfl (hb hby d2_162)
  obtain ⟨fs, hr, hrun, hended, hWm, hsame⟩ := X1.leave (v := some (.ref (w 8))) (fun h => by rw [Bd.returns] at h; cases h)
  refine ⟨_, _, pre0 _ ?_, hrun, hended, _, _, rfl, ?_, ⟨_, rfl⟩, hWm, hsame.mono (by decide) (by decide)⟩
  · show Steps p.tables e below (s₁.setTop (mkF m 0 #[.val (.long (14 : Int64)), .second] [])) _
    refine sL X0 hx hby d2_0 rfl ?_
    refine XS.lconst X0.here hx rfl (hb hby d2_1) ?_
    refine XS.lcmp X0.here hx rfl (hb hby d2_2) rfl ?_
    refine XS.ifYes X0.here hx rfl (pc0 := 3) (pc' := 10) rfl (hb hby d2_3) rfl (by decide) (by decide) (by decide) ?_
    refine sL X0 hx hby d2_10 rfl ?_
    show Steps p.tables e below (s₁.setTop (mkF m 11 #[.val (.long (14 : Int64)), .second] [(.long (14 : Int64))])) _
    refine X0.ldc2Long hx hown (mvT hZ (wk11 hw)) (g := (mkF m 11 #[.val (.long (14 : Int64)), .second] [(.long (14 : Int64))])) rfl (hb hby d2_11) _ ?_
    refine XS.lcmp X0.here hx rfl (hb hby d2_14) rfl ?_
    refine XS.ifYes X0.here hx rfl (pc0 := 15) (pc' := 22) rfl (hb hby d2_15) rfl (by decide) (by decide) (by decide) ?_
    refine sL X0 hx hby d2_22 rfl ?_
    refine X0.ldc2Long hx hown (mvT hZ (wk12 hw)) (g := (mkF m 23 #[.val (.long (14 : Int64)), .second] [(.long (14 : Int64))])) rfl (hb hby d2_23) _ ?_
    show Steps p.tables e below (s₁.setTop (mkF m 26 #[.val (.long (14 : Int64)), .second] [(.long (3 : Int64)), (.long (14 : Int64))])) _
    refine XS.lcmp X0.here hx rfl (hb hby d2_26) rfl ?_
    refine XS.ifYes X0.here hx rfl (pc0 := 27) (pc' := 34) rfl (hb hby d2_27) rfl (by decide) (by decide) (by decide) ?_
    refine sL X0 hx hby d2_34 rfl ?_
    refine X0.ldc2Long hx hown (mvT hZ (wk14 hw)) (g := (mkF m 35 #[.val (.long (14 : Int64)), .second] [(.long (14 : Int64))])) rfl (hb hby d2_35) _ ?_
    refine XS.lcmp X0.here hx rfl (hb hby d2_38) rfl ?_
    show Steps p.tables e below (s₁.setTop (mkF m 39 #[.val (.long (14 : Int64)), .second] [(.int (1 : Int32))])) _
    refine XS.ifYes X0.here hx rfl (pc0 := 39) (pc' := 46) rfl (hb hby d2_39) rfl (by decide) (by decide) (by decide) ?_
    refine sL X0 hx hby d2_46 rfl ?_
    refine X0.ldc2Long hx hown (mvT hZ (wk15 hw)) (g := (mkF m 47 #[.val (.long (14 : Int64)), .second] [(.long (14 : Int64))])) rfl (hb hby d2_47) _ ?_
    refine XS.lcmp X0.here hx rfl (hb hby d2_50) rfl ?_
    refine XS.ifYes X0.here hx rfl (pc0 := 51) (pc' := 58) rfl (hb hby d2_51) rfl (by decide) (by decide) (by decide) ?_
    show Steps p.tables e below (s₁.setTop (mkF m 58 #[.val (.long (14 : Int64)), .second] [])) _
    refine sL X0 hx hby d2_58 rfl ?_
    refine X0.ldc2Long hx hown (mvT hZ (wk16 hw)) (g := (mkF m 59 #[.val (.long (14 : Int64)), .second] [(.long (14 : Int64))])) rfl (hb hby d2_59) _ ?_
    refine XS.lcmp X0.here hx rfl (hb hby d2_62) rfl ?_
    refine XS.ifYes X0.here hx rfl (pc0 := 63) (pc' := 70) rfl (hb hby d2_63) rfl (by decide) (by decide) (by decide) ?_
    refine sL X0 hx hby d2_70 rfl ?_
    show Steps p.tables e below (s₁.setTop (mkF m 71 #[.val (.long (14 : Int64)), .second] [(.long (14 : Int64))])) _
    refine X0.ldc2Long hx hown (mvT hZ (wk17 hw)) (g := (mkF m 71 #[.val (.long (14 : Int64)), .second] [(.long (14 : Int64))])) rfl (hb hby d2_71) _ ?_
    refine XS.lcmp X0.here hx rfl (hb hby d2_74) rfl ?_
    refine XS.ifYes X0.here hx rfl (pc0 := 75) (pc' := 82) rfl (hb hby d2_75) rfl (by decide) (by decide) (by decide) ?_
    refine sL X0 hx hby d2_82 rfl ?_
    refine X0.ldc2Long hx hown (mvT hZ (wk18 hw)) (g := (mkF m 83 #[.val (.long (14 : Int64)), .second] [(.long (14 : Int64))])) rfl (hb hby d2_83) _ ?_
    show Steps p.tables e below (s₁.setTop (mkF m 86 #[.val (.long (14 : Int64)), .second] [(.long (8 : Int64)), (.long (14 : Int64))])) _
    refine XS.lcmp X0.here hx rfl (hb hby d2_86) rfl ?_
    refine XS.ifYes X0.here hx rfl (pc0 := 87) (pc' := 94) rfl (hb hby d2_87) rfl (by decide) (by decide) (by decide) ?_
    refine sL X0 hx hby d2_94 rfl ?_
    refine X0.ldc2Long hx hown (mvT hZ (wk19 hw)) (g := (mkF m 95 #[.val (.long (14 : Int64)), .second] [(.long (14 : Int64))])) rfl (hb hby d2_95) _ ?_
    refine XS.lcmp X0.here hx rfl (hb hby d2_98) rfl ?_
    show Steps p.tables e below (s₁.setTop (mkF m 99 #[.val (.long (14 : Int64)), .second] [(.int (1 : Int32))])) _
    refine XS.ifYes X0.here hx rfl (pc0 := 99) (pc' := 106) rfl (hb hby d2_99) rfl (by decide) (by decide) (by decide) ?_
    refine sL X0 hx hby d2_106 rfl ?_
    refine X0.ldc2Long hx hown (mvT hZ (wk20 hw)) (g := (mkF m 107 #[.val (.long (14 : Int64)), .second] [(.long (14 : Int64))])) rfl (hb hby d2_107) _ ?_
    refine XS.lcmp X0.here hx rfl (hb hby d2_110) rfl ?_
    refine XS.ifYes X0.here hx rfl (pc0 := 111) (pc' := 118) rfl (hb hby d2_111) rfl (by decide) (by decide) (by decide) ?_
    show Steps p.tables e below (s₁.setTop (mkF m 118 #[.val (.long (14 : Int64)), .second] [])) _
    refine sL X0 hx hby d2_118 rfl ?_
    refine X0.ldc2Long hx hown (mvT hZ (wk21 hw)) (g := (mkF m 119 #[.val (.long (14 : Int64)), .second] [(.long (14 : Int64))])) rfl (hb hby d2_119) _ ?_
    refine XS.lcmp X0.here hx rfl (hb hby d2_122) rfl ?_
    refine XS.ifYes X0.here hx rfl (pc0 := 123) (pc' := 130) rfl (hb hby d2_123) rfl (by decide) (by decide) (by decide) ?_
    refine sL X0 hx hby d2_130 rfl ?_
    show Steps p.tables e below (s₁.setTop (mkF m 131 #[.val (.long (14 : Int64)), .second] [(.long (14 : Int64))])) _
    refine X0.ldc2Long hx hown (mvT hZ (wk22 hw)) (g := (mkF m 131 #[.val (.long (14 : Int64)), .second] [(.long (14 : Int64))])) rfl (hb hby d2_131) _ ?_
    refine XS.lcmp X0.here hx rfl (hb hby d2_134) rfl ?_
    refine XS.ifYes X0.here hx rfl (pc0 := 135) (pc' := 142) rfl (hb hby d2_135) rfl (by decide) (by decide) (by decide) ?_
    refine sL X0 hx hby d2_142 rfl ?_
    refine X0.ldc2Long hx hown (mvT hZ (wk23 hw)) (g := (mkF m 143 #[.val (.long (14 : Int64)), .second] [(.long (14 : Int64))])) rfl (hb hby d2_143) _ ?_
    show Steps p.tables e below (s₁.setTop (mkF m 146 #[.val (.long (14 : Int64)), .second] [(.long (13 : Int64)), (.long (14 : Int64))])) _
    refine XS.lcmp X0.here hx rfl (hb hby d2_146) rfl ?_
    refine XS.ifYes X0.here hx rfl (pc0 := 147) (pc' := 154) rfl (hb hby d2_147) rfl (by decide) (by decide) (by decide) ?_
    refine sL X0 hx hby d2_154 rfl ?_
    refine X0.ldc2Long hx hown (mvT hZ (wk24 hw)) (g := (mkF m 155 #[.val (.long (14 : Int64)), .second] [(.long (14 : Int64))])) rfl (hb hby d2_155) _ ?_
    refine XS.lcmp X0.here hx rfl (hb hby d2_158) rfl ?_
    show Steps p.tables e below (s₁.setTop (mkF m 159 #[.val (.long (14 : Int64)), .second] [(.int (0 : Int32))])) _
    refine sN X0 hx hby d2_159 (by decide) ?_
    refine st1 _ ?_
    jvm_step X1.here [X1.here.top, hx, (hb hby d2_165), X1.method', Bd.returns, Value.isRef, FieldType.isReference]
    first | (intro acts; rw [hr _ acts rfl rfl rfl]) | rw [hr _ _ rfl rfl rfl]
    exact Steps.refl _
  · show Q2_50 Z w h0 n0 _ T1.heap _
    rw [e1]
    exact ⟨rfl, N0, rfl⟩
theorem d2_174 : decode method_2_code 174 = .ok (.getstatic 80, 3) := by decide +kernel
theorem d2_177 : decode method_2_code 177 = .ok (.areturn, 1) := by decide +kernel
theorem ef_2_51 (m : MethodId) : entryFrame m #[(.long (15 : Int64))] 2 = mkF m 0 #[.val (.long (15 : Int64)), .second] [] := by first | (simp [entryFrame, mkF, argsToLocals, Value.category]; done) | rfl
def Q2_51 (Z : State) (w : Nat → Addr) (h0 : Heap) (n0 : Nat) (v : Option Value) (h : Heap) (L : List Loc) : Prop := v = some (.ref (w 6)) ∧ Fr n0 L ∧ h = h0
set_option maxRecDepth 65536 in
set_option maxHeartbeats 40000000 in
theorem rm2_51 (l : Launch) (Z : State) (a0 : Array Value) (hw : ∀ d ∈ tables_1, d.before a0 Z = true) (w : Nat → Addr) (hW : Wd Z w) (ws : List Jvm.Cond) (h0 : Heap) (n0 : Nat) (O0 : Old Z n0 h0) :
    MetFree l ym1 (head1 (Jvm.Cond.code ym1 method_2_code 2 (some (.object "com/example/ferrule/ferrule/io/TypeCode")) :: ws) ({ frames := 0, cells := 0, slots := 0, locals := 0 } : Room)) (fun a U => a = #[(.long (15 : Int64))] ∧ Z.Warmed39 U.vm ∧ U.heap = h0) (fun _ _ _ _ _ => True) (fun _ U o U' => ∃ v L, o = .returned v ∧ Q2_51 Z w h0 n0 v U'.heap L ∧ FrameEnd U o U' L ({ frames := 0, cells := 0, slots := 0, locals := 0 } : Room).cells ({ frames := 0, cells := 0, slots := 0, locals := 0 } : Room).slots) := by
  refine MetFree.of_bodySF (plainFor_of_name pnc_1) hisR ?_
  intro p e s m args below meth c s₁ Bd hml0 hP hK
  obtain ⟨rfl, hZ, hh⟩ := hP
  have hx := Bd.exec
  have hby := Bd.bytes
  have hml : c.maxLocals = 2 := hml0
  have hown : s.vm.findClass "com/example/ferrule/ferrule/io/TypeCodeOfPinLaw" = some m.cls := findClass_of_methodNamed Bd.named
  have hnm := (name_of_methodNamed Bd.named Bd.method).1
  have X0 : Stand p l e ({ frames := 0, cells := 0, slots := 0, locals := 0 } : Room) s m #[(.long (15 : Int64))] below meth c s₁ [] 0 0 := Stand.of_body Bd
  have e0 : s₁.heap = h0 := by rw [← hh, Bd.state]; rfl
  have N0 := Fr.nil n0
  skip
  have pre0 : ∀ t, Steps p.tables e below (s₁.setTop (mkF m 0 #[.val (.long (15 : Int64)), .second] [])) t → Steps p.tables e below (s₁.setTop (entryFrame m #[(.long (15 : Int64))] 2)) t := fun t k => castTop (ef_2_51 m) k
  obtain ⟨T1, X1, e1, st1⟩ := getS2 X0 hx hZ hown (host := "") (Or.inl (wk39 hw)) Via.refl e0 ((wd11 hW).ext O0.2) (g := (mkF m 174 #[.val (.long (15 : Int64)), .second] [])) rfl (hb hby d2_174)
  obtain ⟨fs, hr, hrun, hended, hWm, hsame⟩ := X1.leave (v := some (.ref (w 6))) (fun h => by rw [Bd.returns] at h; cases h)
  refine ⟨_, _, pre0 _ ?_, hrun, hended, _, _, rfl, ?_, ⟨_, rfl⟩, hWm, hsame.mono (by decide) (by decide)⟩
  · show Steps p.tables e below (s₁.setTop (mkF m 0 #[.val (.long (15 : Int64)), .second] [])) _
    refine sL X0 hx hby d2_0 rfl ?_
    refine XS.lconst X0.here hx rfl (hb hby d2_1) ?_
    refine XS.lcmp X0.here hx rfl (hb hby d2_2) rfl ?_
    refine XS.ifYes X0.here hx rfl (pc0 := 3) (pc' := 10) rfl (hb hby d2_3) rfl (by decide) (by decide) (by decide) ?_
    refine sL X0 hx hby d2_10 rfl ?_
    show Steps p.tables e below (s₁.setTop (mkF m 11 #[.val (.long (15 : Int64)), .second] [(.long (15 : Int64))])) _
    refine X0.ldc2Long hx hown (mvT hZ (wk11 hw)) (g := (mkF m 11 #[.val (.long (15 : Int64)), .second] [(.long (15 : Int64))])) rfl (hb hby d2_11) _ ?_
    refine XS.lcmp X0.here hx rfl (hb hby d2_14) rfl ?_
    refine XS.ifYes X0.here hx rfl (pc0 := 15) (pc' := 22) rfl (hb hby d2_15) rfl (by decide) (by decide) (by decide) ?_
    refine sL X0 hx hby d2_22 rfl ?_
    refine X0.ldc2Long hx hown (mvT hZ (wk12 hw)) (g := (mkF m 23 #[.val (.long (15 : Int64)), .second] [(.long (15 : Int64))])) rfl (hb hby d2_23) _ ?_
    show Steps p.tables e below (s₁.setTop (mkF m 26 #[.val (.long (15 : Int64)), .second] [(.long (3 : Int64)), (.long (15 : Int64))])) _
    refine XS.lcmp X0.here hx rfl (hb hby d2_26) rfl ?_
    refine XS.ifYes X0.here hx rfl (pc0 := 27) (pc' := 34) rfl (hb hby d2_27) rfl (by decide) (by decide) (by decide) ?_
    refine sL X0 hx hby d2_34 rfl ?_
    refine X0.ldc2Long hx hown (mvT hZ (wk14 hw)) (g := (mkF m 35 #[.val (.long (15 : Int64)), .second] [(.long (15 : Int64))])) rfl (hb hby d2_35) _ ?_
    refine XS.lcmp X0.here hx rfl (hb hby d2_38) rfl ?_
    show Steps p.tables e below (s₁.setTop (mkF m 39 #[.val (.long (15 : Int64)), .second] [(.int (1 : Int32))])) _
    refine XS.ifYes X0.here hx rfl (pc0 := 39) (pc' := 46) rfl (hb hby d2_39) rfl (by decide) (by decide) (by decide) ?_
    refine sL X0 hx hby d2_46 rfl ?_
    refine X0.ldc2Long hx hown (mvT hZ (wk15 hw)) (g := (mkF m 47 #[.val (.long (15 : Int64)), .second] [(.long (15 : Int64))])) rfl (hb hby d2_47) _ ?_
    refine XS.lcmp X0.here hx rfl (hb hby d2_50) rfl ?_
    refine XS.ifYes X0.here hx rfl (pc0 := 51) (pc' := 58) rfl (hb hby d2_51) rfl (by decide) (by decide) (by decide) ?_
    show Steps p.tables e below (s₁.setTop (mkF m 58 #[.val (.long (15 : Int64)), .second] [])) _
    refine sL X0 hx hby d2_58 rfl ?_
    refine X0.ldc2Long hx hown (mvT hZ (wk16 hw)) (g := (mkF m 59 #[.val (.long (15 : Int64)), .second] [(.long (15 : Int64))])) rfl (hb hby d2_59) _ ?_
    refine XS.lcmp X0.here hx rfl (hb hby d2_62) rfl ?_
    refine XS.ifYes X0.here hx rfl (pc0 := 63) (pc' := 70) rfl (hb hby d2_63) rfl (by decide) (by decide) (by decide) ?_
    refine sL X0 hx hby d2_70 rfl ?_
    show Steps p.tables e below (s₁.setTop (mkF m 71 #[.val (.long (15 : Int64)), .second] [(.long (15 : Int64))])) _
    refine X0.ldc2Long hx hown (mvT hZ (wk17 hw)) (g := (mkF m 71 #[.val (.long (15 : Int64)), .second] [(.long (15 : Int64))])) rfl (hb hby d2_71) _ ?_
    refine XS.lcmp X0.here hx rfl (hb hby d2_74) rfl ?_
    refine XS.ifYes X0.here hx rfl (pc0 := 75) (pc' := 82) rfl (hb hby d2_75) rfl (by decide) (by decide) (by decide) ?_
    refine sL X0 hx hby d2_82 rfl ?_
    refine X0.ldc2Long hx hown (mvT hZ (wk18 hw)) (g := (mkF m 83 #[.val (.long (15 : Int64)), .second] [(.long (15 : Int64))])) rfl (hb hby d2_83) _ ?_
    show Steps p.tables e below (s₁.setTop (mkF m 86 #[.val (.long (15 : Int64)), .second] [(.long (8 : Int64)), (.long (15 : Int64))])) _
    refine XS.lcmp X0.here hx rfl (hb hby d2_86) rfl ?_
    refine XS.ifYes X0.here hx rfl (pc0 := 87) (pc' := 94) rfl (hb hby d2_87) rfl (by decide) (by decide) (by decide) ?_
    refine sL X0 hx hby d2_94 rfl ?_
    refine X0.ldc2Long hx hown (mvT hZ (wk19 hw)) (g := (mkF m 95 #[.val (.long (15 : Int64)), .second] [(.long (15 : Int64))])) rfl (hb hby d2_95) _ ?_
    refine XS.lcmp X0.here hx rfl (hb hby d2_98) rfl ?_
    show Steps p.tables e below (s₁.setTop (mkF m 99 #[.val (.long (15 : Int64)), .second] [(.int (1 : Int32))])) _
    refine XS.ifYes X0.here hx rfl (pc0 := 99) (pc' := 106) rfl (hb hby d2_99) rfl (by decide) (by decide) (by decide) ?_
    refine sL X0 hx hby d2_106 rfl ?_
    refine X0.ldc2Long hx hown (mvT hZ (wk20 hw)) (g := (mkF m 107 #[.val (.long (15 : Int64)), .second] [(.long (15 : Int64))])) rfl (hb hby d2_107) _ ?_
    refine XS.lcmp X0.here hx rfl (hb hby d2_110) rfl ?_
    refine XS.ifYes X0.here hx rfl (pc0 := 111) (pc' := 118) rfl (hb hby d2_111) rfl (by decide) (by decide) (by decide) ?_
    show Steps p.tables e below (s₁.setTop (mkF m 118 #[.val (.long (15 : Int64)), .second] [])) _
    refine sL X0 hx hby d2_118 rfl ?_
    refine X0.ldc2Long hx hown (mvT hZ (wk21 hw)) (g := (mkF m 119 #[.val (.long (15 : Int64)), .second] [(.long (15 : Int64))])) rfl (hb hby d2_119) _ ?_
    refine XS.lcmp X0.here hx rfl (hb hby d2_122) rfl ?_
    refine XS.ifYes X0.here hx rfl (pc0 := 123) (pc' := 130) rfl (hb hby d2_123) rfl (by decide) (by decide) (by decide) ?_
    refine sL X0 hx hby d2_130 rfl ?_
    show Steps p.tables e below (s₁.setTop (mkF m 131 #[.val (.long (15 : Int64)), .second] [(.long (15 : Int64))])) _
    refine X0.ldc2Long hx hown (mvT hZ (wk22 hw)) (g := (mkF m 131 #[.val (.long (15 : Int64)), .second] [(.long (15 : Int64))])) rfl (hb hby d2_131) _ ?_
    refine XS.lcmp X0.here hx rfl (hb hby d2_134) rfl ?_
    refine XS.ifYes X0.here hx rfl (pc0 := 135) (pc' := 142) rfl (hb hby d2_135) rfl (by decide) (by decide) (by decide) ?_
    refine sL X0 hx hby d2_142 rfl ?_
    refine X0.ldc2Long hx hown (mvT hZ (wk23 hw)) (g := (mkF m 143 #[.val (.long (15 : Int64)), .second] [(.long (15 : Int64))])) rfl (hb hby d2_143) _ ?_
    show Steps p.tables e below (s₁.setTop (mkF m 146 #[.val (.long (15 : Int64)), .second] [(.long (13 : Int64)), (.long (15 : Int64))])) _
    refine XS.lcmp X0.here hx rfl (hb hby d2_146) rfl ?_
    refine XS.ifYes X0.here hx rfl (pc0 := 147) (pc' := 154) rfl (hb hby d2_147) rfl (by decide) (by decide) (by decide) ?_
    refine sL X0 hx hby d2_154 rfl ?_
    refine X0.ldc2Long hx hown (mvT hZ (wk24 hw)) (g := (mkF m 155 #[.val (.long (15 : Int64)), .second] [(.long (15 : Int64))])) rfl (hb hby d2_155) _ ?_
    refine XS.lcmp X0.here hx rfl (hb hby d2_158) rfl ?_
    show Steps p.tables e below (s₁.setTop (mkF m 159 #[.val (.long (15 : Int64)), .second] [(.int (1 : Int32))])) _
    refine XS.ifYes X0.here hx rfl (pc0 := 159) (pc' := 166) rfl (hb hby d2_159) rfl (by decide) (by decide) (by decide) ?_
    refine sL X0 hx hby d2_166 rfl ?_
    refine X0.ldc2Long hx hown (mvT hZ (wk25 hw)) (g := (mkF m 167 #[.val (.long (15 : Int64)), .second] [(.long (15 : Int64))])) rfl (hb hby d2_167) _ ?_
    refine XS.lcmp X0.here hx rfl (hb hby d2_170) rfl ?_
    refine sN X0 hx hby d2_171 (by decide) ?_
    show Steps p.tables e below (s₁.setTop (mkF m 174 #[.val (.long (15 : Int64)), .second] [])) _
    refine st1 _ ?_
    jvm_step X1.here [X1.here.top, hx, (hb hby d2_177), X1.method', Bd.returns, Value.isRef, FieldType.isReference]
    first | (intro acts; rw [hr _ acts rfl rfl rfl]) | rw [hr _ _ rfl rfl rfl]
    exact Steps.refl _
  · show Q2_51 Z w h0 n0 _ T1.heap _
    rw [e1]
    exact ⟨rfl, N0, rfl⟩
theorem d2_186 : decode method_2_code 186 = .ok (.getstatic 85, 3) := by decide +kernel
theorem d2_189 : decode method_2_code 189 = .ok (.areturn, 1) := by decide +kernel
theorem ef_2_52 (m : MethodId) : entryFrame m #[(.long (16 : Int64))] 2 = mkF m 0 #[.val (.long (16 : Int64)), .second] [] := by first | (simp [entryFrame, mkF, argsToLocals, Value.category]; done) | rfl
def Q2_52 (Z : State) (w : Nat → Addr) (h0 : Heap) (n0 : Nat) (v : Option Value) (h : Heap) (L : List Loc) : Prop := v = some (.ref (w 19)) ∧ Fr n0 L ∧ h = h0
set_option maxRecDepth 65536 in
set_option maxHeartbeats 40000000 in
theorem rm2_52 (l : Launch) (Z : State) (a0 : Array Value) (hw : ∀ d ∈ tables_1, d.before a0 Z = true) (w : Nat → Addr) (hW : Wd Z w) (ws : List Jvm.Cond) (h0 : Heap) (n0 : Nat) (O0 : Old Z n0 h0) :
    MetFree l ym1 (head1 (Jvm.Cond.code ym1 method_2_code 2 (some (.object "com/example/ferrule/ferrule/io/TypeCode")) :: ws) ({ frames := 0, cells := 0, slots := 0, locals := 0 } : Room)) (fun a U => a = #[(.long (16 : Int64))] ∧ Z.Warmed39 U.vm ∧ U.heap = h0) (fun _ _ _ _ _ => True) (fun _ U o U' => ∃ v L, o = .returned v ∧ Q2_52 Z w h0 n0 v U'.heap L ∧ FrameEnd U o U' L ({ frames := 0, cells := 0, slots := 0, locals := 0 } : Room).cells ({ frames := 0, cells := 0, slots := 0, locals := 0 } : Room).slots) := by
  refine MetFree.of_bodySF (plainFor_of_name pnc_1) hisR ?_
  intro p e s m args below meth c s₁ Bd hml0 hP hK
  obtain ⟨rfl, hZ, hh⟩ := hP
  have hx := Bd.exec
  have hby := Bd.bytes
  have hml : c.maxLocals = 2 := hml0
  have hown : s.vm.findClass "com/example/ferrule/ferrule/io/TypeCodeOfPinLaw" = some m.cls := findClass_of_methodNamed Bd.named
  have hnm := (name_of_methodNamed Bd.named Bd.method).1
  have X0 : Stand p l e ({ frames := 0, cells := 0, slots := 0, locals := 0 } : Room) s m #[(.long (16 : Int64))] below meth c s₁ [] 0 0 := Stand.of_body Bd
  have e0 : s₁.heap = h0 := by rw [← hh, Bd.state]; rfl
  have N0 := Fr.nil n0
  skip
  have pre0 : ∀ t, Steps p.tables e below (s₁.setTop (mkF m 0 #[.val (.long (16 : Int64)), .second] [])) t → Steps p.tables e below (s₁.setTop (entryFrame m #[(.long (16 : Int64))] 2)) t := fun t k => castTop (ef_2_52 m) k
  obtain ⟨T1, X1, e1, st1⟩ := getS2 X0 hx hZ hown (host := "") (Or.inl (wk65 hw)) Via.refl e0 ((wd37 hW).ext O0.2) (g := (mkF m 186 #[.val (.long (16 : Int64)), .second] [])) rfl (hb hby d2_186)
  obtain ⟨fs, hr, hrun, hended, hWm, hsame⟩ := X1.leave (v := some (.ref (w 19))) (fun h => by rw [Bd.returns] at h; cases h)
  refine ⟨_, _, pre0 _ ?_, hrun, hended, _, _, rfl, ?_, ⟨_, rfl⟩, hWm, hsame.mono (by decide) (by decide)⟩
  · show Steps p.tables e below (s₁.setTop (mkF m 0 #[.val (.long (16 : Int64)), .second] [])) _
    refine sL X0 hx hby d2_0 rfl ?_
    refine XS.lconst X0.here hx rfl (hb hby d2_1) ?_
    refine XS.lcmp X0.here hx rfl (hb hby d2_2) rfl ?_
    refine XS.ifYes X0.here hx rfl (pc0 := 3) (pc' := 10) rfl (hb hby d2_3) rfl (by decide) (by decide) (by decide) ?_
    refine sL X0 hx hby d2_10 rfl ?_
    show Steps p.tables e below (s₁.setTop (mkF m 11 #[.val (.long (16 : Int64)), .second] [(.long (16 : Int64))])) _
    refine X0.ldc2Long hx hown (mvT hZ (wk11 hw)) (g := (mkF m 11 #[.val (.long (16 : Int64)), .second] [(.long (16 : Int64))])) rfl (hb hby d2_11) _ ?_
    refine XS.lcmp X0.here hx rfl (hb hby d2_14) rfl ?_
    refine XS.ifYes X0.here hx rfl (pc0 := 15) (pc' := 22) rfl (hb hby d2_15) rfl (by decide) (by decide) (by decide) ?_
    refine sL X0 hx hby d2_22 rfl ?_
    refine X0.ldc2Long hx hown (mvT hZ (wk12 hw)) (g := (mkF m 23 #[.val (.long (16 : Int64)), .second] [(.long (16 : Int64))])) rfl (hb hby d2_23) _ ?_
    show Steps p.tables e below (s₁.setTop (mkF m 26 #[.val (.long (16 : Int64)), .second] [(.long (3 : Int64)), (.long (16 : Int64))])) _
    refine XS.lcmp X0.here hx rfl (hb hby d2_26) rfl ?_
    refine XS.ifYes X0.here hx rfl (pc0 := 27) (pc' := 34) rfl (hb hby d2_27) rfl (by decide) (by decide) (by decide) ?_
    refine sL X0 hx hby d2_34 rfl ?_
    refine X0.ldc2Long hx hown (mvT hZ (wk14 hw)) (g := (mkF m 35 #[.val (.long (16 : Int64)), .second] [(.long (16 : Int64))])) rfl (hb hby d2_35) _ ?_
    refine XS.lcmp X0.here hx rfl (hb hby d2_38) rfl ?_
    show Steps p.tables e below (s₁.setTop (mkF m 39 #[.val (.long (16 : Int64)), .second] [(.int (1 : Int32))])) _
    refine XS.ifYes X0.here hx rfl (pc0 := 39) (pc' := 46) rfl (hb hby d2_39) rfl (by decide) (by decide) (by decide) ?_
    refine sL X0 hx hby d2_46 rfl ?_
    refine X0.ldc2Long hx hown (mvT hZ (wk15 hw)) (g := (mkF m 47 #[.val (.long (16 : Int64)), .second] [(.long (16 : Int64))])) rfl (hb hby d2_47) _ ?_
    refine XS.lcmp X0.here hx rfl (hb hby d2_50) rfl ?_
    refine XS.ifYes X0.here hx rfl (pc0 := 51) (pc' := 58) rfl (hb hby d2_51) rfl (by decide) (by decide) (by decide) ?_
    show Steps p.tables e below (s₁.setTop (mkF m 58 #[.val (.long (16 : Int64)), .second] [])) _
    refine sL X0 hx hby d2_58 rfl ?_
    refine X0.ldc2Long hx hown (mvT hZ (wk16 hw)) (g := (mkF m 59 #[.val (.long (16 : Int64)), .second] [(.long (16 : Int64))])) rfl (hb hby d2_59) _ ?_
    refine XS.lcmp X0.here hx rfl (hb hby d2_62) rfl ?_
    refine XS.ifYes X0.here hx rfl (pc0 := 63) (pc' := 70) rfl (hb hby d2_63) rfl (by decide) (by decide) (by decide) ?_
    refine sL X0 hx hby d2_70 rfl ?_
    show Steps p.tables e below (s₁.setTop (mkF m 71 #[.val (.long (16 : Int64)), .second] [(.long (16 : Int64))])) _
    refine X0.ldc2Long hx hown (mvT hZ (wk17 hw)) (g := (mkF m 71 #[.val (.long (16 : Int64)), .second] [(.long (16 : Int64))])) rfl (hb hby d2_71) _ ?_
    refine XS.lcmp X0.here hx rfl (hb hby d2_74) rfl ?_
    refine XS.ifYes X0.here hx rfl (pc0 := 75) (pc' := 82) rfl (hb hby d2_75) rfl (by decide) (by decide) (by decide) ?_
    refine sL X0 hx hby d2_82 rfl ?_
    refine X0.ldc2Long hx hown (mvT hZ (wk18 hw)) (g := (mkF m 83 #[.val (.long (16 : Int64)), .second] [(.long (16 : Int64))])) rfl (hb hby d2_83) _ ?_
    show Steps p.tables e below (s₁.setTop (mkF m 86 #[.val (.long (16 : Int64)), .second] [(.long (8 : Int64)), (.long (16 : Int64))])) _
    refine XS.lcmp X0.here hx rfl (hb hby d2_86) rfl ?_
    refine XS.ifYes X0.here hx rfl (pc0 := 87) (pc' := 94) rfl (hb hby d2_87) rfl (by decide) (by decide) (by decide) ?_
    refine sL X0 hx hby d2_94 rfl ?_
    refine X0.ldc2Long hx hown (mvT hZ (wk19 hw)) (g := (mkF m 95 #[.val (.long (16 : Int64)), .second] [(.long (16 : Int64))])) rfl (hb hby d2_95) _ ?_
    refine XS.lcmp X0.here hx rfl (hb hby d2_98) rfl ?_
    show Steps p.tables e below (s₁.setTop (mkF m 99 #[.val (.long (16 : Int64)), .second] [(.int (1 : Int32))])) _
    refine XS.ifYes X0.here hx rfl (pc0 := 99) (pc' := 106) rfl (hb hby d2_99) rfl (by decide) (by decide) (by decide) ?_
    refine sL X0 hx hby d2_106 rfl ?_
    refine X0.ldc2Long hx hown (mvT hZ (wk20 hw)) (g := (mkF m 107 #[.val (.long (16 : Int64)), .second] [(.long (16 : Int64))])) rfl (hb hby d2_107) _ ?_
    refine XS.lcmp X0.here hx rfl (hb hby d2_110) rfl ?_
    refine XS.ifYes X0.here hx rfl (pc0 := 111) (pc' := 118) rfl (hb hby d2_111) rfl (by decide) (by decide) (by decide) ?_
    show Steps p.tables e below (s₁.setTop (mkF m 118 #[.val (.long (16 : Int64)), .second] [])) _
    refine sL X0 hx hby d2_118 rfl ?_
    refine X0.ldc2Long hx hown (mvT hZ (wk21 hw)) (g := (mkF m 119 #[.val (.long (16 : Int64)), .second] [(.long (16 : Int64))])) rfl (hb hby d2_119) _ ?_
    refine XS.lcmp X0.here hx rfl (hb hby d2_122) rfl ?_
    refine XS.ifYes X0.here hx rfl (pc0 := 123) (pc' := 130) rfl (hb hby d2_123) rfl (by decide) (by decide) (by decide) ?_
    refine sL X0 hx hby d2_130 rfl ?_
    show Steps p.tables e below (s₁.setTop (mkF m 131 #[.val (.long (16 : Int64)), .second] [(.long (16 : Int64))])) _
    refine X0.ldc2Long hx hown (mvT hZ (wk22 hw)) (g := (mkF m 131 #[.val (.long (16 : Int64)), .second] [(.long (16 : Int64))])) rfl (hb hby d2_131) _ ?_
    refine XS.lcmp X0.here hx rfl (hb hby d2_134) rfl ?_
    refine XS.ifYes X0.here hx rfl (pc0 := 135) (pc' := 142) rfl (hb hby d2_135) rfl (by decide) (by decide) (by decide) ?_
    refine sL X0 hx hby d2_142 rfl ?_
    refine X0.ldc2Long hx hown (mvT hZ (wk23 hw)) (g := (mkF m 143 #[.val (.long (16 : Int64)), .second] [(.long (16 : Int64))])) rfl (hb hby d2_143) _ ?_
    show Steps p.tables e below (s₁.setTop (mkF m 146 #[.val (.long (16 : Int64)), .second] [(.long (13 : Int64)), (.long (16 : Int64))])) _
    refine XS.lcmp X0.here hx rfl (hb hby d2_146) rfl ?_
    refine XS.ifYes X0.here hx rfl (pc0 := 147) (pc' := 154) rfl (hb hby d2_147) rfl (by decide) (by decide) (by decide) ?_
    refine sL X0 hx hby d2_154 rfl ?_
    refine X0.ldc2Long hx hown (mvT hZ (wk24 hw)) (g := (mkF m 155 #[.val (.long (16 : Int64)), .second] [(.long (16 : Int64))])) rfl (hb hby d2_155) _ ?_
    refine XS.lcmp X0.here hx rfl (hb hby d2_158) rfl ?_
    show Steps p.tables e below (s₁.setTop (mkF m 159 #[.val (.long (16 : Int64)), .second] [(.int (1 : Int32))])) _
    refine XS.ifYes X0.here hx rfl (pc0 := 159) (pc' := 166) rfl (hb hby d2_159) rfl (by decide) (by decide) (by decide) ?_
    refine sL X0 hx hby d2_166 rfl ?_
    refine X0.ldc2Long hx hown (mvT hZ (wk25 hw)) (g := (mkF m 167 #[.val (.long (16 : Int64)), .second] [(.long (16 : Int64))])) rfl (hb hby d2_167) _ ?_
    refine XS.lcmp X0.here hx rfl (hb hby d2_170) rfl ?_
    refine XS.ifYes X0.here hx rfl (pc0 := 171) (pc' := 178) rfl (hb hby d2_171) rfl (by decide) (by decide) (by decide) ?_
    show Steps p.tables e below (s₁.setTop (mkF m 178 #[.val (.long (16 : Int64)), .second] [])) _
    refine sL X0 hx hby d2_178 rfl ?_
    refine X0.ldc2Long hx hown (mvT hZ (wk26 hw)) (g := (mkF m 179 #[.val (.long (16 : Int64)), .second] [(.long (16 : Int64))])) rfl (hb hby d2_179) _ ?_
    refine XS.lcmp X0.here hx rfl (hb hby d2_182) rfl ?_
    refine sN X0 hx hby d2_183 (by decide) ?_
    refine st1 _ ?_
    jvm_step X1.here [X1.here.top, hx, (hb hby d2_189), X1.method', Bd.returns, Value.isRef, FieldType.isReference]
    first | (intro acts; rw [hr _ acts rfl rfl rfl]) | rw [hr _ _ rfl rfl rfl]
    exact Steps.refl _
  · show Q2_52 Z w h0 n0 _ T1.heap _
    rw [e1]
    exact ⟨rfl, N0, rfl⟩
theorem d2_198 : decode method_2_code 198 = .ok (.getstatic 90, 3) := by decide +kernel
theorem d2_201 : decode method_2_code 201 = .ok (.areturn, 1) := by decide +kernel
theorem ef_2_53 (m : MethodId) : entryFrame m #[(.long (17 : Int64))] 2 = mkF m 0 #[.val (.long (17 : Int64)), .second] [] := by first | (simp [entryFrame, mkF, argsToLocals, Value.category]; done) | rfl
def Q2_53 (Z : State) (w : Nat → Addr) (h0 : Heap) (n0 : Nat) (v : Option Value) (h : Heap) (L : List Loc) : Prop := v = some (.ref (w 17)) ∧ Fr n0 L ∧ h = h0
set_option maxRecDepth 65536 in
set_option maxHeartbeats 40000000 in
theorem rm2_53 (l : Launch) (Z : State) (a0 : Array Value) (hw : ∀ d ∈ tables_1, d.before a0 Z = true) (w : Nat → Addr) (hW : Wd Z w) (ws : List Jvm.Cond) (h0 : Heap) (n0 : Nat) (O0 : Old Z n0 h0) :
    MetFree l ym1 (head1 (Jvm.Cond.code ym1 method_2_code 2 (some (.object "com/example/ferrule/ferrule/io/TypeCode")) :: ws) ({ frames := 0, cells := 0, slots := 0, locals := 0 } : Room)) (fun a U => a = #[(.long (17 : Int64))] ∧ Z.Warmed39 U.vm ∧ U.heap = h0) (fun _ _ _ _ _ => True) (fun _ U o U' => ∃ v L, o = .returned v ∧ Q2_53 Z w h0 n0 v U'.heap L ∧ FrameEnd U o U' L ({ frames := 0, cells := 0, slots := 0, locals := 0 } : Room).cells ({ frames := 0, cells := 0, slots := 0, locals := 0 } : Room).slots) := by
  refine MetFree.of_bodySF (plainFor_of_name pnc_1) hisR ?_
  intro p e s m args below meth c s₁ Bd hml0 hP hK
  obtain ⟨rfl, hZ, hh⟩ := hP
  have hx := Bd.exec
  have hby := Bd.bytes
  have hml : c.maxLocals = 2 := hml0
  have hown : s.vm.findClass "com/example/ferrule/ferrule/io/TypeCodeOfPinLaw" = some m.cls := findClass_of_methodNamed Bd.named
  have hnm := (name_of_methodNamed Bd.named Bd.method).1
  have X0 : Stand p l e ({ frames := 0, cells := 0, slots := 0, locals := 0 } : Room) s m #[(.long (17 : Int64))] below meth c s₁ [] 0 0 := Stand.of_body Bd
  have e0 : s₁.heap = h0 := by rw [← hh, Bd.state]; rfl
  have N0 := Fr.nil n0
  skip
  have pre0 : ∀ t, Steps p.tables e below (s₁.setTop (mkF m 0 #[.val (.long (17 : Int64)), .second] [])) t → Steps p.tables e below (s₁.setTop (entryFrame m #[(.long (17 : Int64))] 2)) t := fun t k => castTop (ef_2_53 m) k
  obtain ⟨T1, X1, e1, st1⟩ := getS2 X0 hx hZ hown (host := "") (Or.inl (wk61 hw)) Via.refl e0 ((wd33 hW).ext O0.2) (g := (mkF m 198 #[.val (.long (17 : Int64)), .second] [])) rfl (hb hby d2_198)
  obtain ⟨fs, hr, hrun, hended, hWm, hsame⟩ := X1.leave (v := some (.ref (w 17))) (fun h => by rw [Bd.returns] at h; cases h)
  refine ⟨_, _, pre0 _ ?_, hrun, hended, _, _, rfl, ?_, ⟨_, rfl⟩, hWm, hsame.mono (by decide) (by decide)⟩
  · show Steps p.tables e below (s₁.setTop (mkF m 0 #[.val (.long (17 : Int64)), .second] [])) _
    refine sL X0 hx hby d2_0 rfl ?_
    refine XS.lconst X0.here hx rfl (hb hby d2_1) ?_
    refine XS.lcmp X0.here hx rfl (hb hby d2_2) rfl ?_
    refine XS.ifYes X0.here hx rfl (pc0 := 3) (pc' := 10) rfl (hb hby d2_3) rfl (by decide) (by decide) (by decide) ?_
    refine sL X0 hx hby d2_10 rfl ?_
    show Steps p.tables e below (s₁.setTop (mkF m 11 #[.val (.long (17 : Int64)), .second] [(.long (17 : Int64))])) _
    refine X0.ldc2Long hx hown (mvT hZ (wk11 hw)) (g := (mkF m 11 #[.val (.long (17 : Int64)), .second] [(.long (17 : Int64))])) rfl (hb hby d2_11) _ ?_
    refine XS.lcmp X0.here hx rfl (hb hby d2_14) rfl ?_
    refine XS.ifYes X0.here hx rfl (pc0 := 15) (pc' := 22) rfl (hb hby d2_15) rfl (by decide) (by decide) (by decide) ?_
    refine sL X0 hx hby d2_22 rfl ?_
    refine X0.ldc2Long hx hown (mvT hZ (wk12 hw)) (g := (mkF m 23 #[.val (.long (17 : Int64)), .second] [(.long (17 : Int64))])) rfl (hb hby d2_23) _ ?_
    show Steps p.tables e below (s₁.setTop (mkF m 26 #[.val (.long (17 : Int64)), .second] [(.long (3 : Int64)), (.long (17 : Int64))])) _
    refine XS.lcmp X0.here hx rfl (hb hby d2_26) rfl ?_
    refine XS.ifYes X0.here hx rfl (pc0 := 27) (pc' := 34) rfl (hb hby d2_27) rfl (by decide) (by decide) (by decide) ?_
    refine sL X0 hx hby d2_34 rfl ?_
    refine X0.ldc2Long hx hown (mvT hZ (wk14 hw)) (g := (mkF m 35 #[.val (.long (17 : Int64)), .second] [(.long (17 : Int64))])) rfl (hb hby d2_35) _ ?_
    refine XS.lcmp X0.here hx rfl (hb hby d2_38) rfl ?_
    show Steps p.tables e below (s₁.setTop (mkF m 39 #[.val (.long (17 : Int64)), .second] [(.int (1 : Int32))])) _
    refine XS.ifYes X0.here hx rfl (pc0 := 39) (pc' := 46) rfl (hb hby d2_39) rfl (by decide) (by decide) (by decide) ?_
    refine sL X0 hx hby d2_46 rfl ?_
    refine X0.ldc2Long hx hown (mvT hZ (wk15 hw)) (g := (mkF m 47 #[.val (.long (17 : Int64)), .second] [(.long (17 : Int64))])) rfl (hb hby d2_47) _ ?_
    refine XS.lcmp X0.here hx rfl (hb hby d2_50) rfl ?_
    refine XS.ifYes X0.here hx rfl (pc0 := 51) (pc' := 58) rfl (hb hby d2_51) rfl (by decide) (by decide) (by decide) ?_
    show Steps p.tables e below (s₁.setTop (mkF m 58 #[.val (.long (17 : Int64)), .second] [])) _
    refine sL X0 hx hby d2_58 rfl ?_
    refine X0.ldc2Long hx hown (mvT hZ (wk16 hw)) (g := (mkF m 59 #[.val (.long (17 : Int64)), .second] [(.long (17 : Int64))])) rfl (hb hby d2_59) _ ?_
    refine XS.lcmp X0.here hx rfl (hb hby d2_62) rfl ?_
    refine XS.ifYes X0.here hx rfl (pc0 := 63) (pc' := 70) rfl (hb hby d2_63) rfl (by decide) (by decide) (by decide) ?_
    refine sL X0 hx hby d2_70 rfl ?_
    show Steps p.tables e below (s₁.setTop (mkF m 71 #[.val (.long (17 : Int64)), .second] [(.long (17 : Int64))])) _
    refine X0.ldc2Long hx hown (mvT hZ (wk17 hw)) (g := (mkF m 71 #[.val (.long (17 : Int64)), .second] [(.long (17 : Int64))])) rfl (hb hby d2_71) _ ?_
    refine XS.lcmp X0.here hx rfl (hb hby d2_74) rfl ?_
    refine XS.ifYes X0.here hx rfl (pc0 := 75) (pc' := 82) rfl (hb hby d2_75) rfl (by decide) (by decide) (by decide) ?_
    refine sL X0 hx hby d2_82 rfl ?_
    refine X0.ldc2Long hx hown (mvT hZ (wk18 hw)) (g := (mkF m 83 #[.val (.long (17 : Int64)), .second] [(.long (17 : Int64))])) rfl (hb hby d2_83) _ ?_
    show Steps p.tables e below (s₁.setTop (mkF m 86 #[.val (.long (17 : Int64)), .second] [(.long (8 : Int64)), (.long (17 : Int64))])) _
    refine XS.lcmp X0.here hx rfl (hb hby d2_86) rfl ?_
    refine XS.ifYes X0.here hx rfl (pc0 := 87) (pc' := 94) rfl (hb hby d2_87) rfl (by decide) (by decide) (by decide) ?_
    refine sL X0 hx hby d2_94 rfl ?_
    refine X0.ldc2Long hx hown (mvT hZ (wk19 hw)) (g := (mkF m 95 #[.val (.long (17 : Int64)), .second] [(.long (17 : Int64))])) rfl (hb hby d2_95) _ ?_
    refine XS.lcmp X0.here hx rfl (hb hby d2_98) rfl ?_
    show Steps p.tables e below (s₁.setTop (mkF m 99 #[.val (.long (17 : Int64)), .second] [(.int (1 : Int32))])) _
    refine XS.ifYes X0.here hx rfl (pc0 := 99) (pc' := 106) rfl (hb hby d2_99) rfl (by decide) (by decide) (by decide) ?_
    refine sL X0 hx hby d2_106 rfl ?_
    refine X0.ldc2Long hx hown (mvT hZ (wk20 hw)) (g := (mkF m 107 #[.val (.long (17 : Int64)), .second] [(.long (17 : Int64))])) rfl (hb hby d2_107) _ ?_
    refine XS.lcmp X0.here hx rfl (hb hby d2_110) rfl ?_
    refine XS.ifYes X0.here hx rfl (pc0 := 111) (pc' := 118) rfl (hb hby d2_111) rfl (by decide) (by decide) (by decide) ?_
    show Steps p.tables e below (s₁.setTop (mkF m 118 #[.val (.long (17 : Int64)), .second] [])) _
    refine sL X0 hx hby d2_118 rfl ?_
    refine X0.ldc2Long hx hown (mvT hZ (wk21 hw)) (g := (mkF m 119 #[.val (.long (17 : Int64)), .second] [(.long (17 : Int64))])) rfl (hb hby d2_119) _ ?_
    refine XS.lcmp X0.here hx rfl (hb hby d2_122) rfl ?_
    refine XS.ifYes X0.here hx rfl (pc0 := 123) (pc' := 130) rfl (hb hby d2_123) rfl (by decide) (by decide) (by decide) ?_
    refine sL X0 hx hby d2_130 rfl ?_
    show Steps p.tables e below (s₁.setTop (mkF m 131 #[.val (.long (17 : Int64)), .second] [(.long (17 : Int64))])) _
    refine X0.ldc2Long hx hown (mvT hZ (wk22 hw)) (g := (mkF m 131 #[.val (.long (17 : Int64)), .second] [(.long (17 : Int64))])) rfl (hb hby d2_131) _ ?_
    refine XS.lcmp X0.here hx rfl (hb hby d2_134) rfl ?_
    refine XS.ifYes X0.here hx rfl (pc0 := 135) (pc' := 142) rfl (hb hby d2_135) rfl (by decide) (by decide) (by decide) ?_
    refine sL X0 hx hby d2_142 rfl ?_
    refine X0.ldc2Long hx hown (mvT hZ (wk23 hw)) (g := (mkF m 143 #[.val (.long (17 : Int64)), .second] [(.long (17 : Int64))])) rfl (hb hby d2_143) _ ?_
    show Steps p.tables e below (s₁.setTop (mkF m 146 #[.val (.long (17 : Int64)), .second] [(.long (13 : Int64)), (.long (17 : Int64))])) _
    refine XS.lcmp X0.here hx rfl (hb hby d2_146) rfl ?_
    refine XS.ifYes X0.here hx rfl (pc0 := 147) (pc' := 154) rfl (hb hby d2_147) rfl (by decide) (by decide) (by decide) ?_
    refine sL X0 hx hby d2_154 rfl ?_
    refine X0.ldc2Long hx hown (mvT hZ (wk24 hw)) (g := (mkF m 155 #[.val (.long (17 : Int64)), .second] [(.long (17 : Int64))])) rfl (hb hby d2_155) _ ?_
    refine XS.lcmp X0.here hx rfl (hb hby d2_158) rfl ?_
    show Steps p.tables e below (s₁.setTop (mkF m 159 #[.val (.long (17 : Int64)), .second] [(.int (1 : Int32))])) _
    refine XS.ifYes X0.here hx rfl (pc0 := 159) (pc' := 166) rfl (hb hby d2_159) rfl (by decide) (by decide) (by decide) ?_
    refine sL X0 hx hby d2_166 rfl ?_
    refine X0.ldc2Long hx hown (mvT hZ (wk25 hw)) (g := (mkF m 167 #[.val (.long (17 : Int64)), .second] [(.long (17 : Int64))])) rfl (hb hby d2_167) _ ?_
    refine XS.lcmp X0.here hx rfl (hb hby d2_170) rfl ?_
    refine XS.ifYes X0.here hx rfl (pc0 := 171) (pc' := 178) rfl (hb hby d2_171) rfl (by decide) (by decide) (by decide) ?_
    show Steps p.tables e below (s₁.setTop (mkF m 178 #[.val (.long (17 : Int64)), .second] [])) _
    refine sL X0 hx hby d2_178 rfl ?_
    refine X0.ldc2Long hx hown (mvT hZ (wk26 hw)) (g := (mkF m 179 #[.val (.long (17 : Int64)), .second] [(.long (17 : Int64))])) rfl (hb hby d2_179) _ ?_
    refine XS.lcmp X0.here hx rfl (hb hby d2_182) rfl ?_
    refine XS.ifYes X0.here hx rfl (pc0 := 183) (pc' := 190) rfl (hb hby d2_183) rfl (by decide) (by decide) (by decide) ?_
    refine sL X0 hx hby d2_190 rfl ?_
    show Steps p.tables e below (s₁.setTop (mkF m 191 #[.val (.long (17 : Int64)), .second] [(.long (17 : Int64))])) _
    refine X0.ldc2Long hx hown (mvT hZ (wk27 hw)) (g := (mkF m 191 #[.val (.long (17 : Int64)), .second] [(.long (17 : Int64))])) rfl (hb hby d2_191) _ ?_
    refine XS.lcmp X0.here hx rfl (hb hby d2_194) rfl ?_
    refine sN X0 hx hby d2_195 (by decide) ?_
    refine st1 _ ?_
    jvm_step X1.here [X1.here.top, hx, (hb hby d2_201), X1.method', Bd.returns, Value.isRef, FieldType.isReference]
    first | (intro acts; rw [hr _ acts rfl rfl rfl]) | rw [hr _ _ rfl rfl rfl]
    exact Steps.refl _
  · show Q2_53 Z w h0 n0 _ T1.heap _
    rw [e1]
    exact ⟨rfl, N0, rfl⟩
theorem d2_210 : decode method_2_code 210 = .ok (.getstatic 95, 3) := by decide +kernel
theorem d2_213 : decode method_2_code 213 = .ok (.areturn, 1) := by decide +kernel
theorem ef_2_54 (m : MethodId) : entryFrame m #[(.long (18 : Int64))] 2 = mkF m 0 #[.val (.long (18 : Int64)), .second] [] := by first | (simp [entryFrame, mkF, argsToLocals, Value.category]; done) | rfl
def Q2_54 (Z : State) (w : Nat → Addr) (h0 : Heap) (n0 : Nat) (v : Option Value) (h : Heap) (L : List Loc) : Prop := v = some (.ref (w 7)) ∧ Fr n0 L ∧ h = h0
set_option maxRecDepth 65536 in
set_option maxHeartbeats 40000000 in
theorem rm2_54 (l : Launch) (Z : State) (a0 : Array Value) (hw : ∀ d ∈ tables_1, d.before a0 Z = true) (w : Nat → Addr) (hW : Wd Z w) (ws : List Jvm.Cond) (h0 : Heap) (n0 : Nat) (O0 : Old Z n0 h0) :
    MetFree l ym1 (head1 (Jvm.Cond.code ym1 method_2_code 2 (some (.object "com/example/ferrule/ferrule/io/TypeCode")) :: ws) ({ frames := 0, cells := 0, slots := 0, locals := 0 } : Room)) (fun a U => a = #[(.long (18 : Int64))] ∧ Z.Warmed39 U.vm ∧ U.heap = h0) (fun _ _ _ _ _ => True) (fun _ U o U' => ∃ v L, o = .returned v ∧ Q2_54 Z w h0 n0 v U'.heap L ∧ FrameEnd U o U' L ({ frames := 0, cells := 0, slots := 0, locals := 0 } : Room).cells ({ frames := 0, cells := 0, slots := 0, locals := 0 } : Room).slots) := by
  refine MetFree.of_bodySF (plainFor_of_name pnc_1) hisR ?_
  intro p e s m args below meth c s₁ Bd hml0 hP hK
  obtain ⟨rfl, hZ, hh⟩ := hP
  have hx := Bd.exec
  have hby := Bd.bytes
  have hml : c.maxLocals = 2 := hml0
  have hown : s.vm.findClass "com/example/ferrule/ferrule/io/TypeCodeOfPinLaw" = some m.cls := findClass_of_methodNamed Bd.named
  have hnm := (name_of_methodNamed Bd.named Bd.method).1
  have X0 : Stand p l e ({ frames := 0, cells := 0, slots := 0, locals := 0 } : Room) s m #[(.long (18 : Int64))] below meth c s₁ [] 0 0 := Stand.of_body Bd
  have e0 : s₁.heap = h0 := by rw [← hh, Bd.state]; rfl
  have N0 := Fr.nil n0
  skip
  have pre0 : ∀ t, Steps p.tables e below (s₁.setTop (mkF m 0 #[.val (.long (18 : Int64)), .second] [])) t → Steps p.tables e below (s₁.setTop (entryFrame m #[(.long (18 : Int64))] 2)) t := fun t k => castTop (ef_2_54 m) k
  obtain ⟨T1, X1, e1, st1⟩ := getS2 X0 hx hZ hown (host := "") (Or.inl (wk41 hw)) Via.refl e0 ((wd13 hW).ext O0.2) (g := (mkF m 210 #[.val (.long (18 : Int64)), .second] [])) rfl (hb hby d2_210)
  obtain ⟨fs, hr, hrun, hended, hWm, hsame⟩ := X1.leave (v := some (.ref (w 7))) (fun h => by rw [Bd.returns] at h; cases h)
  refine ⟨_, _, pre0 _ ?_, hrun, hended, _, _, rfl, ?_, ⟨_, rfl⟩, hWm, hsame.mono (by decide) (by decide)⟩
  · show Steps p.tables e below (s₁.setTop (mkF m 0 #[.val (.long (18 : Int64)), .second] [])) _
    refine sL X0 hx hby d2_0 rfl ?_
    refine XS.lconst X0.here hx rfl (hb hby d2_1) ?_
    refine XS.lcmp X0.here hx rfl (hb hby d2_2) rfl ?_
    refine XS.ifYes X0.here hx rfl (pc0 := 3) (pc' := 10) rfl (hb hby d2_3) rfl (by decide) (by decide) (by decide) ?_
    refine sL X0 hx hby d2_10 rfl ?_
    show Steps p.tables e below (s₁.setTop (mkF m 11 #[.val (.long (18 : Int64)), .second] [(.long (18 : Int64))])) _
    refine X0.ldc2Long hx hown (mvT hZ (wk11 hw)) (g := (mkF m 11 #[.val (.long (18 : Int64)), .second] [(.long (18 : Int64))])) rfl (hb hby d2_11) _ ?_
    refine XS.lcmp X0.here hx rfl (hb hby d2_14) rfl ?_
    refine XS.ifYes X0.here hx rfl (pc0 := 15) (pc' := 22) rfl (hb hby d2_15) rfl (by decide) (by decide) (by decide) ?_
    refine sL X0 hx hby d2_22 rfl ?_
    refine X0.ldc2Long hx hown (mvT hZ (wk12 hw)) (g := (mkF m 23 #[.val (.long (18 : Int64)), .second] [(.long (18 : Int64))])) rfl (hb hby d2_23) _ ?_
    show Steps p.tables e below (s₁.setTop (mkF m 26 #[.val (.long (18 : Int64)), .second] [(.long (3 : Int64)), (.long (18 : Int64))])) _
    refine XS.lcmp X0.here hx rfl (hb hby d2_26) rfl ?_
    refine XS.ifYes X0.here hx rfl (pc0 := 27) (pc' := 34) rfl (hb hby d2_27) rfl (by decide) (by decide) (by decide) ?_
    refine sL X0 hx hby d2_34 rfl ?_
    refine X0.ldc2Long hx hown (mvT hZ (wk14 hw)) (g := (mkF m 35 #[.val (.long (18 : Int64)), .second] [(.long (18 : Int64))])) rfl (hb hby d2_35) _ ?_
    refine XS.lcmp X0.here hx rfl (hb hby d2_38) rfl ?_
    show Steps p.tables e below (s₁.setTop (mkF m 39 #[.val (.long (18 : Int64)), .second] [(.int (1 : Int32))])) _
    refine XS.ifYes X0.here hx rfl (pc0 := 39) (pc' := 46) rfl (hb hby d2_39) rfl (by decide) (by decide) (by decide) ?_
    refine sL X0 hx hby d2_46 rfl ?_
    refine X0.ldc2Long hx hown (mvT hZ (wk15 hw)) (g := (mkF m 47 #[.val (.long (18 : Int64)), .second] [(.long (18 : Int64))])) rfl (hb hby d2_47) _ ?_
    refine XS.lcmp X0.here hx rfl (hb hby d2_50) rfl ?_
    refine XS.ifYes X0.here hx rfl (pc0 := 51) (pc' := 58) rfl (hb hby d2_51) rfl (by decide) (by decide) (by decide) ?_
    show Steps p.tables e below (s₁.setTop (mkF m 58 #[.val (.long (18 : Int64)), .second] [])) _
    refine sL X0 hx hby d2_58 rfl ?_
    refine X0.ldc2Long hx hown (mvT hZ (wk16 hw)) (g := (mkF m 59 #[.val (.long (18 : Int64)), .second] [(.long (18 : Int64))])) rfl (hb hby d2_59) _ ?_
    refine XS.lcmp X0.here hx rfl (hb hby d2_62) rfl ?_
    refine XS.ifYes X0.here hx rfl (pc0 := 63) (pc' := 70) rfl (hb hby d2_63) rfl (by decide) (by decide) (by decide) ?_
    refine sL X0 hx hby d2_70 rfl ?_
    show Steps p.tables e below (s₁.setTop (mkF m 71 #[.val (.long (18 : Int64)), .second] [(.long (18 : Int64))])) _
    refine X0.ldc2Long hx hown (mvT hZ (wk17 hw)) (g := (mkF m 71 #[.val (.long (18 : Int64)), .second] [(.long (18 : Int64))])) rfl (hb hby d2_71) _ ?_
    refine XS.lcmp X0.here hx rfl (hb hby d2_74) rfl ?_
    refine XS.ifYes X0.here hx rfl (pc0 := 75) (pc' := 82) rfl (hb hby d2_75) rfl (by decide) (by decide) (by decide) ?_
    refine sL X0 hx hby d2_82 rfl ?_
    refine X0.ldc2Long hx hown (mvT hZ (wk18 hw)) (g := (mkF m 83 #[.val (.long (18 : Int64)), .second] [(.long (18 : Int64))])) rfl (hb hby d2_83) _ ?_
    show Steps p.tables e below (s₁.setTop (mkF m 86 #[.val (.long (18 : Int64)), .second] [(.long (8 : Int64)), (.long (18 : Int64))])) _
    refine XS.lcmp X0.here hx rfl (hb hby d2_86) rfl ?_
    refine XS.ifYes X0.here hx rfl (pc0 := 87) (pc' := 94) rfl (hb hby d2_87) rfl (by decide) (by decide) (by decide) ?_
    refine sL X0 hx hby d2_94 rfl ?_
    refine X0.ldc2Long hx hown (mvT hZ (wk19 hw)) (g := (mkF m 95 #[.val (.long (18 : Int64)), .second] [(.long (18 : Int64))])) rfl (hb hby d2_95) _ ?_
    refine XS.lcmp X0.here hx rfl (hb hby d2_98) rfl ?_
    show Steps p.tables e below (s₁.setTop (mkF m 99 #[.val (.long (18 : Int64)), .second] [(.int (1 : Int32))])) _
    refine XS.ifYes X0.here hx rfl (pc0 := 99) (pc' := 106) rfl (hb hby d2_99) rfl (by decide) (by decide) (by decide) ?_
    refine sL X0 hx hby d2_106 rfl ?_
    refine X0.ldc2Long hx hown (mvT hZ (wk20 hw)) (g := (mkF m 107 #[.val (.long (18 : Int64)), .second] [(.long (18 : Int64))])) rfl (hb hby d2_107) _ ?_
    refine XS.lcmp X0.here hx rfl (hb hby d2_110) rfl ?_
    refine XS.ifYes X0.here hx rfl (pc0 := 111) (pc' := 118) rfl (hb hby d2_111) rfl (by decide) (by decide) (by decide) ?_
    show Steps p.tables e below (s₁.setTop (mkF m 118 #[.val (.long (18 : Int64)), .second] [])) _
    refine sL X0 hx hby d2_118 rfl ?_
    refine X0.ldc2Long hx hown (mvT hZ (wk21 hw)) (g := (mkF m 119 #[.val (.long (18 : Int64)), .second] [(.long (18 : Int64))])) rfl (hb hby d2_119) _ ?_
    refine XS.lcmp X0.here hx rfl (hb hby d2_122) rfl ?_
    refine XS.ifYes X0.here hx rfl (pc0 := 123) (pc' := 130) rfl (hb hby d2_123) rfl (by decide) (by decide) (by decide) ?_
    refine sL X0 hx hby d2_130 rfl ?_
    show Steps p.tables e below (s₁.setTop (mkF m 131 #[.val (.long (18 : Int64)), .second] [(.long (18 : Int64))])) _
    refine X0.ldc2Long hx hown (mvT hZ (wk22 hw)) (g := (mkF m 131 #[.val (.long (18 : Int64)), .second] [(.long (18 : Int64))])) rfl (hb hby d2_131) _ ?_
    refine XS.lcmp X0.here hx rfl (hb hby d2_134) rfl ?_
    refine XS.ifYes X0.here hx rfl (pc0 := 135) (pc' := 142) rfl (hb hby d2_135) rfl (by decide) (by decide) (by decide) ?_
    refine sL X0 hx hby d2_142 rfl ?_
    refine X0.ldc2Long hx hown (mvT hZ (wk23 hw)) (g := (mkF m 143 #[.val (.long (18 : Int64)), .second] [(.long (18 : Int64))])) rfl (hb hby d2_143) _ ?_
    show Steps p.tables e below (s₁.setTop (mkF m 146 #[.val (.long (18 : Int64)), .second] [(.long (13 : Int64)), (.long (18 : Int64))])) _
    refine XS.lcmp X0.here hx rfl (hb hby d2_146) rfl ?_
    refine XS.ifYes X0.here hx rfl (pc0 := 147) (pc' := 154) rfl (hb hby d2_147) rfl (by decide) (by decide) (by decide) ?_
    refine sL X0 hx hby d2_154 rfl ?_
    refine X0.ldc2Long hx hown (mvT hZ (wk24 hw)) (g := (mkF m 155 #[.val (.long (18 : Int64)), .second] [(.long (18 : Int64))])) rfl (hb hby d2_155) _ ?_
    refine XS.lcmp X0.here hx rfl (hb hby d2_158) rfl ?_
    show Steps p.tables e below (s₁.setTop (mkF m 159 #[.val (.long (18 : Int64)), .second] [(.int (1 : Int32))])) _
    refine XS.ifYes X0.here hx rfl (pc0 := 159) (pc' := 166) rfl (hb hby d2_159) rfl (by decide) (by decide) (by decide) ?_
    refine sL X0 hx hby d2_166 rfl ?_
    refine X0.ldc2Long hx hown (mvT hZ (wk25 hw)) (g := (mkF m 167 #[.val (.long (18 : Int64)), .second] [(.long (18 : Int64))])) rfl (hb hby d2_167) _ ?_
    refine XS.lcmp X0.here hx rfl (hb hby d2_170) rfl ?_
    refine XS.ifYes X0.here hx rfl (pc0 := 171) (pc' := 178) rfl (hb hby d2_171) rfl (by decide) (by decide) (by decide) ?_
    show Steps p.tables e below (s₁.setTop (mkF m 178 #[.val (.long (18 : Int64)), .second] [])) _
    refine sL X0 hx hby d2_178 rfl ?_
    refine X0.ldc2Long hx hown (mvT hZ (wk26 hw)) (g := (mkF m 179 #[.val (.long (18 : Int64)), .second] [(.long (18 : Int64))])) rfl (hb hby d2_179) _ ?_
    refine XS.lcmp X0.here hx rfl (hb hby d2_182) rfl ?_
    refine XS.ifYes X0.here hx rfl (pc0 := 183) (pc' := 190) rfl (hb hby d2_183) rfl (by decide) (by decide) (by decide) ?_
    refine sL X0 hx hby d2_190 rfl ?_
    show Steps p.tables e below (s₁.setTop (mkF m 191 #[.val (.long (18 : Int64)), .second] [(.long (18 : Int64))])) _
    refine X0.ldc2Long hx hown (mvT hZ (wk27 hw)) (g := (mkF m 191 #[.val (.long (18 : Int64)), .second] [(.long (18 : Int64))])) rfl (hb hby d2_191) _ ?_
    refine XS.lcmp X0.here hx rfl (hb hby d2_194) rfl ?_
    refine XS.ifYes X0.here hx rfl (pc0 := 195) (pc' := 202) rfl (hb hby d2_195) rfl (by decide) (by decide) (by decide) ?_
    refine sL X0 hx hby d2_202 rfl ?_
    refine X0.ldc2Long hx hown (mvT hZ (wk28 hw)) (g := (mkF m 203 #[.val (.long (18 : Int64)), .second] [(.long (18 : Int64))])) rfl (hb hby d2_203) _ ?_
    show Steps p.tables e below (s₁.setTop (mkF m 206 #[.val (.long (18 : Int64)), .second] [(.long (18 : Int64)), (.long (18 : Int64))])) _
    refine XS.lcmp X0.here hx rfl (hb hby d2_206) rfl ?_
    refine sN X0 hx hby d2_207 (by decide) ?_
    refine st1 _ ?_
    jvm_step X1.here [X1.here.top, hx, (hb hby d2_213), X1.method', Bd.returns, Value.isRef, FieldType.isReference]
    first | (intro acts; rw [hr _ acts rfl rfl rfl]) | rw [hr _ _ rfl rfl rfl]
    exact Steps.refl _
  · show Q2_54 Z w h0 n0 _ T1.heap _
    rw [e1]
    exact ⟨rfl, N0, rfl⟩
theorem ef_2_55 (m : MethodId) : entryFrame m #[(.long (19 : Int64))] 2 = mkF m 0 #[.val (.long (19 : Int64)), .second] [] := by first | (simp [entryFrame, mkF, argsToLocals, Value.category]; done) | rfl
def Q2_55 (Z : State) (w : Nat → Addr) (h0 : Heap) (n0 : Nat) (v : Option Value) (h : Heap) (L : List Loc) : Prop := v = some .null ∧ Fr n0 L ∧ h = h0
set_option maxRecDepth 65536 in
set_option maxHeartbeats 40000000 in
theorem rm2_55 (l : Launch) (Z : State) (a0 : Array Value) (hw : ∀ d ∈ tables_1, d.before a0 Z = true) (w : Nat → Addr) (hW : Wd Z w) (ws : List Jvm.Cond) (h0 : Heap) (n0 : Nat) (O0 : Old Z n0 h0) :
    MetFree l ym1 (head1 (Jvm.Cond.code ym1 method_2_code 2 (some (.object "com/example/ferrule/ferrule/io/TypeCode")) :: ws) ({ frames := 0, cells := 0, slots := 0, locals := 0 } : Room)) (fun a U => a = #[(.long (19 : Int64))] ∧ Z.Warmed39 U.vm ∧ U.heap = h0) (fun _ _ _ _ _ => True) (fun _ U o U' => ∃ v L, o = .returned v ∧ Q2_55 Z w h0 n0 v U'.heap L ∧ FrameEnd U o U' L ({ frames := 0, cells := 0, slots := 0, locals := 0 } : Room).cells ({ frames := 0, cells := 0, slots := 0, locals := 0 } : Room).slots) := by
  refine MetFree.of_bodySF (plainFor_of_name pnc_1) hisR ?_
  intro p e s m args below meth c s₁ Bd hml0 hP hK
  obtain ⟨rfl, hZ, hh⟩ := hP
  have hx := Bd.exec
  have hby := Bd.bytes
  have hml : c.maxLocals = 2 := hml0
  have hown : s.vm.findClass "com/example/ferrule/ferrule/io/TypeCodeOfPinLaw" = some m.cls := findClass_of_methodNamed Bd.named
  have hnm := (name_of_methodNamed Bd.named Bd.method).1
  have X0 : Stand p l e ({ frames := 0, cells := 0, slots := 0, locals := 0 } : Room) s m #[(.long (19 : Int64))] below meth c s₁ [] 0 0 := Stand.of_body Bd
  have e0 : s₁.heap = h0 := by rw [← hh, Bd.state]; rfl
  have N0 := Fr.nil n0
  skip
  have pre0 : ∀ t, Steps p.tables e below (s₁.setTop (mkF m 0 #[.val (.long (19 : Int64)), .second] [])) t → Steps p.tables e below (s₁.setTop (entryFrame m #[(.long (19 : Int64))] 2)) t := fun t k => castTop (ef_2_55 m) k
  obtain ⟨fs, hr, hrun, hended, hWm, hsame⟩ := X0.leave (v := some .null) (fun h => by rw [Bd.returns] at h; cases h)
  refine ⟨_, _, pre0 _ ?_, hrun, hended, _, _, rfl, ?_, ⟨_, rfl⟩, hWm, hsame.mono (by decide) (by decide)⟩
  · show Steps p.tables e below (s₁.setTop (mkF m 0 #[.val (.long (19 : Int64)), .second] [])) _
    refine sL X0 hx hby d2_0 rfl ?_
    refine XS.lconst X0.here hx rfl (hb hby d2_1) ?_
    refine XS.lcmp X0.here hx rfl (hb hby d2_2) rfl ?_
    refine XS.ifYes X0.here hx rfl (pc0 := 3) (pc' := 10) rfl (hb hby d2_3) rfl (by decide) (by decide) (by decide) ?_
    refine sL X0 hx hby d2_10 rfl ?_
    show Steps p.tables e below (s₁.setTop (mkF m 11 #[.val (.long (19 : Int64)), .second] [(.long (19 : Int64))])) _
    refine X0.ldc2Long hx hown (mvT hZ (wk11 hw)) (g := (mkF m 11 #[.val (.long (19 : Int64)), .second] [(.long (19 : Int64))])) rfl (hb hby d2_11) _ ?_
    refine XS.lcmp X0.here hx rfl (hb hby d2_14) rfl ?_
    refine XS.ifYes X0.here hx rfl (pc0 := 15) (pc' := 22) rfl (hb hby d2_15) rfl (by decide) (by decide) (by decide) ?_
    refine sL X0 hx hby d2_22 rfl ?_
    refine X0.ldc2Long hx hown (mvT hZ (wk12 hw)) (g := (mkF m 23 #[.val (.long (19 : Int64)), .second] [(.long (19 : Int64))])) rfl (hb hby d2_23) _ ?_
    show Steps p.tables e below (s₁.setTop (mkF m 26 #[.val (.long (19 : Int64)), .second] [(.long (3 : Int64)), (.long (19 : Int64))])) _
    refine XS.lcmp X0.here hx rfl (hb hby d2_26) rfl ?_
    refine XS.ifYes X0.here hx rfl (pc0 := 27) (pc' := 34) rfl (hb hby d2_27) rfl (by decide) (by decide) (by decide) ?_
    refine sL X0 hx hby d2_34 rfl ?_
    refine X0.ldc2Long hx hown (mvT hZ (wk14 hw)) (g := (mkF m 35 #[.val (.long (19 : Int64)), .second] [(.long (19 : Int64))])) rfl (hb hby d2_35) _ ?_
    refine XS.lcmp X0.here hx rfl (hb hby d2_38) rfl ?_
    show Steps p.tables e below (s₁.setTop (mkF m 39 #[.val (.long (19 : Int64)), .second] [(.int (1 : Int32))])) _
    refine XS.ifYes X0.here hx rfl (pc0 := 39) (pc' := 46) rfl (hb hby d2_39) rfl (by decide) (by decide) (by decide) ?_
    refine sL X0 hx hby d2_46 rfl ?_
    refine X0.ldc2Long hx hown (mvT hZ (wk15 hw)) (g := (mkF m 47 #[.val (.long (19 : Int64)), .second] [(.long (19 : Int64))])) rfl (hb hby d2_47) _ ?_
    refine XS.lcmp X0.here hx rfl (hb hby d2_50) rfl ?_
    refine XS.ifYes X0.here hx rfl (pc0 := 51) (pc' := 58) rfl (hb hby d2_51) rfl (by decide) (by decide) (by decide) ?_
    show Steps p.tables e below (s₁.setTop (mkF m 58 #[.val (.long (19 : Int64)), .second] [])) _
    refine sL X0 hx hby d2_58 rfl ?_
    refine X0.ldc2Long hx hown (mvT hZ (wk16 hw)) (g := (mkF m 59 #[.val (.long (19 : Int64)), .second] [(.long (19 : Int64))])) rfl (hb hby d2_59) _ ?_
    refine XS.lcmp X0.here hx rfl (hb hby d2_62) rfl ?_
    refine XS.ifYes X0.here hx rfl (pc0 := 63) (pc' := 70) rfl (hb hby d2_63) rfl (by decide) (by decide) (by decide) ?_
    refine sL X0 hx hby d2_70 rfl ?_
    show Steps p.tables e below (s₁.setTop (mkF m 71 #[.val (.long (19 : Int64)), .second] [(.long (19 : Int64))])) _
    refine X0.ldc2Long hx hown (mvT hZ (wk17 hw)) (g := (mkF m 71 #[.val (.long (19 : Int64)), .second] [(.long (19 : Int64))])) rfl (hb hby d2_71) _ ?_
    refine XS.lcmp X0.here hx rfl (hb hby d2_74) rfl ?_
    refine XS.ifYes X0.here hx rfl (pc0 := 75) (pc' := 82) rfl (hb hby d2_75) rfl (by decide) (by decide) (by decide) ?_
    refine sL X0 hx hby d2_82 rfl ?_
    refine X0.ldc2Long hx hown (mvT hZ (wk18 hw)) (g := (mkF m 83 #[.val (.long (19 : Int64)), .second] [(.long (19 : Int64))])) rfl (hb hby d2_83) _ ?_
    show Steps p.tables e below (s₁.setTop (mkF m 86 #[.val (.long (19 : Int64)), .second] [(.long (8 : Int64)), (.long (19 : Int64))])) _
    refine XS.lcmp X0.here hx rfl (hb hby d2_86) rfl ?_
    refine XS.ifYes X0.here hx rfl (pc0 := 87) (pc' := 94) rfl (hb hby d2_87) rfl (by decide) (by decide) (by decide) ?_
    refine sL X0 hx hby d2_94 rfl ?_
    refine X0.ldc2Long hx hown (mvT hZ (wk19 hw)) (g := (mkF m 95 #[.val (.long (19 : Int64)), .second] [(.long (19 : Int64))])) rfl (hb hby d2_95) _ ?_
    refine XS.lcmp X0.here hx rfl (hb hby d2_98) rfl ?_
    show Steps p.tables e below (s₁.setTop (mkF m 99 #[.val (.long (19 : Int64)), .second] [(.int (1 : Int32))])) _
    refine XS.ifYes X0.here hx rfl (pc0 := 99) (pc' := 106) rfl (hb hby d2_99) rfl (by decide) (by decide) (by decide) ?_
    refine sL X0 hx hby d2_106 rfl ?_
    refine X0.ldc2Long hx hown (mvT hZ (wk20 hw)) (g := (mkF m 107 #[.val (.long (19 : Int64)), .second] [(.long (19 : Int64))])) rfl (hb hby d2_107) _ ?_
    refine XS.lcmp X0.here hx rfl (hb hby d2_110) rfl ?_
    refine XS.ifYes X0.here hx rfl (pc0 := 111) (pc' := 118) rfl (hb hby d2_111) rfl (by decide) (by decide) (by decide) ?_
    show Steps p.tables e below (s₁.setTop (mkF m 118 #[.val (.long (19 : Int64)), .second] [])) _
    refine sL X0 hx hby d2_118 rfl ?_
    refine X0.ldc2Long hx hown (mvT hZ (wk21 hw)) (g := (mkF m 119 #[.val (.long (19 : Int64)), .second] [(.long (19 : Int64))])) rfl (hb hby d2_119) _ ?_
    refine XS.lcmp X0.here hx rfl (hb hby d2_122) rfl ?_
    refine XS.ifYes X0.here hx rfl (pc0 := 123) (pc' := 130) rfl (hb hby d2_123) rfl (by decide) (by decide) (by decide) ?_
    refine sL X0 hx hby d2_130 rfl ?_
    show Steps p.tables e below (s₁.setTop (mkF m 131 #[.val (.long (19 : Int64)), .second] [(.long (19 : Int64))])) _
    refine X0.ldc2Long hx hown (mvT hZ (wk22 hw)) (g := (mkF m 131 #[.val (.long (19 : Int64)), .second] [(.long (19 : Int64))])) rfl (hb hby d2_131) _ ?_
    refine XS.lcmp X0.here hx rfl (hb hby d2_134) rfl ?_
    refine XS.ifYes X0.here hx rfl (pc0 := 135) (pc' := 142) rfl (hb hby d2_135) rfl (by decide) (by decide) (by decide) ?_
    refine sL X0 hx hby d2_142 rfl ?_
    refine X0.ldc2Long hx hown (mvT hZ (wk23 hw)) (g := (mkF m 143 #[.val (.long (19 : Int64)), .second] [(.long (19 : Int64))])) rfl (hb hby d2_143) _ ?_
    show Steps p.tables e below (s₁.setTop (mkF m 146 #[.val (.long (19 : Int64)), .second] [(.long (13 : Int64)), (.long (19 : Int64))])) _
    refine XS.lcmp X0.here hx rfl (hb hby d2_146) rfl ?_
    refine XS.ifYes X0.here hx rfl (pc0 := 147) (pc' := 154) rfl (hb hby d2_147) rfl (by decide) (by decide) (by decide) ?_
    refine sL X0 hx hby d2_154 rfl ?_
    refine X0.ldc2Long hx hown (mvT hZ (wk24 hw)) (g := (mkF m 155 #[.val (.long (19 : Int64)), .second] [(.long (19 : Int64))])) rfl (hb hby d2_155) _ ?_
    refine XS.lcmp X0.here hx rfl (hb hby d2_158) rfl ?_
    show Steps p.tables e below (s₁.setTop (mkF m 159 #[.val (.long (19 : Int64)), .second] [(.int (1 : Int32))])) _
    refine XS.ifYes X0.here hx rfl (pc0 := 159) (pc' := 166) rfl (hb hby d2_159) rfl (by decide) (by decide) (by decide) ?_
    refine sL X0 hx hby d2_166 rfl ?_
    refine X0.ldc2Long hx hown (mvT hZ (wk25 hw)) (g := (mkF m 167 #[.val (.long (19 : Int64)), .second] [(.long (19 : Int64))])) rfl (hb hby d2_167) _ ?_
    refine XS.lcmp X0.here hx rfl (hb hby d2_170) rfl ?_
    refine XS.ifYes X0.here hx rfl (pc0 := 171) (pc' := 178) rfl (hb hby d2_171) rfl (by decide) (by decide) (by decide) ?_
    show Steps p.tables e below (s₁.setTop (mkF m 178 #[.val (.long (19 : Int64)), .second] [])) _
    refine sL X0 hx hby d2_178 rfl ?_
    refine X0.ldc2Long hx hown (mvT hZ (wk26 hw)) (g := (mkF m 179 #[.val (.long (19 : Int64)), .second] [(.long (19 : Int64))])) rfl (hb hby d2_179) _ ?_
    refine XS.lcmp X0.here hx rfl (hb hby d2_182) rfl ?_
    refine XS.ifYes X0.here hx rfl (pc0 := 183) (pc' := 190) rfl (hb hby d2_183) rfl (by decide) (by decide) (by decide) ?_
    refine sL X0 hx hby d2_190 rfl ?_
    show Steps p.tables e below (s₁.setTop (mkF m 191 #[.val (.long (19 : Int64)), .second] [(.long (19 : Int64))])) _
    refine X0.ldc2Long hx hown (mvT hZ (wk27 hw)) (g := (mkF m 191 #[.val (.long (19 : Int64)), .second] [(.long (19 : Int64))])) rfl (hb hby d2_191) _ ?_
    refine XS.lcmp X0.here hx rfl (hb hby d2_194) rfl ?_
    refine XS.ifYes X0.here hx rfl (pc0 := 195) (pc' := 202) rfl (hb hby d2_195) rfl (by decide) (by decide) (by decide) ?_
    refine sL X0 hx hby d2_202 rfl ?_
    refine X0.ldc2Long hx hown (mvT hZ (wk28 hw)) (g := (mkF m 203 #[.val (.long (19 : Int64)), .second] [(.long (19 : Int64))])) rfl (hb hby d2_203) _ ?_
    show Steps p.tables e below (s₁.setTop (mkF m 206 #[.val (.long (19 : Int64)), .second] [(.long (18 : Int64)), (.long (19 : Int64))])) _
    refine XS.lcmp X0.here hx rfl (hb hby d2_206) rfl ?_
    refine XS.ifYes X0.here hx rfl (pc0 := 207) (pc' := 214) rfl (hb hby d2_207) rfl (by decide) (by decide) (by decide) ?_
    refine sL X0 hx hby d2_214 rfl ?_
    refine X0.ldc2Long hx hown (mvT hZ (wk29 hw)) (g := (mkF m 215 #[.val (.long (19 : Int64)), .second] [(.long (19 : Int64))])) rfl (hb hby d2_215) _ ?_
    refine XS.lcmp X0.here hx rfl (hb hby d2_218) rfl ?_
    show Steps p.tables e below (s₁.setTop (mkF m 219 #[.val (.long (19 : Int64)), .second] [(.int (-1 : Int32))])) _
    refine XS.ifYes X0.here hx rfl (pc0 := 219) (pc' := 226) rfl (hb hby d2_219) rfl (by decide) (by decide) (by decide) ?_
    refine XS.aconstNull X0.here hx rfl (hb hby d2_226) ?_
    jvm_step X0.here [X0.here.top, hx, (hb hby d2_227), X0.method', Bd.returns, Value.isRef, FieldType.isReference]
    first | (intro acts; rw [hr _ acts rfl rfl rfl]) | rw [hr _ _ rfl rfl rfl]
    exact Steps.refl _
  · show Q2_55 Z w h0 n0 _ s₁.heap _
    rw [e0]
    exact ⟨rfl, N0, rfl⟩
theorem ef_2_56 (m : MethodId) : entryFrame m #[(.long (20 : Int64))] 2 = mkF m 0 #[.val (.long (20 : Int64)), .second] [] := by first | (simp [entryFrame, mkF, argsToLocals, Value.category]; done) | rfl
def Q2_56 (Z : State) (w : Nat → Addr) (h0 : Heap) (n0 : Nat) (v : Option Value) (h : Heap) (L : List Loc) : Prop := v = some .null ∧ Fr n0 L ∧ h = h0
set_option maxRecDepth 65536 in
set_option maxHeartbeats 40000000 in
theorem rm2_56 (l : Launch) (Z : State) (a0 : Array Value) (hw : ∀ d ∈ tables_1, d.before a0 Z = true) (w : Nat → Addr) (hW : Wd Z w) (ws : List Jvm.Cond) (h0 : Heap) (n0 : Nat) (O0 : Old Z n0 h0) :
    MetFree l ym1 (head1 (Jvm.Cond.code ym1 method_2_code 2 (some (.object "com/example/ferrule/ferrule/io/TypeCode")) :: ws) ({ frames := 0, cells := 0, slots := 0, locals := 0 } : Room)) (fun a U => a = #[(.long (20 : Int64))] ∧ Z.Warmed39 U.vm ∧ U.heap = h0) (fun _ _ _ _ _ => True) (fun _ U o U' => ∃ v L, o = .returned v ∧ Q2_56 Z w h0 n0 v U'.heap L ∧ FrameEnd U o U' L ({ frames := 0, cells := 0, slots := 0, locals := 0 } : Room).cells ({ frames := 0, cells := 0, slots := 0, locals := 0 } : Room).slots) := by
  refine MetFree.of_bodySF (plainFor_of_name pnc_1) hisR ?_
  intro p e s m args below meth c s₁ Bd hml0 hP hK
  obtain ⟨rfl, hZ, hh⟩ := hP
  have hx := Bd.exec
  have hby := Bd.bytes
  have hml : c.maxLocals = 2 := hml0
  have hown : s.vm.findClass "com/example/ferrule/ferrule/io/TypeCodeOfPinLaw" = some m.cls := findClass_of_methodNamed Bd.named
  have hnm := (name_of_methodNamed Bd.named Bd.method).1
  have X0 : Stand p l e ({ frames := 0, cells := 0, slots := 0, locals := 0 } : Room) s m #[(.long (20 : Int64))] below meth c s₁ [] 0 0 := Stand.of_body Bd
  have e0 : s₁.heap = h0 := by rw [← hh, Bd.state]; rfl
  have N0 := Fr.nil n0
  skip
  have pre0 : ∀ t, Steps p.tables e below (s₁.setTop (mkF m 0 #[.val (.long (20 : Int64)), .second] [])) t → Steps p.tables e below (s₁.setTop (entryFrame m #[(.long (20 : Int64))] 2)) t := fun t k => castTop (ef_2_56 m) k
  obtain ⟨fs, hr, hrun, hended, hWm, hsame⟩ := X0.leave (v := some .null) (fun h => by rw [Bd.returns] at h; cases h)
  refine ⟨_, _, pre0 _ ?_, hrun, hended, _, _, rfl, ?_, ⟨_, rfl⟩, hWm, hsame.mono (by decide) (by decide)⟩
  · show Steps p.tables e below (s₁.setTop (mkF m 0 #[.val (.long (20 : Int64)), .second] [])) _
    refine sL X0 hx hby d2_0 rfl ?_
    refine XS.lconst X0.here hx rfl (hb hby d2_1) ?_
    refine XS.lcmp X0.here hx rfl (hb hby d2_2) rfl ?_
    refine XS.ifYes X0.here hx rfl (pc0 := 3) (pc' := 10) rfl (hb hby d2_3) rfl (by decide) (by decide) (by decide) ?_
    refine sL X0 hx hby d2_10 rfl ?_
    show Steps p.tables e below (s₁.setTop (mkF m 11 #[.val (.long (20 : Int64)), .second] [(.long (20 : Int64))])) _
    refine X0.ldc2Long hx hown (mvT hZ (wk11 hw)) (g := (mkF m 11 #[.val (.long (20 : Int64)), .second] [(.long (20 : Int64))])) rfl (hb hby d2_11) _ ?_
    refine XS.lcmp X0.here hx rfl (hb hby d2_14) rfl ?_
    refine XS.ifYes X0.here hx rfl (pc0 := 15) (pc' := 22) rfl (hb hby d2_15) rfl (by decide) (by decide) (by decide) ?_
    refine sL X0 hx hby d2_22 rfl ?_
    refine X0.ldc2Long hx hown (mvT hZ (wk12 hw)) (g := (mkF m 23 #[.val (.long (20 : Int64)), .second] [(.long (20 : Int64))])) rfl (hb hby d2_23) _ ?_
    show Steps p.tables e below (s₁.setTop (mkF m 26 #[.val (.long (20 : Int64)), .second] [(.long (3 : Int64)), (.long (20 : Int64))])) _
    refine XS.lcmp X0.here hx rfl (hb hby d2_26) rfl ?_
    refine XS.ifYes X0.here hx rfl (pc0 := 27) (pc' := 34) rfl (hb hby d2_27) rfl (by decide) (by decide) (by decide) ?_
    refine sL X0 hx hby d2_34 rfl ?_
    refine X0.ldc2Long hx hown (mvT hZ (wk14 hw)) (g := (mkF m 35 #[.val (.long (20 : Int64)), .second] [(.long (20 : Int64))])) rfl (hb hby d2_35) _ ?_
    refine XS.lcmp X0.here hx rfl (hb hby d2_38) rfl ?_
    show Steps p.tables e below (s₁.setTop (mkF m 39 #[.val (.long (20 : Int64)), .second] [(.int (1 : Int32))])) _
    refine XS.ifYes X0.here hx rfl (pc0 := 39) (pc' := 46) rfl (hb hby d2_39) rfl (by decide) (by decide) (by decide) ?_
    refine sL X0 hx hby d2_46 rfl ?_
    refine X0.ldc2Long hx hown (mvT hZ (wk15 hw)) (g := (mkF m 47 #[.val (.long (20 : Int64)), .second] [(.long (20 : Int64))])) rfl (hb hby d2_47) _ ?_
    refine XS.lcmp X0.here hx rfl (hb hby d2_50) rfl ?_
    refine XS.ifYes X0.here hx rfl (pc0 := 51) (pc' := 58) rfl (hb hby d2_51) rfl (by decide) (by decide) (by decide) ?_
    show Steps p.tables e below (s₁.setTop (mkF m 58 #[.val (.long (20 : Int64)), .second] [])) _
    refine sL X0 hx hby d2_58 rfl ?_
    refine X0.ldc2Long hx hown (mvT hZ (wk16 hw)) (g := (mkF m 59 #[.val (.long (20 : Int64)), .second] [(.long (20 : Int64))])) rfl (hb hby d2_59) _ ?_
    refine XS.lcmp X0.here hx rfl (hb hby d2_62) rfl ?_
    refine XS.ifYes X0.here hx rfl (pc0 := 63) (pc' := 70) rfl (hb hby d2_63) rfl (by decide) (by decide) (by decide) ?_
    refine sL X0 hx hby d2_70 rfl ?_
    show Steps p.tables e below (s₁.setTop (mkF m 71 #[.val (.long (20 : Int64)), .second] [(.long (20 : Int64))])) _
    refine X0.ldc2Long hx hown (mvT hZ (wk17 hw)) (g := (mkF m 71 #[.val (.long (20 : Int64)), .second] [(.long (20 : Int64))])) rfl (hb hby d2_71) _ ?_
    refine XS.lcmp X0.here hx rfl (hb hby d2_74) rfl ?_
    refine XS.ifYes X0.here hx rfl (pc0 := 75) (pc' := 82) rfl (hb hby d2_75) rfl (by decide) (by decide) (by decide) ?_
    refine sL X0 hx hby d2_82 rfl ?_
    refine X0.ldc2Long hx hown (mvT hZ (wk18 hw)) (g := (mkF m 83 #[.val (.long (20 : Int64)), .second] [(.long (20 : Int64))])) rfl (hb hby d2_83) _ ?_
    show Steps p.tables e below (s₁.setTop (mkF m 86 #[.val (.long (20 : Int64)), .second] [(.long (8 : Int64)), (.long (20 : Int64))])) _
    refine XS.lcmp X0.here hx rfl (hb hby d2_86) rfl ?_
    refine XS.ifYes X0.here hx rfl (pc0 := 87) (pc' := 94) rfl (hb hby d2_87) rfl (by decide) (by decide) (by decide) ?_
    refine sL X0 hx hby d2_94 rfl ?_
    refine X0.ldc2Long hx hown (mvT hZ (wk19 hw)) (g := (mkF m 95 #[.val (.long (20 : Int64)), .second] [(.long (20 : Int64))])) rfl (hb hby d2_95) _ ?_
    refine XS.lcmp X0.here hx rfl (hb hby d2_98) rfl ?_
    show Steps p.tables e below (s₁.setTop (mkF m 99 #[.val (.long (20 : Int64)), .second] [(.int (1 : Int32))])) _
    refine XS.ifYes X0.here hx rfl (pc0 := 99) (pc' := 106) rfl (hb hby d2_99) rfl (by decide) (by decide) (by decide) ?_
    refine sL X0 hx hby d2_106 rfl ?_
    refine X0.ldc2Long hx hown (mvT hZ (wk20 hw)) (g := (mkF m 107 #[.val (.long (20 : Int64)), .second] [(.long (20 : Int64))])) rfl (hb hby d2_107) _ ?_
    refine XS.lcmp X0.here hx rfl (hb hby d2_110) rfl ?_
    refine XS.ifYes X0.here hx rfl (pc0 := 111) (pc' := 118) rfl (hb hby d2_111) rfl (by decide) (by decide) (by decide) ?_
    show Steps p.tables e below (s₁.setTop (mkF m 118 #[.val (.long (20 : Int64)), .second] [])) _
    refine sL X0 hx hby d2_118 rfl ?_
    refine X0.ldc2Long hx hown (mvT hZ (wk21 hw)) (g := (mkF m 119 #[.val (.long (20 : Int64)), .second] [(.long (20 : Int64))])) rfl (hb hby d2_119) _ ?_
    refine XS.lcmp X0.here hx rfl (hb hby d2_122) rfl ?_
    refine XS.ifYes X0.here hx rfl (pc0 := 123) (pc' := 130) rfl (hb hby d2_123) rfl (by decide) (by decide) (by decide) ?_
    refine sL X0 hx hby d2_130 rfl ?_
    show Steps p.tables e below (s₁.setTop (mkF m 131 #[.val (.long (20 : Int64)), .second] [(.long (20 : Int64))])) _
    refine X0.ldc2Long hx hown (mvT hZ (wk22 hw)) (g := (mkF m 131 #[.val (.long (20 : Int64)), .second] [(.long (20 : Int64))])) rfl (hb hby d2_131) _ ?_
    refine XS.lcmp X0.here hx rfl (hb hby d2_134) rfl ?_
    refine XS.ifYes X0.here hx rfl (pc0 := 135) (pc' := 142) rfl (hb hby d2_135) rfl (by decide) (by decide) (by decide) ?_
    refine sL X0 hx hby d2_142 rfl ?_
    refine X0.ldc2Long hx hown (mvT hZ (wk23 hw)) (g := (mkF m 143 #[.val (.long (20 : Int64)), .second] [(.long (20 : Int64))])) rfl (hb hby d2_143) _ ?_
    show Steps p.tables e below (s₁.setTop (mkF m 146 #[.val (.long (20 : Int64)), .second] [(.long (13 : Int64)), (.long (20 : Int64))])) _
    refine XS.lcmp X0.here hx rfl (hb hby d2_146) rfl ?_
    refine XS.ifYes X0.here hx rfl (pc0 := 147) (pc' := 154) rfl (hb hby d2_147) rfl (by decide) (by decide) (by decide) ?_
    refine sL X0 hx hby d2_154 rfl ?_
    refine X0.ldc2Long hx hown (mvT hZ (wk24 hw)) (g := (mkF m 155 #[.val (.long (20 : Int64)), .second] [(.long (20 : Int64))])) rfl (hb hby d2_155) _ ?_
    refine XS.lcmp X0.here hx rfl (hb hby d2_158) rfl ?_
    show Steps p.tables e below (s₁.setTop (mkF m 159 #[.val (.long (20 : Int64)), .second] [(.int (1 : Int32))])) _
    refine XS.ifYes X0.here hx rfl (pc0 := 159) (pc' := 166) rfl (hb hby d2_159) rfl (by decide) (by decide) (by decide) ?_
    refine sL X0 hx hby d2_166 rfl ?_
    refine X0.ldc2Long hx hown (mvT hZ (wk25 hw)) (g := (mkF m 167 #[.val (.long (20 : Int64)), .second] [(.long (20 : Int64))])) rfl (hb hby d2_167) _ ?_
    refine XS.lcmp X0.here hx rfl (hb hby d2_170) rfl ?_
    refine XS.ifYes X0.here hx rfl (pc0 := 171) (pc' := 178) rfl (hb hby d2_171) rfl (by decide) (by decide) (by decide) ?_
    show Steps p.tables e below (s₁.setTop (mkF m 178 #[.val (.long (20 : Int64)), .second] [])) _
    refine sL X0 hx hby d2_178 rfl ?_
    refine X0.ldc2Long hx hown (mvT hZ (wk26 hw)) (g := (mkF m 179 #[.val (.long (20 : Int64)), .second] [(.long (20 : Int64))])) rfl (hb hby d2_179) _ ?_
    refine XS.lcmp X0.here hx rfl (hb hby d2_182) rfl ?_
    refine XS.ifYes X0.here hx rfl (pc0 := 183) (pc' := 190) rfl (hb hby d2_183) rfl (by decide) (by decide) (by decide) ?_
    refine sL X0 hx hby d2_190 rfl ?_
    show Steps p.tables e below (s₁.setTop (mkF m 191 #[.val (.long (20 : Int64)), .second] [(.long (20 : Int64))])) _
    refine X0.ldc2Long hx hown (mvT hZ (wk27 hw)) (g := (mkF m 191 #[.val (.long (20 : Int64)), .second] [(.long (20 : Int64))])) rfl (hb hby d2_191) _ ?_
    refine XS.lcmp X0.here hx rfl (hb hby d2_194) rfl ?_
    refine XS.ifYes X0.here hx rfl (pc0 := 195) (pc' := 202) rfl (hb hby d2_195) rfl (by decide) (by decide) (by decide) ?_
    refine sL X0 hx hby d2_202 rfl ?_
    refine X0.ldc2Long hx hown (mvT hZ (wk28 hw)) (g := (mkF m 203 #[.val (.long (20 : Int64)), .second] [(.long (20 : Int64))])) rfl (hb hby d2_203) _ ?_
    show Steps p.tables e below (s₁.setTop (mkF m 206 #[.val (.long (20 : Int64)), .second] [(.long (18 : Int64)), (.long (20 : Int64))])) _
    refine XS.lcmp X0.here hx rfl (hb hby d2_206) rfl ?_
    refine XS.ifYes X0.here hx rfl (pc0 := 207) (pc' := 214) rfl (hb hby d2_207) rfl (by decide) (by decide) (by decide) ?_
    refine sL X0 hx hby d2_214 rfl ?_
    refine X0.ldc2Long hx hown (mvT hZ (wk29 hw)) (g := (mkF m 215 #[.val (.long (20 : Int64)), .second] [(.long (20 : Int64))])) rfl (hb hby d2_215) _ ?_
    refine XS.lcmp X0.here hx rfl (hb hby d2_218) rfl ?_
    show Steps p.tables e below (s₁.setTop (mkF m 219 #[.val (.long (20 : Int64)), .second] [(.int (-1 : Int32))])) _
    refine XS.ifYes X0.here hx rfl (pc0 := 219) (pc' := 226) rfl (hb hby d2_219) rfl (by decide) (by decide) (by decide) ?_
    refine XS.aconstNull X0.here hx rfl (hb hby d2_226) ?_
    jvm_step X0.here [X0.here.top, hx, (hb hby d2_227), X0.method', Bd.returns, Value.isRef, FieldType.isReference]
    first | (intro acts; rw [hr _ acts rfl rfl rfl]) | rw [hr _ _ rfl rfl rfl]
    exact Steps.refl _
  · show Q2_56 Z w h0 n0 _ s₁.heap _
    rw [e0]
    exact ⟨rfl, N0, rfl⟩
theorem ef_2_57 (m : MethodId) : entryFrame m #[(.long (21 : Int64))] 2 = mkF m 0 #[.val (.long (21 : Int64)), .second] [] := by first | (simp [entryFrame, mkF, argsToLocals, Value.category]; done) | rfl
def Q2_57 (Z : State) (w : Nat → Addr) (h0 : Heap) (n0 : Nat) (v : Option Value) (h : Heap) (L : List Loc) : Prop := v = some .null ∧ Fr n0 L ∧ h = h0
set_option maxRecDepth 65536 in
set_option maxHeartbeats 40000000 in
theorem rm2_57 (l : Launch) (Z : State) (a0 : Array Value) (hw : ∀ d ∈ tables_1, d.before a0 Z = true) (w : Nat → Addr) (hW : Wd Z w) (ws : List Jvm.Cond) (h0 : Heap) (n0 : Nat) (O0 : Old Z n0 h0) :
    MetFree l ym1 (head1 (Jvm.Cond.code ym1 method_2_code 2 (some (.object "com/example/ferrule/ferrule/io/TypeCode")) :: ws) ({ frames := 0, cells := 0, slots := 0, locals := 0 } : Room)) (fun a U => a = #[(.long (21 : Int64))] ∧ Z.Warmed39 U.vm ∧ U.heap = h0) (fun _ _ _ _ _ => True) (fun _ U o U' => ∃ v L, o = .returned v ∧ Q2_57 Z w h0 n0 v U'.heap L ∧ FrameEnd U o U' L ({ frames := 0, cells := 0, slots := 0, locals := 0 } : Room).cells ({ frames := 0, cells := 0, slots := 0, locals := 0 } : Room).slots) := by
  refine MetFree.of_bodySF (plainFor_of_name pnc_1) hisR ?_
  intro p e s m args below meth c s₁ Bd hml0 hP hK
  obtain ⟨rfl, hZ, hh⟩ := hP
  have hx := Bd.exec
  have hby := Bd.bytes
  have hml : c.maxLocals = 2 := hml0
  have hown : s.vm.findClass "com/example/ferrule/ferrule/io/TypeCodeOfPinLaw" = some m.cls := findClass_of_methodNamed Bd.named
  have hnm := (name_of_methodNamed Bd.named Bd.method).1
  have X0 : Stand p l e ({ frames := 0, cells := 0, slots := 0, locals := 0 } : Room) s m #[(.long (21 : Int64))] below meth c s₁ [] 0 0 := Stand.of_body Bd
  have e0 : s₁.heap = h0 := by rw [← hh, Bd.state]; rfl
  have N0 := Fr.nil n0
  skip
  have pre0 : ∀ t, Steps p.tables e below (s₁.setTop (mkF m 0 #[.val (.long (21 : Int64)), .second] [])) t → Steps p.tables e below (s₁.setTop (entryFrame m #[(.long (21 : Int64))] 2)) t := fun t k => castTop (ef_2_57 m) k
  obtain ⟨fs, hr, hrun, hended, hWm, hsame⟩ := X0.leave (v := some .null) (fun h => by rw [Bd.returns] at h; cases h)
  refine ⟨_, _, pre0 _ ?_, hrun, hended, _, _, rfl, ?_, ⟨_, rfl⟩, hWm, hsame.mono (by decide) (by decide)⟩
  · show Steps p.tables e below (s₁.setTop (mkF m 0 #[.val (.long (21 : Int64)), .second] [])) _
    refine sL X0 hx hby d2_0 rfl ?_
    refine XS.lconst X0.here hx rfl (hb hby d2_1) ?_
    refine XS.lcmp X0.here hx rfl (hb hby d2_2) rfl ?_
    refine XS.ifYes X0.here hx rfl (pc0 := 3) (pc' := 10) rfl (hb hby d2_3) rfl (by decide) (by decide) (by decide) ?_
    refine sL X0 hx hby d2_10 rfl ?_
    show Steps p.tables e below (s₁.setTop (mkF m 11 #[.val (.long (21 : Int64)), .second] [(.long (21 : Int64))])) _
    refine X0.ldc2Long hx hown (mvT hZ (wk11 hw)) (g := (mkF m 11 #[.val (.long (21 : Int64)), .second] [(.long (21 : Int64))])) rfl (hb hby d2_11) _ ?_
    refine XS.lcmp X0.here hx rfl (hb hby d2_14) rfl ?_
    refine XS.ifYes X0.here hx rfl (pc0 := 15) (pc' := 22) rfl (hb hby d2_15) rfl (by decide) (by decide) (by decide) ?_
    refine sL X0 hx hby d2_22 rfl ?_
    refine X0.ldc2Long hx hown (mvT hZ (wk12 hw)) (g := (mkF m 23 #[.val (.long (21 : Int64)), .second] [(.long (21 : Int64))])) rfl (hb hby d2_23) _ ?_
    show Steps p.tables e below (s₁.setTop (mkF m 26 #[.val (.long (21 : Int64)), .second] [(.long (3 : Int64)), (.long (21 : Int64))])) _
    refine XS.lcmp X0.here hx rfl (hb hby d2_26) rfl ?_
    refine XS.ifYes X0.here hx rfl (pc0 := 27) (pc' := 34) rfl (hb hby d2_27) rfl (by decide) (by decide) (by decide) ?_
    refine sL X0 hx hby d2_34 rfl ?_
    refine X0.ldc2Long hx hown (mvT hZ (wk14 hw)) (g := (mkF m 35 #[.val (.long (21 : Int64)), .second] [(.long (21 : Int64))])) rfl (hb hby d2_35) _ ?_
    refine XS.lcmp X0.here hx rfl (hb hby d2_38) rfl ?_
    show Steps p.tables e below (s₁.setTop (mkF m 39 #[.val (.long (21 : Int64)), .second] [(.int (1 : Int32))])) _
    refine XS.ifYes X0.here hx rfl (pc0 := 39) (pc' := 46) rfl (hb hby d2_39) rfl (by decide) (by decide) (by decide) ?_
    refine sL X0 hx hby d2_46 rfl ?_
    refine X0.ldc2Long hx hown (mvT hZ (wk15 hw)) (g := (mkF m 47 #[.val (.long (21 : Int64)), .second] [(.long (21 : Int64))])) rfl (hb hby d2_47) _ ?_
    refine XS.lcmp X0.here hx rfl (hb hby d2_50) rfl ?_
    refine XS.ifYes X0.here hx rfl (pc0 := 51) (pc' := 58) rfl (hb hby d2_51) rfl (by decide) (by decide) (by decide) ?_
    show Steps p.tables e below (s₁.setTop (mkF m 58 #[.val (.long (21 : Int64)), .second] [])) _
    refine sL X0 hx hby d2_58 rfl ?_
    refine X0.ldc2Long hx hown (mvT hZ (wk16 hw)) (g := (mkF m 59 #[.val (.long (21 : Int64)), .second] [(.long (21 : Int64))])) rfl (hb hby d2_59) _ ?_
    refine XS.lcmp X0.here hx rfl (hb hby d2_62) rfl ?_
    refine XS.ifYes X0.here hx rfl (pc0 := 63) (pc' := 70) rfl (hb hby d2_63) rfl (by decide) (by decide) (by decide) ?_
    refine sL X0 hx hby d2_70 rfl ?_
    show Steps p.tables e below (s₁.setTop (mkF m 71 #[.val (.long (21 : Int64)), .second] [(.long (21 : Int64))])) _
    refine X0.ldc2Long hx hown (mvT hZ (wk17 hw)) (g := (mkF m 71 #[.val (.long (21 : Int64)), .second] [(.long (21 : Int64))])) rfl (hb hby d2_71) _ ?_
    refine XS.lcmp X0.here hx rfl (hb hby d2_74) rfl ?_
    refine XS.ifYes X0.here hx rfl (pc0 := 75) (pc' := 82) rfl (hb hby d2_75) rfl (by decide) (by decide) (by decide) ?_
    refine sL X0 hx hby d2_82 rfl ?_
    refine X0.ldc2Long hx hown (mvT hZ (wk18 hw)) (g := (mkF m 83 #[.val (.long (21 : Int64)), .second] [(.long (21 : Int64))])) rfl (hb hby d2_83) _ ?_
    show Steps p.tables e below (s₁.setTop (mkF m 86 #[.val (.long (21 : Int64)), .second] [(.long (8 : Int64)), (.long (21 : Int64))])) _
    refine XS.lcmp X0.here hx rfl (hb hby d2_86) rfl ?_
    refine XS.ifYes X0.here hx rfl (pc0 := 87) (pc' := 94) rfl (hb hby d2_87) rfl (by decide) (by decide) (by decide) ?_
    refine sL X0 hx hby d2_94 rfl ?_
    refine X0.ldc2Long hx hown (mvT hZ (wk19 hw)) (g := (mkF m 95 #[.val (.long (21 : Int64)), .second] [(.long (21 : Int64))])) rfl (hb hby d2_95) _ ?_
    refine XS.lcmp X0.here hx rfl (hb hby d2_98) rfl ?_
    show Steps p.tables e below (s₁.setTop (mkF m 99 #[.val (.long (21 : Int64)), .second] [(.int (1 : Int32))])) _
    refine XS.ifYes X0.here hx rfl (pc0 := 99) (pc' := 106) rfl (hb hby d2_99) rfl (by decide) (by decide) (by decide) ?_
    refine sL X0 hx hby d2_106 rfl ?_
    refine X0.ldc2Long hx hown (mvT hZ (wk20 hw)) (g := (mkF m 107 #[.val (.long (21 : Int64)), .second] [(.long (21 : Int64))])) rfl (hb hby d2_107) _ ?_
    refine XS.lcmp X0.here hx rfl (hb hby d2_110) rfl ?_
    refine XS.ifYes X0.here hx rfl (pc0 := 111) (pc' := 118) rfl (hb hby d2_111) rfl (by decide) (by decide) (by decide) ?_
    show Steps p.tables e below (s₁.setTop (mkF m 118 #[.val (.long (21 : Int64)), .second] [])) _
    refine sL X0 hx hby d2_118 rfl ?_
    refine X0.ldc2Long hx hown (mvT hZ (wk21 hw)) (g := (mkF m 119 #[.val (.long (21 : Int64)), .second] [(.long (21 : Int64))])) rfl (hb hby d2_119) _ ?_
    refine XS.lcmp X0.here hx rfl (hb hby d2_122) rfl ?_
    refine XS.ifYes X0.here hx rfl (pc0 := 123) (pc' := 130) rfl (hb hby d2_123) rfl (by decide) (by decide) (by decide) ?_
    refine sL X0 hx hby d2_130 rfl ?_
    show Steps p.tables e below (s₁.setTop (mkF m 131 #[.val (.long (21 : Int64)), .second] [(.long (21 : Int64))])) _
    refine X0.ldc2Long hx hown (mvT hZ (wk22 hw)) (g := (mkF m 131 #[.val (.long (21 : Int64)), .second] [(.long (21 : Int64))])) rfl (hb hby d2_131) _ ?_
    refine XS.lcmp X0.here hx rfl (hb hby d2_134) rfl ?_
    refine XS.ifYes X0.here hx rfl (pc0 := 135) (pc' := 142) rfl (hb hby d2_135) rfl (by decide) (by decide) (by decide) ?_
    refine sL X0 hx hby d2_142 rfl ?_
    refine X0.ldc2Long hx hown (mvT hZ (wk23 hw)) (g := (mkF m 143 #[.val (.long (21 : Int64)), .second] [(.long (21 : Int64))])) rfl (hb hby d2_143) _ ?_
    show Steps p.tables e below (s₁.setTop (mkF m 146 #[.val (.long (21 : Int64)), .second] [(.long (13 : Int64)), (.long (21 : Int64))])) _
    refine XS.lcmp X0.here hx rfl (hb hby d2_146) rfl ?_
    refine XS.ifYes X0.here hx rfl (pc0 := 147) (pc' := 154) rfl (hb hby d2_147) rfl (by decide) (by decide) (by decide) ?_
    refine sL X0 hx hby d2_154 rfl ?_
    refine X0.ldc2Long hx hown (mvT hZ (wk24 hw)) (g := (mkF m 155 #[.val (.long (21 : Int64)), .second] [(.long (21 : Int64))])) rfl (hb hby d2_155) _ ?_
    refine XS.lcmp X0.here hx rfl (hb hby d2_158) rfl ?_
    show Steps p.tables e below (s₁.setTop (mkF m 159 #[.val (.long (21 : Int64)), .second] [(.int (1 : Int32))])) _
    refine XS.ifYes X0.here hx rfl (pc0 := 159) (pc' := 166) rfl (hb hby d2_159) rfl (by decide) (by decide) (by decide) ?_
    refine sL X0 hx hby d2_166 rfl ?_
    refine X0.ldc2Long hx hown (mvT hZ (wk25 hw)) (g := (mkF m 167 #[.val (.long (21 : Int64)), .second] [(.long (21 : Int64))])) rfl (hb hby d2_167) _ ?_
    refine XS.lcmp X0.here hx rfl (hb hby d2_170) rfl ?_
    refine XS.ifYes X0.here hx rfl (pc0 := 171) (pc' := 178) rfl (hb hby d2_171) rfl (by decide) (by decide) (by decide) ?_
    show Steps p.tables e below (s₁.setTop (mkF m 178 #[.val (.long (21 : Int64)), .second] [])) _
    refine sL X0 hx hby d2_178 rfl ?_
    refine X0.ldc2Long hx hown (mvT hZ (wk26 hw)) (g := (mkF m 179 #[.val (.long (21 : Int64)), .second] [(.long (21 : Int64))])) rfl (hb hby d2_179) _ ?_
    refine XS.lcmp X0.here hx rfl (hb hby d2_182) rfl ?_
    refine XS.ifYes X0.here hx rfl (pc0 := 183) (pc' := 190) rfl (hb hby d2_183) rfl (by decide) (by decide) (by decide) ?_
    refine sL X0 hx hby d2_190 rfl ?_
    show Steps p.tables e below (s₁.setTop (mkF m 191 #[.val (.long (21 : Int64)), .second] [(.long (21 : Int64))])) _
    refine X0.ldc2Long hx hown (mvT hZ (wk27 hw)) (g := (mkF m 191 #[.val (.long (21 : Int64)), .second] [(.long (21 : Int64))])) rfl (hb hby d2_191) _ ?_
    refine XS.lcmp X0.here hx rfl (hb hby d2_194) rfl ?_
    refine XS.ifYes X0.here hx rfl (pc0 := 195) (pc' := 202) rfl (hb hby d2_195) rfl (by decide) (by decide) (by decide) ?_
    refine sL X0 hx hby d2_202 rfl ?_
    refine X0.ldc2Long hx hown (mvT hZ (wk28 hw)) (g := (mkF m 203 #[.val (.long (21 : Int64)), .second] [(.long (21 : Int64))])) rfl (hb hby d2_203) _ ?_
    show Steps p.tables e below (s₁.setTop (mkF m 206 #[.val (.long (21 : Int64)), .second] [(.long (18 : Int64)), (.long (21 : Int64))])) _
    refine XS.lcmp X0.here hx rfl (hb hby d2_206) rfl ?_
    refine XS.ifYes X0.here hx rfl (pc0 := 207) (pc' := 214) rfl (hb hby d2_207) rfl (by decide) (by decide) (by decide) ?_
    refine sL X0 hx hby d2_214 rfl ?_
    refine X0.ldc2Long hx hown (mvT hZ (wk29 hw)) (g := (mkF m 215 #[.val (.long (21 : Int64)), .second] [(.long (21 : Int64))])) rfl (hb hby d2_215) _ ?_
    refine XS.lcmp X0.here hx rfl (hb hby d2_218) rfl ?_
    show Steps p.tables e below (s₁.setTop (mkF m 219 #[.val (.long (21 : Int64)), .second] [(.int (-1 : Int32))])) _
    refine XS.ifYes X0.here hx rfl (pc0 := 219) (pc' := 226) rfl (hb hby d2_219) rfl (by decide) (by decide) (by decide) ?_
    refine XS.aconstNull X0.here hx rfl (hb hby d2_226) ?_
    jvm_step X0.here [X0.here.top, hx, (hb hby d2_227), X0.method', Bd.returns, Value.isRef, FieldType.isReference]
    first | (intro acts; rw [hr _ acts rfl rfl rfl]) | rw [hr _ _ rfl rfl rfl]
    exact Steps.refl _
  · show Q2_57 Z w h0 n0 _ s₁.heap _
    rw [e0]
    exact ⟨rfl, N0, rfl⟩
theorem ef_2_58 (m : MethodId) : entryFrame m #[(.long (22 : Int64))] 2 = mkF m 0 #[.val (.long (22 : Int64)), .second] [] := by first | (simp [entryFrame, mkF, argsToLocals, Value.category]; done) | rfl
def Q2_58 (Z : State) (w : Nat → Addr) (h0 : Heap) (n0 : Nat) (v : Option Value) (h : Heap) (L : List Loc) : Prop := v = some .null ∧ Fr n0 L ∧ h = h0
set_option maxRecDepth 65536 in
set_option maxHeartbeats 40000000 in
theorem rm2_58 (l : Launch) (Z : State) (a0 : Array Value) (hw : ∀ d ∈ tables_1, d.before a0 Z = true) (w : Nat → Addr) (hW : Wd Z w) (ws : List Jvm.Cond) (h0 : Heap) (n0 : Nat) (O0 : Old Z n0 h0) :
    MetFree l ym1 (head1 (Jvm.Cond.code ym1 method_2_code 2 (some (.object "com/example/ferrule/ferrule/io/TypeCode")) :: ws) ({ frames := 0, cells := 0, slots := 0, locals := 0 } : Room)) (fun a U => a = #[(.long (22 : Int64))] ∧ Z.Warmed39 U.vm ∧ U.heap = h0) (fun _ _ _ _ _ => True) (fun _ U o U' => ∃ v L, o = .returned v ∧ Q2_58 Z w h0 n0 v U'.heap L ∧ FrameEnd U o U' L ({ frames := 0, cells := 0, slots := 0, locals := 0 } : Room).cells ({ frames := 0, cells := 0, slots := 0, locals := 0 } : Room).slots) := by
  refine MetFree.of_bodySF (plainFor_of_name pnc_1) hisR ?_
  intro p e s m args below meth c s₁ Bd hml0 hP hK
  obtain ⟨rfl, hZ, hh⟩ := hP
  have hx := Bd.exec
  have hby := Bd.bytes
  have hml : c.maxLocals = 2 := hml0
  have hown : s.vm.findClass "com/example/ferrule/ferrule/io/TypeCodeOfPinLaw" = some m.cls := findClass_of_methodNamed Bd.named
  have hnm := (name_of_methodNamed Bd.named Bd.method).1
  have X0 : Stand p l e ({ frames := 0, cells := 0, slots := 0, locals := 0 } : Room) s m #[(.long (22 : Int64))] below meth c s₁ [] 0 0 := Stand.of_body Bd
  have e0 : s₁.heap = h0 := by rw [← hh, Bd.state]; rfl
  have N0 := Fr.nil n0
  skip
  have pre0 : ∀ t, Steps p.tables e below (s₁.setTop (mkF m 0 #[.val (.long (22 : Int64)), .second] [])) t → Steps p.tables e below (s₁.setTop (entryFrame m #[(.long (22 : Int64))] 2)) t := fun t k => castTop (ef_2_58 m) k
  obtain ⟨fs, hr, hrun, hended, hWm, hsame⟩ := X0.leave (v := some .null) (fun h => by rw [Bd.returns] at h; cases h)
  refine ⟨_, _, pre0 _ ?_, hrun, hended, _, _, rfl, ?_, ⟨_, rfl⟩, hWm, hsame.mono (by decide) (by decide)⟩
  · show Steps p.tables e below (s₁.setTop (mkF m 0 #[.val (.long (22 : Int64)), .second] [])) _
    refine sL X0 hx hby d2_0 rfl ?_
    refine XS.lconst X0.here hx rfl (hb hby d2_1) ?_
    refine XS.lcmp X0.here hx rfl (hb hby d2_2) rfl ?_
    refine XS.ifYes X0.here hx rfl (pc0 := 3) (pc' := 10) rfl (hb hby d2_3) rfl (by decide) (by decide) (by decide) ?_
    refine sL X0 hx hby d2_10 rfl ?_
    show Steps p.tables e below (s₁.setTop (mkF m 11 #[.val (.long (22 : Int64)), .second] [(.long (22 : Int64))])) _
    refine X0.ldc2Long hx hown (mvT hZ (wk11 hw)) (g := (mkF m 11 #[.val (.long (22 : Int64)), .second] [(.long (22 : Int64))])) rfl (hb hby d2_11) _ ?_
    refine XS.lcmp X0.here hx rfl (hb hby d2_14) rfl ?_
    refine XS.ifYes X0.here hx rfl (pc0 := 15) (pc' := 22) rfl (hb hby d2_15) rfl (by decide) (by decide) (by decide) ?_
    refine sL X0 hx hby d2_22 rfl ?_
    refine X0.ldc2Long hx hown (mvT hZ (wk12 hw)) (g := (mkF m 23 #[.val (.long (22 : Int64)), .second] [(.long (22 : Int64))])) rfl (hb hby d2_23) _ ?_
    show Steps p.tables e below (s₁.setTop (mkF m 26 #[.val (.long (22 : Int64)), .second] [(.long (3 : Int64)), (.long (22 : Int64))])) _
    refine XS.lcmp X0.here hx rfl (hb hby d2_26) rfl ?_
    refine XS.ifYes X0.here hx rfl (pc0 := 27) (pc' := 34) rfl (hb hby d2_27) rfl (by decide) (by decide) (by decide) ?_
    refine sL X0 hx hby d2_34 rfl ?_
    refine X0.ldc2Long hx hown (mvT hZ (wk14 hw)) (g := (mkF m 35 #[.val (.long (22 : Int64)), .second] [(.long (22 : Int64))])) rfl (hb hby d2_35) _ ?_
    refine XS.lcmp X0.here hx rfl (hb hby d2_38) rfl ?_
    show Steps p.tables e below (s₁.setTop (mkF m 39 #[.val (.long (22 : Int64)), .second] [(.int (1 : Int32))])) _
    refine XS.ifYes X0.here hx rfl (pc0 := 39) (pc' := 46) rfl (hb hby d2_39) rfl (by decide) (by decide) (by decide) ?_
    refine sL X0 hx hby d2_46 rfl ?_
    refine X0.ldc2Long hx hown (mvT hZ (wk15 hw)) (g := (mkF m 47 #[.val (.long (22 : Int64)), .second] [(.long (22 : Int64))])) rfl (hb hby d2_47) _ ?_
    refine XS.lcmp X0.here hx rfl (hb hby d2_50) rfl ?_
    refine XS.ifYes X0.here hx rfl (pc0 := 51) (pc' := 58) rfl (hb hby d2_51) rfl (by decide) (by decide) (by decide) ?_
    show Steps p.tables e below (s₁.setTop (mkF m 58 #[.val (.long (22 : Int64)), .second] [])) _
    refine sL X0 hx hby d2_58 rfl ?_
    refine X0.ldc2Long hx hown (mvT hZ (wk16 hw)) (g := (mkF m 59 #[.val (.long (22 : Int64)), .second] [(.long (22 : Int64))])) rfl (hb hby d2_59) _ ?_
    refine XS.lcmp X0.here hx rfl (hb hby d2_62) rfl ?_
    refine XS.ifYes X0.here hx rfl (pc0 := 63) (pc' := 70) rfl (hb hby d2_63) rfl (by decide) (by decide) (by decide) ?_
    refine sL X0 hx hby d2_70 rfl ?_
    show Steps p.tables e below (s₁.setTop (mkF m 71 #[.val (.long (22 : Int64)), .second] [(.long (22 : Int64))])) _
    refine X0.ldc2Long hx hown (mvT hZ (wk17 hw)) (g := (mkF m 71 #[.val (.long (22 : Int64)), .second] [(.long (22 : Int64))])) rfl (hb hby d2_71) _ ?_
    refine XS.lcmp X0.here hx rfl (hb hby d2_74) rfl ?_
    refine XS.ifYes X0.here hx rfl (pc0 := 75) (pc' := 82) rfl (hb hby d2_75) rfl (by decide) (by decide) (by decide) ?_
    refine sL X0 hx hby d2_82 rfl ?_
    refine X0.ldc2Long hx hown (mvT hZ (wk18 hw)) (g := (mkF m 83 #[.val (.long (22 : Int64)), .second] [(.long (22 : Int64))])) rfl (hb hby d2_83) _ ?_
    show Steps p.tables e below (s₁.setTop (mkF m 86 #[.val (.long (22 : Int64)), .second] [(.long (8 : Int64)), (.long (22 : Int64))])) _
    refine XS.lcmp X0.here hx rfl (hb hby d2_86) rfl ?_
    refine XS.ifYes X0.here hx rfl (pc0 := 87) (pc' := 94) rfl (hb hby d2_87) rfl (by decide) (by decide) (by decide) ?_
    refine sL X0 hx hby d2_94 rfl ?_
    refine X0.ldc2Long hx hown (mvT hZ (wk19 hw)) (g := (mkF m 95 #[.val (.long (22 : Int64)), .second] [(.long (22 : Int64))])) rfl (hb hby d2_95) _ ?_
    refine XS.lcmp X0.here hx rfl (hb hby d2_98) rfl ?_
    show Steps p.tables e below (s₁.setTop (mkF m 99 #[.val (.long (22 : Int64)), .second] [(.int (1 : Int32))])) _
    refine XS.ifYes X0.here hx rfl (pc0 := 99) (pc' := 106) rfl (hb hby d2_99) rfl (by decide) (by decide) (by decide) ?_
    refine sL X0 hx hby d2_106 rfl ?_
    refine X0.ldc2Long hx hown (mvT hZ (wk20 hw)) (g := (mkF m 107 #[.val (.long (22 : Int64)), .second] [(.long (22 : Int64))])) rfl (hb hby d2_107) _ ?_
    refine XS.lcmp X0.here hx rfl (hb hby d2_110) rfl ?_
    refine XS.ifYes X0.here hx rfl (pc0 := 111) (pc' := 118) rfl (hb hby d2_111) rfl (by decide) (by decide) (by decide) ?_
    show Steps p.tables e below (s₁.setTop (mkF m 118 #[.val (.long (22 : Int64)), .second] [])) _
    refine sL X0 hx hby d2_118 rfl ?_
    refine X0.ldc2Long hx hown (mvT hZ (wk21 hw)) (g := (mkF m 119 #[.val (.long (22 : Int64)), .second] [(.long (22 : Int64))])) rfl (hb hby d2_119) _ ?_
    refine XS.lcmp X0.here hx rfl (hb hby d2_122) rfl ?_
    refine XS.ifYes X0.here hx rfl (pc0 := 123) (pc' := 130) rfl (hb hby d2_123) rfl (by decide) (by decide) (by decide) ?_
    refine sL X0 hx hby d2_130 rfl ?_
    show Steps p.tables e below (s₁.setTop (mkF m 131 #[.val (.long (22 : Int64)), .second] [(.long (22 : Int64))])) _
    refine X0.ldc2Long hx hown (mvT hZ (wk22 hw)) (g := (mkF m 131 #[.val (.long (22 : Int64)), .second] [(.long (22 : Int64))])) rfl (hb hby d2_131) _ ?_
    refine XS.lcmp X0.here hx rfl (hb hby d2_134) rfl ?_
    refine XS.ifYes X0.here hx rfl (pc0 := 135) (pc' := 142) rfl (hb hby d2_135) rfl (by decide) (by decide) (by decide) ?_
    refine sL X0 hx hby d2_142 rfl ?_
    refine X0.ldc2Long hx hown (mvT hZ (wk23 hw)) (g := (mkF m 143 #[.val (.long (22 : Int64)), .second] [(.long (22 : Int64))])) rfl (hb hby d2_143) _ ?_
    show Steps p.tables e below (s₁.setTop (mkF m 146 #[.val (.long (22 : Int64)), .second] [(.long (13 : Int64)), (.long (22 : Int64))])) _
    refine XS.lcmp X0.here hx rfl (hb hby d2_146) rfl ?_
    refine XS.ifYes X0.here hx rfl (pc0 := 147) (pc' := 154) rfl (hb hby d2_147) rfl (by decide) (by decide) (by decide) ?_
    refine sL X0 hx hby d2_154 rfl ?_
    refine X0.ldc2Long hx hown (mvT hZ (wk24 hw)) (g := (mkF m 155 #[.val (.long (22 : Int64)), .second] [(.long (22 : Int64))])) rfl (hb hby d2_155) _ ?_
    refine XS.lcmp X0.here hx rfl (hb hby d2_158) rfl ?_
    show Steps p.tables e below (s₁.setTop (mkF m 159 #[.val (.long (22 : Int64)), .second] [(.int (1 : Int32))])) _
    refine XS.ifYes X0.here hx rfl (pc0 := 159) (pc' := 166) rfl (hb hby d2_159) rfl (by decide) (by decide) (by decide) ?_
    refine sL X0 hx hby d2_166 rfl ?_
    refine X0.ldc2Long hx hown (mvT hZ (wk25 hw)) (g := (mkF m 167 #[.val (.long (22 : Int64)), .second] [(.long (22 : Int64))])) rfl (hb hby d2_167) _ ?_
    refine XS.lcmp X0.here hx rfl (hb hby d2_170) rfl ?_
    refine XS.ifYes X0.here hx rfl (pc0 := 171) (pc' := 178) rfl (hb hby d2_171) rfl (by decide) (by decide) (by decide) ?_
    show Steps p.tables e below (s₁.setTop (mkF m 178 #[.val (.long (22 : Int64)), .second] [])) _
    refine sL X0 hx hby d2_178 rfl ?_
    refine X0.ldc2Long hx hown (mvT hZ (wk26 hw)) (g := (mkF m 179 #[.val (.long (22 : Int64)), .second] [(.long (22 : Int64))])) rfl (hb hby d2_179) _ ?_
    refine XS.lcmp X0.here hx rfl (hb hby d2_182) rfl ?_
    refine XS.ifYes X0.here hx rfl (pc0 := 183) (pc' := 190) rfl (hb hby d2_183) rfl (by decide) (by decide) (by decide) ?_
    refine sL X0 hx hby d2_190 rfl ?_
    show Steps p.tables e below (s₁.setTop (mkF m 191 #[.val (.long (22 : Int64)), .second] [(.long (22 : Int64))])) _
    refine X0.ldc2Long hx hown (mvT hZ (wk27 hw)) (g := (mkF m 191 #[.val (.long (22 : Int64)), .second] [(.long (22 : Int64))])) rfl (hb hby d2_191) _ ?_
    refine XS.lcmp X0.here hx rfl (hb hby d2_194) rfl ?_
    refine XS.ifYes X0.here hx rfl (pc0 := 195) (pc' := 202) rfl (hb hby d2_195) rfl (by decide) (by decide) (by decide) ?_
    refine sL X0 hx hby d2_202 rfl ?_
    refine X0.ldc2Long hx hown (mvT hZ (wk28 hw)) (g := (mkF m 203 #[.val (.long (22 : Int64)), .second] [(.long (22 : Int64))])) rfl (hb hby d2_203) _ ?_
    show Steps p.tables e below (s₁.setTop (mkF m 206 #[.val (.long (22 : Int64)), .second] [(.long (18 : Int64)), (.long (22 : Int64))])) _
    refine XS.lcmp X0.here hx rfl (hb hby d2_206) rfl ?_
    refine XS.ifYes X0.here hx rfl (pc0 := 207) (pc' := 214) rfl (hb hby d2_207) rfl (by decide) (by decide) (by decide) ?_
    refine sL X0 hx hby d2_214 rfl ?_
    refine X0.ldc2Long hx hown (mvT hZ (wk29 hw)) (g := (mkF m 215 #[.val (.long (22 : Int64)), .second] [(.long (22 : Int64))])) rfl (hb hby d2_215) _ ?_
    refine XS.lcmp X0.here hx rfl (hb hby d2_218) rfl ?_
    show Steps p.tables e below (s₁.setTop (mkF m 219 #[.val (.long (22 : Int64)), .second] [(.int (-1 : Int32))])) _
    refine XS.ifYes X0.here hx rfl (pc0 := 219) (pc' := 226) rfl (hb hby d2_219) rfl (by decide) (by decide) (by decide) ?_
    refine XS.aconstNull X0.here hx rfl (hb hby d2_226) ?_
    jvm_step X0.here [X0.here.top, hx, (hb hby d2_227), X0.method', Bd.returns, Value.isRef, FieldType.isReference]
    first | (intro acts; rw [hr _ acts rfl rfl rfl]) | rw [hr _ _ rfl rfl rfl]
    exact Steps.refl _
  · show Q2_58 Z w h0 n0 _ s₁.heap _
    rw [e0]
    exact ⟨rfl, N0, rfl⟩
theorem ef_2_59 (m : MethodId) : entryFrame m #[(.long (23 : Int64))] 2 = mkF m 0 #[.val (.long (23 : Int64)), .second] [] := by first | (simp [entryFrame, mkF, argsToLocals, Value.category]; done) | rfl
def Q2_59 (Z : State) (w : Nat → Addr) (h0 : Heap) (n0 : Nat) (v : Option Value) (h : Heap) (L : List Loc) : Prop := v = some .null ∧ Fr n0 L ∧ h = h0
set_option maxRecDepth 65536 in
set_option maxHeartbeats 40000000 in
theorem rm2_59 (l : Launch) (Z : State) (a0 : Array Value) (hw : ∀ d ∈ tables_1, d.before a0 Z = true) (w : Nat → Addr) (hW : Wd Z w) (ws : List Jvm.Cond) (h0 : Heap) (n0 : Nat) (O0 : Old Z n0 h0) :
    MetFree l ym1 (head1 (Jvm.Cond.code ym1 method_2_code 2 (some (.object "com/example/ferrule/ferrule/io/TypeCode")) :: ws) ({ frames := 0, cells := 0, slots := 0, locals := 0 } : Room)) (fun a U => a = #[(.long (23 : Int64))] ∧ Z.Warmed39 U.vm ∧ U.heap = h0) (fun _ _ _ _ _ => True) (fun _ U o U' => ∃ v L, o = .returned v ∧ Q2_59 Z w h0 n0 v U'.heap L ∧ FrameEnd U o U' L ({ frames := 0, cells := 0, slots := 0, locals := 0 } : Room).cells ({ frames := 0, cells := 0, slots := 0, locals := 0 } : Room).slots) := by
  refine MetFree.of_bodySF (plainFor_of_name pnc_1) hisR ?_
  intro p e s m args below meth c s₁ Bd hml0 hP hK
  obtain ⟨rfl, hZ, hh⟩ := hP
  have hx := Bd.exec
  have hby := Bd.bytes
  have hml : c.maxLocals = 2 := hml0
  have hown : s.vm.findClass "com/example/ferrule/ferrule/io/TypeCodeOfPinLaw" = some m.cls := findClass_of_methodNamed Bd.named
  have hnm := (name_of_methodNamed Bd.named Bd.method).1
  have X0 : Stand p l e ({ frames := 0, cells := 0, slots := 0, locals := 0 } : Room) s m #[(.long (23 : Int64))] below meth c s₁ [] 0 0 := Stand.of_body Bd
  have e0 : s₁.heap = h0 := by rw [← hh, Bd.state]; rfl
  have N0 := Fr.nil n0
  skip
  have pre0 : ∀ t, Steps p.tables e below (s₁.setTop (mkF m 0 #[.val (.long (23 : Int64)), .second] [])) t → Steps p.tables e below (s₁.setTop (entryFrame m #[(.long (23 : Int64))] 2)) t := fun t k => castTop (ef_2_59 m) k
  obtain ⟨fs, hr, hrun, hended, hWm, hsame⟩ := X0.leave (v := some .null) (fun h => by rw [Bd.returns] at h; cases h)
  refine ⟨_, _, pre0 _ ?_, hrun, hended, _, _, rfl, ?_, ⟨_, rfl⟩, hWm, hsame.mono (by decide) (by decide)⟩
  · show Steps p.tables e below (s₁.setTop (mkF m 0 #[.val (.long (23 : Int64)), .second] [])) _
    refine sL X0 hx hby d2_0 rfl ?_
    refine XS.lconst X0.here hx rfl (hb hby d2_1) ?_
    refine XS.lcmp X0.here hx rfl (hb hby d2_2) rfl ?_
    refine XS.ifYes X0.here hx rfl (pc0 := 3) (pc' := 10) rfl (hb hby d2_3) rfl (by decide) (by decide) (by decide) ?_
    refine sL X0 hx hby d2_10 rfl ?_
    show Steps p.tables e below (s₁.setTop (mkF m 11 #[.val (.long (23 : Int64)), .second] [(.long (23 : Int64))])) _
    refine X0.ldc2Long hx hown (mvT hZ (wk11 hw)) (g := (mkF m 11 #[.val (.long (23 : Int64)), .second] [(.long (23 : Int64))])) rfl (hb hby d2_11) _ ?_
    refine XS.lcmp X0.here hx rfl (hb hby d2_14) rfl ?_
    refine XS.ifYes X0.here hx rfl (pc0 := 15) (pc' := 22) rfl (hb hby d2_15) rfl (by decide) (by decide) (by decide) ?_
    refine sL X0 hx hby d2_22 rfl ?_
    refine X0.ldc2Long hx hown (mvT hZ (wk12 hw)) (g := (mkF m 23 #[.val (.long (23 : Int64)), .second] [(.long (23 : Int64))])) rfl (hb hby d2_23) _ ?_
    show Steps p.tables e below (s₁.setTop (mkF m 26 #[.val (.long (23 : Int64)), .second] [(.long (3 : Int64)), (.long (23 : Int64))])) _
    refine XS.lcmp X0.here hx rfl (hb hby d2_26) rfl ?_
    refine XS.ifYes X0.here hx rfl (pc0 := 27) (pc' := 34) rfl (hb hby d2_27) rfl (by decide) (by decide) (by decide) ?_
    refine sL X0 hx hby d2_34 rfl ?_
    refine X0.ldc2Long hx hown (mvT hZ (wk14 hw)) (g := (mkF m 35 #[.val (.long (23 : Int64)), .second] [(.long (23 : Int64))])) rfl (hb hby d2_35) _ ?_
    refine XS.lcmp X0.here hx rfl (hb hby d2_38) rfl ?_
    show Steps p.tables e below (s₁.setTop (mkF m 39 #[.val (.long (23 : Int64)), .second] [(.int (1 : Int32))])) _
    refine XS.ifYes X0.here hx rfl (pc0 := 39) (pc' := 46) rfl (hb hby d2_39) rfl (by decide) (by decide) (by decide) ?_
    refine sL X0 hx hby d2_46 rfl ?_
    refine X0.ldc2Long hx hown (mvT hZ (wk15 hw)) (g := (mkF m 47 #[.val (.long (23 : Int64)), .second] [(.long (23 : Int64))])) rfl (hb hby d2_47) _ ?_
    refine XS.lcmp X0.here hx rfl (hb hby d2_50) rfl ?_
    refine XS.ifYes X0.here hx rfl (pc0 := 51) (pc' := 58) rfl (hb hby d2_51) rfl (by decide) (by decide) (by decide) ?_
    show Steps p.tables e below (s₁.setTop (mkF m 58 #[.val (.long (23 : Int64)), .second] [])) _
    refine sL X0 hx hby d2_58 rfl ?_
    refine X0.ldc2Long hx hown (mvT hZ (wk16 hw)) (g := (mkF m 59 #[.val (.long (23 : Int64)), .second] [(.long (23 : Int64))])) rfl (hb hby d2_59) _ ?_
    refine XS.lcmp X0.here hx rfl (hb hby d2_62) rfl ?_
    refine XS.ifYes X0.here hx rfl (pc0 := 63) (pc' := 70) rfl (hb hby d2_63) rfl (by decide) (by decide) (by decide) ?_
    refine sL X0 hx hby d2_70 rfl ?_
    show Steps p.tables e below (s₁.setTop (mkF m 71 #[.val (.long (23 : Int64)), .second] [(.long (23 : Int64))])) _
    refine X0.ldc2Long hx hown (mvT hZ (wk17 hw)) (g := (mkF m 71 #[.val (.long (23 : Int64)), .second] [(.long (23 : Int64))])) rfl (hb hby d2_71) _ ?_
    refine XS.lcmp X0.here hx rfl (hb hby d2_74) rfl ?_
    refine XS.ifYes X0.here hx rfl (pc0 := 75) (pc' := 82) rfl (hb hby d2_75) rfl (by decide) (by decide) (by decide) ?_
    refine sL X0 hx hby d2_82 rfl ?_
    refine X0.ldc2Long hx hown (mvT hZ (wk18 hw)) (g := (mkF m 83 #[.val (.long (23 : Int64)), .second] [(.long (23 : Int64))])) rfl (hb hby d2_83) _ ?_
    show Steps p.tables e below (s₁.setTop (mkF m 86 #[.val (.long (23 : Int64)), .second] [(.long (8 : Int64)), (.long (23 : Int64))])) _
    refine XS.lcmp X0.here hx rfl (hb hby d2_86) rfl ?_
    refine XS.ifYes X0.here hx rfl (pc0 := 87) (pc' := 94) rfl (hb hby d2_87) rfl (by decide) (by decide) (by decide) ?_
    refine sL X0 hx hby d2_94 rfl ?_
    refine X0.ldc2Long hx hown (mvT hZ (wk19 hw)) (g := (mkF m 95 #[.val (.long (23 : Int64)), .second] [(.long (23 : Int64))])) rfl (hb hby d2_95) _ ?_
    refine XS.lcmp X0.here hx rfl (hb hby d2_98) rfl ?_
    show Steps p.tables e below (s₁.setTop (mkF m 99 #[.val (.long (23 : Int64)), .second] [(.int (1 : Int32))])) _
    refine XS.ifYes X0.here hx rfl (pc0 := 99) (pc' := 106) rfl (hb hby d2_99) rfl (by decide) (by decide) (by decide) ?_
    refine sL X0 hx hby d2_106 rfl ?_
    refine X0.ldc2Long hx hown (mvT hZ (wk20 hw)) (g := (mkF m 107 #[.val (.long (23 : Int64)), .second] [(.long (23 : Int64))])) rfl (hb hby d2_107) _ ?_
    refine XS.lcmp X0.here hx rfl (hb hby d2_110) rfl ?_
    refine XS.ifYes X0.here hx rfl (pc0 := 111) (pc' := 118) rfl (hb hby d2_111) rfl (by decide) (by decide) (by decide) ?_
    show Steps p.tables e below (s₁.setTop (mkF m 118 #[.val (.long (23 : Int64)), .second] [])) _
    refine sL X0 hx hby d2_118 rfl ?_
    refine X0.ldc2Long hx hown (mvT hZ (wk21 hw)) (g := (mkF m 119 #[.val (.long (23 : Int64)), .second] [(.long (23 : Int64))])) rfl (hb hby d2_119) _ ?_
    refine XS.lcmp X0.here hx rfl (hb hby d2_122) rfl ?_
    refine XS.ifYes X0.here hx rfl (pc0 := 123) (pc' := 130) rfl (hb hby d2_123) rfl (by decide) (by decide) (by decide) ?_
    refine sL X0 hx hby d2_130 rfl ?_
    show Steps p.tables e below (s₁.setTop (mkF m 131 #[.val (.long (23 : Int64)), .second] [(.long (23 : Int64))])) _
    refine X0.ldc2Long hx hown (mvT hZ (wk22 hw)) (g := (mkF m 131 #[.val (.long (23 : Int64)), .second] [(.long (23 : Int64))])) rfl (hb hby d2_131) _ ?_
    refine XS.lcmp X0.here hx rfl (hb hby d2_134) rfl ?_
    refine XS.ifYes X0.here hx rfl (pc0 := 135) (pc' := 142) rfl (hb hby d2_135) rfl (by decide) (by decide) (by decide) ?_
    refine sL X0 hx hby d2_142 rfl ?_
    refine X0.ldc2Long hx hown (mvT hZ (wk23 hw)) (g := (mkF m 143 #[.val (.long (23 : Int64)), .second] [(.long (23 : Int64))])) rfl (hb hby d2_143) _ ?_
    show Steps p.tables e below (s₁.setTop (mkF m 146 #[.val (.long (23 : Int64)), .second] [(.long (13 : Int64)), (.long (23 : Int64))])) _
    refine XS.lcmp X0.here hx rfl (hb hby d2_146) rfl ?_
    refine XS.ifYes X0.here hx rfl (pc0 := 147) (pc' := 154) rfl (hb hby d2_147) rfl (by decide) (by decide) (by decide) ?_
    refine sL X0 hx hby d2_154 rfl ?_
    refine X0.ldc2Long hx hown (mvT hZ (wk24 hw)) (g := (mkF m 155 #[.val (.long (23 : Int64)), .second] [(.long (23 : Int64))])) rfl (hb hby d2_155) _ ?_
    refine XS.lcmp X0.here hx rfl (hb hby d2_158) rfl ?_
    show Steps p.tables e below (s₁.setTop (mkF m 159 #[.val (.long (23 : Int64)), .second] [(.int (1 : Int32))])) _
    refine XS.ifYes X0.here hx rfl (pc0 := 159) (pc' := 166) rfl (hb hby d2_159) rfl (by decide) (by decide) (by decide) ?_
    refine sL X0 hx hby d2_166 rfl ?_
    refine X0.ldc2Long hx hown (mvT hZ (wk25 hw)) (g := (mkF m 167 #[.val (.long (23 : Int64)), .second] [(.long (23 : Int64))])) rfl (hb hby d2_167) _ ?_
    refine XS.lcmp X0.here hx rfl (hb hby d2_170) rfl ?_
    refine XS.ifYes X0.here hx rfl (pc0 := 171) (pc' := 178) rfl (hb hby d2_171) rfl (by decide) (by decide) (by decide) ?_
    show Steps p.tables e below (s₁.setTop (mkF m 178 #[.val (.long (23 : Int64)), .second] [])) _
    refine sL X0 hx hby d2_178 rfl ?_
    refine X0.ldc2Long hx hown (mvT hZ (wk26 hw)) (g := (mkF m 179 #[.val (.long (23 : Int64)), .second] [(.long (23 : Int64))])) rfl (hb hby d2_179) _ ?_
    refine XS.lcmp X0.here hx rfl (hb hby d2_182) rfl ?_
    refine XS.ifYes X0.here hx rfl (pc0 := 183) (pc' := 190) rfl (hb hby d2_183) rfl (by decide) (by decide) (by decide) ?_
    refine sL X0 hx hby d2_190 rfl ?_
    show Steps p.tables e below (s₁.setTop (mkF m 191 #[.val (.long (23 : Int64)), .second] [(.long (23 : Int64))])) _
    refine X0.ldc2Long hx hown (mvT hZ (wk27 hw)) (g := (mkF m 191 #[.val (.long (23 : Int64)), .second] [(.long (23 : Int64))])) rfl (hb hby d2_191) _ ?_
    refine XS.lcmp X0.here hx rfl (hb hby d2_194) rfl ?_
    refine XS.ifYes X0.here hx rfl (pc0 := 195) (pc' := 202) rfl (hb hby d2_195) rfl (by decide) (by decide) (by decide) ?_
    refine sL X0 hx hby d2_202 rfl ?_
    refine X0.ldc2Long hx hown (mvT hZ (wk28 hw)) (g := (mkF m 203 #[.val (.long (23 : Int64)), .second] [(.long (23 : Int64))])) rfl (hb hby d2_203) _ ?_
    show Steps p.tables e below (s₁.setTop (mkF m 206 #[.val (.long (23 : Int64)), .second] [(.long (18 : Int64)), (.long (23 : Int64))])) _
    refine XS.lcmp X0.here hx rfl (hb hby d2_206) rfl ?_
    refine XS.ifYes X0.here hx rfl (pc0 := 207) (pc' := 214) rfl (hb hby d2_207) rfl (by decide) (by decide) (by decide) ?_
    refine sL X0 hx hby d2_214 rfl ?_
    refine X0.ldc2Long hx hown (mvT hZ (wk29 hw)) (g := (mkF m 215 #[.val (.long (23 : Int64)), .second] [(.long (23 : Int64))])) rfl (hb hby d2_215) _ ?_
    refine XS.lcmp X0.here hx rfl (hb hby d2_218) rfl ?_
    show Steps p.tables e below (s₁.setTop (mkF m 219 #[.val (.long (23 : Int64)), .second] [(.int (-1 : Int32))])) _
    refine XS.ifYes X0.here hx rfl (pc0 := 219) (pc' := 226) rfl (hb hby d2_219) rfl (by decide) (by decide) (by decide) ?_
    refine XS.aconstNull X0.here hx rfl (hb hby d2_226) ?_
    jvm_step X0.here [X0.here.top, hx, (hb hby d2_227), X0.method', Bd.returns, Value.isRef, FieldType.isReference]
    first | (intro acts; rw [hr _ acts rfl rfl rfl]) | rw [hr _ _ rfl rfl rfl]
    exact Steps.refl _
  · show Q2_59 Z w h0 n0 _ s₁.heap _
    rw [e0]
    exact ⟨rfl, N0, rfl⟩
theorem ef_2_60 (m : MethodId) : entryFrame m #[(.long (24 : Int64))] 2 = mkF m 0 #[.val (.long (24 : Int64)), .second] [] := by first | (simp [entryFrame, mkF, argsToLocals, Value.category]; done) | rfl
def Q2_60 (Z : State) (w : Nat → Addr) (h0 : Heap) (n0 : Nat) (v : Option Value) (h : Heap) (L : List Loc) : Prop := v = some .null ∧ Fr n0 L ∧ h = h0
set_option maxRecDepth 65536 in
set_option maxHeartbeats 40000000 in
theorem rm2_60 (l : Launch) (Z : State) (a0 : Array Value) (hw : ∀ d ∈ tables_1, d.before a0 Z = true) (w : Nat → Addr) (hW : Wd Z w) (ws : List Jvm.Cond) (h0 : Heap) (n0 : Nat) (O0 : Old Z n0 h0) :
    MetFree l ym1 (head1 (Jvm.Cond.code ym1 method_2_code 2 (some (.object "com/example/ferrule/ferrule/io/TypeCode")) :: ws) ({ frames := 0, cells := 0, slots := 0, locals := 0 } : Room)) (fun a U => a = #[(.long (24 : Int64))] ∧ Z.Warmed39 U.vm ∧ U.heap = h0) (fun _ _ _ _ _ => True) (fun _ U o U' => ∃ v L, o = .returned v ∧ Q2_60 Z w h0 n0 v U'.heap L ∧ FrameEnd U o U' L ({ frames := 0, cells := 0, slots := 0, locals := 0 } : Room).cells ({ frames := 0, cells := 0, slots := 0, locals := 0 } : Room).slots) := by
  refine MetFree.of_bodySF (plainFor_of_name pnc_1) hisR ?_
  intro p e s m args below meth c s₁ Bd hml0 hP hK
  obtain ⟨rfl, hZ, hh⟩ := hP
  have hx := Bd.exec
  have hby := Bd.bytes
  have hml : c.maxLocals = 2 := hml0
  have hown : s.vm.findClass "com/example/ferrule/ferrule/io/TypeCodeOfPinLaw" = some m.cls := findClass_of_methodNamed Bd.named
  have hnm := (name_of_methodNamed Bd.named Bd.method).1
  have X0 : Stand p l e ({ frames := 0, cells := 0, slots := 0, locals := 0 } : Room) s m #[(.long (24 : Int64))] below meth c s₁ [] 0 0 := Stand.of_body Bd
  have e0 : s₁.heap = h0 := by rw [← hh, Bd.state]; rfl
  have N0 := Fr.nil n0
  skip
  have pre0 : ∀ t, Steps p.tables e below (s₁.setTop (mkF m 0 #[.val (.long (24 : Int64)), .second] [])) t → Steps p.tables e below (s₁.setTop (entryFrame m #[(.long (24 : Int64))] 2)) t := fun t k => castTop (ef_2_60 m) k
  obtain ⟨fs, hr, hrun, hended, hWm, hsame⟩ := X0.leave (v := some .null) (fun h => by rw [Bd.returns] at h; cases h)
  refine ⟨_, _, pre0 _ ?_, hrun, hended, _, _, rfl, ?_, ⟨_, rfl⟩, hWm, hsame.mono (by decide) (by decide)⟩
  · show Steps p.tables e below (s₁.setTop (mkF m 0 #[.val (.long (24 : Int64)), .second] [])) _
    refine sL X0 hx hby d2_0 rfl ?_
    refine XS.lconst X0.here hx rfl (hb hby d2_1) ?_
    refine XS.lcmp X0.here hx rfl (hb hby d2_2) rfl ?_
    refine XS.ifYes X0.here hx rfl (pc0 := 3) (pc' := 10) rfl (hb hby d2_3) rfl (by decide) (by decide) (by decide) ?_
    refine sL X0 hx hby d2_10 rfl ?_
    show Steps p.tables e below (s₁.setTop (mkF m 11 #[.val (.long (24 : Int64)), .second] [(.long (24 : Int64))])) _
    refine X0.ldc2Long hx hown (mvT hZ (wk11 hw)) (g := (mkF m 11 #[.val (.long (24 : Int64)), .second] [(.long (24 : Int64))])) rfl (hb hby d2_11) _ ?_
    refine XS.lcmp X0.here hx rfl (hb hby d2_14) rfl ?_
    refine XS.ifYes X0.here hx rfl (pc0 := 15) (pc' := 22) rfl (hb hby d2_15) rfl (by decide) (by decide) (by decide) ?_
    refine sL X0 hx hby d2_22 rfl ?_
    refine X0.ldc2Long hx hown (mvT hZ (wk12 hw)) (g := (mkF m 23 #[.val (.long (24 : Int64)), .second] [(.long (24 : Int64))])) rfl (hb hby d2_23) _ ?_
    show Steps p.tables e below (s₁.setTop (mkF m 26 #[.val (.long (24 : Int64)), .second] [(.long (3 : Int64)), (.long (24 : Int64))])) _
    refine XS.lcmp X0.here hx rfl (hb hby d2_26) rfl ?_
    refine XS.ifYes X0.here hx rfl (pc0 := 27) (pc' := 34) rfl (hb hby d2_27) rfl (by decide) (by decide) (by decide) ?_
    refine sL X0 hx hby d2_34 rfl ?_
    refine X0.ldc2Long hx hown (mvT hZ (wk14 hw)) (g := (mkF m 35 #[.val (.long (24 : Int64)), .second] [(.long (24 : Int64))])) rfl (hb hby d2_35) _ ?_
    refine XS.lcmp X0.here hx rfl (hb hby d2_38) rfl ?_
    show Steps p.tables e below (s₁.setTop (mkF m 39 #[.val (.long (24 : Int64)), .second] [(.int (1 : Int32))])) _
    refine XS.ifYes X0.here hx rfl (pc0 := 39) (pc' := 46) rfl (hb hby d2_39) rfl (by decide) (by decide) (by decide) ?_
    refine sL X0 hx hby d2_46 rfl ?_
    refine X0.ldc2Long hx hown (mvT hZ (wk15 hw)) (g := (mkF m 47 #[.val (.long (24 : Int64)), .second] [(.long (24 : Int64))])) rfl (hb hby d2_47) _ ?_
    refine XS.lcmp X0.here hx rfl (hb hby d2_50) rfl ?_
    refine XS.ifYes X0.here hx rfl (pc0 := 51) (pc' := 58) rfl (hb hby d2_51) rfl (by decide) (by decide) (by decide) ?_
    show Steps p.tables e below (s₁.setTop (mkF m 58 #[.val (.long (24 : Int64)), .second] [])) _
    refine sL X0 hx hby d2_58 rfl ?_
    refine X0.ldc2Long hx hown (mvT hZ (wk16 hw)) (g := (mkF m 59 #[.val (.long (24 : Int64)), .second] [(.long (24 : Int64))])) rfl (hb hby d2_59) _ ?_
    refine XS.lcmp X0.here hx rfl (hb hby d2_62) rfl ?_
    refine XS.ifYes X0.here hx rfl (pc0 := 63) (pc' := 70) rfl (hb hby d2_63) rfl (by decide) (by decide) (by decide) ?_
    refine sL X0 hx hby d2_70 rfl ?_
    show Steps p.tables e below (s₁.setTop (mkF m 71 #[.val (.long (24 : Int64)), .second] [(.long (24 : Int64))])) _
    refine X0.ldc2Long hx hown (mvT hZ (wk17 hw)) (g := (mkF m 71 #[.val (.long (24 : Int64)), .second] [(.long (24 : Int64))])) rfl (hb hby d2_71) _ ?_
    refine XS.lcmp X0.here hx rfl (hb hby d2_74) rfl ?_
    refine XS.ifYes X0.here hx rfl (pc0 := 75) (pc' := 82) rfl (hb hby d2_75) rfl (by decide) (by decide) (by decide) ?_
    refine sL X0 hx hby d2_82 rfl ?_
    refine X0.ldc2Long hx hown (mvT hZ (wk18 hw)) (g := (mkF m 83 #[.val (.long (24 : Int64)), .second] [(.long (24 : Int64))])) rfl (hb hby d2_83) _ ?_
    show Steps p.tables e below (s₁.setTop (mkF m 86 #[.val (.long (24 : Int64)), .second] [(.long (8 : Int64)), (.long (24 : Int64))])) _
    refine XS.lcmp X0.here hx rfl (hb hby d2_86) rfl ?_
    refine XS.ifYes X0.here hx rfl (pc0 := 87) (pc' := 94) rfl (hb hby d2_87) rfl (by decide) (by decide) (by decide) ?_
    refine sL X0 hx hby d2_94 rfl ?_
    refine X0.ldc2Long hx hown (mvT hZ (wk19 hw)) (g := (mkF m 95 #[.val (.long (24 : Int64)), .second] [(.long (24 : Int64))])) rfl (hb hby d2_95) _ ?_
    refine XS.lcmp X0.here hx rfl (hb hby d2_98) rfl ?_
    show Steps p.tables e below (s₁.setTop (mkF m 99 #[.val (.long (24 : Int64)), .second] [(.int (1 : Int32))])) _
    refine XS.ifYes X0.here hx rfl (pc0 := 99) (pc' := 106) rfl (hb hby d2_99) rfl (by decide) (by decide) (by decide) ?_
    refine sL X0 hx hby d2_106 rfl ?_
    refine X0.ldc2Long hx hown (mvT hZ (wk20 hw)) (g := (mkF m 107 #[.val (.long (24 : Int64)), .second] [(.long (24 : Int64))])) rfl (hb hby d2_107) _ ?_
    refine XS.lcmp X0.here hx rfl (hb hby d2_110) rfl ?_
    refine XS.ifYes X0.here hx rfl (pc0 := 111) (pc' := 118) rfl (hb hby d2_111) rfl (by decide) (by decide) (by decide) ?_
    show Steps p.tables e below (s₁.setTop (mkF m 118 #[.val (.long (24 : Int64)), .second] [])) _
    refine sL X0 hx hby d2_118 rfl ?_
    refine X0.ldc2Long hx hown (mvT hZ (wk21 hw)) (g := (mkF m 119 #[.val (.long (24 : Int64)), .second] [(.long (24 : Int64))])) rfl (hb hby d2_119) _ ?_
    refine XS.lcmp X0.here hx rfl (hb hby d2_122) rfl ?_
    refine XS.ifYes X0.here hx rfl (pc0 := 123) (pc' := 130) rfl (hb hby d2_123) rfl (by decide) (by decide) (by decide) ?_
    refine sL X0 hx hby d2_130 rfl ?_
    show Steps p.tables e below (s₁.setTop (mkF m 131 #[.val (.long (24 : Int64)), .second] [(.long (24 : Int64))])) _
    refine X0.ldc2Long hx hown (mvT hZ (wk22 hw)) (g := (mkF m 131 #[.val (.long (24 : Int64)), .second] [(.long (24 : Int64))])) rfl (hb hby d2_131) _ ?_
    refine XS.lcmp X0.here hx rfl (hb hby d2_134) rfl ?_
    refine XS.ifYes X0.here hx rfl (pc0 := 135) (pc' := 142) rfl (hb hby d2_135) rfl (by decide) (by decide) (by decide) ?_
    refine sL X0 hx hby d2_142 rfl ?_
    refine X0.ldc2Long hx hown (mvT hZ (wk23 hw)) (g := (mkF m 143 #[.val (.long (24 : Int64)), .second] [(.long (24 : Int64))])) rfl (hb hby d2_143) _ ?_
    show Steps p.tables e below (s₁.setTop (mkF m 146 #[.val (.long (24 : Int64)), .second] [(.long (13 : Int64)), (.long (24 : Int64))])) _
    refine XS.lcmp X0.here hx rfl (hb hby d2_146) rfl ?_
    refine XS.ifYes X0.here hx rfl (pc0 := 147) (pc' := 154) rfl (hb hby d2_147) rfl (by decide) (by decide) (by decide) ?_
    refine sL X0 hx hby d2_154 rfl ?_
    refine X0.ldc2Long hx hown (mvT hZ (wk24 hw)) (g := (mkF m 155 #[.val (.long (24 : Int64)), .second] [(.long (24 : Int64))])) rfl (hb hby d2_155) _ ?_
    refine XS.lcmp X0.here hx rfl (hb hby d2_158) rfl ?_
    show Steps p.tables e below (s₁.setTop (mkF m 159 #[.val (.long (24 : Int64)), .second] [(.int (1 : Int32))])) _
    refine XS.ifYes X0.here hx rfl (pc0 := 159) (pc' := 166) rfl (hb hby d2_159) rfl (by decide) (by decide) (by decide) ?_
    refine sL X0 hx hby d2_166 rfl ?_
    refine X0.ldc2Long hx hown (mvT hZ (wk25 hw)) (g := (mkF m 167 #[.val (.long (24 : Int64)), .second] [(.long (24 : Int64))])) rfl (hb hby d2_167) _ ?_
    refine XS.lcmp X0.here hx rfl (hb hby d2_170) rfl ?_
    refine XS.ifYes X0.here hx rfl (pc0 := 171) (pc' := 178) rfl (hb hby d2_171) rfl (by decide) (by decide) (by decide) ?_
    show Steps p.tables e below (s₁.setTop (mkF m 178 #[.val (.long (24 : Int64)), .second] [])) _
    refine sL X0 hx hby d2_178 rfl ?_
    refine X0.ldc2Long hx hown (mvT hZ (wk26 hw)) (g := (mkF m 179 #[.val (.long (24 : Int64)), .second] [(.long (24 : Int64))])) rfl (hb hby d2_179) _ ?_
    refine XS.lcmp X0.here hx rfl (hb hby d2_182) rfl ?_
    refine XS.ifYes X0.here hx rfl (pc0 := 183) (pc' := 190) rfl (hb hby d2_183) rfl (by decide) (by decide) (by decide) ?_
    refine sL X0 hx hby d2_190 rfl ?_
    show Steps p.tables e below (s₁.setTop (mkF m 191 #[.val (.long (24 : Int64)), .second] [(.long (24 : Int64))])) _
    refine X0.ldc2Long hx hown (mvT hZ (wk27 hw)) (g := (mkF m 191 #[.val (.long (24 : Int64)), .second] [(.long (24 : Int64))])) rfl (hb hby d2_191) _ ?_
    refine XS.lcmp X0.here hx rfl (hb hby d2_194) rfl ?_
    refine XS.ifYes X0.here hx rfl (pc0 := 195) (pc' := 202) rfl (hb hby d2_195) rfl (by decide) (by decide) (by decide) ?_
    refine sL X0 hx hby d2_202 rfl ?_
    refine X0.ldc2Long hx hown (mvT hZ (wk28 hw)) (g := (mkF m 203 #[.val (.long (24 : Int64)), .second] [(.long (24 : Int64))])) rfl (hb hby d2_203) _ ?_
    show Steps p.tables e below (s₁.setTop (mkF m 206 #[.val (.long (24 : Int64)), .second] [(.long (18 : Int64)), (.long (24 : Int64))])) _
    refine XS.lcmp X0.here hx rfl (hb hby d2_206) rfl ?_
    refine XS.ifYes X0.here hx rfl (pc0 := 207) (pc' := 214) rfl (hb hby d2_207) rfl (by decide) (by decide) (by decide) ?_
    refine sL X0 hx hby d2_214 rfl ?_
    refine X0.ldc2Long hx hown (mvT hZ (wk29 hw)) (g := (mkF m 215 #[.val (.long (24 : Int64)), .second] [(.long (24 : Int64))])) rfl (hb hby d2_215) _ ?_
    refine XS.lcmp X0.here hx rfl (hb hby d2_218) rfl ?_
    show Steps p.tables e below (s₁.setTop (mkF m 219 #[.val (.long (24 : Int64)), .second] [(.int (-1 : Int32))])) _
    refine XS.ifYes X0.here hx rfl (pc0 := 219) (pc' := 226) rfl (hb hby d2_219) rfl (by decide) (by decide) (by decide) ?_
    refine XS.aconstNull X0.here hx rfl (hb hby d2_226) ?_
    jvm_step X0.here [X0.here.top, hx, (hb hby d2_227), X0.method', Bd.returns, Value.isRef, FieldType.isReference]
    first | (intro acts; rw [hr _ acts rfl rfl rfl]) | rw [hr _ _ rfl rfl rfl]
    exact Steps.refl _
  · show Q2_60 Z w h0 n0 _ s₁.heap _
    rw [e0]
    exact ⟨rfl, N0, rfl⟩
theorem ef_2_61 (m : MethodId) : entryFrame m #[(.long (25 : Int64))] 2 = mkF m 0 #[.val (.long (25 : Int64)), .second] [] := by first | (simp [entryFrame, mkF, argsToLocals, Value.category]; done) | rfl
def Q2_61 (Z : State) (w : Nat → Addr) (h0 : Heap) (n0 : Nat) (v : Option Value) (h : Heap) (L : List Loc) : Prop := v = some .null ∧ Fr n0 L ∧ h = h0
set_option maxRecDepth 65536 in
set_option maxHeartbeats 40000000 in
theorem rm2_61 (l : Launch) (Z : State) (a0 : Array Value) (hw : ∀ d ∈ tables_1, d.before a0 Z = true) (w : Nat → Addr) (hW : Wd Z w) (ws : List Jvm.Cond) (h0 : Heap) (n0 : Nat) (O0 : Old Z n0 h0) :
    MetFree l ym1 (head1 (Jvm.Cond.code ym1 method_2_code 2 (some (.object "com/example/ferrule/ferrule/io/TypeCode")) :: ws) ({ frames := 0, cells := 0, slots := 0, locals := 0 } : Room)) (fun a U => a = #[(.long (25 : Int64))] ∧ Z.Warmed39 U.vm ∧ U.heap = h0) (fun _ _ _ _ _ => True) (fun _ U o U' => ∃ v L, o = .returned v ∧ Q2_61 Z w h0 n0 v U'.heap L ∧ FrameEnd U o U' L ({ frames := 0, cells := 0, slots := 0, locals := 0 } : Room).cells ({ frames := 0, cells := 0, slots := 0, locals := 0 } : Room).slots) := by
  refine MetFree.of_bodySF (plainFor_of_name pnc_1) hisR ?_
  intro p e s m args below meth c s₁ Bd hml0 hP hK
  obtain ⟨rfl, hZ, hh⟩ := hP
  have hx := Bd.exec
  have hby := Bd.bytes
  have hml : c.maxLocals = 2 := hml0
  have hown : s.vm.findClass "com/example/ferrule/ferrule/io/TypeCodeOfPinLaw" = some m.cls := findClass_of_methodNamed Bd.named
  have hnm := (name_of_methodNamed Bd.named Bd.method).1
  have X0 : Stand p l e ({ frames := 0, cells := 0, slots := 0, locals := 0 } : Room) s m #[(.long (25 : Int64))] below meth c s₁ [] 0 0 := Stand.of_body Bd
  have e0 : s₁.heap = h0 := by rw [← hh, Bd.state]; rfl
  have N0 := Fr.nil n0
  skip
  have pre0 : ∀ t, Steps p.tables e below (s₁.setTop (mkF m 0 #[.val (.long (25 : Int64)), .second] [])) t → Steps p.tables e below (s₁.setTop (entryFrame m #[(.long (25 : Int64))] 2)) t := fun t k => castTop (ef_2_61 m) k
  obtain ⟨fs, hr, hrun, hended, hWm, hsame⟩ := X0.leave (v := some .null) (fun h => by rw [Bd.returns] at h; cases h)
  refine ⟨_, _, pre0 _ ?_, hrun, hended, _, _, rfl, ?_, ⟨_, rfl⟩, hWm, hsame.mono (by decide) (by decide)⟩
  · show Steps p.tables e below (s₁.setTop (mkF m 0 #[.val (.long (25 : Int64)), .second] [])) _
    refine sL X0 hx hby d2_0 rfl ?_
    refine XS.lconst X0.here hx rfl (hb hby d2_1) ?_
    refine XS.lcmp X0.here hx rfl (hb hby d2_2) rfl ?_
    refine XS.ifYes X0.here hx rfl (pc0 := 3) (pc' := 10) rfl (hb hby d2_3) rfl (by decide) (by decide) (by decide) ?_
    refine sL X0 hx hby d2_10 rfl ?_
    show Steps p.tables e below (s₁.setTop (mkF m 11 #[.val (.long (25 : Int64)), .second] [(.long (25 : Int64))])) _
    refine X0.ldc2Long hx hown (mvT hZ (wk11 hw)) (g := (mkF m 11 #[.val (.long (25 : Int64)), .second] [(.long (25 : Int64))])) rfl (hb hby d2_11) _ ?_
    refine XS.lcmp X0.here hx rfl (hb hby d2_14) rfl ?_
    refine XS.ifYes X0.here hx rfl (pc0 := 15) (pc' := 22) rfl (hb hby d2_15) rfl (by decide) (by decide) (by decide) ?_
    refine sL X0 hx hby d2_22 rfl ?_
    refine X0.ldc2Long hx hown (mvT hZ (wk12 hw)) (g := (mkF m 23 #[.val (.long (25 : Int64)), .second] [(.long (25 : Int64))])) rfl (hb hby d2_23) _ ?_
    show Steps p.tables e below (s₁.setTop (mkF m 26 #[.val (.long (25 : Int64)), .second] [(.long (3 : Int64)), (.long (25 : Int64))])) _
    refine XS.lcmp X0.here hx rfl (hb hby d2_26) rfl ?_
    refine XS.ifYes X0.here hx rfl (pc0 := 27) (pc' := 34) rfl (hb hby d2_27) rfl (by decide) (by decide) (by decide) ?_
    refine sL X0 hx hby d2_34 rfl ?_
    refine X0.ldc2Long hx hown (mvT hZ (wk14 hw)) (g := (mkF m 35 #[.val (.long (25 : Int64)), .second] [(.long (25 : Int64))])) rfl (hb hby d2_35) _ ?_
    refine XS.lcmp X0.here hx rfl (hb hby d2_38) rfl ?_
    show Steps p.tables e below (s₁.setTop (mkF m 39 #[.val (.long (25 : Int64)), .second] [(.int (1 : Int32))])) _
    refine XS.ifYes X0.here hx rfl (pc0 := 39) (pc' := 46) rfl (hb hby d2_39) rfl (by decide) (by decide) (by decide) ?_
    refine sL X0 hx hby d2_46 rfl ?_
    refine X0.ldc2Long hx hown (mvT hZ (wk15 hw)) (g := (mkF m 47 #[.val (.long (25 : Int64)), .second] [(.long (25 : Int64))])) rfl (hb hby d2_47) _ ?_
    refine XS.lcmp X0.here hx rfl (hb hby d2_50) rfl ?_
    refine XS.ifYes X0.here hx rfl (pc0 := 51) (pc' := 58) rfl (hb hby d2_51) rfl (by decide) (by decide) (by decide) ?_
    show Steps p.tables e below (s₁.setTop (mkF m 58 #[.val (.long (25 : Int64)), .second] [])) _
    refine sL X0 hx hby d2_58 rfl ?_
    refine X0.ldc2Long hx hown (mvT hZ (wk16 hw)) (g := (mkF m 59 #[.val (.long (25 : Int64)), .second] [(.long (25 : Int64))])) rfl (hb hby d2_59) _ ?_
    refine XS.lcmp X0.here hx rfl (hb hby d2_62) rfl ?_
    refine XS.ifYes X0.here hx rfl (pc0 := 63) (pc' := 70) rfl (hb hby d2_63) rfl (by decide) (by decide) (by decide) ?_
    refine sL X0 hx hby d2_70 rfl ?_
    show Steps p.tables e below (s₁.setTop (mkF m 71 #[.val (.long (25 : Int64)), .second] [(.long (25 : Int64))])) _
    refine X0.ldc2Long hx hown (mvT hZ (wk17 hw)) (g := (mkF m 71 #[.val (.long (25 : Int64)), .second] [(.long (25 : Int64))])) rfl (hb hby d2_71) _ ?_
    refine XS.lcmp X0.here hx rfl (hb hby d2_74) rfl ?_
    refine XS.ifYes X0.here hx rfl (pc0 := 75) (pc' := 82) rfl (hb hby d2_75) rfl (by decide) (by decide) (by decide) ?_
    refine sL X0 hx hby d2_82 rfl ?_
    refine X0.ldc2Long hx hown (mvT hZ (wk18 hw)) (g := (mkF m 83 #[.val (.long (25 : Int64)), .second] [(.long (25 : Int64))])) rfl (hb hby d2_83) _ ?_
    show Steps p.tables e below (s₁.setTop (mkF m 86 #[.val (.long (25 : Int64)), .second] [(.long (8 : Int64)), (.long (25 : Int64))])) _
    refine XS.lcmp X0.here hx rfl (hb hby d2_86) rfl ?_
    refine XS.ifYes X0.here hx rfl (pc0 := 87) (pc' := 94) rfl (hb hby d2_87) rfl (by decide) (by decide) (by decide) ?_
    refine sL X0 hx hby d2_94 rfl ?_
    refine X0.ldc2Long hx hown (mvT hZ (wk19 hw)) (g := (mkF m 95 #[.val (.long (25 : Int64)), .second] [(.long (25 : Int64))])) rfl (hb hby d2_95) _ ?_
    refine XS.lcmp X0.here hx rfl (hb hby d2_98) rfl ?_
    show Steps p.tables e below (s₁.setTop (mkF m 99 #[.val (.long (25 : Int64)), .second] [(.int (1 : Int32))])) _
    refine XS.ifYes X0.here hx rfl (pc0 := 99) (pc' := 106) rfl (hb hby d2_99) rfl (by decide) (by decide) (by decide) ?_
    refine sL X0 hx hby d2_106 rfl ?_
    refine X0.ldc2Long hx hown (mvT hZ (wk20 hw)) (g := (mkF m 107 #[.val (.long (25 : Int64)), .second] [(.long (25 : Int64))])) rfl (hb hby d2_107) _ ?_
    refine XS.lcmp X0.here hx rfl (hb hby d2_110) rfl ?_
    refine XS.ifYes X0.here hx rfl (pc0 := 111) (pc' := 118) rfl (hb hby d2_111) rfl (by decide) (by decide) (by decide) ?_
    show Steps p.tables e below (s₁.setTop (mkF m 118 #[.val (.long (25 : Int64)), .second] [])) _
    refine sL X0 hx hby d2_118 rfl ?_
    refine X0.ldc2Long hx hown (mvT hZ (wk21 hw)) (g := (mkF m 119 #[.val (.long (25 : Int64)), .second] [(.long (25 : Int64))])) rfl (hb hby d2_119) _ ?_
    refine XS.lcmp X0.here hx rfl (hb hby d2_122) rfl ?_
    refine XS.ifYes X0.here hx rfl (pc0 := 123) (pc' := 130) rfl (hb hby d2_123) rfl (by decide) (by decide) (by decide) ?_
    refine sL X0 hx hby d2_130 rfl ?_
    show Steps p.tables e below (s₁.setTop (mkF m 131 #[.val (.long (25 : Int64)), .second] [(.long (25 : Int64))])) _
    refine X0.ldc2Long hx hown (mvT hZ (wk22 hw)) (g := (mkF m 131 #[.val (.long (25 : Int64)), .second] [(.long (25 : Int64))])) rfl (hb hby d2_131) _ ?_
    refine XS.lcmp X0.here hx rfl (hb hby d2_134) rfl ?_
    refine XS.ifYes X0.here hx rfl (pc0 := 135) (pc' := 142) rfl (hb hby d2_135) rfl (by decide) (by decide) (by decide) ?_
    refine sL X0 hx hby d2_142 rfl ?_
    refine X0.ldc2Long hx hown (mvT hZ (wk23 hw)) (g := (mkF m 143 #[.val (.long (25 : Int64)), .second] [(.long (25 : Int64))])) rfl (hb hby d2_143) _ ?_
    show Steps p.tables e below (s₁.setTop (mkF m 146 #[.val (.long (25 : Int64)), .second] [(.long (13 : Int64)), (.long (25 : Int64))])) _
    refine XS.lcmp X0.here hx rfl (hb hby d2_146) rfl ?_
    refine XS.ifYes X0.here hx rfl (pc0 := 147) (pc' := 154) rfl (hb hby d2_147) rfl (by decide) (by decide) (by decide) ?_
    refine sL X0 hx hby d2_154 rfl ?_
    refine X0.ldc2Long hx hown (mvT hZ (wk24 hw)) (g := (mkF m 155 #[.val (.long (25 : Int64)), .second] [(.long (25 : Int64))])) rfl (hb hby d2_155) _ ?_
    refine XS.lcmp X0.here hx rfl (hb hby d2_158) rfl ?_
    show Steps p.tables e below (s₁.setTop (mkF m 159 #[.val (.long (25 : Int64)), .second] [(.int (1 : Int32))])) _
    refine XS.ifYes X0.here hx rfl (pc0 := 159) (pc' := 166) rfl (hb hby d2_159) rfl (by decide) (by decide) (by decide) ?_
    refine sL X0 hx hby d2_166 rfl ?_
    refine X0.ldc2Long hx hown (mvT hZ (wk25 hw)) (g := (mkF m 167 #[.val (.long (25 : Int64)), .second] [(.long (25 : Int64))])) rfl (hb hby d2_167) _ ?_
    refine XS.lcmp X0.here hx rfl (hb hby d2_170) rfl ?_
    refine XS.ifYes X0.here hx rfl (pc0 := 171) (pc' := 178) rfl (hb hby d2_171) rfl (by decide) (by decide) (by decide) ?_
    show Steps p.tables e below (s₁.setTop (mkF m 178 #[.val (.long (25 : Int64)), .second] [])) _
    refine sL X0 hx hby d2_178 rfl ?_
    refine X0.ldc2Long hx hown (mvT hZ (wk26 hw)) (g := (mkF m 179 #[.val (.long (25 : Int64)), .second] [(.long (25 : Int64))])) rfl (hb hby d2_179) _ ?_
    refine XS.lcmp X0.here hx rfl (hb hby d2_182) rfl ?_
    refine XS.ifYes X0.here hx rfl (pc0 := 183) (pc' := 190) rfl (hb hby d2_183) rfl (by decide) (by decide) (by decide) ?_
    refine sL X0 hx hby d2_190 rfl ?_
    show Steps p.tables e below (s₁.setTop (mkF m 191 #[.val (.long (25 : Int64)), .second] [(.long (25 : Int64))])) _
    refine X0.ldc2Long hx hown (mvT hZ (wk27 hw)) (g := (mkF m 191 #[.val (.long (25 : Int64)), .second] [(.long (25 : Int64))])) rfl (hb hby d2_191) _ ?_
    refine XS.lcmp X0.here hx rfl (hb hby d2_194) rfl ?_
    refine XS.ifYes X0.here hx rfl (pc0 := 195) (pc' := 202) rfl (hb hby d2_195) rfl (by decide) (by decide) (by decide) ?_
    refine sL X0 hx hby d2_202 rfl ?_
    refine X0.ldc2Long hx hown (mvT hZ (wk28 hw)) (g := (mkF m 203 #[.val (.long (25 : Int64)), .second] [(.long (25 : Int64))])) rfl (hb hby d2_203) _ ?_
    show Steps p.tables e below (s₁.setTop (mkF m 206 #[.val (.long (25 : Int64)), .second] [(.long (18 : Int64)), (.long (25 : Int64))])) _
    refine XS.lcmp X0.here hx rfl (hb hby d2_206) rfl ?_
    refine XS.ifYes X0.here hx rfl (pc0 := 207) (pc' := 214) rfl (hb hby d2_207) rfl (by decide) (by decide) (by decide) ?_
    refine sL X0 hx hby d2_214 rfl ?_
    refine X0.ldc2Long hx hown (mvT hZ (wk29 hw)) (g := (mkF m 215 #[.val (.long (25 : Int64)), .second] [(.long (25 : Int64))])) rfl (hb hby d2_215) _ ?_
    refine XS.lcmp X0.here hx rfl (hb hby d2_218) rfl ?_
    show Steps p.tables e below (s₁.setTop (mkF m 219 #[.val (.long (25 : Int64)), .second] [(.int (-1 : Int32))])) _
    refine XS.ifYes X0.here hx rfl (pc0 := 219) (pc' := 226) rfl (hb hby d2_219) rfl (by decide) (by decide) (by decide) ?_
    refine XS.aconstNull X0.here hx rfl (hb hby d2_226) ?_
    jvm_step X0.here [X0.here.top, hx, (hb hby d2_227), X0.method', Bd.returns, Value.isRef, FieldType.isReference]
    first | (intro acts; rw [hr _ acts rfl rfl rfl]) | rw [hr _ _ rfl rfl rfl]
    exact Steps.refl _
  · show Q2_61 Z w h0 n0 _ s₁.heap _
    rw [e0]
    exact ⟨rfl, N0, rfl⟩
theorem ef_2_62 (m : MethodId) : entryFrame m #[(.long (26 : Int64))] 2 = mkF m 0 #[.val (.long (26 : Int64)), .second] [] := by first | (simp [entryFrame, mkF, argsToLocals, Value.category]; done) | rfl
def Q2_62 (Z : State) (w : Nat → Addr) (h0 : Heap) (n0 : Nat) (v : Option Value) (h : Heap) (L : List Loc) : Prop := v = some .null ∧ Fr n0 L ∧ h = h0
set_option maxRecDepth 65536 in
set_option maxHeartbeats 40000000 in
theorem rm2_62 (l : Launch) (Z : State) (a0 : Array Value) (hw : ∀ d ∈ tables_1, d.before a0 Z = true) (w : Nat → Addr) (hW : Wd Z w) (ws : List Jvm.Cond) (h0 : Heap) (n0 : Nat) (O0 : Old Z n0 h0) :
    MetFree l ym1 (head1 (Jvm.Cond.code ym1 method_2_code 2 (some (.object "com/example/ferrule/ferrule/io/TypeCode")) :: ws) ({ frames := 0, cells := 0, slots := 0, locals := 0 } : Room)) (fun a U => a = #[(.long (26 : Int64))] ∧ Z.Warmed39 U.vm ∧ U.heap = h0) (fun _ _ _ _ _ => True) (fun _ U o U' => ∃ v L, o = .returned v ∧ Q2_62 Z w h0 n0 v U'.heap L ∧ FrameEnd U o U' L ({ frames := 0, cells := 0, slots := 0, locals := 0 } : Room).cells ({ frames := 0, cells := 0, slots := 0, locals := 0 } : Room).slots) := by
  refine MetFree.of_bodySF (plainFor_of_name pnc_1) hisR ?_
  intro p e s m args below meth c s₁ Bd hml0 hP hK
  obtain ⟨rfl, hZ, hh⟩ := hP
  have hx := Bd.exec
  have hby := Bd.bytes
  have hml : c.maxLocals = 2 := hml0
  have hown : s.vm.findClass "com/example/ferrule/ferrule/io/TypeCodeOfPinLaw" = some m.cls := findClass_of_methodNamed Bd.named
  have hnm := (name_of_methodNamed Bd.named Bd.method).1
  have X0 : Stand p l e ({ frames := 0, cells := 0, slots := 0, locals := 0 } : Room) s m #[(.long (26 : Int64))] below meth c s₁ [] 0 0 := Stand.of_body Bd
  have e0 : s₁.heap = h0 := by rw [← hh, Bd.state]; rfl
  have N0 := Fr.nil n0
  skip
  have pre0 : ∀ t, Steps p.tables e below (s₁.setTop (mkF m 0 #[.val (.long (26 : Int64)), .second] [])) t → Steps p.tables e below (s₁.setTop (entryFrame m #[(.long (26 : Int64))] 2)) t := fun t k => castTop (ef_2_62 m) k
  obtain ⟨fs, hr, hrun, hended, hWm, hsame⟩ := X0.leave (v := some .null) (fun h => by rw [Bd.returns] at h; cases h)
  refine ⟨_, _, pre0 _ ?_, hrun, hended, _, _, rfl, ?_, ⟨_, rfl⟩, hWm, hsame.mono (by decide) (by decide)⟩
  · show Steps p.tables e below (s₁.setTop (mkF m 0 #[.val (.long (26 : Int64)), .second] [])) _
    refine sL X0 hx hby d2_0 rfl ?_
    refine XS.lconst X0.here hx rfl (hb hby d2_1) ?_
    refine XS.lcmp X0.here hx rfl (hb hby d2_2) rfl ?_
    refine XS.ifYes X0.here hx rfl (pc0 := 3) (pc' := 10) rfl (hb hby d2_3) rfl (by decide) (by decide) (by decide) ?_
    refine sL X0 hx hby d2_10 rfl ?_
    show Steps p.tables e below (s₁.setTop (mkF m 11 #[.val (.long (26 : Int64)), .second] [(.long (26 : Int64))])) _
    refine X0.ldc2Long hx hown (mvT hZ (wk11 hw)) (g := (mkF m 11 #[.val (.long (26 : Int64)), .second] [(.long (26 : Int64))])) rfl (hb hby d2_11) _ ?_
    refine XS.lcmp X0.here hx rfl (hb hby d2_14) rfl ?_
    refine XS.ifYes X0.here hx rfl (pc0 := 15) (pc' := 22) rfl (hb hby d2_15) rfl (by decide) (by decide) (by decide) ?_
    refine sL X0 hx hby d2_22 rfl ?_
    refine X0.ldc2Long hx hown (mvT hZ (wk12 hw)) (g := (mkF m 23 #[.val (.long (26 : Int64)), .second] [(.long (26 : Int64))])) rfl (hb hby d2_23) _ ?_
    show Steps p.tables e below (s₁.setTop (mkF m 26 #[.val (.long (26 : Int64)), .second] [(.long (3 : Int64)), (.long (26 : Int64))])) _
    refine XS.lcmp X0.here hx rfl (hb hby d2_26) rfl ?_
    refine XS.ifYes X0.here hx rfl (pc0 := 27) (pc' := 34) rfl (hb hby d2_27) rfl (by decide) (by decide) (by decide) ?_
    refine sL X0 hx hby d2_34 rfl ?_
    refine X0.ldc2Long hx hown (mvT hZ (wk14 hw)) (g := (mkF m 35 #[.val (.long (26 : Int64)), .second] [(.long (26 : Int64))])) rfl (hb hby d2_35) _ ?_
    refine XS.lcmp X0.here hx rfl (hb hby d2_38) rfl ?_
    show Steps p.tables e below (s₁.setTop (mkF m 39 #[.val (.long (26 : Int64)), .second] [(.int (1 : Int32))])) _
    refine XS.ifYes X0.here hx rfl (pc0 := 39) (pc' := 46) rfl (hb hby d2_39) rfl (by decide) (by decide) (by decide) ?_
    refine sL X0 hx hby d2_46 rfl ?_
    refine X0.ldc2Long hx hown (mvT hZ (wk15 hw)) (g := (mkF m 47 #[.val (.long (26 : Int64)), .second] [(.long (26 : Int64))])) rfl (hb hby d2_47) _ ?_
    refine XS.lcmp X0.here hx rfl (hb hby d2_50) rfl ?_
    refine XS.ifYes X0.here hx rfl (pc0 := 51) (pc' := 58) rfl (hb hby d2_51) rfl (by decide) (by decide) (by decide) ?_
    show Steps p.tables e below (s₁.setTop (mkF m 58 #[.val (.long (26 : Int64)), .second] [])) _
    refine sL X0 hx hby d2_58 rfl ?_
    refine X0.ldc2Long hx hown (mvT hZ (wk16 hw)) (g := (mkF m 59 #[.val (.long (26 : Int64)), .second] [(.long (26 : Int64))])) rfl (hb hby d2_59) _ ?_
    refine XS.lcmp X0.here hx rfl (hb hby d2_62) rfl ?_
    refine XS.ifYes X0.here hx rfl (pc0 := 63) (pc' := 70) rfl (hb hby d2_63) rfl (by decide) (by decide) (by decide) ?_
    refine sL X0 hx hby d2_70 rfl ?_
    show Steps p.tables e below (s₁.setTop (mkF m 71 #[.val (.long (26 : Int64)), .second] [(.long (26 : Int64))])) _
    refine X0.ldc2Long hx hown (mvT hZ (wk17 hw)) (g := (mkF m 71 #[.val (.long (26 : Int64)), .second] [(.long (26 : Int64))])) rfl (hb hby d2_71) _ ?_
    refine XS.lcmp X0.here hx rfl (hb hby d2_74) rfl ?_
    refine XS.ifYes X0.here hx rfl (pc0 := 75) (pc' := 82) rfl (hb hby d2_75) rfl (by decide) (by decide) (by decide) ?_
    refine sL X0 hx hby d2_82 rfl ?_
    refine X0.ldc2Long hx hown (mvT hZ (wk18 hw)) (g := (mkF m 83 #[.val (.long (26 : Int64)), .second] [(.long (26 : Int64))])) rfl (hb hby d2_83) _ ?_
    show Steps p.tables e below (s₁.setTop (mkF m 86 #[.val (.long (26 : Int64)), .second] [(.long (8 : Int64)), (.long (26 : Int64))])) _
    refine XS.lcmp X0.here hx rfl (hb hby d2_86) rfl ?_
    refine XS.ifYes X0.here hx rfl (pc0 := 87) (pc' := 94) rfl (hb hby d2_87) rfl (by decide) (by decide) (by decide) ?_
    refine sL X0 hx hby d2_94 rfl ?_
    refine X0.ldc2Long hx hown (mvT hZ (wk19 hw)) (g := (mkF m 95 #[.val (.long (26 : Int64)), .second] [(.long (26 : Int64))])) rfl (hb hby d2_95) _ ?_
    refine XS.lcmp X0.here hx rfl (hb hby d2_98) rfl ?_
    show Steps p.tables e below (s₁.setTop (mkF m 99 #[.val (.long (26 : Int64)), .second] [(.int (1 : Int32))])) _
    refine XS.ifYes X0.here hx rfl (pc0 := 99) (pc' := 106) rfl (hb hby d2_99) rfl (by decide) (by decide) (by decide) ?_
    refine sL X0 hx hby d2_106 rfl ?_
    refine X0.ldc2Long hx hown (mvT hZ (wk20 hw)) (g := (mkF m 107 #[.val (.long (26 : Int64)), .second] [(.long (26 : Int64))])) rfl (hb hby d2_107) _ ?_
    refine XS.lcmp X0.here hx rfl (hb hby d2_110) rfl ?_
    refine XS.ifYes X0.here hx rfl (pc0 := 111) (pc' := 118) rfl (hb hby d2_111) rfl (by decide) (by decide) (by decide) ?_
    show Steps p.tables e below (s₁.setTop (mkF m 118 #[.val (.long (26 : Int64)), .second] [])) _
    refine sL X0 hx hby d2_118 rfl ?_
    refine X0.ldc2Long hx hown (mvT hZ (wk21 hw)) (g := (mkF m 119 #[.val (.long (26 : Int64)), .second] [(.long (26 : Int64))])) rfl (hb hby d2_119) _ ?_
    refine XS.lcmp X0.here hx rfl (hb hby d2_122) rfl ?_
    refine XS.ifYes X0.here hx rfl (pc0 := 123) (pc' := 130) rfl (hb hby d2_123) rfl (by decide) (by decide) (by decide) ?_
    refine sL X0 hx hby d2_130 rfl ?_
    show Steps p.tables e below (s₁.setTop (mkF m 131 #[.val (.long (26 : Int64)), .second] [(.long (26 : Int64))])) _
    refine X0.ldc2Long hx hown (mvT hZ (wk22 hw)) (g := (mkF m 131 #[.val (.long (26 : Int64)), .second] [(.long (26 : Int64))])) rfl (hb hby d2_131) _ ?_
    refine XS.lcmp X0.here hx rfl (hb hby d2_134) rfl ?_
    refine XS.ifYes X0.here hx rfl (pc0 := 135) (pc' := 142) rfl (hb hby d2_135) rfl (by decide) (by decide) (by decide) ?_
    refine sL X0 hx hby d2_142 rfl ?_
    refine X0.ldc2Long hx hown (mvT hZ (wk23 hw)) (g := (mkF m 143 #[.val (.long (26 : Int64)), .second] [(.long (26 : Int64))])) rfl (hb hby d2_143) _ ?_
    show Steps p.tables e below (s₁.setTop (mkF m 146 #[.val (.long (26 : Int64)), .second] [(.long (13 : Int64)), (.long (26 : Int64))])) _
    refine XS.lcmp X0.here hx rfl (hb hby d2_146) rfl ?_
    refine XS.ifYes X0.here hx rfl (pc0 := 147) (pc' := 154) rfl (hb hby d2_147) rfl (by decide) (by decide) (by decide) ?_
    refine sL X0 hx hby d2_154 rfl ?_
    refine X0.ldc2Long hx hown (mvT hZ (wk24 hw)) (g := (mkF m 155 #[.val (.long (26 : Int64)), .second] [(.long (26 : Int64))])) rfl (hb hby d2_155) _ ?_
    refine XS.lcmp X0.here hx rfl (hb hby d2_158) rfl ?_
    show Steps p.tables e below (s₁.setTop (mkF m 159 #[.val (.long (26 : Int64)), .second] [(.int (1 : Int32))])) _
    refine XS.ifYes X0.here hx rfl (pc0 := 159) (pc' := 166) rfl (hb hby d2_159) rfl (by decide) (by decide) (by decide) ?_
    refine sL X0 hx hby d2_166 rfl ?_
    refine X0.ldc2Long hx hown (mvT hZ (wk25 hw)) (g := (mkF m 167 #[.val (.long (26 : Int64)), .second] [(.long (26 : Int64))])) rfl (hb hby d2_167) _ ?_
    refine XS.lcmp X0.here hx rfl (hb hby d2_170) rfl ?_
    refine XS.ifYes X0.here hx rfl (pc0 := 171) (pc' := 178) rfl (hb hby d2_171) rfl (by decide) (by decide) (by decide) ?_
    show Steps p.tables e below (s₁.setTop (mkF m 178 #[.val (.long (26 : Int64)), .second] [])) _
    refine sL X0 hx hby d2_178 rfl ?_
    refine X0.ldc2Long hx hown (mvT hZ (wk26 hw)) (g := (mkF m 179 #[.val (.long (26 : Int64)), .second] [(.long (26 : Int64))])) rfl (hb hby d2_179) _ ?_
    refine XS.lcmp X0.here hx rfl (hb hby d2_182) rfl ?_
    refine XS.ifYes X0.here hx rfl (pc0 := 183) (pc' := 190) rfl (hb hby d2_183) rfl (by decide) (by decide) (by decide) ?_
    refine sL X0 hx hby d2_190 rfl ?_
    show Steps p.tables e below (s₁.setTop (mkF m 191 #[.val (.long (26 : Int64)), .second] [(.long (26 : Int64))])) _
    refine X0.ldc2Long hx hown (mvT hZ (wk27 hw)) (g := (mkF m 191 #[.val (.long (26 : Int64)), .second] [(.long (26 : Int64))])) rfl (hb hby d2_191) _ ?_
    refine XS.lcmp X0.here hx rfl (hb hby d2_194) rfl ?_
    refine XS.ifYes X0.here hx rfl (pc0 := 195) (pc' := 202) rfl (hb hby d2_195) rfl (by decide) (by decide) (by decide) ?_
    refine sL X0 hx hby d2_202 rfl ?_
    refine X0.ldc2Long hx hown (mvT hZ (wk28 hw)) (g := (mkF m 203 #[.val (.long (26 : Int64)), .second] [(.long (26 : Int64))])) rfl (hb hby d2_203) _ ?_
    show Steps p.tables e below (s₁.setTop (mkF m 206 #[.val (.long (26 : Int64)), .second] [(.long (18 : Int64)), (.long (26 : Int64))])) _
    refine XS.lcmp X0.here hx rfl (hb hby d2_206) rfl ?_
    refine XS.ifYes X0.here hx rfl (pc0 := 207) (pc' := 214) rfl (hb hby d2_207) rfl (by decide) (by decide) (by decide) ?_
    refine sL X0 hx hby d2_214 rfl ?_
    refine X0.ldc2Long hx hown (mvT hZ (wk29 hw)) (g := (mkF m 215 #[.val (.long (26 : Int64)), .second] [(.long (26 : Int64))])) rfl (hb hby d2_215) _ ?_
    refine XS.lcmp X0.here hx rfl (hb hby d2_218) rfl ?_
    show Steps p.tables e below (s₁.setTop (mkF m 219 #[.val (.long (26 : Int64)), .second] [(.int (-1 : Int32))])) _
    refine XS.ifYes X0.here hx rfl (pc0 := 219) (pc' := 226) rfl (hb hby d2_219) rfl (by decide) (by decide) (by decide) ?_
    refine XS.aconstNull X0.here hx rfl (hb hby d2_226) ?_
    jvm_step X0.here [X0.here.top, hx, (hb hby d2_227), X0.method', Bd.returns, Value.isRef, FieldType.isReference]
    first | (intro acts; rw [hr _ acts rfl rfl rfl]) | rw [hr _ _ rfl rfl rfl]
    exact Steps.refl _
  · show Q2_62 Z w h0 n0 _ s₁.heap _
    rw [e0]
    exact ⟨rfl, N0, rfl⟩
theorem ef_2_63 (m : MethodId) : entryFrame m #[(.long (27 : Int64))] 2 = mkF m 0 #[.val (.long (27 : Int64)), .second] [] := by first | (simp [entryFrame, mkF, argsToLocals, Value.category]; done) | rfl
def Q2_63 (Z : State) (w : Nat → Addr) (h0 : Heap) (n0 : Nat) (v : Option Value) (h : Heap) (L : List Loc) : Prop := v = some .null ∧ Fr n0 L ∧ h = h0
set_option maxRecDepth 65536 in
set_option maxHeartbeats 40000000 in
theorem rm2_63 (l : Launch) (Z : State) (a0 : Array Value) (hw : ∀ d ∈ tables_1, d.before a0 Z = true) (w : Nat → Addr) (hW : Wd Z w) (ws : List Jvm.Cond) (h0 : Heap) (n0 : Nat) (O0 : Old Z n0 h0) :
    MetFree l ym1 (head1 (Jvm.Cond.code ym1 method_2_code 2 (some (.object "com/example/ferrule/ferrule/io/TypeCode")) :: ws) ({ frames := 0, cells := 0, slots := 0, locals := 0 } : Room)) (fun a U => a = #[(.long (27 : Int64))] ∧ Z.Warmed39 U.vm ∧ U.heap = h0) (fun _ _ _ _ _ => True) (fun _ U o U' => ∃ v L, o = .returned v ∧ Q2_63 Z w h0 n0 v U'.heap L ∧ FrameEnd U o U' L ({ frames := 0, cells := 0, slots := 0, locals := 0 } : Room).cells ({ frames := 0, cells := 0, slots := 0, locals := 0 } : Room).slots) := by
  refine MetFree.of_bodySF (plainFor_of_name pnc_1) hisR ?_
  intro p e s m args below meth c s₁ Bd hml0 hP hK
  obtain ⟨rfl, hZ, hh⟩ := hP
  have hx := Bd.exec
  have hby := Bd.bytes
  have hml : c.maxLocals = 2 := hml0
  have hown : s.vm.findClass "com/example/ferrule/ferrule/io/TypeCodeOfPinLaw" = some m.cls := findClass_of_methodNamed Bd.named
  have hnm := (name_of_methodNamed Bd.named Bd.method).1
  have X0 : Stand p l e ({ frames := 0, cells := 0, slots := 0, locals := 0 } : Room) s m #[(.long (27 : Int64))] below meth c s₁ [] 0 0 := Stand.of_body Bd
  have e0 : s₁.heap = h0 := by rw [← hh, Bd.state]; rfl
  have N0 := Fr.nil n0
  skip
  have pre0 : ∀ t, Steps p.tables e below (s₁.setTop (mkF m 0 #[.val (.long (27 : Int64)), .second] [])) t → Steps p.tables e below (s₁.setTop (entryFrame m #[(.long (27 : Int64))] 2)) t := fun t k => castTop (ef_2_63 m) k
  obtain ⟨fs, hr, hrun, hended, hWm, hsame⟩ := X0.leave (v := some .null) (fun h => by rw [Bd.returns] at h; cases h)
  refine ⟨_, _, pre0 _ ?_, hrun, hended, _, _, rfl, ?_, ⟨_, rfl⟩, hWm, hsame.mono (by decide) (by decide)⟩
  · show Steps p.tables e below (s₁.setTop (mkF m 0 #[.val (.long (27 : Int64)), .second] [])) _
    refine sL X0 hx hby d2_0 rfl ?_
    refine XS.lconst X0.here hx rfl (hb hby d2_1) ?_
    refine XS.lcmp X0.here hx rfl (hb hby d2_2) rfl ?_
    refine XS.ifYes X0.here hx rfl (pc0 := 3) (pc' := 10) rfl (hb hby d2_3) rfl (by decide) (by decide) (by decide) ?_
    refine sL X0 hx hby d2_10 rfl ?_
    show Steps p.tables e below (s₁.setTop (mkF m 11 #[.val (.long (27 : Int64)), .second] [(.long (27 : Int64))])) _
    refine X0.ldc2Long hx hown (mvT hZ (wk11 hw)) (g := (mkF m 11 #[.val (.long (27 : Int64)), .second] [(.long (27 : Int64))])) rfl (hb hby d2_11) _ ?_
    refine XS.lcmp X0.here hx rfl (hb hby d2_14) rfl ?_
    refine XS.ifYes X0.here hx rfl (pc0 := 15) (pc' := 22) rfl (hb hby d2_15) rfl (by decide) (by decide) (by decide) ?_
    refine sL X0 hx hby d2_22 rfl ?_
    refine X0.ldc2Long hx hown (mvT hZ (wk12 hw)) (g := (mkF m 23 #[.val (.long (27 : Int64)), .second] [(.long (27 : Int64))])) rfl (hb hby d2_23) _ ?_
    show Steps p.tables e below (s₁.setTop (mkF m 26 #[.val (.long (27 : Int64)), .second] [(.long (3 : Int64)), (.long (27 : Int64))])) _
    refine XS.lcmp X0.here hx rfl (hb hby d2_26) rfl ?_
    refine XS.ifYes X0.here hx rfl (pc0 := 27) (pc' := 34) rfl (hb hby d2_27) rfl (by decide) (by decide) (by decide) ?_
    refine sL X0 hx hby d2_34 rfl ?_
    refine X0.ldc2Long hx hown (mvT hZ (wk14 hw)) (g := (mkF m 35 #[.val (.long (27 : Int64)), .second] [(.long (27 : Int64))])) rfl (hb hby d2_35) _ ?_
    refine XS.lcmp X0.here hx rfl (hb hby d2_38) rfl ?_
    show Steps p.tables e below (s₁.setTop (mkF m 39 #[.val (.long (27 : Int64)), .second] [(.int (1 : Int32))])) _
    refine XS.ifYes X0.here hx rfl (pc0 := 39) (pc' := 46) rfl (hb hby d2_39) rfl (by decide) (by decide) (by decide) ?_
    refine sL X0 hx hby d2_46 rfl ?_
    refine X0.ldc2Long hx hown (mvT hZ (wk15 hw)) (g := (mkF m 47 #[.val (.long (27 : Int64)), .second] [(.long (27 : Int64))])) rfl (hb hby d2_47) _ ?_
    refine XS.lcmp X0.here hx rfl (hb hby d2_50) rfl ?_
    refine XS.ifYes X0.here hx rfl (pc0 := 51) (pc' := 58) rfl (hb hby d2_51) rfl (by decide) (by decide) (by decide) ?_
    show Steps p.tables e below (s₁.setTop (mkF m 58 #[.val (.long (27 : Int64)), .second] [])) _
    refine sL X0 hx hby d2_58 rfl ?_
    refine X0.ldc2Long hx hown (mvT hZ (wk16 hw)) (g := (mkF m 59 #[.val (.long (27 : Int64)), .second] [(.long (27 : Int64))])) rfl (hb hby d2_59) _ ?_
    refine XS.lcmp X0.here hx rfl (hb hby d2_62) rfl ?_
    refine XS.ifYes X0.here hx rfl (pc0 := 63) (pc' := 70) rfl (hb hby d2_63) rfl (by decide) (by decide) (by decide) ?_
    refine sL X0 hx hby d2_70 rfl ?_
    show Steps p.tables e below (s₁.setTop (mkF m 71 #[.val (.long (27 : Int64)), .second] [(.long (27 : Int64))])) _
    refine X0.ldc2Long hx hown (mvT hZ (wk17 hw)) (g := (mkF m 71 #[.val (.long (27 : Int64)), .second] [(.long (27 : Int64))])) rfl (hb hby d2_71) _ ?_
    refine XS.lcmp X0.here hx rfl (hb hby d2_74) rfl ?_
    refine XS.ifYes X0.here hx rfl (pc0 := 75) (pc' := 82) rfl (hb hby d2_75) rfl (by decide) (by decide) (by decide) ?_
    refine sL X0 hx hby d2_82 rfl ?_
    refine X0.ldc2Long hx hown (mvT hZ (wk18 hw)) (g := (mkF m 83 #[.val (.long (27 : Int64)), .second] [(.long (27 : Int64))])) rfl (hb hby d2_83) _ ?_
    show Steps p.tables e below (s₁.setTop (mkF m 86 #[.val (.long (27 : Int64)), .second] [(.long (8 : Int64)), (.long (27 : Int64))])) _
    refine XS.lcmp X0.here hx rfl (hb hby d2_86) rfl ?_
    refine XS.ifYes X0.here hx rfl (pc0 := 87) (pc' := 94) rfl (hb hby d2_87) rfl (by decide) (by decide) (by decide) ?_
    refine sL X0 hx hby d2_94 rfl ?_
    refine X0.ldc2Long hx hown (mvT hZ (wk19 hw)) (g := (mkF m 95 #[.val (.long (27 : Int64)), .second] [(.long (27 : Int64))])) rfl (hb hby d2_95) _ ?_
    refine XS.lcmp X0.here hx rfl (hb hby d2_98) rfl ?_
    show Steps p.tables e below (s₁.setTop (mkF m 99 #[.val (.long (27 : Int64)), .second] [(.int (1 : Int32))])) _
    refine XS.ifYes X0.here hx rfl (pc0 := 99) (pc' := 106) rfl (hb hby d2_99) rfl (by decide) (by decide) (by decide) ?_
    refine sL X0 hx hby d2_106 rfl ?_
    refine X0.ldc2Long hx hown (mvT hZ (wk20 hw)) (g := (mkF m 107 #[.val (.long (27 : Int64)), .second] [(.long (27 : Int64))])) rfl (hb hby d2_107) _ ?_
    refine XS.lcmp X0.here hx rfl (hb hby d2_110) rfl ?_
    refine XS.ifYes X0.here hx rfl (pc0 := 111) (pc' := 118) rfl (hb hby d2_111) rfl (by decide) (by decide) (by decide) ?_
    show Steps p.tables e below (s₁.setTop (mkF m 118 #[.val (.long (27 : Int64)), .second] [])) _
    refine sL X0 hx hby d2_118 rfl ?_
    refine X0.ldc2Long hx hown (mvT hZ (wk21 hw)) (g := (mkF m 119 #[.val (.long (27 : Int64)), .second] [(.long (27 : Int64))])) rfl (hb hby d2_119) _ ?_
    refine XS.lcmp X0.here hx rfl (hb hby d2_122) rfl ?_
    refine XS.ifYes X0.here hx rfl (pc0 := 123) (pc' := 130) rfl (hb hby d2_123) rfl (by decide) (by decide) (by decide) ?_
    refine sL X0 hx hby d2_130 rfl ?_
    show Steps p.tables e below (s₁.setTop (mkF m 131 #[.val (.long (27 : Int64)), .second] [(.long (27 : Int64))])) _
    refine X0.ldc2Long hx hown (mvT hZ (wk22 hw)) (g := (mkF m 131 #[.val (.long (27 : Int64)), .second] [(.long (27 : Int64))])) rfl (hb hby d2_131) _ ?_
    refine XS.lcmp X0.here hx rfl (hb hby d2_134) rfl ?_
    refine XS.ifYes X0.here hx rfl (pc0 := 135) (pc' := 142) rfl (hb hby d2_135) rfl (by decide) (by decide) (by decide) ?_
    refine sL X0 hx hby d2_142 rfl ?_
    refine X0.ldc2Long hx hown (mvT hZ (wk23 hw)) (g := (mkF m 143 #[.val (.long (27 : Int64)), .second] [(.long (27 : Int64))])) rfl (hb hby d2_143) _ ?_
    show Steps p.tables e below (s₁.setTop (mkF m 146 #[.val (.long (27 : Int64)), .second] [(.long (13 : Int64)), (.long (27 : Int64))])) _
    refine XS.lcmp X0.here hx rfl (hb hby d2_146) rfl ?_
    refine XS.ifYes X0.here hx rfl (pc0 := 147) (pc' := 154) rfl (hb hby d2_147) rfl (by decide) (by decide) (by decide) ?_
    refine sL X0 hx hby d2_154 rfl ?_
    refine X0.ldc2Long hx hown (mvT hZ (wk24 hw)) (g := (mkF m 155 #[.val (.long (27 : Int64)), .second] [(.long (27 : Int64))])) rfl (hb hby d2_155) _ ?_
    refine XS.lcmp X0.here hx rfl (hb hby d2_158) rfl ?_
    show Steps p.tables e below (s₁.setTop (mkF m 159 #[.val (.long (27 : Int64)), .second] [(.int (1 : Int32))])) _
    refine XS.ifYes X0.here hx rfl (pc0 := 159) (pc' := 166) rfl (hb hby d2_159) rfl (by decide) (by decide) (by decide) ?_
    refine sL X0 hx hby d2_166 rfl ?_
    refine X0.ldc2Long hx hown (mvT hZ (wk25 hw)) (g := (mkF m 167 #[.val (.long (27 : Int64)), .second] [(.long (27 : Int64))])) rfl (hb hby d2_167) _ ?_
    refine XS.lcmp X0.here hx rfl (hb hby d2_170) rfl ?_
    refine XS.ifYes X0.here hx rfl (pc0 := 171) (pc' := 178) rfl (hb hby d2_171) rfl (by decide) (by decide) (by decide) ?_
    show Steps p.tables e below (s₁.setTop (mkF m 178 #[.val (.long (27 : Int64)), .second] [])) _
    refine sL X0 hx hby d2_178 rfl ?_
    refine X0.ldc2Long hx hown (mvT hZ (wk26 hw)) (g := (mkF m 179 #[.val (.long (27 : Int64)), .second] [(.long (27 : Int64))])) rfl (hb hby d2_179) _ ?_
    refine XS.lcmp X0.here hx rfl (hb hby d2_182) rfl ?_
    refine XS.ifYes X0.here hx rfl (pc0 := 183) (pc' := 190) rfl (hb hby d2_183) rfl (by decide) (by decide) (by decide) ?_
    refine sL X0 hx hby d2_190 rfl ?_
    show Steps p.tables e below (s₁.setTop (mkF m 191 #[.val (.long (27 : Int64)), .second] [(.long (27 : Int64))])) _
    refine X0.ldc2Long hx hown (mvT hZ (wk27 hw)) (g := (mkF m 191 #[.val (.long (27 : Int64)), .second] [(.long (27 : Int64))])) rfl (hb hby d2_191) _ ?_
    refine XS.lcmp X0.here hx rfl (hb hby d2_194) rfl ?_
    refine XS.ifYes X0.here hx rfl (pc0 := 195) (pc' := 202) rfl (hb hby d2_195) rfl (by decide) (by decide) (by decide) ?_
    refine sL X0 hx hby d2_202 rfl ?_
    refine X0.ldc2Long hx hown (mvT hZ (wk28 hw)) (g := (mkF m 203 #[.val (.long (27 : Int64)), .second] [(.long (27 : Int64))])) rfl (hb hby d2_203) _ ?_
    show Steps p.tables e below (s₁.setTop (mkF m 206 #[.val (.long (27 : Int64)), .second] [(.long (18 : Int64)), (.long (27 : Int64))])) _
    refine XS.lcmp X0.here hx rfl (hb hby d2_206) rfl ?_
    refine XS.ifYes X0.here hx rfl (pc0 := 207) (pc' := 214) rfl (hb hby d2_207) rfl (by decide) (by decide) (by decide) ?_
    refine sL X0 hx hby d2_214 rfl ?_
    refine X0.ldc2Long hx hown (mvT hZ (wk29 hw)) (g := (mkF m 215 #[.val (.long (27 : Int64)), .second] [(.long (27 : Int64))])) rfl (hb hby d2_215) _ ?_
    refine XS.lcmp X0.here hx rfl (hb hby d2_218) rfl ?_
    show Steps p.tables e below (s₁.setTop (mkF m 219 #[.val (.long (27 : Int64)), .second] [(.int (-1 : Int32))])) _
    refine XS.ifYes X0.here hx rfl (pc0 := 219) (pc' := 226) rfl (hb hby d2_219) rfl (by decide) (by decide) (by decide) ?_
    refine XS.aconstNull X0.here hx rfl (hb hby d2_226) ?_
    jvm_step X0.here [X0.here.top, hx, (hb hby d2_227), X0.method', Bd.returns, Value.isRef, FieldType.isReference]
    first | (intro acts; rw [hr _ acts rfl rfl rfl]) | rw [hr _ _ rfl rfl rfl]
    exact Steps.refl _
  · show Q2_63 Z w h0 n0 _ s₁.heap _
    rw [e0]
    exact ⟨rfl, N0, rfl⟩
theorem ef_2_64 (m : MethodId) : entryFrame m #[(.long (28 : Int64))] 2 = mkF m 0 #[.val (.long (28 : Int64)), .second] [] := by first | (simp [entryFrame, mkF, argsToLocals, Value.category]; done) | rfl
def Q2_64 (Z : State) (w : Nat → Addr) (h0 : Heap) (n0 : Nat) (v : Option Value) (h : Heap) (L : List Loc) : Prop := v = some .null ∧ Fr n0 L ∧ h = h0
set_option maxRecDepth 65536 in
set_option maxHeartbeats 40000000 in
theorem rm2_64 (l : Launch) (Z : State) (a0 : Array Value) (hw : ∀ d ∈ tables_1, d.before a0 Z = true) (w : Nat → Addr) (hW : Wd Z w) (ws : List Jvm.Cond) (h0 : Heap) (n0 : Nat) (O0 : Old Z n0 h0) :
    MetFree l ym1 (head1 (Jvm.Cond.code ym1 method_2_code 2 (some (.object "com/example/ferrule/ferrule/io/TypeCode")) :: ws) ({ frames := 0, cells := 0, slots := 0, locals := 0 } : Room)) (fun a U => a = #[(.long (28 : Int64))] ∧ Z.Warmed39 U.vm ∧ U.heap = h0) (fun _ _ _ _ _ => True) (fun _ U o U' => ∃ v L, o = .returned v ∧ Q2_64 Z w h0 n0 v U'.heap L ∧ FrameEnd U o U' L ({ frames := 0, cells := 0, slots := 0, locals := 0 } : Room).cells ({ frames := 0, cells := 0, slots := 0, locals := 0 } : Room).slots) := by
  refine MetFree.of_bodySF (plainFor_of_name pnc_1) hisR ?_
  intro p e s m args below meth c s₁ Bd hml0 hP hK
  obtain ⟨rfl, hZ, hh⟩ := hP
  have hx := Bd.exec
  have hby := Bd.bytes
  have hml : c.maxLocals = 2 := hml0
  have hown : s.vm.findClass "com/example/ferrule/ferrule/io/TypeCodeOfPinLaw" = some m.cls := findClass_of_methodNamed Bd.named
  have hnm := (name_of_methodNamed Bd.named Bd.method).1
  have X0 : Stand p l e ({ frames := 0, cells := 0, slots := 0, locals := 0 } : Room) s m #[(.long (28 : Int64))] below meth c s₁ [] 0 0 := Stand.of_body Bd
  have e0 : s₁.heap = h0 := by rw [← hh, Bd.state]; rfl
  have N0 := Fr.nil n0
  skip
  have pre0 : ∀ t, Steps p.tables e below (s₁.setTop (mkF m 0 #[.val (.long (28 : Int64)), .second] [])) t → Steps p.tables e below (s₁.setTop (entryFrame m #[(.long (28 : Int64))] 2)) t := fun t k => castTop (ef_2_64 m) k
  obtain ⟨fs, hr, hrun, hended, hWm, hsame⟩ := X0.leave (v := some .null) (fun h => by rw [Bd.returns] at h; cases h)
  refine ⟨_, _, pre0 _ ?_, hrun, hended, _, _, rfl, ?_, ⟨_, rfl⟩, hWm, hsame.mono (by decide) (by decide)⟩
  · show Steps p.tables e below (s₁.setTop (mkF m 0 #[.val (.long (28 : Int64)), .second] [])) _
    refine sL X0 hx hby d2_0 rfl ?_
    refine XS.lconst X0.here hx rfl (hb hby d2_1) ?_
    refine XS.lcmp X0.here hx rfl (hb hby d2_2) rfl ?_
    refine XS.ifYes X0.here hx rfl (pc0 := 3) (pc' := 10) rfl (hb hby d2_3) rfl (by decide) (by decide) (by decide) ?_
    refine sL X0 hx hby d2_10 rfl ?_
    show Steps p.tables e below (s₁.setTop (mkF m 11 #[.val (.long (28 : Int64)), .second] [(.long (28 : Int64))])) _
    refine X0.ldc2Long hx hown (mvT hZ (wk11 hw)) (g := (mkF m 11 #[.val (.long (28 : Int64)), .second] [(.long (28 : Int64))])) rfl (hb hby d2_11) _ ?_
    refine XS.lcmp X0.here hx rfl (hb hby d2_14) rfl ?_
    refine XS.ifYes X0.here hx rfl (pc0 := 15) (pc' := 22) rfl (hb hby d2_15) rfl (by decide) (by decide) (by decide) ?_
    refine sL X0 hx hby d2_22 rfl ?_
    refine X0.ldc2Long hx hown (mvT hZ (wk12 hw)) (g := (mkF m 23 #[.val (.long (28 : Int64)), .second] [(.long (28 : Int64))])) rfl (hb hby d2_23) _ ?_
    show Steps p.tables e below (s₁.setTop (mkF m 26 #[.val (.long (28 : Int64)), .second] [(.long (3 : Int64)), (.long (28 : Int64))])) _
    refine XS.lcmp X0.here hx rfl (hb hby d2_26) rfl ?_
    refine XS.ifYes X0.here hx rfl (pc0 := 27) (pc' := 34) rfl (hb hby d2_27) rfl (by decide) (by decide) (by decide) ?_
    refine sL X0 hx hby d2_34 rfl ?_
    refine X0.ldc2Long hx hown (mvT hZ (wk14 hw)) (g := (mkF m 35 #[.val (.long (28 : Int64)), .second] [(.long (28 : Int64))])) rfl (hb hby d2_35) _ ?_
    refine XS.lcmp X0.here hx rfl (hb hby d2_38) rfl ?_
    show Steps p.tables e below (s₁.setTop (mkF m 39 #[.val (.long (28 : Int64)), .second] [(.int (1 : Int32))])) _
    refine XS.ifYes X0.here hx rfl (pc0 := 39) (pc' := 46) rfl (hb hby d2_39) rfl (by decide) (by decide) (by decide) ?_
    refine sL X0 hx hby d2_46 rfl ?_
    refine X0.ldc2Long hx hown (mvT hZ (wk15 hw)) (g := (mkF m 47 #[.val (.long (28 : Int64)), .second] [(.long (28 : Int64))])) rfl (hb hby d2_47) _ ?_
    refine XS.lcmp X0.here hx rfl (hb hby d2_50) rfl ?_
    refine XS.ifYes X0.here hx rfl (pc0 := 51) (pc' := 58) rfl (hb hby d2_51) rfl (by decide) (by decide) (by decide) ?_
    show Steps p.tables e below (s₁.setTop (mkF m 58 #[.val (.long (28 : Int64)), .second] [])) _
    refine sL X0 hx hby d2_58 rfl ?_
    refine X0.ldc2Long hx hown (mvT hZ (wk16 hw)) (g := (mkF m 59 #[.val (.long (28 : Int64)), .second] [(.long (28 : Int64))])) rfl (hb hby d2_59) _ ?_
    refine XS.lcmp X0.here hx rfl (hb hby d2_62) rfl ?_
    refine XS.ifYes X0.here hx rfl (pc0 := 63) (pc' := 70) rfl (hb hby d2_63) rfl (by decide) (by decide) (by decide) ?_
    refine sL X0 hx hby d2_70 rfl ?_
    show Steps p.tables e below (s₁.setTop (mkF m 71 #[.val (.long (28 : Int64)), .second] [(.long (28 : Int64))])) _
    refine X0.ldc2Long hx hown (mvT hZ (wk17 hw)) (g := (mkF m 71 #[.val (.long (28 : Int64)), .second] [(.long (28 : Int64))])) rfl (hb hby d2_71) _ ?_
    refine XS.lcmp X0.here hx rfl (hb hby d2_74) rfl ?_
    refine XS.ifYes X0.here hx rfl (pc0 := 75) (pc' := 82) rfl (hb hby d2_75) rfl (by decide) (by decide) (by decide) ?_
    refine sL X0 hx hby d2_82 rfl ?_
    refine X0.ldc2Long hx hown (mvT hZ (wk18 hw)) (g := (mkF m 83 #[.val (.long (28 : Int64)), .second] [(.long (28 : Int64))])) rfl (hb hby d2_83) _ ?_
    show Steps p.tables e below (s₁.setTop (mkF m 86 #[.val (.long (28 : Int64)), .second] [(.long (8 : Int64)), (.long (28 : Int64))])) _
    refine XS.lcmp X0.here hx rfl (hb hby d2_86) rfl ?_
    refine XS.ifYes X0.here hx rfl (pc0 := 87) (pc' := 94) rfl (hb hby d2_87) rfl (by decide) (by decide) (by decide) ?_
    refine sL X0 hx hby d2_94 rfl ?_
    refine X0.ldc2Long hx hown (mvT hZ (wk19 hw)) (g := (mkF m 95 #[.val (.long (28 : Int64)), .second] [(.long (28 : Int64))])) rfl (hb hby d2_95) _ ?_
    refine XS.lcmp X0.here hx rfl (hb hby d2_98) rfl ?_
    show Steps p.tables e below (s₁.setTop (mkF m 99 #[.val (.long (28 : Int64)), .second] [(.int (1 : Int32))])) _
    refine XS.ifYes X0.here hx rfl (pc0 := 99) (pc' := 106) rfl (hb hby d2_99) rfl (by decide) (by decide) (by decide) ?_
    refine sL X0 hx hby d2_106 rfl ?_
    refine X0.ldc2Long hx hown (mvT hZ (wk20 hw)) (g := (mkF m 107 #[.val (.long (28 : Int64)), .second] [(.long (28 : Int64))])) rfl (hb hby d2_107) _ ?_
    refine XS.lcmp X0.here hx rfl (hb hby d2_110) rfl ?_
    refine XS.ifYes X0.here hx rfl (pc0 := 111) (pc' := 118) rfl (hb hby d2_111) rfl (by decide) (by decide) (by decide) ?_
    show Steps p.tables e below (s₁.setTop (mkF m 118 #[.val (.long (28 : Int64)), .second] [])) _
    refine sL X0 hx hby d2_118 rfl ?_
    refine X0.ldc2Long hx hown (mvT hZ (wk21 hw)) (g := (mkF m 119 #[.val (.long (28 : Int64)), .second] [(.long (28 : Int64))])) rfl (hb hby d2_119) _ ?_
    refine XS.lcmp X0.here hx rfl (hb hby d2_122) rfl ?_
    refine XS.ifYes X0.here hx rfl (pc0 := 123) (pc' := 130) rfl (hb hby d2_123) rfl (by decide) (by decide) (by decide) ?_
    refine sL X0 hx hby d2_130 rfl ?_
    show Steps p.tables e below (s₁.setTop (mkF m 131 #[.val (.long (28 : Int64)), .second] [(.long (28 : Int64))])) _
    refine X0.ldc2Long hx hown (mvT hZ (wk22 hw)) (g := (mkF m 131 #[.val (.long (28 : Int64)), .second] [(.long (28 : Int64))])) rfl (hb hby d2_131) _ ?_
    refine XS.lcmp X0.here hx rfl (hb hby d2_134) rfl ?_
    refine XS.ifYes X0.here hx rfl (pc0 := 135) (pc' := 142) rfl (hb hby d2_135) rfl (by decide) (by decide) (by decide) ?_
    refine sL X0 hx hby d2_142 rfl ?_
    refine X0.ldc2Long hx hown (mvT hZ (wk23 hw)) (g := (mkF m 143 #[.val (.long (28 : Int64)), .second] [(.long (28 : Int64))])) rfl (hb hby d2_143) _ ?_
    show Steps p.tables e below (s₁.setTop (mkF m 146 #[.val (.long (28 : Int64)), .second] [(.long (13 : Int64)), (.long (28 : Int64))])) _
    refine XS.lcmp X0.here hx rfl (hb hby d2_146) rfl ?_
    refine XS.ifYes X0.here hx rfl (pc0 := 147) (pc' := 154) rfl (hb hby d2_147) rfl (by decide) (by decide) (by decide) ?_
    refine sL X0 hx hby d2_154 rfl ?_
    refine X0.ldc2Long hx hown (mvT hZ (wk24 hw)) (g := (mkF m 155 #[.val (.long (28 : Int64)), .second] [(.long (28 : Int64))])) rfl (hb hby d2_155) _ ?_
    refine XS.lcmp X0.here hx rfl (hb hby d2_158) rfl ?_
    show Steps p.tables e below (s₁.setTop (mkF m 159 #[.val (.long (28 : Int64)), .second] [(.int (1 : Int32))])) _
    refine XS.ifYes X0.here hx rfl (pc0 := 159) (pc' := 166) rfl (hb hby d2_159) rfl (by decide) (by decide) (by decide) ?_
    refine sL X0 hx hby d2_166 rfl ?_
    refine X0.ldc2Long hx hown (mvT hZ (wk25 hw)) (g := (mkF m 167 #[.val (.long (28 : Int64)), .second] [(.long (28 : Int64))])) rfl (hb hby d2_167) _ ?_
    refine XS.lcmp X0.here hx rfl (hb hby d2_170) rfl ?_
    refine XS.ifYes X0.here hx rfl (pc0 := 171) (pc' := 178) rfl (hb hby d2_171) rfl (by decide) (by decide) (by decide) ?_
    show Steps p.tables e below (s₁.setTop (mkF m 178 #[.val (.long (28 : Int64)), .second] [])) _
    refine sL X0 hx hby d2_178 rfl ?_
    refine X0.ldc2Long hx hown (mvT hZ (wk26 hw)) (g := (mkF m 179 #[.val (.long (28 : Int64)), .second] [(.long (28 : Int64))])) rfl (hb hby d2_179) _ ?_
    refine XS.lcmp X0.here hx rfl (hb hby d2_182) rfl ?_
    refine XS.ifYes X0.here hx rfl (pc0 := 183) (pc' := 190) rfl (hb hby d2_183) rfl (by decide) (by decide) (by decide) ?_
    refine sL X0 hx hby d2_190 rfl ?_
    show Steps p.tables e below (s₁.setTop (mkF m 191 #[.val (.long (28 : Int64)), .second] [(.long (28 : Int64))])) _
    refine X0.ldc2Long hx hown (mvT hZ (wk27 hw)) (g := (mkF m 191 #[.val (.long (28 : Int64)), .second] [(.long (28 : Int64))])) rfl (hb hby d2_191) _ ?_
    refine XS.lcmp X0.here hx rfl (hb hby d2_194) rfl ?_
    refine XS.ifYes X0.here hx rfl (pc0 := 195) (pc' := 202) rfl (hb hby d2_195) rfl (by decide) (by decide) (by decide) ?_
    refine sL X0 hx hby d2_202 rfl ?_
    refine X0.ldc2Long hx hown (mvT hZ (wk28 hw)) (g := (mkF m 203 #[.val (.long (28 : Int64)), .second] [(.long (28 : Int64))])) rfl (hb hby d2_203) _ ?_
    show Steps p.tables e below (s₁.setTop (mkF m 206 #[.val (.long (28 : Int64)), .second] [(.long (18 : Int64)), (.long (28 : Int64))])) _
    refine XS.lcmp X0.here hx rfl (hb hby d2_206) rfl ?_
    refine XS.ifYes X0.here hx rfl (pc0 := 207) (pc' := 214) rfl (hb hby d2_207) rfl (by decide) (by decide) (by decide) ?_
    refine sL X0 hx hby d2_214 rfl ?_
    refine X0.ldc2Long hx hown (mvT hZ (wk29 hw)) (g := (mkF m 215 #[.val (.long (28 : Int64)), .second] [(.long (28 : Int64))])) rfl (hb hby d2_215) _ ?_
    refine XS.lcmp X0.here hx rfl (hb hby d2_218) rfl ?_
    show Steps p.tables e below (s₁.setTop (mkF m 219 #[.val (.long (28 : Int64)), .second] [(.int (-1 : Int32))])) _
    refine XS.ifYes X0.here hx rfl (pc0 := 219) (pc' := 226) rfl (hb hby d2_219) rfl (by decide) (by decide) (by decide) ?_
    refine XS.aconstNull X0.here hx rfl (hb hby d2_226) ?_
    jvm_step X0.here [X0.here.top, hx, (hb hby d2_227), X0.method', Bd.returns, Value.isRef, FieldType.isReference]
    first | (intro acts; rw [hr _ acts rfl rfl rfl]) | rw [hr _ _ rfl rfl rfl]
    exact Steps.refl _
  · show Q2_64 Z w h0 n0 _ s₁.heap _
    rw [e0]
    exact ⟨rfl, N0, rfl⟩
theorem ef_2_65 (m : MethodId) : entryFrame m #[(.long (29 : Int64))] 2 = mkF m 0 #[.val (.long (29 : Int64)), .second] [] := by first | (simp [entryFrame, mkF, argsToLocals, Value.category]; done) | rfl
def Q2_65 (Z : State) (w : Nat → Addr) (h0 : Heap) (n0 : Nat) (v : Option Value) (h : Heap) (L : List Loc) : Prop := v = some .null ∧ Fr n0 L ∧ h = h0
set_option maxRecDepth 65536 in
set_option maxHeartbeats 40000000 in
theorem rm2_65 (l : Launch) (Z : State) (a0 : Array Value) (hw : ∀ d ∈ tables_1, d.before a0 Z = true) (w : Nat → Addr) (hW : Wd Z w) (ws : List Jvm.Cond) (h0 : Heap) (n0 : Nat) (O0 : Old Z n0 h0) :
    MetFree l ym1 (head1 (Jvm.Cond.code ym1 method_2_code 2 (some (.object "com/example/ferrule/ferrule/io/TypeCode")) :: ws) ({ frames := 0, cells := 0, slots := 0, locals := 0 } : Room)) (fun a U => a = #[(.long (29 : Int64))] ∧ Z.Warmed39 U.vm ∧ U.heap = h0) (fun _ _ _ _ _ => True) (fun _ U o U' => ∃ v L, o = .returned v ∧ Q2_65 Z w h0 n0 v U'.heap L ∧ FrameEnd U o U' L ({ frames := 0, cells := 0, slots := 0, locals := 0 } : Room).cells ({ frames := 0, cells := 0, slots := 0, locals := 0 } : Room).slots) := by
  refine MetFree.of_bodySF (plainFor_of_name pnc_1) hisR ?_
  intro p e s m args below meth c s₁ Bd hml0 hP hK
  obtain ⟨rfl, hZ, hh⟩ := hP
  have hx := Bd.exec
  have hby := Bd.bytes
  have hml : c.maxLocals = 2 := hml0
  have hown : s.vm.findClass "com/example/ferrule/ferrule/io/TypeCodeOfPinLaw" = some m.cls := findClass_of_methodNamed Bd.named
  have hnm := (name_of_methodNamed Bd.named Bd.method).1
  have X0 : Stand p l e ({ frames := 0, cells := 0, slots := 0, locals := 0 } : Room) s m #[(.long (29 : Int64))] below meth c s₁ [] 0 0 := Stand.of_body Bd
  have e0 : s₁.heap = h0 := by rw [← hh, Bd.state]; rfl
  have N0 := Fr.nil n0
  skip
  have pre0 : ∀ t, Steps p.tables e below (s₁.setTop (mkF m 0 #[.val (.long (29 : Int64)), .second] [])) t → Steps p.tables e below (s₁.setTop (entryFrame m #[(.long (29 : Int64))] 2)) t := fun t k => castTop (ef_2_65 m) k
  obtain ⟨fs, hr, hrun, hended, hWm, hsame⟩ := X0.leave (v := some .null) (fun h => by rw [Bd.returns] at h; cases h)
  refine ⟨_, _, pre0 _ ?_, hrun, hended, _, _, rfl, ?_, ⟨_, rfl⟩, hWm, hsame.mono (by decide) (by decide)⟩
  · show Steps p.tables e below (s₁.setTop (mkF m 0 #[.val (.long (29 : Int64)), .second] [])) _
    refine sL X0 hx hby d2_0 rfl ?_
    refine XS.lconst X0.here hx rfl (hb hby d2_1) ?_
    refine XS.lcmp X0.here hx rfl (hb hby d2_2) rfl ?_
    refine XS.ifYes X0.here hx rfl (pc0 := 3) (pc' := 10) rfl (hb hby d2_3) rfl (by decide) (by decide) (by decide) ?_
    refine sL X0 hx hby d2_10 rfl ?_
    show Steps p.tables e below (s₁.setTop (mkF m 11 #[.val (.long (29 : Int64)), .second] [(.long (29 : Int64))])) _
    refine X0.ldc2Long hx hown (mvT hZ (wk11 hw)) (g := (mkF m 11 #[.val (.long (29 : Int64)), .second] [(.long (29 : Int64))])) rfl (hb hby d2_11) _ ?_
    refine XS.lcmp X0.here hx rfl (hb hby d2_14) rfl ?_
    refine XS.ifYes X0.here hx rfl (pc0 := 15) (pc' := 22) rfl (hb hby d2_15) rfl (by decide) (by decide) (by decide) ?_
    refine sL X0 hx hby d2_22 rfl ?_
    refine X0.ldc2Long hx hown (mvT hZ (wk12 hw)) (g := (mkF m 23 #[.val (.long (29 : Int64)), .second] [(.long (29 : Int64))])) rfl (hb hby d2_23) _ ?_
    show Steps p.tables e below (s₁.setTop (mkF m 26 #[.val (.long (29 : Int64)), .second] [(.long (3 : Int64)), (.long (29 : Int64))])) _
    refine XS.lcmp X0.here hx rfl (hb hby d2_26) rfl ?_
    refine XS.ifYes X0.here hx rfl (pc0 := 27) (pc' := 34) rfl (hb hby d2_27) rfl (by decide) (by decide) (by decide) ?_
    refine sL X0 hx hby d2_34 rfl ?_
    refine X0.ldc2Long hx hown (mvT hZ (wk14 hw)) (g := (mkF m 35 #[.val (.long (29 : Int64)), .second] [(.long (29 : Int64))])) rfl (hb hby d2_35) _ ?_
    refine XS.lcmp X0.here hx rfl (hb hby d2_38) rfl ?_
    show Steps p.tables e below (s₁.setTop (mkF m 39 #[.val (.long (29 : Int64)), .second] [(.int (1 : Int32))])) _
    refine XS.ifYes X0.here hx rfl (pc0 := 39) (pc' := 46) rfl (hb hby d2_39) rfl (by decide) (by decide) (by decide) ?_
    refine sL X0 hx hby d2_46 rfl ?_
    refine X0.ldc2Long hx hown (mvT hZ (wk15 hw)) (g := (mkF m 47 #[.val (.long (29 : Int64)), .second] [(.long (29 : Int64))])) rfl (hb hby d2_47) _ ?_
    refine XS.lcmp X0.here hx rfl (hb hby d2_50) rfl ?_
    refine XS.ifYes X0.here hx rfl (pc0 := 51) (pc' := 58) rfl (hb hby d2_51) rfl (by decide) (by decide) (by decide) ?_
    show Steps p.tables e below (s₁.setTop (mkF m 58 #[.val (.long (29 : Int64)), .second] [])) _
    refine sL X0 hx hby d2_58 rfl ?_
    refine X0.ldc2Long hx hown (mvT hZ (wk16 hw)) (g := (mkF m 59 #[.val (.long (29 : Int64)), .second] [(.long (29 : Int64))])) rfl (hb hby d2_59) _ ?_
    refine XS.lcmp X0.here hx rfl (hb hby d2_62) rfl ?_
    refine XS.ifYes X0.here hx rfl (pc0 := 63) (pc' := 70) rfl (hb hby d2_63) rfl (by decide) (by decide) (by decide) ?_
    refine sL X0 hx hby d2_70 rfl ?_
    show Steps p.tables e below (s₁.setTop (mkF m 71 #[.val (.long (29 : Int64)), .second] [(.long (29 : Int64))])) _
    refine X0.ldc2Long hx hown (mvT hZ (wk17 hw)) (g := (mkF m 71 #[.val (.long (29 : Int64)), .second] [(.long (29 : Int64))])) rfl (hb hby d2_71) _ ?_
    refine XS.lcmp X0.here hx rfl (hb hby d2_74) rfl ?_
    refine XS.ifYes X0.here hx rfl (pc0 := 75) (pc' := 82) rfl (hb hby d2_75) rfl (by decide) (by decide) (by decide) ?_
    refine sL X0 hx hby d2_82 rfl ?_
    refine X0.ldc2Long hx hown (mvT hZ (wk18 hw)) (g := (mkF m 83 #[.val (.long (29 : Int64)), .second] [(.long (29 : Int64))])) rfl (hb hby d2_83) _ ?_
    show Steps p.tables e below (s₁.setTop (mkF m 86 #[.val (.long (29 : Int64)), .second] [(.long (8 : Int64)), (.long (29 : Int64))])) _
    refine XS.lcmp X0.here hx rfl (hb hby d2_86) rfl ?_
    refine XS.ifYes X0.here hx rfl (pc0 := 87) (pc' := 94) rfl (hb hby d2_87) rfl (by decide) (by decide) (by decide) ?_
    refine sL X0 hx hby d2_94 rfl ?_
    refine X0.ldc2Long hx hown (mvT hZ (wk19 hw)) (g := (mkF m 95 #[.val (.long (29 : Int64)), .second] [(.long (29 : Int64))])) rfl (hb hby d2_95) _ ?_
    refine XS.lcmp X0.here hx rfl (hb hby d2_98) rfl ?_
    show Steps p.tables e below (s₁.setTop (mkF m 99 #[.val (.long (29 : Int64)), .second] [(.int (1 : Int32))])) _
    refine XS.ifYes X0.here hx rfl (pc0 := 99) (pc' := 106) rfl (hb hby d2_99) rfl (by decide) (by decide) (by decide) ?_
    refine sL X0 hx hby d2_106 rfl ?_
    refine X0.ldc2Long hx hown (mvT hZ (wk20 hw)) (g := (mkF m 107 #[.val (.long (29 : Int64)), .second] [(.long (29 : Int64))])) rfl (hb hby d2_107) _ ?_
    refine XS.lcmp X0.here hx rfl (hb hby d2_110) rfl ?_
    refine XS.ifYes X0.here hx rfl (pc0 := 111) (pc' := 118) rfl (hb hby d2_111) rfl (by decide) (by decide) (by decide) ?_
    show Steps p.tables e below (s₁.setTop (mkF m 118 #[.val (.long (29 : Int64)), .second] [])) _
    refine sL X0 hx hby d2_118 rfl ?_
    refine X0.ldc2Long hx hown (mvT hZ (wk21 hw)) (g := (mkF m 119 #[.val (.long (29 : Int64)), .second] [(.long (29 : Int64))])) rfl (hb hby d2_119) _ ?_
    refine XS.lcmp X0.here hx rfl (hb hby d2_122) rfl ?_
    refine XS.ifYes X0.here hx rfl (pc0 := 123) (pc' := 130) rfl (hb hby d2_123) rfl (by decide) (by decide) (by decide) ?_
    refine sL X0 hx hby d2_130 rfl ?_
    show Steps p.tables e below (s₁.setTop (mkF m 131 #[.val (.long (29 : Int64)), .second] [(.long (29 : Int64))])) _
    refine X0.ldc2Long hx hown (mvT hZ (wk22 hw)) (g := (mkF m 131 #[.val (.long (29 : Int64)), .second] [(.long (29 : Int64))])) rfl (hb hby d2_131) _ ?_
    refine XS.lcmp X0.here hx rfl (hb hby d2_134) rfl ?_
    refine XS.ifYes X0.here hx rfl (pc0 := 135) (pc' := 142) rfl (hb hby d2_135) rfl (by decide) (by decide) (by decide) ?_
    refine sL X0 hx hby d2_142 rfl ?_
    refine X0.ldc2Long hx hown (mvT hZ (wk23 hw)) (g := (mkF m 143 #[.val (.long (29 : Int64)), .second] [(.long (29 : Int64))])) rfl (hb hby d2_143) _ ?_
    show Steps p.tables e below (s₁.setTop (mkF m 146 #[.val (.long (29 : Int64)), .second] [(.long (13 : Int64)), (.long (29 : Int64))])) _
    refine XS.lcmp X0.here hx rfl (hb hby d2_146) rfl ?_
    refine XS.ifYes X0.here hx rfl (pc0 := 147) (pc' := 154) rfl (hb hby d2_147) rfl (by decide) (by decide) (by decide) ?_
    refine sL X0 hx hby d2_154 rfl ?_
    refine X0.ldc2Long hx hown (mvT hZ (wk24 hw)) (g := (mkF m 155 #[.val (.long (29 : Int64)), .second] [(.long (29 : Int64))])) rfl (hb hby d2_155) _ ?_
    refine XS.lcmp X0.here hx rfl (hb hby d2_158) rfl ?_
    show Steps p.tables e below (s₁.setTop (mkF m 159 #[.val (.long (29 : Int64)), .second] [(.int (1 : Int32))])) _
    refine XS.ifYes X0.here hx rfl (pc0 := 159) (pc' := 166) rfl (hb hby d2_159) rfl (by decide) (by decide) (by decide) ?_
    refine sL X0 hx hby d2_166 rfl ?_
    refine X0.ldc2Long hx hown (mvT hZ (wk25 hw)) (g := (mkF m 167 #[.val (.long (29 : Int64)), .second] [(.long (29 : Int64))])) rfl (hb hby d2_167) _ ?_
    refine XS.lcmp X0.here hx rfl (hb hby d2_170) rfl ?_
    refine XS.ifYes X0.here hx rfl (pc0 := 171) (pc' := 178) rfl (hb hby d2_171) rfl (by decide) (by decide) (by decide) ?_
    show Steps p.tables e below (s₁.setTop (mkF m 178 #[.val (.long (29 : Int64)), .second] [])) _
    refine sL X0 hx hby d2_178 rfl ?_
    refine X0.ldc2Long hx hown (mvT hZ (wk26 hw)) (g := (mkF m 179 #[.val (.long (29 : Int64)), .second] [(.long (29 : Int64))])) rfl (hb hby d2_179) _ ?_
    refine XS.lcmp X0.here hx rfl (hb hby d2_182) rfl ?_
    refine XS.ifYes X0.here hx rfl (pc0 := 183) (pc' := 190) rfl (hb hby d2_183) rfl (by decide) (by decide) (by decide) ?_
    refine sL X0 hx hby d2_190 rfl ?_
    show Steps p.tables e below (s₁.setTop (mkF m 191 #[.val (.long (29 : Int64)), .second] [(.long (29 : Int64))])) _
    refine X0.ldc2Long hx hown (mvT hZ (wk27 hw)) (g := (mkF m 191 #[.val (.long (29 : Int64)), .second] [(.long (29 : Int64))])) rfl (hb hby d2_191) _ ?_
    refine XS.lcmp X0.here hx rfl (hb hby d2_194) rfl ?_
    refine XS.ifYes X0.here hx rfl (pc0 := 195) (pc' := 202) rfl (hb hby d2_195) rfl (by decide) (by decide) (by decide) ?_
    refine sL X0 hx hby d2_202 rfl ?_
    refine X0.ldc2Long hx hown (mvT hZ (wk28 hw)) (g := (mkF m 203 #[.val (.long (29 : Int64)), .second] [(.long (29 : Int64))])) rfl (hb hby d2_203) _ ?_
    show Steps p.tables e below (s₁.setTop (mkF m 206 #[.val (.long (29 : Int64)), .second] [(.long (18 : Int64)), (.long (29 : Int64))])) _
    refine XS.lcmp X0.here hx rfl (hb hby d2_206) rfl ?_
    refine XS.ifYes X0.here hx rfl (pc0 := 207) (pc' := 214) rfl (hb hby d2_207) rfl (by decide) (by decide) (by decide) ?_
    refine sL X0 hx hby d2_214 rfl ?_
    refine X0.ldc2Long hx hown (mvT hZ (wk29 hw)) (g := (mkF m 215 #[.val (.long (29 : Int64)), .second] [(.long (29 : Int64))])) rfl (hb hby d2_215) _ ?_
    refine XS.lcmp X0.here hx rfl (hb hby d2_218) rfl ?_
    show Steps p.tables e below (s₁.setTop (mkF m 219 #[.val (.long (29 : Int64)), .second] [(.int (-1 : Int32))])) _
    refine XS.ifYes X0.here hx rfl (pc0 := 219) (pc' := 226) rfl (hb hby d2_219) rfl (by decide) (by decide) (by decide) ?_
    refine XS.aconstNull X0.here hx rfl (hb hby d2_226) ?_
    jvm_step X0.here [X0.here.top, hx, (hb hby d2_227), X0.method', Bd.returns, Value.isRef, FieldType.isReference]
    first | (intro acts; rw [hr _ acts rfl rfl rfl]) | rw [hr _ _ rfl rfl rfl]
    exact Steps.refl _
  · show Q2_65 Z w h0 n0 _ s₁.heap _
    rw [e0]
    exact ⟨rfl, N0, rfl⟩
theorem ef_2_66 (m : MethodId) : entryFrame m #[(.long (30 : Int64))] 2 = mkF m 0 #[.val (.long (30 : Int64)), .second] [] := by first | (simp [entryFrame, mkF, argsToLocals, Value.category]; done) | rfl
def Q2_66 (Z : State) (w : Nat → Addr) (h0 : Heap) (n0 : Nat) (v : Option Value) (h : Heap) (L : List Loc) : Prop := v = some .null ∧ Fr n0 L ∧ h = h0
set_option maxRecDepth 65536 in
set_option maxHeartbeats 40000000 in
theorem rm2_66 (l : Launch) (Z : State) (a0 : Array Value) (hw : ∀ d ∈ tables_1, d.before a0 Z = true) (w : Nat → Addr) (hW : Wd Z w) (ws : List Jvm.Cond) (h0 : Heap) (n0 : Nat) (O0 : Old Z n0 h0) :
    MetFree l ym1 (head1 (Jvm.Cond.code ym1 method_2_code 2 (some (.object "com/example/ferrule/ferrule/io/TypeCode")) :: ws) ({ frames := 0, cells := 0, slots := 0, locals := 0 } : Room)) (fun a U => a = #[(.long (30 : Int64))] ∧ Z.Warmed39 U.vm ∧ U.heap = h0) (fun _ _ _ _ _ => True) (fun _ U o U' => ∃ v L, o = .returned v ∧ Q2_66 Z w h0 n0 v U'.heap L ∧ FrameEnd U o U' L ({ frames := 0, cells := 0, slots := 0, locals := 0 } : Room).cells ({ frames := 0, cells := 0, slots := 0, locals := 0 } : Room).slots) := by
  refine MetFree.of_bodySF (plainFor_of_name pnc_1) hisR ?_
  intro p e s m args below meth c s₁ Bd hml0 hP hK
  obtain ⟨rfl, hZ, hh⟩ := hP
  have hx := Bd.exec
  have hby := Bd.bytes
  have hml : c.maxLocals = 2 := hml0
  have hown : s.vm.findClass "com/example/ferrule/ferrule/io/TypeCodeOfPinLaw" = some m.cls := findClass_of_methodNamed Bd.named
  have hnm := (name_of_methodNamed Bd.named Bd.method).1
  have X0 : Stand p l e ({ frames := 0, cells := 0, slots := 0, locals := 0 } : Room) s m #[(.long (30 : Int64))] below meth c s₁ [] 0 0 := Stand.of_body Bd
  have e0 : s₁.heap = h0 := by rw [← hh, Bd.state]; rfl
  have N0 := Fr.nil n0
  skip
  have pre0 : ∀ t, Steps p.tables e below (s₁.setTop (mkF m 0 #[.val (.long (30 : Int64)), .second] [])) t → Steps p.tables e below (s₁.setTop (entryFrame m #[(.long (30 : Int64))] 2)) t := fun t k => castTop (ef_2_66 m) k
  obtain ⟨fs, hr, hrun, hended, hWm, hsame⟩ := X0.leave (v := some .null) (fun h => by rw [Bd.returns] at h; cases h)
  refine ⟨_, _, pre0 _ ?_, hrun, hended, _, _, rfl, ?_, ⟨_, rfl⟩, hWm, hsame.mono (by decide) (by decide)⟩
  · show Steps p.tables e below (s₁.setTop (mkF m 0 #[.val (.long (30 : Int64)), .second] [])) _
    refine sL X0 hx hby d2_0 rfl ?_
    refine XS.lconst X0.here hx rfl (hb hby d2_1) ?_
    refine XS.lcmp X0.here hx rfl (hb hby d2_2) rfl ?_
    refine XS.ifYes X0.here hx rfl (pc0 := 3) (pc' := 10) rfl (hb hby d2_3) rfl (by decide) (by decide) (by decide) ?_
    refine sL X0 hx hby d2_10 rfl ?_
    show Steps p.tables e below (s₁.setTop (mkF m 11 #[.val (.long (30 : Int64)), .second] [(.long (30 : Int64))])) _
    refine X0.ldc2Long hx hown (mvT hZ (wk11 hw)) (g := (mkF m 11 #[.val (.long (30 : Int64)), .second] [(.long (30 : Int64))])) rfl (hb hby d2_11) _ ?_
    refine XS.lcmp X0.here hx rfl (hb hby d2_14) rfl ?_
    refine XS.ifYes X0.here hx rfl (pc0 := 15) (pc' := 22) rfl (hb hby d2_15) rfl (by decide) (by decide) (by decide) ?_
    refine sL X0 hx hby d2_22 rfl ?_
    refine X0.ldc2Long hx hown (mvT hZ (wk12 hw)) (g := (mkF m 23 #[.val (.long (30 : Int64)), .second] [(.long (30 : Int64))])) rfl (hb hby d2_23) _ ?_
    show Steps p.tables e below (s₁.setTop (mkF m 26 #[.val (.long (30 : Int64)), .second] [(.long (3 : Int64)), (.long (30 : Int64))])) _
    refine XS.lcmp X0.here hx rfl (hb hby d2_26) rfl ?_
    refine XS.ifYes X0.here hx rfl (pc0 := 27) (pc' := 34) rfl (hb hby d2_27) rfl (by decide) (by decide) (by decide) ?_
    refine sL X0 hx hby d2_34 rfl ?_
    refine X0.ldc2Long hx hown (mvT hZ (wk14 hw)) (g := (mkF m 35 #[.val (.long (30 : Int64)), .second] [(.long (30 : Int64))])) rfl (hb hby d2_35) _ ?_
    refine XS.lcmp X0.here hx rfl (hb hby d2_38) rfl ?_
    show Steps p.tables e below (s₁.setTop (mkF m 39 #[.val (.long (30 : Int64)), .second] [(.int (1 : Int32))])) _
    refine XS.ifYes X0.here hx rfl (pc0 := 39) (pc' := 46) rfl (hb hby d2_39) rfl (by decide) (by decide) (by decide) ?_
    refine sL X0 hx hby d2_46 rfl ?_
    refine X0.ldc2Long hx hown (mvT hZ (wk15 hw)) (g := (mkF m 47 #[.val (.long (30 : Int64)), .second] [(.long (30 : Int64))])) rfl (hb hby d2_47) _ ?_
    refine XS.lcmp X0.here hx rfl (hb hby d2_50) rfl ?_
    refine XS.ifYes X0.here hx rfl (pc0 := 51) (pc' := 58) rfl (hb hby d2_51) rfl (by decide) (by decide) (by decide) ?_
    show Steps p.tables e below (s₁.setTop (mkF m 58 #[.val (.long (30 : Int64)), .second] [])) _
    refine sL X0 hx hby d2_58 rfl ?_
    refine X0.ldc2Long hx hown (mvT hZ (wk16 hw)) (g := (mkF m 59 #[.val (.long (30 : Int64)), .second] [(.long (30 : Int64))])) rfl (hb hby d2_59) _ ?_
    refine XS.lcmp X0.here hx rfl (hb hby d2_62) rfl ?_
    refine XS.ifYes X0.here hx rfl (pc0 := 63) (pc' := 70) rfl (hb hby d2_63) rfl (by decide) (by decide) (by decide) ?_
    refine sL X0 hx hby d2_70 rfl ?_
    show Steps p.tables e below (s₁.setTop (mkF m 71 #[.val (.long (30 : Int64)), .second] [(.long (30 : Int64))])) _
    refine X0.ldc2Long hx hown (mvT hZ (wk17 hw)) (g := (mkF m 71 #[.val (.long (30 : Int64)), .second] [(.long (30 : Int64))])) rfl (hb hby d2_71) _ ?_
    refine XS.lcmp X0.here hx rfl (hb hby d2_74) rfl ?_
    refine XS.ifYes X0.here hx rfl (pc0 := 75) (pc' := 82) rfl (hb hby d2_75) rfl (by decide) (by decide) (by decide) ?_
    refine sL X0 hx hby d2_82 rfl ?_
    refine X0.ldc2Long hx hown (mvT hZ (wk18 hw)) (g := (mkF m 83 #[.val (.long (30 : Int64)), .second] [(.long (30 : Int64))])) rfl (hb hby d2_83) _ ?_
    show Steps p.tables e below (s₁.setTop (mkF m 86 #[.val (.long (30 : Int64)), .second] [(.long (8 : Int64)), (.long (30 : Int64))])) _
    refine XS.lcmp X0.here hx rfl (hb hby d2_86) rfl ?_
    refine XS.ifYes X0.here hx rfl (pc0 := 87) (pc' := 94) rfl (hb hby d2_87) rfl (by decide) (by decide) (by decide) ?_
    refine sL X0 hx hby d2_94 rfl ?_
    refine X0.ldc2Long hx hown (mvT hZ (wk19 hw)) (g := (mkF m 95 #[.val (.long (30 : Int64)), .second] [(.long (30 : Int64))])) rfl (hb hby d2_95) _ ?_
    refine XS.lcmp X0.here hx rfl (hb hby d2_98) rfl ?_
    show Steps p.tables e below (s₁.setTop (mkF m 99 #[.val (.long (30 : Int64)), .second] [(.int (1 : Int32))])) _
    refine XS.ifYes X0.here hx rfl (pc0 := 99) (pc' := 106) rfl (hb hby d2_99) rfl (by decide) (by decide) (by decide) ?_
    refine sL X0 hx hby d2_106 rfl ?_
    refine X0.ldc2Long hx hown (mvT hZ (wk20 hw)) (g := (mkF m 107 #[.val (.long (30 : Int64)), .second] [(.long (30 : Int64))])) rfl (hb hby d2_107) _ ?_
    refine XS.lcmp X0.here hx rfl (hb hby d2_110) rfl ?_
    refine XS.ifYes X0.here hx rfl (pc0 := 111) (pc' := 118) rfl (hb hby d2_111) rfl (by decide) (by decide) (by decide) ?_
    show Steps p.tables e below (s₁.setTop (mkF m 118 #[.val (.long (30 : Int64)), .second] [])) _
    refine sL X0 hx hby d2_118 rfl ?_
    refine X0.ldc2Long hx hown (mvT hZ (wk21 hw)) (g := (mkF m 119 #[.val (.long (30 : Int64)), .second] [(.long (30 : Int64))])) rfl (hb hby d2_119) _ ?_
    refine XS.lcmp X0.here hx rfl (hb hby d2_122) rfl ?_
    refine XS.ifYes X0.here hx rfl (pc0 := 123) (pc' := 130) rfl (hb hby d2_123) rfl (by decide) (by decide) (by decide) ?_
    refine sL X0 hx hby d2_130 rfl ?_
    show Steps p.tables e below (s₁.setTop (mkF m 131 #[.val (.long (30 : Int64)), .second] [(.long (30 : Int64))])) _
    refine X0.ldc2Long hx hown (mvT hZ (wk22 hw)) (g := (mkF m 131 #[.val (.long (30 : Int64)), .second] [(.long (30 : Int64))])) rfl (hb hby d2_131) _ ?_
    refine XS.lcmp X0.here hx rfl (hb hby d2_134) rfl ?_
    refine XS.ifYes X0.here hx rfl (pc0 := 135) (pc' := 142) rfl (hb hby d2_135) rfl (by decide) (by decide) (by decide) ?_
    refine sL X0 hx hby d2_142 rfl ?_
    refine X0.ldc2Long hx hown (mvT hZ (wk23 hw)) (g := (mkF m 143 #[.val (.long (30 : Int64)), .second] [(.long (30 : Int64))])) rfl (hb hby d2_143) _ ?_
    show Steps p.tables e below (s₁.setTop (mkF m 146 #[.val (.long (30 : Int64)), .second] [(.long (13 : Int64)), (.long (30 : Int64))])) _
    refine XS.lcmp X0.here hx rfl (hb hby d2_146) rfl ?_
    refine XS.ifYes X0.here hx rfl (pc0 := 147) (pc' := 154) rfl (hb hby d2_147) rfl (by decide) (by decide) (by decide) ?_
    refine sL X0 hx hby d2_154 rfl ?_
    refine X0.ldc2Long hx hown (mvT hZ (wk24 hw)) (g := (mkF m 155 #[.val (.long (30 : Int64)), .second] [(.long (30 : Int64))])) rfl (hb hby d2_155) _ ?_
    refine XS.lcmp X0.here hx rfl (hb hby d2_158) rfl ?_
    show Steps p.tables e below (s₁.setTop (mkF m 159 #[.val (.long (30 : Int64)), .second] [(.int (1 : Int32))])) _
    refine XS.ifYes X0.here hx rfl (pc0 := 159) (pc' := 166) rfl (hb hby d2_159) rfl (by decide) (by decide) (by decide) ?_
    refine sL X0 hx hby d2_166 rfl ?_
    refine X0.ldc2Long hx hown (mvT hZ (wk25 hw)) (g := (mkF m 167 #[.val (.long (30 : Int64)), .second] [(.long (30 : Int64))])) rfl (hb hby d2_167) _ ?_
    refine XS.lcmp X0.here hx rfl (hb hby d2_170) rfl ?_
    refine XS.ifYes X0.here hx rfl (pc0 := 171) (pc' := 178) rfl (hb hby d2_171) rfl (by decide) (by decide) (by decide) ?_
    show Steps p.tables e below (s₁.setTop (mkF m 178 #[.val (.long (30 : Int64)), .second] [])) _
    refine sL X0 hx hby d2_178 rfl ?_
    refine X0.ldc2Long hx hown (mvT hZ (wk26 hw)) (g := (mkF m 179 #[.val (.long (30 : Int64)), .second] [(.long (30 : Int64))])) rfl (hb hby d2_179) _ ?_
    refine XS.lcmp X0.here hx rfl (hb hby d2_182) rfl ?_
    refine XS.ifYes X0.here hx rfl (pc0 := 183) (pc' := 190) rfl (hb hby d2_183) rfl (by decide) (by decide) (by decide) ?_
    refine sL X0 hx hby d2_190 rfl ?_
    show Steps p.tables e below (s₁.setTop (mkF m 191 #[.val (.long (30 : Int64)), .second] [(.long (30 : Int64))])) _
    refine X0.ldc2Long hx hown (mvT hZ (wk27 hw)) (g := (mkF m 191 #[.val (.long (30 : Int64)), .second] [(.long (30 : Int64))])) rfl (hb hby d2_191) _ ?_
    refine XS.lcmp X0.here hx rfl (hb hby d2_194) rfl ?_
    refine XS.ifYes X0.here hx rfl (pc0 := 195) (pc' := 202) rfl (hb hby d2_195) rfl (by decide) (by decide) (by decide) ?_
    refine sL X0 hx hby d2_202 rfl ?_
    refine X0.ldc2Long hx hown (mvT hZ (wk28 hw)) (g := (mkF m 203 #[.val (.long (30 : Int64)), .second] [(.long (30 : Int64))])) rfl (hb hby d2_203) _ ?_
    show Steps p.tables e below (s₁.setTop (mkF m 206 #[.val (.long (30 : Int64)), .second] [(.long (18 : Int64)), (.long (30 : Int64))])) _
    refine XS.lcmp X0.here hx rfl (hb hby d2_206) rfl ?_
    refine XS.ifYes X0.here hx rfl (pc0 := 207) (pc' := 214) rfl (hb hby d2_207) rfl (by decide) (by decide) (by decide) ?_
    refine sL X0 hx hby d2_214 rfl ?_
    refine X0.ldc2Long hx hown (mvT hZ (wk29 hw)) (g := (mkF m 215 #[.val (.long (30 : Int64)), .second] [(.long (30 : Int64))])) rfl (hb hby d2_215) _ ?_
    refine XS.lcmp X0.here hx rfl (hb hby d2_218) rfl ?_
    show Steps p.tables e below (s₁.setTop (mkF m 219 #[.val (.long (30 : Int64)), .second] [(.int (-1 : Int32))])) _
    refine XS.ifYes X0.here hx rfl (pc0 := 219) (pc' := 226) rfl (hb hby d2_219) rfl (by decide) (by decide) (by decide) ?_
    refine XS.aconstNull X0.here hx rfl (hb hby d2_226) ?_
    jvm_step X0.here [X0.here.top, hx, (hb hby d2_227), X0.method', Bd.returns, Value.isRef, FieldType.isReference]
    first | (intro acts; rw [hr _ acts rfl rfl rfl]) | rw [hr _ _ rfl rfl rfl]
    exact Steps.refl _
  · show Q2_66 Z w h0 n0 _ s₁.heap _
    rw [e0]
    exact ⟨rfl, N0, rfl⟩
theorem ef_2_67 (m : MethodId) : entryFrame m #[(.long (31 : Int64))] 2 = mkF m 0 #[.val (.long (31 : Int64)), .second] [] := by first | (simp [entryFrame, mkF, argsToLocals, Value.category]; done) | rfl
def Q2_67 (Z : State) (w : Nat → Addr) (h0 : Heap) (n0 : Nat) (v : Option Value) (h : Heap) (L : List Loc) : Prop := v = some .null ∧ Fr n0 L ∧ h = h0
set_option maxRecDepth 65536 in
set_option maxHeartbeats 40000000 in
theorem rm2_67 (l : Launch) (Z : State) (a0 : Array Value) (hw : ∀ d ∈ tables_1, d.before a0 Z = true) (w : Nat → Addr) (hW : Wd Z w) (ws : List Jvm.Cond) (h0 : Heap) (n0 : Nat) (O0 : Old Z n0 h0) :
    MetFree l ym1 (head1 (Jvm.Cond.code ym1 method_2_code 2 (some (.object "com/example/ferrule/ferrule/io/TypeCode")) :: ws) ({ frames := 0, cells := 0, slots := 0, locals := 0 } : Room)) (fun a U => a = #[(.long (31 : Int64))] ∧ Z.Warmed39 U.vm ∧ U.heap = h0) (fun _ _ _ _ _ => True) (fun _ U o U' => ∃ v L, o = .returned v ∧ Q2_67 Z w h0 n0 v U'.heap L ∧ FrameEnd U o U' L ({ frames := 0, cells := 0, slots := 0, locals := 0 } : Room).cells ({ frames := 0, cells := 0, slots := 0, locals := 0 } : Room).slots) := by
  refine MetFree.of_bodySF (plainFor_of_name pnc_1) hisR ?_
  intro p e s m args below meth c s₁ Bd hml0 hP hK
  obtain ⟨rfl, hZ, hh⟩ := hP
  have hx := Bd.exec
  have hby := Bd.bytes
  have hml : c.maxLocals = 2 := hml0
  have hown : s.vm.findClass "com/example/ferrule/ferrule/io/TypeCodeOfPinLaw" = some m.cls := findClass_of_methodNamed Bd.named
  have hnm := (name_of_methodNamed Bd.named Bd.method).1
  have X0 : Stand p l e ({ frames := 0, cells := 0, slots := 0, locals := 0 } : Room) s m #[(.long (31 : Int64))] below meth c s₁ [] 0 0 := Stand.of_body Bd
  have e0 : s₁.heap = h0 := by rw [← hh, Bd.state]; rfl
  have N0 := Fr.nil n0
  skip
  have pre0 : ∀ t, Steps p.tables e below (s₁.setTop (mkF m 0 #[.val (.long (31 : Int64)), .second] [])) t → Steps p.tables e below (s₁.setTop (entryFrame m #[(.long (31 : Int64))] 2)) t := fun t k => castTop (ef_2_67 m) k
  obtain ⟨fs, hr, hrun, hended, hWm, hsame⟩ := X0.leave (v := some .null) (fun h => by rw [Bd.returns] at h; cases h)
  refine ⟨_, _, pre0 _ ?_, hrun, hended, _, _, rfl, ?_, ⟨_, rfl⟩, hWm, hsame.mono (by decide) (by decide)⟩
  · show Steps p.tables e below (s₁.setTop (mkF m 0 #[.val (.long (31 : Int64)), .second] [])) _
    refine sL X0 hx hby d2_0 rfl ?_
    refine XS.lconst X0.here hx rfl (hb hby d2_1) ?_
    refine XS.lcmp X0.here hx rfl (hb hby d2_2) rfl ?_
    refine XS.ifYes X0.here hx rfl (pc0 := 3) (pc' := 10) rfl (hb hby d2_3) rfl (by decide) (by decide) (by decide) ?_
    refine sL X0 hx hby d2_10 rfl ?_
    show Steps p.tables e below (s₁.setTop (mkF m 11 #[.val (.long (31 : Int64)), .second] [(.long (31 : Int64))])) _
    refine X0.ldc2Long hx hown (mvT hZ (wk11 hw)) (g := (mkF m 11 #[.val (.long (31 : Int64)), .second] [(.long (31 : Int64))])) rfl (hb hby d2_11) _ ?_
    refine XS.lcmp X0.here hx rfl (hb hby d2_14) rfl ?_
    refine XS.ifYes X0.here hx rfl (pc0 := 15) (pc' := 22) rfl (hb hby d2_15) rfl (by decide) (by decide) (by decide) ?_
    refine sL X0 hx hby d2_22 rfl ?_
    refine X0.ldc2Long hx hown (mvT hZ (wk12 hw)) (g := (mkF m 23 #[.val (.long (31 : Int64)), .second] [(.long (31 : Int64))])) rfl (hb hby d2_23) _ ?_
    show Steps p.tables e below (s₁.setTop (mkF m 26 #[.val (.long (31 : Int64)), .second] [(.long (3 : Int64)), (.long (31 : Int64))])) _
    refine XS.lcmp X0.here hx rfl (hb hby d2_26) rfl ?_
    refine XS.ifYes X0.here hx rfl (pc0 := 27) (pc' := 34) rfl (hb hby d2_27) rfl (by decide) (by decide) (by decide) ?_
    refine sL X0 hx hby d2_34 rfl ?_
    refine X0.ldc2Long hx hown (mvT hZ (wk14 hw)) (g := (mkF m 35 #[.val (.long (31 : Int64)), .second] [(.long (31 : Int64))])) rfl (hb hby d2_35) _ ?_
    refine XS.lcmp X0.here hx rfl (hb hby d2_38) rfl ?_
    show Steps p.tables e below (s₁.setTop (mkF m 39 #[.val (.long (31 : Int64)), .second] [(.int (1 : Int32))])) _
    refine XS.ifYes X0.here hx rfl (pc0 := 39) (pc' := 46) rfl (hb hby d2_39) rfl (by decide) (by decide) (by decide) ?_
    refine sL X0 hx hby d2_46 rfl ?_
    refine X0.ldc2Long hx hown (mvT hZ (wk15 hw)) (g := (mkF m 47 #[.val (.long (31 : Int64)), .second] [(.long (31 : Int64))])) rfl (hb hby d2_47) _ ?_
    refine XS.lcmp X0.here hx rfl (hb hby d2_50) rfl ?_
    refine XS.ifYes X0.here hx rfl (pc0 := 51) (pc' := 58) rfl (hb hby d2_51) rfl (by decide) (by decide) (by decide) ?_
    show Steps p.tables e below (s₁.setTop (mkF m 58 #[.val (.long (31 : Int64)), .second] [])) _
    refine sL X0 hx hby d2_58 rfl ?_
    refine X0.ldc2Long hx hown (mvT hZ (wk16 hw)) (g := (mkF m 59 #[.val (.long (31 : Int64)), .second] [(.long (31 : Int64))])) rfl (hb hby d2_59) _ ?_
    refine XS.lcmp X0.here hx rfl (hb hby d2_62) rfl ?_
    refine XS.ifYes X0.here hx rfl (pc0 := 63) (pc' := 70) rfl (hb hby d2_63) rfl (by decide) (by decide) (by decide) ?_
    refine sL X0 hx hby d2_70 rfl ?_
    show Steps p.tables e below (s₁.setTop (mkF m 71 #[.val (.long (31 : Int64)), .second] [(.long (31 : Int64))])) _
    refine X0.ldc2Long hx hown (mvT hZ (wk17 hw)) (g := (mkF m 71 #[.val (.long (31 : Int64)), .second] [(.long (31 : Int64))])) rfl (hb hby d2_71) _ ?_
    refine XS.lcmp X0.here hx rfl (hb hby d2_74) rfl ?_
    refine XS.ifYes X0.here hx rfl (pc0 := 75) (pc' := 82) rfl (hb hby d2_75) rfl (by decide) (by decide) (by decide) ?_
    refine sL X0 hx hby d2_82 rfl ?_
    refine X0.ldc2Long hx hown (mvT hZ (wk18 hw)) (g := (mkF m 83 #[.val (.long (31 : Int64)), .second] [(.long (31 : Int64))])) rfl (hb hby d2_83) _ ?_
    show Steps p.tables e below (s₁.setTop (mkF m 86 #[.val (.long (31 : Int64)), .second] [(.long (8 : Int64)), (.long (31 : Int64))])) _
    refine XS.lcmp X0.here hx rfl (hb hby d2_86) rfl ?_
    refine XS.ifYes X0.here hx rfl (pc0 := 87) (pc' := 94) rfl (hb hby d2_87) rfl (by decide) (by decide) (by decide) ?_
    refine sL X0 hx hby d2_94 rfl ?_
    refine X0.ldc2Long hx hown (mvT hZ (wk19 hw)) (g := (mkF m 95 #[.val (.long (31 : Int64)), .second] [(.long (31 : Int64))])) rfl (hb hby d2_95) _ ?_
    refine XS.lcmp X0.here hx rfl (hb hby d2_98) rfl ?_
    show Steps p.tables e below (s₁.setTop (mkF m 99 #[.val (.long (31 : Int64)), .second] [(.int (1 : Int32))])) _
    refine XS.ifYes X0.here hx rfl (pc0 := 99) (pc' := 106) rfl (hb hby d2_99) rfl (by decide) (by decide) (by decide) ?_
    refine sL X0 hx hby d2_106 rfl ?_
    refine X0.ldc2Long hx hown (mvT hZ (wk20 hw)) (g := (mkF m 107 #[.val (.long (31 : Int64)), .second] [(.long (31 : Int64))])) rfl (hb hby d2_107) _ ?_
    refine XS.lcmp X0.here hx rfl (hb hby d2_110) rfl ?_
    refine XS.ifYes X0.here hx rfl (pc0 := 111) (pc' := 118) rfl (hb hby d2_111) rfl (by decide) (by decide) (by decide) ?_
    show Steps p.tables e below (s₁.setTop (mkF m 118 #[.val (.long (31 : Int64)), .second] [])) _
    refine sL X0 hx hby d2_118 rfl ?_
    refine X0.ldc2Long hx hown (mvT hZ (wk21 hw)) (g := (mkF m 119 #[.val (.long (31 : Int64)), .second] [(.long (31 : Int64))])) rfl (hb hby d2_119) _ ?_
    refine XS.lcmp X0.here hx rfl (hb hby d2_122) rfl ?_
    refine XS.ifYes X0.here hx rfl (pc0 := 123) (pc' := 130) rfl (hb hby d2_123) rfl (by decide) (by decide) (by decide) ?_
    refine sL X0 hx hby d2_130 rfl ?_
    show Steps p.tables e below (s₁.setTop (mkF m 131 #[.val (.long (31 : Int64)), .second] [(.long (31 : Int64))])) _
    refine X0.ldc2Long hx hown (mvT hZ (wk22 hw)) (g := (mkF m 131 #[.val (.long (31 : Int64)), .second] [(.long (31 : Int64))])) rfl (hb hby d2_131) _ ?_
    refine XS.lcmp X0.here hx rfl (hb hby d2_134) rfl ?_
    refine XS.ifYes X0.here hx rfl (pc0 := 135) (pc' := 142) rfl (hb hby d2_135) rfl (by decide) (by decide) (by decide) ?_
    refine sL X0 hx hby d2_142 rfl ?_
    refine X0.ldc2Long hx hown (mvT hZ (wk23 hw)) (g := (mkF m 143 #[.val (.long (31 : Int64)), .second] [(.long (31 : Int64))])) rfl (hb hby d2_143) _ ?_
    show Steps p.tables e below (s₁.setTop (mkF m 146 #[.val (.long (31 : Int64)), .second] [(.long (13 : Int64)), (.long (31 : Int64))])) _
    refine XS.lcmp X0.here hx rfl (hb hby d2_146) rfl ?_
    refine XS.ifYes X0.here hx rfl (pc0 := 147) (pc' := 154) rfl (hb hby d2_147) rfl (by decide) (by decide) (by decide) ?_
    refine sL X0 hx hby d2_154 rfl ?_
    refine X0.ldc2Long hx hown (mvT hZ (wk24 hw)) (g := (mkF m 155 #[.val (.long (31 : Int64)), .second] [(.long (31 : Int64))])) rfl (hb hby d2_155) _ ?_
    refine XS.lcmp X0.here hx rfl (hb hby d2_158) rfl ?_
    show Steps p.tables e below (s₁.setTop (mkF m 159 #[.val (.long (31 : Int64)), .second] [(.int (1 : Int32))])) _
    refine XS.ifYes X0.here hx rfl (pc0 := 159) (pc' := 166) rfl (hb hby d2_159) rfl (by decide) (by decide) (by decide) ?_
    refine sL X0 hx hby d2_166 rfl ?_
    refine X0.ldc2Long hx hown (mvT hZ (wk25 hw)) (g := (mkF m 167 #[.val (.long (31 : Int64)), .second] [(.long (31 : Int64))])) rfl (hb hby d2_167) _ ?_
    refine XS.lcmp X0.here hx rfl (hb hby d2_170) rfl ?_
    refine XS.ifYes X0.here hx rfl (pc0 := 171) (pc' := 178) rfl (hb hby d2_171) rfl (by decide) (by decide) (by decide) ?_
    show Steps p.tables e below (s₁.setTop (mkF m 178 #[.val (.long (31 : Int64)), .second] [])) _
    refine sL X0 hx hby d2_178 rfl ?_
    refine X0.ldc2Long hx hown (mvT hZ (wk26 hw)) (g := (mkF m 179 #[.val (.long (31 : Int64)), .second] [(.long (31 : Int64))])) rfl (hb hby d2_179) _ ?_
    refine XS.lcmp X0.here hx rfl (hb hby d2_182) rfl ?_
    refine XS.ifYes X0.here hx rfl (pc0 := 183) (pc' := 190) rfl (hb hby d2_183) rfl (by decide) (by decide) (by decide) ?_
    refine sL X0 hx hby d2_190 rfl ?_
    show Steps p.tables e below (s₁.setTop (mkF m 191 #[.val (.long (31 : Int64)), .second] [(.long (31 : Int64))])) _
    refine X0.ldc2Long hx hown (mvT hZ (wk27 hw)) (g := (mkF m 191 #[.val (.long (31 : Int64)), .second] [(.long (31 : Int64))])) rfl (hb hby d2_191) _ ?_
    refine XS.lcmp X0.here hx rfl (hb hby d2_194) rfl ?_
    refine XS.ifYes X0.here hx rfl (pc0 := 195) (pc' := 202) rfl (hb hby d2_195) rfl (by decide) (by decide) (by decide) ?_
    refine sL X0 hx hby d2_202 rfl ?_
    refine X0.ldc2Long hx hown (mvT hZ (wk28 hw)) (g := (mkF m 203 #[.val (.long (31 : Int64)), .second] [(.long (31 : Int64))])) rfl (hb hby d2_203) _ ?_
    show Steps p.tables e below (s₁.setTop (mkF m 206 #[.val (.long (31 : Int64)), .second] [(.long (18 : Int64)), (.long (31 : Int64))])) _
    refine XS.lcmp X0.here hx rfl (hb hby d2_206) rfl ?_
    refine XS.ifYes X0.here hx rfl (pc0 := 207) (pc' := 214) rfl (hb hby d2_207) rfl (by decide) (by decide) (by decide) ?_
    refine sL X0 hx hby d2_214 rfl ?_
    refine X0.ldc2Long hx hown (mvT hZ (wk29 hw)) (g := (mkF m 215 #[.val (.long (31 : Int64)), .second] [(.long (31 : Int64))])) rfl (hb hby d2_215) _ ?_
    refine XS.lcmp X0.here hx rfl (hb hby d2_218) rfl ?_
    show Steps p.tables e below (s₁.setTop (mkF m 219 #[.val (.long (31 : Int64)), .second] [(.int (-1 : Int32))])) _
    refine XS.ifYes X0.here hx rfl (pc0 := 219) (pc' := 226) rfl (hb hby d2_219) rfl (by decide) (by decide) (by decide) ?_
    refine XS.aconstNull X0.here hx rfl (hb hby d2_226) ?_
    jvm_step X0.here [X0.here.top, hx, (hb hby d2_227), X0.method', Bd.returns, Value.isRef, FieldType.isReference]
    first | (intro acts; rw [hr _ acts rfl rfl rfl]) | rw [hr _ _ rfl rfl rfl]
    exact Steps.refl _
  · show Q2_67 Z w h0 n0 _ s₁.heap _
    rw [e0]
    exact ⟨rfl, N0, rfl⟩
theorem d2_222 : decode method_2_code 222 = .ok (.getstatic 100, 3) := by decide +kernel
theorem d2_225 : decode method_2_code 225 = .ok (.areturn, 1) := by decide +kernel
theorem ef_2_68 (m : MethodId) : entryFrame m #[(.long (32 : Int64))] 2 = mkF m 0 #[.val (.long (32 : Int64)), .second] [] := by first | (simp [entryFrame, mkF, argsToLocals, Value.category]; done) | rfl
def Q2_68 (Z : State) (w : Nat → Addr) (h0 : Heap) (n0 : Nat) (v : Option Value) (h : Heap) (L : List Loc) : Prop := v = some (.ref (w 12)) ∧ Fr n0 L ∧ h = h0
set_option maxRecDepth 65536 in
set_option maxHeartbeats 40000000 in
theorem rm2_68 (l : Launch) (Z : State) (a0 : Array Value) (hw : ∀ d ∈ tables_1, d.before a0 Z = true) (w : Nat → Addr) (hW : Wd Z w) (ws : List Jvm.Cond) (h0 : Heap) (n0 : Nat) (O0 : Old Z n0 h0) :
    MetFree l ym1 (head1 (Jvm.Cond.code ym1 method_2_code 2 (some (.object "com/example/ferrule/ferrule/io/TypeCode")) :: ws) ({ frames := 0, cells := 0, slots := 0, locals := 0 } : Room)) (fun a U => a = #[(.long (32 : Int64))] ∧ Z.Warmed39 U.vm ∧ U.heap = h0) (fun _ _ _ _ _ => True) (fun _ U o U' => ∃ v L, o = .returned v ∧ Q2_68 Z w h0 n0 v U'.heap L ∧ FrameEnd U o U' L ({ frames := 0, cells := 0, slots := 0, locals := 0 } : Room).cells ({ frames := 0, cells := 0, slots := 0, locals := 0 } : Room).slots) := by
  refine MetFree.of_bodySF (plainFor_of_name pnc_1) hisR ?_
  intro p e s m args below meth c s₁ Bd hml0 hP hK
  obtain ⟨rfl, hZ, hh⟩ := hP
  have hx := Bd.exec
  have hby := Bd.bytes
  have hml : c.maxLocals = 2 := hml0
  have hown : s.vm.findClass "com/example/ferrule/ferrule/io/TypeCodeOfPinLaw" = some m.cls := findClass_of_methodNamed Bd.named
  have hnm := (name_of_methodNamed Bd.named Bd.method).1
  have X0 : Stand p l e ({ frames := 0, cells := 0, slots := 0, locals := 0 } : Room) s m #[(.long (32 : Int64))] below meth c s₁ [] 0 0 := Stand.of_body Bd
  have e0 : s₁.heap = h0 := by rw [← hh, Bd.state]; rfl
  have N0 := Fr.nil n0
  skip
  have pre0 : ∀ t, Steps p.tables e below (s₁.setTop (mkF m 0 #[.val (.long (32 : Int64)), .second] [])) t → Steps p.tables e below (s₁.setTop (entryFrame m #[(.long (32 : Int64))] 2)) t := fun t k => castTop (ef_2_68 m) k
  obtain ⟨T1, X1, e1, st1⟩ := getS2 X0 hx hZ hown (host := "") (Or.inl (wk51 hw)) Via.refl e0 ((wd23 hW).ext O0.2) (g := (mkF m 222 #[.val (.long (32 : Int64)), .second] [])) rfl (hb hby d2_222)
  obtain ⟨fs, hr, hrun, hended, hWm, hsame⟩ := X1.leave (v := some (.ref (w 12))) (fun h => by rw [Bd.returns] at h; cases h)
  refine ⟨_, _, pre0 _ ?_, hrun, hended, _, _, rfl, ?_, ⟨_, rfl⟩, hWm, hsame.mono (by decide) (by decide)⟩
  · show Steps p.tables e below (s₁.setTop (mkF m 0 #[.val (.long (32 : Int64)), .second] [])) _
    refine sL X0 hx hby d2_0 rfl ?_
    refine XS.lconst X0.here hx rfl (hb hby d2_1) ?_
    refine XS.lcmp X0.here hx rfl (hb hby d2_2) rfl ?_
    refine XS.ifYes X0.here hx rfl (pc0 := 3) (pc' := 10) rfl (hb hby d2_3) rfl (by decide) (by decide) (by decide) ?_
    refine sL X0 hx hby d2_10 rfl ?_
    show Steps p.tables e below (s₁.setTop (mkF m 11 #[.val (.long (32 : Int64)), .second] [(.long (32 : Int64))])) _
    refine X0.ldc2Long hx hown (mvT hZ (wk11 hw)) (g := (mkF m 11 #[.val (.long (32 : Int64)), .second] [(.long (32 : Int64))])) rfl (hb hby d2_11) _ ?_
    refine XS.lcmp X0.here hx rfl (hb hby d2_14) rfl ?_
    refine XS.ifYes X0.here hx rfl (pc0 := 15) (pc' := 22) rfl (hb hby d2_15) rfl (by decide) (by decide) (by decide) ?_
    refine sL X0 hx hby d2_22 rfl ?_
    refine X0.ldc2Long hx hown (mvT hZ (wk12 hw)) (g := (mkF m 23 #[.val (.long (32 : Int64)), .second] [(.long (32 : Int64))])) rfl (hb hby d2_23) _ ?_
    show Steps p.tables e below (s₁.setTop (mkF m 26 #[.val (.long (32 : Int64)), .second] [(.long (3 : Int64)), (.long (32 : Int64))])) _
    refine XS.lcmp X0.here hx rfl (hb hby d2_26) rfl ?_
    refine XS.ifYes X0.here hx rfl (pc0 := 27) (pc' := 34) rfl (hb hby d2_27) rfl (by decide) (by decide) (by decide) ?_
    refine sL X0 hx hby d2_34 rfl ?_
    refine X0.ldc2Long hx hown (mvT hZ (wk14 hw)) (g := (mkF m 35 #[.val (.long (32 : Int64)), .second] [(.long (32 : Int64))])) rfl (hb hby d2_35) _ ?_
    refine XS.lcmp X0.here hx rfl (hb hby d2_38) rfl ?_
    show Steps p.tables e below (s₁.setTop (mkF m 39 #[.val (.long (32 : Int64)), .second] [(.int (1 : Int32))])) _
    refine XS.ifYes X0.here hx rfl (pc0 := 39) (pc' := 46) rfl (hb hby d2_39) rfl (by decide) (by decide) (by decide) ?_
    refine sL X0 hx hby d2_46 rfl ?_
    refine X0.ldc2Long hx hown (mvT hZ (wk15 hw)) (g := (mkF m 47 #[.val (.long (32 : Int64)), .second] [(.long (32 : Int64))])) rfl (hb hby d2_47) _ ?_
    refine XS.lcmp X0.here hx rfl (hb hby d2_50) rfl ?_
    refine XS.ifYes X0.here hx rfl (pc0 := 51) (pc' := 58) rfl (hb hby d2_51) rfl (by decide) (by decide) (by decide) ?_
    show Steps p.tables e below (s₁.setTop (mkF m 58 #[.val (.long (32 : Int64)), .second] [])) _
    refine sL X0 hx hby d2_58 rfl ?_
    refine X0.ldc2Long hx hown (mvT hZ (wk16 hw)) (g := (mkF m 59 #[.val (.long (32 : Int64)), .second] [(.long (32 : Int64))])) rfl (hb hby d2_59) _ ?_
    refine XS.lcmp X0.here hx rfl (hb hby d2_62) rfl ?_
    refine XS.ifYes X0.here hx rfl (pc0 := 63) (pc' := 70) rfl (hb hby d2_63) rfl (by decide) (by decide) (by decide) ?_
    refine sL X0 hx hby d2_70 rfl ?_
    show Steps p.tables e below (s₁.setTop (mkF m 71 #[.val (.long (32 : Int64)), .second] [(.long (32 : Int64))])) _
    refine X0.ldc2Long hx hown (mvT hZ (wk17 hw)) (g := (mkF m 71 #[.val (.long (32 : Int64)), .second] [(.long (32 : Int64))])) rfl (hb hby d2_71) _ ?_
    refine XS.lcmp X0.here hx rfl (hb hby d2_74) rfl ?_
    refine XS.ifYes X0.here hx rfl (pc0 := 75) (pc' := 82) rfl (hb hby d2_75) rfl (by decide) (by decide) (by decide) ?_
    refine sL X0 hx hby d2_82 rfl ?_
    refine X0.ldc2Long hx hown (mvT hZ (wk18 hw)) (g := (mkF m 83 #[.val (.long (32 : Int64)), .second] [(.long (32 : Int64))])) rfl (hb hby d2_83) _ ?_
    show Steps p.tables e below (s₁.setTop (mkF m 86 #[.val (.long (32 : Int64)), .second] [(.long (8 : Int64)), (.long (32 : Int64))])) _
    refine XS.lcmp X0.here hx rfl (hb hby d2_86) rfl ?_
    refine XS.ifYes X0.here hx rfl (pc0 := 87) (pc' := 94) rfl (hb hby d2_87) rfl (by decide) (by decide) (by decide) ?_
    refine sL X0 hx hby d2_94 rfl ?_
    refine X0.ldc2Long hx hown (mvT hZ (wk19 hw)) (g := (mkF m 95 #[.val (.long (32 : Int64)), .second] [(.long (32 : Int64))])) rfl (hb hby d2_95) _ ?_
    refine XS.lcmp X0.here hx rfl (hb hby d2_98) rfl ?_
    show Steps p.tables e below (s₁.setTop (mkF m 99 #[.val (.long (32 : Int64)), .second] [(.int (1 : Int32))])) _
    refine XS.ifYes X0.here hx rfl (pc0 := 99) (pc' := 106) rfl (hb hby d2_99) rfl (by decide) (by decide) (by decide) ?_
    refine sL X0 hx hby d2_106 rfl ?_
    refine X0.ldc2Long hx hown (mvT hZ (wk20 hw)) (g := (mkF m 107 #[.val (.long (32 : Int64)), .second] [(.long (32 : Int64))])) rfl (hb hby d2_107) _ ?_
    refine XS.lcmp X0.here hx rfl (hb hby d2_110) rfl ?_
    refine XS.ifYes X0.here hx rfl (pc0 := 111) (pc' := 118) rfl (hb hby d2_111) rfl (by decide) (by decide) (by decide) ?_
    show Steps p.tables e below (s₁.setTop (mkF m 118 #[.val (.long (32 : Int64)), .second] [])) _
    refine sL X0 hx hby d2_118 rfl ?_
    refine X0.ldc2Long hx hown (mvT hZ (wk21 hw)) (g := (mkF m 119 #[.val (.long (32 : Int64)), .second] [(.long (32 : Int64))])) rfl (hb hby d2_119) _ ?_
    refine XS.lcmp X0.here hx rfl (hb hby d2_122) rfl ?_
    refine XS.ifYes X0.here hx rfl (pc0 := 123) (pc' := 130) rfl (hb hby d2_123) rfl (by decide) (by decide) (by decide) ?_
    refine sL X0 hx hby d2_130 rfl ?_
    show Steps p.tables e below (s₁.setTop (mkF m 131 #[.val (.long (32 : Int64)), .second] [(.long (32 : Int64))])) _
    refine X0.ldc2Long hx hown (mvT hZ (wk22 hw)) (g := (mkF m 131 #[.val (.long (32 : Int64)), .second] [(.long (32 : Int64))])) rfl (hb hby d2_131) _ ?_
    refine XS.lcmp X0.here hx rfl (hb hby d2_134) rfl ?_
    refine XS.ifYes X0.here hx rfl (pc0 := 135) (pc' := 142) rfl (hb hby d2_135) rfl (by decide) (by decide) (by decide) ?_
    refine sL X0 hx hby d2_142 rfl ?_
    refine X0.ldc2Long hx hown (mvT hZ (wk23 hw)) (g := (mkF m 143 #[.val (.long (32 : Int64)), .second] [(.long (32 : Int64))])) rfl (hb hby d2_143) _ ?_
    show Steps p.tables e below (s₁.setTop (mkF m 146 #[.val (.long (32 : Int64)), .second] [(.long (13 : Int64)), (.long (32 : Int64))])) _
    refine XS.lcmp X0.here hx rfl (hb hby d2_146) rfl ?_
    refine XS.ifYes X0.here hx rfl (pc0 := 147) (pc' := 154) rfl (hb hby d2_147) rfl (by decide) (by decide) (by decide) ?_
    refine sL X0 hx hby d2_154 rfl ?_
    refine X0.ldc2Long hx hown (mvT hZ (wk24 hw)) (g := (mkF m 155 #[.val (.long (32 : Int64)), .second] [(.long (32 : Int64))])) rfl (hb hby d2_155) _ ?_
    refine XS.lcmp X0.here hx rfl (hb hby d2_158) rfl ?_
    show Steps p.tables e below (s₁.setTop (mkF m 159 #[.val (.long (32 : Int64)), .second] [(.int (1 : Int32))])) _
    refine XS.ifYes X0.here hx rfl (pc0 := 159) (pc' := 166) rfl (hb hby d2_159) rfl (by decide) (by decide) (by decide) ?_
    refine sL X0 hx hby d2_166 rfl ?_
    refine X0.ldc2Long hx hown (mvT hZ (wk25 hw)) (g := (mkF m 167 #[.val (.long (32 : Int64)), .second] [(.long (32 : Int64))])) rfl (hb hby d2_167) _ ?_
    refine XS.lcmp X0.here hx rfl (hb hby d2_170) rfl ?_
    refine XS.ifYes X0.here hx rfl (pc0 := 171) (pc' := 178) rfl (hb hby d2_171) rfl (by decide) (by decide) (by decide) ?_
    show Steps p.tables e below (s₁.setTop (mkF m 178 #[.val (.long (32 : Int64)), .second] [])) _
    refine sL X0 hx hby d2_178 rfl ?_
    refine X0.ldc2Long hx hown (mvT hZ (wk26 hw)) (g := (mkF m 179 #[.val (.long (32 : Int64)), .second] [(.long (32 : Int64))])) rfl (hb hby d2_179) _ ?_
    refine XS.lcmp X0.here hx rfl (hb hby d2_182) rfl ?_
    refine XS.ifYes X0.here hx rfl (pc0 := 183) (pc' := 190) rfl (hb hby d2_183) rfl (by decide) (by decide) (by decide) ?_
    refine sL X0 hx hby d2_190 rfl ?_
    show Steps p.tables e below (s₁.setTop (mkF m 191 #[.val (.long (32 : Int64)), .second] [(.long (32 : Int64))])) _
    refine X0.ldc2Long hx hown (mvT hZ (wk27 hw)) (g := (mkF m 191 #[.val (.long (32 : Int64)), .second] [(.long (32 : Int64))])) rfl (hb hby d2_191) _ ?_
    refine XS.lcmp X0.here hx rfl (hb hby d2_194) rfl ?_
    refine XS.ifYes X0.here hx rfl (pc0 := 195) (pc' := 202) rfl (hb hby d2_195) rfl (by decide) (by decide) (by decide) ?_
    refine sL X0 hx hby d2_202 rfl ?_
    refine X0.ldc2Long hx hown (mvT hZ (wk28 hw)) (g := (mkF m 203 #[.val (.long (32 : Int64)), .second] [(.long (32 : Int64))])) rfl (hb hby d2_203) _ ?_
    show Steps p.tables e below (s₁.setTop (mkF m 206 #[.val (.long (32 : Int64)), .second] [(.long (18 : Int64)), (.long (32 : Int64))])) _
    refine XS.lcmp X0.here hx rfl (hb hby d2_206) rfl ?_
    refine XS.ifYes X0.here hx rfl (pc0 := 207) (pc' := 214) rfl (hb hby d2_207) rfl (by decide) (by decide) (by decide) ?_
    refine sL X0 hx hby d2_214 rfl ?_
    refine X0.ldc2Long hx hown (mvT hZ (wk29 hw)) (g := (mkF m 215 #[.val (.long (32 : Int64)), .second] [(.long (32 : Int64))])) rfl (hb hby d2_215) _ ?_
    refine XS.lcmp X0.here hx rfl (hb hby d2_218) rfl ?_
    show Steps p.tables e below (s₁.setTop (mkF m 219 #[.val (.long (32 : Int64)), .second] [(.int (0 : Int32))])) _
    refine sN X0 hx hby d2_219 (by decide) ?_
    refine st1 _ ?_
    jvm_step X1.here [X1.here.top, hx, (hb hby d2_225), X1.method', Bd.returns, Value.isRef, FieldType.isReference]
    first | (intro acts; rw [hr _ acts rfl rfl rfl]) | rw [hr _ _ rfl rfl rfl]
    exact Steps.refl _
  · show Q2_68 Z w h0 n0 _ T1.heap _
    rw [e1]
    exact ⟨rfl, N0, rfl⟩
theorem ef_2_69 (m : MethodId) (q1 : Int64) : entryFrame m #[(.long q1)] 2 = mkF m 0 #[.val (.long q1), .second] [] := by first | (simp [entryFrame, mkF, argsToLocals, Value.category]; done) | rfl
def Q2_69 (Z : State) (w : Nat → Addr) (q1 : Int64) (h0 : Heap) (n0 : Nat) (v : Option Value) (h : Heap) (L : List Loc) : Prop := v = some .null ∧ Fr n0 L ∧ h = h0
set_option maxRecDepth 65536 in
set_option maxHeartbeats 40000000 in
theorem rm2_69 (l : Launch) (Z : State) (a0 : Array Value) (hw : ∀ d ∈ tables_1, d.before a0 Z = true) (w : Nat → Addr) (hW : Wd Z w) (ws : List Jvm.Cond) (q1 : Int64) (h0 : Heap) (n0 : Nat) (O0 : Old Z n0 h0) (c1 : ¬ (q1 = (1 : Int64))) (c2 : ¬ (q1 = (2 : Int64))) (c3 : ¬ (q1 = (3 : Int64))) (c4 : ¬ (q1 = (4 : Int64))) (c5 : ¬ (q1 = (5 : Int64))) (c6 : ¬ (q1 = (6 : Int64))) (c7 : ¬ (q1 = (7 : Int64))) (c8 : ¬ (q1 = (8 : Int64))) (c9 : ¬ (q1 = (9 : Int64))) (c10 : ¬ (q1 = (10 : Int64))) (c11 : ¬ (q1 = (11 : Int64))) (c12 : ¬ (q1 = (12 : Int64))) (c13 : ¬ (q1 = (13 : Int64))) (c14 : ¬ (q1 = (14 : Int64))) (c15 : ¬ (q1 = (15 : Int64))) (c16 : ¬ (q1 = (16 : Int64))) (c17 : ¬ (q1 = (17 : Int64))) (c18 : ¬ (q1 = (18 : Int64))) (c19 : ¬ (q1 = (32 : Int64))) :
    MetFree l ym1 (head1 (Jvm.Cond.code ym1 method_2_code 2 (some (.object "com/example/ferrule/ferrule/io/TypeCode")) :: ws) ({ frames := 0, cells := 0, slots := 0, locals := 0 } : Room)) (fun a U => a = #[(.long q1)] ∧ Z.Warmed39 U.vm ∧ U.heap = h0) (fun _ _ _ _ _ => True) (fun _ U o U' => ∃ v L, o = .returned v ∧ Q2_69 Z w q1 h0 n0 v U'.heap L ∧ FrameEnd U o U' L ({ frames := 0, cells := 0, slots := 0, locals := 0 } : Room).cells ({ frames := 0, cells := 0, slots := 0, locals := 0 } : Room).slots) := by
  refine MetFree.of_bodySF (plainFor_of_name pnc_1) hisR ?_
  intro p e s m args below meth c s₁ Bd hml0 hP hK
  obtain ⟨rfl, hZ, hh⟩ := hP
  have hx := Bd.exec
  have hby := Bd.bytes
  have hml : c.maxLocals = 2 := hml0
  have hown : s.vm.findClass "com/example/ferrule/ferrule/io/TypeCodeOfPinLaw" = some m.cls := findClass_of_methodNamed Bd.named
  have hnm := (name_of_methodNamed Bd.named Bd.method).1
  have X0 : Stand p l e ({ frames := 0, cells := 0, slots := 0, locals := 0 } : Room) s m #[(.long q1)] below meth c s₁ [] 0 0 := Stand.of_body Bd
  have e0 : s₁.heap = h0 := by rw [← hh, Bd.state]; rfl
  have N0 := Fr.nil n0
  skip
  have pre0 : ∀ t, Steps p.tables e below (s₁.setTop (mkF m 0 #[.val (.long q1), .second] [])) t → Steps p.tables e below (s₁.setTop (entryFrame m #[(.long q1)] 2)) t := fun t k => castTop (ef_2_69 m q1) k
  obtain ⟨fs, hr, hrun, hended, hWm, hsame⟩ := X0.leave (v := some .null) (fun h => by rw [Bd.returns] at h; cases h)
  refine ⟨_, _, pre0 _ ?_, hrun, hended, _, _, rfl, ?_, ⟨_, rfl⟩, hWm, hsame.mono (by decide) (by decide)⟩
  · show Steps p.tables e below (s₁.setTop (mkF m 0 #[.val (.long q1), .second] [])) _
    refine sL X0 hx hby d2_0 rfl ?_
    refine XS.lconst X0.here hx rfl (hb hby d2_1) ?_
    refine XS.lcmp X0.here hx rfl (hb hby d2_2) rfl ?_
    refine XS.ifYes X0.here hx rfl (pc0 := 3) (pc' := 10) rfl (hb hby d2_3) rfl ((if0 _ _).trans (feq ((fun q => c1 ((lw_eq _ _).mp q)) : ¬ ((lcmpW q1 (1 : Int64)) = (0 : Int32)))).2) (by decide) (by decide) ?_
    refine sL X0 hx hby d2_10 rfl ?_
    show Steps p.tables e below (s₁.setTop (mkF m 11 #[.val (.long q1), .second] [(.long q1)])) _
    refine X0.ldc2Long hx hown (mvT hZ (wk11 hw)) (g := (mkF m 11 #[.val (.long q1), .second] [(.long q1)])) rfl (hb hby d2_11) _ ?_
    refine XS.lcmp X0.here hx rfl (hb hby d2_14) rfl ?_
    refine XS.ifYes X0.here hx rfl (pc0 := 15) (pc' := 22) rfl (hb hby d2_15) rfl ((if0 _ _).trans (feq ((fun q => c2 ((lw_eq _ _).mp q)) : ¬ ((lcmpW q1 (2 : Int64)) = (0 : Int32)))).2) (by decide) (by decide) ?_
    refine sL X0 hx hby d2_22 rfl ?_
    refine X0.ldc2Long hx hown (mvT hZ (wk12 hw)) (g := (mkF m 23 #[.val (.long q1), .second] [(.long q1)])) rfl (hb hby d2_23) _ ?_
    show Steps p.tables e below (s₁.setTop (mkF m 26 #[.val (.long q1), .second] [(.long (3 : Int64)), (.long q1)])) _
    refine XS.lcmp X0.here hx rfl (hb hby d2_26) rfl ?_
    refine XS.ifYes X0.here hx rfl (pc0 := 27) (pc' := 34) rfl (hb hby d2_27) rfl ((if0 _ _).trans (feq ((fun q => c3 ((lw_eq _ _).mp q)) : ¬ ((lcmpW q1 (3 : Int64)) = (0 : Int32)))).2) (by decide) (by decide) ?_
    refine sL X0 hx hby d2_34 rfl ?_
    refine X0.ldc2Long hx hown (mvT hZ (wk14 hw)) (g := (mkF m 35 #[.val (.long q1), .second] [(.long q1)])) rfl (hb hby d2_35) _ ?_
    refine XS.lcmp X0.here hx rfl (hb hby d2_38) rfl ?_
    show Steps p.tables e below (s₁.setTop (mkF m 39 #[.val (.long q1), .second] [(.int (lcmpW q1 (4 : Int64)))])) _
    refine XS.ifYes X0.here hx rfl (pc0 := 39) (pc' := 46) rfl (hb hby d2_39) rfl ((if0 _ _).trans (feq ((fun q => c4 ((lw_eq _ _).mp q)) : ¬ ((lcmpW q1 (4 : Int64)) = (0 : Int32)))).2) (by decide) (by decide) ?_
    refine sL X0 hx hby d2_46 rfl ?_
    refine X0.ldc2Long hx hown (mvT hZ (wk15 hw)) (g := (mkF m 47 #[.val (.long q1), .second] [(.long q1)])) rfl (hb hby d2_47) _ ?_
    refine XS.lcmp X0.here hx rfl (hb hby d2_50) rfl ?_
    refine XS.ifYes X0.here hx rfl (pc0 := 51) (pc' := 58) rfl (hb hby d2_51) rfl ((if0 _ _).trans (feq ((fun q => c5 ((lw_eq _ _).mp q)) : ¬ ((lcmpW q1 (5 : Int64)) = (0 : Int32)))).2) (by decide) (by decide) ?_
    show Steps p.tables e below (s₁.setTop (mkF m 58 #[.val (.long q1), .second] [])) _
    refine sL X0 hx hby d2_58 rfl ?_
    refine X0.ldc2Long hx hown (mvT hZ (wk16 hw)) (g := (mkF m 59 #[.val (.long q1), .second] [(.long q1)])) rfl (hb hby d2_59) _ ?_
    refine XS.lcmp X0.here hx rfl (hb hby d2_62) rfl ?_
    refine XS.ifYes X0.here hx rfl (pc0 := 63) (pc' := 70) rfl (hb hby d2_63) rfl ((if0 _ _).trans (feq ((fun q => c6 ((lw_eq _ _).mp q)) : ¬ ((lcmpW q1 (6 : Int64)) = (0 : Int32)))).2) (by decide) (by decide) ?_
    refine sL X0 hx hby d2_70 rfl ?_
    show Steps p.tables e below (s₁.setTop (mkF m 71 #[.val (.long q1), .second] [(.long q1)])) _
    refine X0.ldc2Long hx hown (mvT hZ (wk17 hw)) (g := (mkF m 71 #[.val (.long q1), .second] [(.long q1)])) rfl (hb hby d2_71) _ ?_
    refine XS.lcmp X0.here hx rfl (hb hby d2_74) rfl ?_
    refine XS.ifYes X0.here hx rfl (pc0 := 75) (pc' := 82) rfl (hb hby d2_75) rfl ((if0 _ _).trans (feq ((fun q => c7 ((lw_eq _ _).mp q)) : ¬ ((lcmpW q1 (7 : Int64)) = (0 : Int32)))).2) (by decide) (by decide) ?_
    refine sL X0 hx hby d2_82 rfl ?_
    refine X0.ldc2Long hx hown (mvT hZ (wk18 hw)) (g := (mkF m 83 #[.val (.long q1), .second] [(.long q1)])) rfl (hb hby d2_83) _ ?_
    show Steps p.tables e below (s₁.setTop (mkF m 86 #[.val (.long q1), .second] [(.long (8 : Int64)), (.long q1)])) _
    refine XS.lcmp X0.here hx rfl (hb hby d2_86) rfl ?_
    refine XS.ifYes X0.here hx rfl (pc0 := 87) (pc' := 94) rfl (hb hby d2_87) rfl ((if0 _ _).trans (feq ((fun q => c8 ((lw_eq _ _).mp q)) : ¬ ((lcmpW q1 (8 : Int64)) = (0 : Int32)))).2) (by decide) (by decide) ?_
    refine sL X0 hx hby d2_94 rfl ?_
    refine X0.ldc2Long hx hown (mvT hZ (wk19 hw)) (g := (mkF m 95 #[.val (.long q1), .second] [(.long q1)])) rfl (hb hby d2_95) _ ?_
    refine XS.lcmp X0.here hx rfl (hb hby d2_98) rfl ?_
    show Steps p.tables e below (s₁.setTop (mkF m 99 #[.val (.long q1), .second] [(.int (lcmpW q1 (9 : Int64)))])) _
    refine XS.ifYes X0.here hx rfl (pc0 := 99) (pc' := 106) rfl (hb hby d2_99) rfl ((if0 _ _).trans (feq ((fun q => c9 ((lw_eq _ _).mp q)) : ¬ ((lcmpW q1 (9 : Int64)) = (0 : Int32)))).2) (by decide) (by decide) ?_
    refine sL X0 hx hby d2_106 rfl ?_
    refine X0.ldc2Long hx hown (mvT hZ (wk20 hw)) (g := (mkF m 107 #[.val (.long q1), .second] [(.long q1)])) rfl (hb hby d2_107) _ ?_
    refine XS.lcmp X0.here hx rfl (hb hby d2_110) rfl ?_
    refine XS.ifYes X0.here hx rfl (pc0 := 111) (pc' := 118) rfl (hb hby d2_111) rfl ((if0 _ _).trans (feq ((fun q => c10 ((lw_eq _ _).mp q)) : ¬ ((lcmpW q1 (10 : Int64)) = (0 : Int32)))).2) (by decide) (by decide) ?_
    show Steps p.tables e below (s₁.setTop (mkF m 118 #[.val (.long q1), .second] [])) _
    refine sL X0 hx hby d2_118 rfl ?_
    refine X0.ldc2Long hx hown (mvT hZ (wk21 hw)) (g := (mkF m 119 #[.val (.long q1), .second] [(.long q1)])) rfl (hb hby d2_119) _ ?_
    refine XS.lcmp X0.here hx rfl (hb hby d2_122) rfl ?_
    refine XS.ifYes X0.here hx rfl (pc0 := 123) (pc' := 130) rfl (hb hby d2_123) rfl ((if0 _ _).trans (feq ((fun q => c11 ((lw_eq _ _).mp q)) : ¬ ((lcmpW q1 (11 : Int64)) = (0 : Int32)))).2) (by decide) (by decide) ?_
    refine sL X0 hx hby d2_130 rfl ?_
    show Steps p.tables e below (s₁.setTop (mkF m 131 #[.val (.long q1), .second] [(.long q1)])) _
    refine X0.ldc2Long hx hown (mvT hZ (wk22 hw)) (g := (mkF m 131 #[.val (.long q1), .second] [(.long q1)])) rfl (hb hby d2_131) _ ?_
    refine XS.lcmp X0.here hx rfl (hb hby d2_134) rfl ?_
    refine XS.ifYes X0.here hx rfl (pc0 := 135) (pc' := 142) rfl (hb hby d2_135) rfl ((if0 _ _).trans (feq ((fun q => c12 ((lw_eq _ _).mp q)) : ¬ ((lcmpW q1 (12 : Int64)) = (0 : Int32)))).2) (by decide) (by decide) ?_
    refine sL X0 hx hby d2_142 rfl ?_
    refine X0.ldc2Long hx hown (mvT hZ (wk23 hw)) (g := (mkF m 143 #[.val (.long q1), .second] [(.long q1)])) rfl (hb hby d2_143) _ ?_
    show Steps p.tables e below (s₁.setTop (mkF m 146 #[.val (.long q1), .second] [(.long (13 : Int64)), (.long q1)])) _
    refine XS.lcmp X0.here hx rfl (hb hby d2_146) rfl ?_
    refine XS.ifYes X0.here hx rfl (pc0 := 147) (pc' := 154) rfl (hb hby d2_147) rfl ((if0 _ _).trans (feq ((fun q => c13 ((lw_eq _ _).mp q)) : ¬ ((lcmpW q1 (13 : Int64)) = (0 : Int32)))).2) (by decide) (by decide) ?_
    refine sL X0 hx hby d2_154 rfl ?_
    refine X0.ldc2Long hx hown (mvT hZ (wk24 hw)) (g := (mkF m 155 #[.val (.long q1), .second] [(.long q1)])) rfl (hb hby d2_155) _ ?_
    refine XS.lcmp X0.here hx rfl (hb hby d2_158) rfl ?_
    show Steps p.tables e below (s₁.setTop (mkF m 159 #[.val (.long q1), .second] [(.int (lcmpW q1 (14 : Int64)))])) _
    refine XS.ifYes X0.here hx rfl (pc0 := 159) (pc' := 166) rfl (hb hby d2_159) rfl ((if0 _ _).trans (feq ((fun q => c14 ((lw_eq _ _).mp q)) : ¬ ((lcmpW q1 (14 : Int64)) = (0 : Int32)))).2) (by decide) (by decide) ?_
    refine sL X0 hx hby d2_166 rfl ?_
    refine X0.ldc2Long hx hown (mvT hZ (wk25 hw)) (g := (mkF m 167 #[.val (.long q1), .second] [(.long q1)])) rfl (hb hby d2_167) _ ?_
    refine XS.lcmp X0.here hx rfl (hb hby d2_170) rfl ?_
    refine XS.ifYes X0.here hx rfl (pc0 := 171) (pc' := 178) rfl (hb hby d2_171) rfl ((if0 _ _).trans (feq ((fun q => c15 ((lw_eq _ _).mp q)) : ¬ ((lcmpW q1 (15 : Int64)) = (0 : Int32)))).2) (by decide) (by decide) ?_
    show Steps p.tables e below (s₁.setTop (mkF m 178 #[.val (.long q1), .second] [])) _
    refine sL X0 hx hby d2_178 rfl ?_
    refine X0.ldc2Long hx hown (mvT hZ (wk26 hw)) (g := (mkF m 179 #[.val (.long q1), .second] [(.long q1)])) rfl (hb hby d2_179) _ ?_
    refine XS.lcmp X0.here hx rfl (hb hby d2_182) rfl ?_
    refine XS.ifYes X0.here hx rfl (pc0 := 183) (pc' := 190) rfl (hb hby d2_183) rfl ((if0 _ _).trans (feq ((fun q => c16 ((lw_eq _ _).mp q)) : ¬ ((lcmpW q1 (16 : Int64)) = (0 : Int32)))).2) (by decide) (by decide) ?_
    refine sL X0 hx hby d2_190 rfl ?_
    show Steps p.tables e below (s₁.setTop (mkF m 191 #[.val (.long q1), .second] [(.long q1)])) _
    refine X0.ldc2Long hx hown (mvT hZ (wk27 hw)) (g := (mkF m 191 #[.val (.long q1), .second] [(.long q1)])) rfl (hb hby d2_191) _ ?_
    refine XS.lcmp X0.here hx rfl (hb hby d2_194) rfl ?_
    refine XS.ifYes X0.here hx rfl (pc0 := 195) (pc' := 202) rfl (hb hby d2_195) rfl ((if0 _ _).trans (feq ((fun q => c17 ((lw_eq _ _).mp q)) : ¬ ((lcmpW q1 (17 : Int64)) = (0 : Int32)))).2) (by decide) (by decide) ?_
    refine sL X0 hx hby d2_202 rfl ?_
    refine X0.ldc2Long hx hown (mvT hZ (wk28 hw)) (g := (mkF m 203 #[.val (.long q1), .second] [(.long q1)])) rfl (hb hby d2_203) _ ?_
    show Steps p.tables e below (s₁.setTop (mkF m 206 #[.val (.long q1), .second] [(.long (18 : Int64)), (.long q1)])) _
    refine XS.lcmp X0.here hx rfl (hb hby d2_206) rfl ?_
    refine XS.ifYes X0.here hx rfl (pc0 := 207) (pc' := 214) rfl (hb hby d2_207) rfl ((if0 _ _).trans (feq ((fun q => c18 ((lw_eq _ _).mp q)) : ¬ ((lcmpW q1 (18 : Int64)) = (0 : Int32)))).2) (by decide) (by decide) ?_
    refine sL X0 hx hby d2_214 rfl ?_
    refine X0.ldc2Long hx hown (mvT hZ (wk29 hw)) (g := (mkF m 215 #[.val (.long q1), .second] [(.long q1)])) rfl (hb hby d2_215) _ ?_
    refine XS.lcmp X0.here hx rfl (hb hby d2_218) rfl ?_
    show Steps p.tables e below (s₁.setTop (mkF m 219 #[.val (.long q1), .second] [(.int (lcmpW q1 (32 : Int64)))])) _
    refine XS.ifYes X0.here hx rfl (pc0 := 219) (pc' := 226) rfl (hb hby d2_219) rfl ((if0 _ _).trans (feq ((fun q => c19 ((lw_eq _ _).mp q)) : ¬ ((lcmpW q1 (32 : Int64)) = (0 : Int32)))).2) (by decide) (by decide) ?_
    refine XS.aconstNull X0.here hx rfl (hb hby d2_226) ?_
    jvm_step X0.here [X0.here.top, hx, (hb hby d2_227), X0.method', Bd.returns, Value.isRef, FieldType.isReference]
    first | (intro acts; rw [hr _ acts rfl rfl rfl]) | rw [hr _ _ rfl rfl rfl]
    exact Steps.refl _
  · show Q2_69 Z w q1 h0 n0 _ s₁.heap _
    rw [e0]
    exact ⟨rfl, N0, rfl⟩
theorem ef_2_70 (m : MethodId) (q1 : Int64) : entryFrame m #[(.long q1)] 2 = mkF m 0 #[.val (.long q1), .second] [] := by first | (simp [entryFrame, mkF, argsToLocals, Value.category]; done) | rfl
def Q2_70 (Z : State) (w : Nat → Addr) (q1 : Int64) (h0 : Heap) (n0 : Nat) (v : Option Value) (h : Heap) (L : List Loc) : Prop := v = some .null ∧ Fr n0 L ∧ h = h0
set_option maxRecDepth 65536 in
set_option maxHeartbeats 40000000 in
theorem rm2_70 (l : Launch) (Z : State) (a0 : Array Value) (hw : ∀ d ∈ tables_1, d.before a0 Z = true) (w : Nat → Addr) (hW : Wd Z w) (ws : List Jvm.Cond) (q1 : Int64) (h0 : Heap) (n0 : Nat) (O0 : Old Z n0 h0) (c1 : ¬ (q1 = (1 : Int64))) (c2 : ¬ (q1 = (2 : Int64))) (c3 : ¬ (q1 = (3 : Int64))) (c4 : ¬ (q1 = (4 : Int64))) (c5 : ¬ (q1 = (5 : Int64))) (c6 : ¬ (q1 = (6 : Int64))) (c7 : ¬ (q1 = (7 : Int64))) (c8 : ¬ (q1 = (8 : Int64))) (c9 : ¬ (q1 = (9 : Int64))) (c10 : ¬ (q1 = (10 : Int64))) (c11 : ¬ (q1 = (11 : Int64))) (c12 : ¬ (q1 = (12 : Int64))) (c13 : ¬ (q1 = (13 : Int64))) (c14 : ¬ (q1 = (14 : Int64))) (c15 : ¬ (q1 = (15 : Int64))) (c16 : ¬ (q1 = (16 : Int64))) (c17 : ¬ (q1 = (17 : Int64))) (c18 : ¬ (q1 = (18 : Int64))) (c19 : ¬ (q1 = (32 : Int64))) :
    MetFree l ym1 (head1 (Jvm.Cond.code ym1 method_2_code 2 (some (.object "com/example/ferrule/ferrule/io/TypeCode")) :: ws) ({ frames := 0, cells := 0, slots := 0, locals := 0 } : Room)) (fun a U => a = #[(.long q1)] ∧ Z.Warmed39 U.vm ∧ U.heap = h0) (fun _ _ _ _ _ => True) (fun _ U o U' => ∃ v L, o = .returned v ∧ Q2_70 Z w q1 h0 n0 v U'.heap L ∧ FrameEnd U o U' L ({ frames := 0, cells := 0, slots := 0, locals := 0 } : Room).cells ({ frames := 0, cells := 0, slots := 0, locals := 0 } : Room).slots) := by
  refine MetFree.of_bodySF (plainFor_of_name pnc_1) hisR ?_
  intro p e s m args below meth c s₁ Bd hml0 hP hK
  obtain ⟨rfl, hZ, hh⟩ := hP
  have hx := Bd.exec
  have hby := Bd.bytes
  have hml : c.maxLocals = 2 := hml0
  have hown : s.vm.findClass "com/example/ferrule/ferrule/io/TypeCodeOfPinLaw" = some m.cls := findClass_of_methodNamed Bd.named
  have hnm := (name_of_methodNamed Bd.named Bd.method).1
  have X0 : Stand p l e ({ frames := 0, cells := 0, slots := 0, locals := 0 } : Room) s m #[(.long q1)] below meth c s₁ [] 0 0 := Stand.of_body Bd
  have e0 : s₁.heap = h0 := by rw [← hh, Bd.state]; rfl
  have N0 := Fr.nil n0
  skip
  have pre0 : ∀ t, Steps p.tables e below (s₁.setTop (mkF m 0 #[.val (.long q1), .second] [])) t → Steps p.tables e below (s₁.setTop (entryFrame m #[(.long q1)] 2)) t := fun t k => castTop (ef_2_70 m q1) k
  obtain ⟨fs, hr, hrun, hended, hWm, hsame⟩ := X0.leave (v := some .null) (fun h => by rw [Bd.returns] at h; cases h)
  refine ⟨_, _, pre0 _ ?_, hrun, hended, _, _, rfl, ?_, ⟨_, rfl⟩, hWm, hsame.mono (by decide) (by decide)⟩
  · show Steps p.tables e below (s₁.setTop (mkF m 0 #[.val (.long q1), .second] [])) _
    refine sL X0 hx hby d2_0 rfl ?_
    refine XS.lconst X0.here hx rfl (hb hby d2_1) ?_
    refine XS.lcmp X0.here hx rfl (hb hby d2_2) rfl ?_
    refine XS.ifYes X0.here hx rfl (pc0 := 3) (pc' := 10) rfl (hb hby d2_3) rfl ((if0 _ _).trans (feq ((fun q => c1 ((lw_eq _ _).mp q)) : ¬ ((lcmpW q1 (1 : Int64)) = (0 : Int32)))).2) (by decide) (by decide) ?_
    refine sL X0 hx hby d2_10 rfl ?_
    show Steps p.tables e below (s₁.setTop (mkF m 11 #[.val (.long q1), .second] [(.long q1)])) _
    refine X0.ldc2Long hx hown (mvT hZ (wk11 hw)) (g := (mkF m 11 #[.val (.long q1), .second] [(.long q1)])) rfl (hb hby d2_11) _ ?_
    refine XS.lcmp X0.here hx rfl (hb hby d2_14) rfl ?_
    refine XS.ifYes X0.here hx rfl (pc0 := 15) (pc' := 22) rfl (hb hby d2_15) rfl ((if0 _ _).trans (feq ((fun q => c2 ((lw_eq _ _).mp q)) : ¬ ((lcmpW q1 (2 : Int64)) = (0 : Int32)))).2) (by decide) (by decide) ?_
    refine sL X0 hx hby d2_22 rfl ?_
    refine X0.ldc2Long hx hown (mvT hZ (wk12 hw)) (g := (mkF m 23 #[.val (.long q1), .second] [(.long q1)])) rfl (hb hby d2_23) _ ?_
    show Steps p.tables e below (s₁.setTop (mkF m 26 #[.val (.long q1), .second] [(.long (3 : Int64)), (.long q1)])) _
    refine XS.lcmp X0.here hx rfl (hb hby d2_26) rfl ?_
    refine XS.ifYes X0.here hx rfl (pc0 := 27) (pc' := 34) rfl (hb hby d2_27) rfl ((if0 _ _).trans (feq ((fun q => c3 ((lw_eq _ _).mp q)) : ¬ ((lcmpW q1 (3 : Int64)) = (0 : Int32)))).2) (by decide) (by decide) ?_
    refine sL X0 hx hby d2_34 rfl ?_
    refine X0.ldc2Long hx hown (mvT hZ (wk14 hw)) (g := (mkF m 35 #[.val (.long q1), .second] [(.long q1)])) rfl (hb hby d2_35) _ ?_
    refine XS.lcmp X0.here hx rfl (hb hby d2_38) rfl ?_
    show Steps p.tables e below (s₁.setTop (mkF m 39 #[.val (.long q1), .second] [(.int (lcmpW q1 (4 : Int64)))])) _
    refine XS.ifYes X0.here hx rfl (pc0 := 39) (pc' := 46) rfl (hb hby d2_39) rfl ((if0 _ _).trans (feq ((fun q => c4 ((lw_eq _ _).mp q)) : ¬ ((lcmpW q1 (4 : Int64)) = (0 : Int32)))).2) (by decide) (by decide) ?_
    refine sL X0 hx hby d2_46 rfl ?_
    refine X0.ldc2Long hx hown (mvT hZ (wk15 hw)) (g := (mkF m 47 #[.val (.long q1), .second] [(.long q1)])) rfl (hb hby d2_47) _ ?_
    refine XS.lcmp X0.here hx rfl (hb hby d2_50) rfl ?_
    refine XS.ifYes X0.here hx rfl (pc0 := 51) (pc' := 58) rfl (hb hby d2_51) rfl ((if0 _ _).trans (feq ((fun q => c5 ((lw_eq _ _).mp q)) : ¬ ((lcmpW q1 (5 : Int64)) = (0 : Int32)))).2) (by decide) (by decide) ?_
    show Steps p.tables e below (s₁.setTop (mkF m 58 #[.val (.long q1), .second] [])) _
    refine sL X0 hx hby d2_58 rfl ?_
    refine X0.ldc2Long hx hown (mvT hZ (wk16 hw)) (g := (mkF m 59 #[.val (.long q1), .second] [(.long q1)])) rfl (hb hby d2_59) _ ?_
    refine XS.lcmp X0.here hx rfl (hb hby d2_62) rfl ?_
    refine XS.ifYes X0.here hx rfl (pc0 := 63) (pc' := 70) rfl (hb hby d2_63) rfl ((if0 _ _).trans (feq ((fun q => c6 ((lw_eq _ _).mp q)) : ¬ ((lcmpW q1 (6 : Int64)) = (0 : Int32)))).2) (by decide) (by decide) ?_
    refine sL X0 hx hby d2_70 rfl ?_
    show Steps p.tables e below (s₁.setTop (mkF m 71 #[.val (.long q1), .second] [(.long q1)])) _
    refine X0.ldc2Long hx hown (mvT hZ (wk17 hw)) (g := (mkF m 71 #[.val (.long q1), .second] [(.long q1)])) rfl (hb hby d2_71) _ ?_
    refine XS.lcmp X0.here hx rfl (hb hby d2_74) rfl ?_
    refine XS.ifYes X0.here hx rfl (pc0 := 75) (pc' := 82) rfl (hb hby d2_75) rfl ((if0 _ _).trans (feq ((fun q => c7 ((lw_eq _ _).mp q)) : ¬ ((lcmpW q1 (7 : Int64)) = (0 : Int32)))).2) (by decide) (by decide) ?_
    refine sL X0 hx hby d2_82 rfl ?_
    refine X0.ldc2Long hx hown (mvT hZ (wk18 hw)) (g := (mkF m 83 #[.val (.long q1), .second] [(.long q1)])) rfl (hb hby d2_83) _ ?_
    show Steps p.tables e below (s₁.setTop (mkF m 86 #[.val (.long q1), .second] [(.long (8 : Int64)), (.long q1)])) _
    refine XS.lcmp X0.here hx rfl (hb hby d2_86) rfl ?_
    refine XS.ifYes X0.here hx rfl (pc0 := 87) (pc' := 94) rfl (hb hby d2_87) rfl ((if0 _ _).trans (feq ((fun q => c8 ((lw_eq _ _).mp q)) : ¬ ((lcmpW q1 (8 : Int64)) = (0 : Int32)))).2) (by decide) (by decide) ?_
    refine sL X0 hx hby d2_94 rfl ?_
    refine X0.ldc2Long hx hown (mvT hZ (wk19 hw)) (g := (mkF m 95 #[.val (.long q1), .second] [(.long q1)])) rfl (hb hby d2_95) _ ?_
    refine XS.lcmp X0.here hx rfl (hb hby d2_98) rfl ?_
    show Steps p.tables e below (s₁.setTop (mkF m 99 #[.val (.long q1), .second] [(.int (lcmpW q1 (9 : Int64)))])) _
    refine XS.ifYes X0.here hx rfl (pc0 := 99) (pc' := 106) rfl (hb hby d2_99) rfl ((if0 _ _).trans (feq ((fun q => c9 ((lw_eq _ _).mp q)) : ¬ ((lcmpW q1 (9 : Int64)) = (0 : Int32)))).2) (by decide) (by decide) ?_
    refine sL X0 hx hby d2_106 rfl ?_
    refine X0.ldc2Long hx hown (mvT hZ (wk20 hw)) (g := (mkF m 107 #[.val (.long q1), .second] [(.long q1)])) rfl (hb hby d2_107) _ ?_
    refine XS.lcmp X0.here hx rfl (hb hby d2_110) rfl ?_
    refine XS.ifYes X0.here hx rfl (pc0 := 111) (pc' := 118) rfl (hb hby d2_111) rfl ((if0 _ _).trans (feq ((fun q => c10 ((lw_eq _ _).mp q)) : ¬ ((lcmpW q1 (10 : Int64)) = (0 : Int32)))).2) (by decide) (by decide) ?_
    show Steps p.tables e below (s₁.setTop (mkF m 118 #[.val (.long q1), .second] [])) _
    refine sL X0 hx hby d2_118 rfl ?_
    refine X0.ldc2Long hx hown (mvT hZ (wk21 hw)) (g := (mkF m 119 #[.val (.long q1), .second] [(.long q1)])) rfl (hb hby d2_119) _ ?_
    refine XS.lcmp X0.here hx rfl (hb hby d2_122) rfl ?_
    refine XS.ifYes X0.here hx rfl (pc0 := 123) (pc' := 130) rfl (hb hby d2_123) rfl ((if0 _ _).trans (feq ((fun q => c11 ((lw_eq _ _).mp q)) : ¬ ((lcmpW q1 (11 : Int64)) = (0 : Int32)))).2) (by decide) (by decide) ?_
    refine sL X0 hx hby d2_130 rfl ?_
    show Steps p.tables e below (s₁.setTop (mkF m 131 #[.val (.long q1), .second] [(.long q1)])) _
    refine X0.ldc2Long hx hown (mvT hZ (wk22 hw)) (g := (mkF m 131 #[.val (.long q1), .second] [(.long q1)])) rfl (hb hby d2_131) _ ?_
    refine XS.lcmp X0.here hx rfl (hb hby d2_134) rfl ?_
    refine XS.ifYes X0.here hx rfl (pc0 := 135) (pc' := 142) rfl (hb hby d2_135) rfl ((if0 _ _).trans (feq ((fun q => c12 ((lw_eq _ _).mp q)) : ¬ ((lcmpW q1 (12 : Int64)) = (0 : Int32)))).2) (by decide) (by decide) ?_
    refine sL X0 hx hby d2_142 rfl ?_
    refine X0.ldc2Long hx hown (mvT hZ (wk23 hw)) (g := (mkF m 143 #[.val (.long q1), .second] [(.long q1)])) rfl (hb hby d2_143) _ ?_
    show Steps p.tables e below (s₁.setTop (mkF m 146 #[.val (.long q1), .second] [(.long (13 : Int64)), (.long q1)])) _
    refine XS.lcmp X0.here hx rfl (hb hby d2_146) rfl ?_
    refine XS.ifYes X0.here hx rfl (pc0 := 147) (pc' := 154) rfl (hb hby d2_147) rfl ((if0 _ _).trans (feq ((fun q => c13 ((lw_eq _ _).mp q)) : ¬ ((lcmpW q1 (13 : Int64)) = (0 : Int32)))).2) (by decide) (by decide) ?_
    refine sL X0 hx hby d2_154 rfl ?_
    refine X0.ldc2Long hx hown (mvT hZ (wk24 hw)) (g := (mkF m 155 #[.val (.long q1), .second] [(.long q1)])) rfl (hb hby d2_155) _ ?_
    refine XS.lcmp X0.here hx rfl (hb hby d2_158) rfl ?_
    show Steps p.tables e below (s₁.setTop (mkF m 159 #[.val (.long q1), .second] [(.int (lcmpW q1 (14 : Int64)))])) _
    refine XS.ifYes X0.here hx rfl (pc0 := 159) (pc' := 166) rfl (hb hby d2_159) rfl ((if0 _ _).trans (feq ((fun q => c14 ((lw_eq _ _).mp q)) : ¬ ((lcmpW q1 (14 : Int64)) = (0 : Int32)))).2) (by decide) (by decide) ?_
    refine sL X0 hx hby d2_166 rfl ?_
    refine X0.ldc2Long hx hown (mvT hZ (wk25 hw)) (g := (mkF m 167 #[.val (.long q1), .second] [(.long q1)])) rfl (hb hby d2_167) _ ?_
    refine XS.lcmp X0.here hx rfl (hb hby d2_170) rfl ?_
    refine XS.ifYes X0.here hx rfl (pc0 := 171) (pc' := 178) rfl (hb hby d2_171) rfl ((if0 _ _).trans (feq ((fun q => c15 ((lw_eq _ _).mp q)) : ¬ ((lcmpW q1 (15 : Int64)) = (0 : Int32)))).2) (by decide) (by decide) ?_
    show Steps p.tables e below (s₁.setTop (mkF m 178 #[.val (.long q1), .second] [])) _
    refine sL X0 hx hby d2_178 rfl ?_
    refine X0.ldc2Long hx hown (mvT hZ (wk26 hw)) (g := (mkF m 179 #[.val (.long q1), .second] [(.long q1)])) rfl (hb hby d2_179) _ ?_
    refine XS.lcmp X0.here hx rfl (hb hby d2_182) rfl ?_
    refine XS.ifYes X0.here hx rfl (pc0 := 183) (pc' := 190) rfl (hb hby d2_183) rfl ((if0 _ _).trans (feq ((fun q => c16 ((lw_eq _ _).mp q)) : ¬ ((lcmpW q1 (16 : Int64)) = (0 : Int32)))).2) (by decide) (by decide) ?_
    refine sL X0 hx hby d2_190 rfl ?_
    show Steps p.tables e below (s₁.setTop (mkF m 191 #[.val (.long q1), .second] [(.long q1)])) _
    refine X0.ldc2Long hx hown (mvT hZ (wk27 hw)) (g := (mkF m 191 #[.val (.long q1), .second] [(.long q1)])) rfl (hb hby d2_191) _ ?_
    refine XS.lcmp X0.here hx rfl (hb hby d2_194) rfl ?_
    refine XS.ifYes X0.here hx rfl (pc0 := 195) (pc' := 202) rfl (hb hby d2_195) rfl ((if0 _ _).trans (feq ((fun q => c17 ((lw_eq _ _).mp q)) : ¬ ((lcmpW q1 (17 : Int64)) = (0 : Int32)))).2) (by decide) (by decide) ?_
    refine sL X0 hx hby d2_202 rfl ?_
    refine X0.ldc2Long hx hown (mvT hZ (wk28 hw)) (g := (mkF m 203 #[.val (.long q1), .second] [(.long q1)])) rfl (hb hby d2_203) _ ?_
    show Steps p.tables e below (s₁.setTop (mkF m 206 #[.val (.long q1), .second] [(.long (18 : Int64)), (.long q1)])) _
    refine XS.lcmp X0.here hx rfl (hb hby d2_206) rfl ?_
    refine XS.ifYes X0.here hx rfl (pc0 := 207) (pc' := 214) rfl (hb hby d2_207) rfl ((if0 _ _).trans (feq ((fun q => c18 ((lw_eq _ _).mp q)) : ¬ ((lcmpW q1 (18 : Int64)) = (0 : Int32)))).2) (by decide) (by decide) ?_
    refine sL X0 hx hby d2_214 rfl ?_
    refine X0.ldc2Long hx hown (mvT hZ (wk29 hw)) (g := (mkF m 215 #[.val (.long q1), .second] [(.long q1)])) rfl (hb hby d2_215) _ ?_
    refine XS.lcmp X0.here hx rfl (hb hby d2_218) rfl ?_
    show Steps p.tables e below (s₁.setTop (mkF m 219 #[.val (.long q1), .second] [(.int (lcmpW q1 (32 : Int64)))])) _
    refine XS.ifYes X0.here hx rfl (pc0 := 219) (pc' := 226) rfl (hb hby d2_219) rfl ((if0 _ _).trans (feq ((fun q => c19 ((lw_eq _ _).mp q)) : ¬ ((lcmpW q1 (32 : Int64)) = (0 : Int32)))).2) (by decide) (by decide) ?_
    refine XS.aconstNull X0.here hx rfl (hb hby d2_226) ?_
    jvm_step X0.here [X0.here.top, hx, (hb hby d2_227), X0.method', Bd.returns, Value.isRef, FieldType.isReference]
    first | (intro acts; rw [hr _ acts rfl rfl rfl]) | rw [hr _ _ rfl rfl rfl]
    exact Steps.refl _
  · show Q2_70 Z w q1 h0 n0 _ s₁.heap _
    rw [e0]
    exact ⟨rfl, N0, rfl⟩
def Qx2 (Z : State) (w : Nat → Addr) (q1 : Int64) (h0 : Heap) (n0 : Nat) (v : Option Value) (h : Heap) (L : List Loc) : Prop := v = some (ownE w q1) ∧ Fr n0 L ∧ h = h0
set_option maxRecDepth 65536 in
set_option maxHeartbeats 40000000 in
theorem rmx2 (l : Launch) (Z : State) (a0 : Array Value) (hw : ∀ d ∈ tables_1, d.before a0 Z = true) (w : Nat → Addr) (hW : Wd Z w) (ws : List Jvm.Cond) (q1 : Int64) (h0 : Heap) (n0 : Nat) (O0 : Old Z n0 h0) :
    MetFree l ym1 (head1 (Jvm.Cond.code ym1 method_2_code 2 (some (.object "com/example/ferrule/ferrule/io/TypeCode")) :: ws) ({ frames := 0, cells := 0, slots := 0, locals := 0 } : Room)) (fun a U => a = #[(.long q1)] ∧ Z.Warmed39 U.vm ∧ U.heap = h0) (fun _ _ _ _ _ => True) (fun _ U o U' => ∃ v L, o = .returned v ∧ Qx2 Z w q1 h0 n0 v U'.heap L ∧ FrameEnd U o U' L ({ frames := 0, cells := 0, slots := 0, locals := 0 } : Room).cells ({ frames := 0, cells := 0, slots := 0, locals := 0 } : Room).slots) := by
  rcases own_cases q1 with rfl | rfl | rfl | rfl | rfl | rfl | rfl | rfl | rfl | rfl | rfl | rfl | rfl | rfl | rfl | rfl | rfl | rfl | rfl | rfl | rfl | rfl | rfl | rfl | rfl | rfl | rfl | rfl | rfl | rfl | rfl | rfl | rfl | hh | hh
  · exact rm2_36 l Z a0 hw w hW ws h0 n0 O0 
  · exact rm2_37 l Z a0 hw w hW ws h0 n0 O0 
  · exact rm2_38 l Z a0 hw w hW ws h0 n0 O0 
  · exact rm2_39 l Z a0 hw w hW ws h0 n0 O0 
  · exact rm2_40 l Z a0 hw w hW ws h0 n0 O0 
  · exact rm2_41 l Z a0 hw w hW ws h0 n0 O0 
  · exact rm2_42 l Z a0 hw w hW ws h0 n0 O0 
  · exact rm2_43 l Z a0 hw w hW ws h0 n0 O0 
  · exact rm2_44 l Z a0 hw w hW ws h0 n0 O0 
  · exact rm2_45 l Z a0 hw w hW ws h0 n0 O0 
  · exact rm2_46 l Z a0 hw w hW ws h0 n0 O0 
  · exact rm2_47 l Z a0 hw w hW ws h0 n0 O0 
  · exact rm2_48 l Z a0 hw w hW ws h0 n0 O0 
  · exact rm2_49 l Z a0 hw w hW ws h0 n0 O0 
  · exact rm2_50 l Z a0 hw w hW ws h0 n0 O0 
  · exact rm2_51 l Z a0 hw w hW ws h0 n0 O0 
  · exact rm2_52 l Z a0 hw w hW ws h0 n0 O0 
  · exact rm2_53 l Z a0 hw w hW ws h0 n0 O0 
  · exact rm2_54 l Z a0 hw w hW ws h0 n0 O0 
  · exact rm2_55 l Z a0 hw w hW ws h0 n0 O0 
  · exact rm2_56 l Z a0 hw w hW ws h0 n0 O0 
  · exact rm2_57 l Z a0 hw w hW ws h0 n0 O0 
  · exact rm2_58 l Z a0 hw w hW ws h0 n0 O0 
  · exact rm2_59 l Z a0 hw w hW ws h0 n0 O0 
  · exact rm2_60 l Z a0 hw w hW ws h0 n0 O0 
  · exact rm2_61 l Z a0 hw w hW ws h0 n0 O0 
  · exact rm2_62 l Z a0 hw w hW ws h0 n0 O0 
  · exact rm2_63 l Z a0 hw w hW ws h0 n0 O0 
  · exact rm2_64 l Z a0 hw w hW ws h0 n0 O0 
  · exact rm2_65 l Z a0 hw w hW ws h0 n0 O0 
  · exact rm2_66 l Z a0 hw w hW ws h0 n0 O0 
  · exact rm2_67 l Z a0 hw w hW ws h0 n0 O0 
  · exact rm2_68 l Z a0 hw w hW ws h0 n0 O0 
  · unfold Qx2
    rw [ownE_lo w hh]
    exact rm2_69 l Z a0 hw w hW ws q1 h0 n0 O0 (fun e => by subst e; exact absurd hh (by decide)) (fun e => by subst e; exact absurd hh (by decide)) (fun e => by subst e; exact absurd hh (by decide)) (fun e => by subst e; exact absurd hh (by decide)) (fun e => by subst e; exact absurd hh (by decide)) (fun e => by subst e; exact absurd hh (by decide)) (fun e => by subst e; exact absurd hh (by decide)) (fun e => by subst e; exact absurd hh (by decide)) (fun e => by subst e; exact absurd hh (by decide)) (fun e => by subst e; exact absurd hh (by decide)) (fun e => by subst e; exact absurd hh (by decide)) (fun e => by subst e; exact absurd hh (by decide)) (fun e => by subst e; exact absurd hh (by decide)) (fun e => by subst e; exact absurd hh (by decide)) (fun e => by subst e; exact absurd hh (by decide)) (fun e => by subst e; exact absurd hh (by decide)) (fun e => by subst e; exact absurd hh (by decide)) (fun e => by subst e; exact absurd hh (by decide)) (fun e => by subst e; exact absurd hh (by decide))
  · unfold Qx2
    rw [ownE_hi w hh]
    exact rm2_70 l Z a0 hw w hW ws q1 h0 n0 O0 (fun e => by subst e; exact absurd hh (by decide)) (fun e => by subst e; exact absurd hh (by decide)) (fun e => by subst e; exact absurd hh (by decide)) (fun e => by subst e; exact absurd hh (by decide)) (fun e => by subst e; exact absurd hh (by decide)) (fun e => by subst e; exact absurd hh (by decide)) (fun e => by subst e; exact absurd hh (by decide)) (fun e => by subst e; exact absurd hh (by decide)) (fun e => by subst e; exact absurd hh (by decide)) (fun e => by subst e; exact absurd hh (by decide)) (fun e => by subst e; exact absurd hh (by decide)) (fun e => by subst e; exact absurd hh (by decide)) (fun e => by subst e; exact absurd hh (by decide)) (fun e => by subst e; exact absurd hh (by decide)) (fun e => by subst e; exact absurd hh (by decide)) (fun e => by subst e; exact absurd hh (by decide)) (fun e => by subst e; exact absurd hh (by decide)) (fun e => by subst e; exact absurd hh (by decide)) (fun e => by subst e; exact absurd hh (by decide))
theorem ef_0_71 (m : MethodId) (p0 : Int64) (p1 : Int32) : entryFrame m #[(.long p0), (.int p1)] maxLocals = mkF m 0 #[.val (.long p0), .second, .val (.int p1), .unset, .unset, .unset, .unset] [] := by first | (simp [entryFrame, mkF, argsToLocals, Value.category, maxLocals]; done) | rfl
def Q0 (n0 : Nat) (v : Option Value) (h : Heap) (L : List Loc) : Prop := v = some (.int (1 : Int32)) ∧ Fr n0 L
set_option maxRecDepth 65536 in
set_option maxHeartbeats 400000000 in
theorem rm0 (l : Launch) (Z : State) (a0 : Array Value) (hw : ∀ d ∈ tables_1, d.before a0 Z = true) (w : Nat → Addr) (hW : Wd Z w) (ws : List Jvm.Cond) (p0 : Int64) (p1 : Int32) (h0 : Heap) (n0 : Nat) (O0 : Old Z n0 h0) :
    MetFree l x (head1 (Jvm.Cond.code x code maxLocals ret :: ws) room_1) (fun a U => a = #[(.long p0), (.int p1)] ∧ Z.Warmed39 U.vm ∧ U.heap = h0) (fun _ _ _ _ _ => True) (fun _ U o U' => ∃ v L, o = .returned v ∧ Q0 n0 v U'.heap L ∧ FrameEnd U o U' L room_1.cells room_1.slots) := by
  refine MetFree.of_bodySF (plainFor_of_name pnc_1) hisR ?_
  intro p e s m args below meth c s₁ Bd hml0 hP hK
  obtain ⟨rfl, hZ, hh⟩ := hP
  have hx := Bd.exec
  have hby := Bd.bytes
  have hml : c.maxLocals = 7 := hml0
  have hown : s.vm.findClass "com/example/ferrule/ferrule/io/TypeCodeOfPinLaw" = some m.cls := findClass_of_methodNamed Bd.named
  have hnm := (name_of_methodNamed Bd.named Bd.method).1
  have X0 : Stand p l e room_1 s m #[(.long p0), (.int p1)] below meth c s₁ [] 0 0 := Stand.of_body Bd
  have e0 : s₁.heap = h0 := by rw [← hh, Bd.state]; rfl
  have N0 := Fr.nil n0
  let La : Array Slot := #[.val (.long p0), .second, .val (.int p1), .unset, .unset, .unset, .unset]
  have pre0 : ∀ t, Steps p.tables e below (s₁.setTop (mkF m 0 #[.val (.long p0), .second, .val (.int p1), .unset, .unset, .unset, .unset] [])) t → Steps p.tables e below (s₁.setTop (entryFrame m #[(.long p0), (.int p1)] maxLocals)) t := fun t k => castTop (ef_0_71 m p0 p1) k
  let Lb1 : Array Slot := #[.val (.long p0), .second, .val (.int p1), .val (.long (((p1 &&& (63 : Int32)) - (16 : Int32)).toInt64)), .second, .unset, .unset]
  obtain ⟨_, _, ⟨T2, L2, kk2, nn2⟩, -, X2, ⟨Lc2, hQ2, l2, y2, z2⟩, st2⟩ := Jvm.LawKit.callS X0 hx (y := ym0) hown (mvT hZ (wk0 hw)) (mvT hZ (wk1 hw)) (mvT hZ (wk2 hw)) (mvT hZ (wk3 hw)) (by decide) (backOf (W := 0) (rmx1 l Z a0 hw w hW [] p0 h0 n0 O0 ) hZ (wk3 hw) (wk2 hw) (by decide) (by decide)) (g := (mkF m 10 Lb1 [(.long p0)])) rfl (by rw [hml]; rfl) (argsL := [(.long p0)]) (rest := []) (lenOf pds_0 rfl) rfl (by show 2 * 0 + _ ≤ _; exact Nat.le_of_eq rfl) (hb hby at_10) (fun _ _ => ⟨rfl, e0, (by decide : 0 + 0 ≤ _), (by decide : 0 + 0 ≤ _)⟩)
  dsimp only [Pt.U, Pt.locs, Pt.cells, Pt.slots] at X2 l2 y2 z2 st2 hQ2
  subst l2 y2 z2
  obtain ⟨rfl, N2q, e2⟩ := hQ2
  have N2 := Fr.app N0 N2q
  let Lb3 : Array Slot := #[.val (.long p0), .second, .val (.int p1), .val (.long (((p1 &&& (63 : Int32)) - (16 : Int32)).toInt64)), .second, .val (ownE w p0), .unset]
  obtain ⟨_, _, ⟨T4, L4, kk4, nn4⟩, -, X4, ⟨Lc4, hQ4, l4, y4, z4⟩, st4⟩ := Jvm.LawKit.callS X2 hx (y := ym0) hown (mvT hZ (wk0 hw)) (mvT hZ (wk1 hw)) (mvT hZ (wk2 hw)) (mvT hZ (wk3 hw)) (by decide) (backOf (W := 0) (rmx1 l Z a0 hw w hW [] (((p1 &&& (63 : Int32)) - (16 : Int32)).toInt64) h0 n0 O0 ) hZ (wk3 hw) (wk2 hw) (by decide) (by decide)) (g := (mkF m 16 Lb3 [(.long (((p1 &&& (63 : Int32)) - (16 : Int32)).toInt64))])) rfl (by rw [hml]; rfl) (argsL := [(.long (((p1 &&& (63 : Int32)) - (16 : Int32)).toInt64))]) (rest := []) (lenOf pds_0 rfl) rfl (by show 2 * 0 + _ ≤ _; exact Nat.le_of_eq rfl) (hb hby at_16) (fun _ _ => ⟨rfl, e2, (by decide : 0 + 0 ≤ _), (by decide : 0 + 0 ≤ _)⟩)
  dsimp only [Pt.U, Pt.locs, Pt.cells, Pt.slots] at X4 l4 y4 z4 st4 hQ4
  subst l4 y4 z4
  obtain ⟨rfl, N4q, e4⟩ := hQ4
  have N4 := Fr.app N2 N4q
  let Lb5 : Array Slot := #[.val (.long p0), .second, .val (.int p1), .val (.long (((p1 &&& (63 : Int32)) - (16 : Int32)).toInt64)), .second, .val (ownE w p0), .val (ownE w (((p1 &&& (63 : Int32)) - (16 : Int32)).toInt64))]
  obtain ⟨_, _, ⟨T6, L6, kk6, nn6⟩, -, X6, ⟨Lc6, hQ6, l6, y6, z6⟩, st6⟩ := Jvm.LawKit.callS X4 hx (y := ym1) hown (mvT hZ (wk7 hw)) (mvT hZ (wk8 hw)) (mvT hZ (wk9 hw)) (mvT hZ (wk10 hw)) (by decide) (backOf (W := 1) (rmx2 l Z a0 hw w hW [] p0 h0 n0 O0 ) hZ (wk10 hw) (wk9 hw) (by decide) (by decide)) (g := (mkF m 24 Lb5 [(.long p0), (ownE w p0)])) rfl (by rw [hml]; rfl) (argsL := [(.long p0)]) (rest := [(ownE w p0)]) (lenOf pds_0 rfl) rfl (by show 2 * 0 + (([(ownE w p0)] : List Value).map fun v => v.category).sum ≤ _; simp [ownE_cat]) (hb hby at_24) (fun _ _ => ⟨rfl, e4, (by decide : 0 + 0 ≤ _), (by decide : 0 + 0 ≤ _)⟩)
  dsimp only [Pt.U, Pt.locs, Pt.cells, Pt.slots] at X6 l6 y6 z6 st6 hQ6
  subst l6 y6 z6
  obtain ⟨rfl, N6q, e6⟩ := hQ6
  have N6 := Fr.app N4 N6q
  obtain ⟨_, _, ⟨T7, L7, kk7, nn7⟩, -, X7, ⟨Lc7, hQ7, l7, y7, z7⟩, st7⟩ := Jvm.LawKit.callS X6 hx (y := ym1) hown (mvT hZ (wk7 hw)) (mvT hZ (wk8 hw)) (mvT hZ (wk9 hw)) (mvT hZ (wk10 hw)) (by decide) (backOf (W := 1) (rmx2 l Z a0 hw w hW [] (((p1 &&& (63 : Int32)) - (16 : Int32)).toInt64) h0 n0 O0 ) hZ (wk10 hw) (wk9 hw) (by decide) (by decide)) (g := (mkF m 33 Lb5 [(.long (((p1 &&& (63 : Int32)) - (16 : Int32)).toInt64)), (ownE w (((p1 &&& (63 : Int32)) - (16 : Int32)).toInt64))])) rfl (by rw [hml]; rfl) (argsL := [(.long (((p1 &&& (63 : Int32)) - (16 : Int32)).toInt64))]) (rest := [(ownE w (((p1 &&& (63 : Int32)) - (16 : Int32)).toInt64))]) (lenOf pds_0 rfl) rfl (by show 2 * 0 + (([(ownE w (((p1 &&& (63 : Int32)) - (16 : Int32)).toInt64))] : List Value).map fun v => v.category).sum ≤ _; simp [ownE_cat]) (hb hby at_33) (fun _ _ => ⟨rfl, e6, (by decide : 0 + 0 ≤ _), (by decide : 0 + 0 ≤ _)⟩)
  dsimp only [Pt.U, Pt.locs, Pt.cells, Pt.slots] at X7 l7 y7 z7 st7 hQ7
  subst l7 y7 z7
  obtain ⟨rfl, N7q, e7⟩ := hQ7
  have N7 := Fr.app N6 N7q
  obtain ⟨fs, hr, hrun, hended, hWm, hsame⟩ := X7.leave (v := some (.int (1 : Int32))) (fun h => by rw [Bd.returns] at h; cases h)
  refine ⟨_, _, pre0 _ ?_, hrun, hended, _, _, rfl, ?_, ⟨_, rfl⟩, hWm, hsame.mono (by decide) (by decide)⟩
  · show Steps p.tables e below (s₁.setTop (mkF m 0 La [])) _
    refine sI X0 hx hby at_0 rfl ?_
    refine XS.bipush X0.here hx rfl (hb hby at_1) ?_
    refine XS.iand X0.here hx rfl (hb hby at_3) rfl ?_
    refine XS.bipush X0.here hx rfl (hb hby at_4) ?_
    refine XS.isub X0.here hx rfl (hb hby at_6) rfl ?_
    show Steps p.tables e below (s₁.setTop (mkF m 7 La [(.int ((p1 &&& (63 : Int32)) - (16 : Int32)))])) _
    refine XS.i2l X0.here hx rfl (hb hby at_7) rfl ?_
    refine XS.lstoreN X0.here hx rfl (hb hby at_8) rfl (l' := Lb1) rfl ?_
    refine sL X0 hx hby at_9 rfl ?_
    refine st2 _ ?_
    refine XS.astore X2.here hx rfl (hb hby at_13) rfl (ownE_ref w p0) (l' := Lb3) (XS.store1 (o := .unset) rfl (Or.inl rfl) (ownE_cat w p0)) ?_
    refine sL X2 hx hby at_15 rfl ?_
    refine st4 _ ?_
    refine XS.astore X4.here hx rfl (hb hby at_19) rfl (ownE_ref w (((p1 &&& (63 : Int32)) - (16 : Int32)).toInt64)) (l' := Lb5) (XS.store1 (o := .unset) rfl (Or.inl rfl) (ownE_cat w (((p1 &&& (63 : Int32)) - (16 : Int32)).toInt64))) ?_
    refine sa X4 hx hby at_21 rfl (ownE_ref w p0) ?_
    refine sL X4 hx hby at_23 rfl ?_
    refine st6 _ ?_
    refine Jvm.RoadKit.acmp (g := (mkF m 27 Lb5 [(ownE w p0), (ownE w p0)])) X6 hx rfl (ownE_ref w p0) (ownE_ref w p0) (pc0 := 27) (pc' := 30) (same := true) rfl (hb hby at_27) rfl (decide_eq_true rfl) (by decide) (by decide) ?_
    refine sa X6 hx hby at_30 rfl (ownE_ref w (((p1 &&& (63 : Int32)) - (16 : Int32)).toInt64)) ?_
    refine sL X6 hx hby at_32 rfl ?_
    refine st7 _ ?_
    refine Jvm.RoadKit.acmp (g := (mkF m 36 Lb5 [(ownE w (((p1 &&& (63 : Int32)) - (16 : Int32)).toInt64)), (ownE w (((p1 &&& (63 : Int32)) - (16 : Int32)).toInt64))])) X7 hx rfl (ownE_ref w (((p1 &&& (63 : Int32)) - (16 : Int32)).toInt64)) (ownE_ref w (((p1 &&& (63 : Int32)) - (16 : Int32)).toInt64)) (pc0 := 36) (pc' := 39) (same := true) rfl (hb hby at_36) rfl (decide_eq_true rfl) (by decide) (by decide) ?_
    refine sc X7 hx hby at_39 ?_
    refine sg (pc := 40) (pc' := 44) X7 hx hby at_40 (by decide) (by decide) ?_
    exact retN X7 hx (t := .boolean) Bd.returns (by simp) (hb hby at_44) hr
  · show Q0 n0 _ T7.heap _
    rw [e7]
    exact ⟨rfl, N7⟩
set_option maxRecDepth 65536 in
set_option maxHeartbeats 400000000 in
theorem comes_1 {Post : Tables → Env → Array Value → State → Outcome → State → Prop} (hpost : ∀ tb e args s v u, (limb_1_1.after args s (.returned v) u = true ∧ limb_1_2.after args s (.returned v) u = true ∧ True) → FrameEnd s (.returned v) u (Jvm.fieldLocs frame_1_writes args s ++ Jvm.arrayLocs frame_1_arrays args s ++ Jvm.staticLocs frame_1_statics s) 0 0 → Post tb e args s (.returned v) u) :
    ArmFor flags0 classFile x code maxLocals ret World_1 tables_1 room_1 Calls_1 rest_1 Pre_1 Post := by
  intro l hfl _ _ p e ha hc hk s m args below hf hA hF happ hP
  obtain ⟨hcalls, hrest, hpre⟩ := hP
  obtain ⟨-, -, -, hnamed, -, -, -, hat⟩ := (Spec.applies_iff hf).mp happ
  obtain ⟨hg, hn⟩ := and_e (Cond.before_iff.mp (show (Jvm.Cond.and given_1 narrow_1).before args s = true from hpre))
  obtain ⟨ga4, gb4⟩ := and_e hg
  obtain ⟨ga5, gb5⟩ := and_e gb4
  obtain ⟨v0, v1, rfl⟩ : ∃ v0 v1 : Value, args = #[v0, v1] := by
    have hs : args.size = 2 := by simpa [Cond.value, given_1] using ga4
    obtain ⟨L⟩ := args
    match L, hs with
    | [v0, v1], _ => exact ⟨v0, v1, rfl⟩
  have hw := fun d (hd : d ∈ tables_1) => atoms_spec (ws := Jvm.Cond.code x code maxLocals ret :: tables_1) hat d (List.mem_cons_of_mem _ hd)
  have hfit : Fit s := fun {y c} hc i hi => by
    obtain ⟨ha, rfl⟩ := Array.getElem?_eq_some_iff.mp hc
    have q := List.all_eq_true.mp ((Array.all_eq_true_iff_forall_mem.mp hF) _ (Array.getElem_mem ha)) i (List.mem_range.mpr hi)
    simpa [Array.getElem?_eq_getElem hi] using q
  obtain ⟨i0, ei0⟩ := isL_v ga5
  obtain rfl : v0 = (.long i0) := Option.some.inj ei0
  obtain ⟨i1, ei1⟩ := is_v gb5
  obtain rfl : v1 = (.int i1) := Option.some.inj ei1
  obtain ⟨na0, nb0⟩ := and_e hn
  obtain ⟨na1, nb1⟩ := and_e nb0
  obtain ⟨na2, nb2⟩ := and_e nb1
  obtain ⟨na3, nb3⟩ := and_e nb2
  obtain ⟨na4, nb4⟩ := and_e nb3
  obtain ⟨na5, nb5⟩ := and_e nb4
  obtain ⟨na6, nb6⟩ := and_e nb5
  obtain ⟨na7, nb7⟩ := and_e nb6
  obtain ⟨na8, nb8⟩ := and_e nb7
  obtain ⟨na9, nb9⟩ := and_e nb8
  obtain ⟨na10, nb10⟩ := and_e nb9
  obtain ⟨na11, nb11⟩ := and_e nb10
  obtain ⟨na12, nb12⟩ := and_e nb11
  obtain ⟨na13, nb13⟩ := and_e nb12
  obtain ⟨na14, nb14⟩ := and_e nb13
  obtain ⟨na15, nb15⟩ := and_e nb14
  obtain ⟨na16, nb16⟩ := and_e nb15
  obtain ⟨na17, nb17⟩ := and_e nb16
  obtain ⟨na18, nb18⟩ := and_e nb17
  obtain ⟨na19, nb19⟩ := and_e nb18
  obtain ⟨na20, nb20⟩ := and_e nb19
  obtain ⟨na21, nb21⟩ := and_e nb20
  obtain ⟨na22, nb22⟩ := and_e nb21
  obtain ⟨na23, nb23⟩ := and_e nb22
  obtain ⟨na24, nb24⟩ := and_e nb23
  obtain ⟨na25, nb25⟩ := and_e nb24
  obtain ⟨na26, nb26⟩ := and_e nb25
  obtain ⟨na27, nb27⟩ := and_e nb26
  obtain ⟨na28, nb28⟩ := and_e nb27
  obtain ⟨na29, nb29⟩ := and_e nb28
  obtain ⟨na30, nb30⟩ := and_e nb29
  obtain ⟨na31, nb31⟩ := and_e nb30
  obtain ⟨na32, nb32⟩ := and_e nb31
  obtain ⟨na33, nb33⟩ := and_e nb32
  obtain ⟨na34, nb34⟩ := and_e nb33
  obtain ⟨na35, nb35⟩ := and_e nb34
  obtain ⟨na36, nb36⟩ := and_e nb35
  obtain ⟨na37, nb37⟩ := and_e nb36
  obtain ⟨na38, nb38⟩ := and_e nb37
  obtain ⟨na39, nb39⟩ := and_e nb38
  obtain ⟨na40, nb40⟩ := and_e nb39
  obtain ⟨na41, nb41⟩ := and_e nb40
  obtain ⟨na42, nb42⟩ := and_e nb41
  obtain ⟨na43, nb43⟩ := and_e nb42
  obtain ⟨na44, nb44⟩ := and_e nb43
  obtain ⟨na45, nb45⟩ := and_e nb44
  obtain ⟨na46, nb46⟩ := and_e nb45
  obtain ⟨na47, nb47⟩ := and_e nb46
  obtain ⟨na48, nb48⟩ := and_e nb47
  obtain ⟨na49, nb49⟩ := and_e nb48
  obtain ⟨na50, nb50⟩ := and_e nb49
  obtain ⟨na51, nb51⟩ := and_e nb50
  obtain ⟨na52, nb52⟩ := and_e nb51
  obtain ⟨x0, ev0⟩ := arr_v na0
  obtain ⟨cl0, A0⟩ := Arr.start ev0 na0
  obtain ⟨x1, ev1⟩ := exa_v na2
  obtain ⟨x2, ev2⟩ := exa_v na4
  obtain ⟨x3, ev3⟩ := exa_v na7
  obtain ⟨x4, ev4⟩ := exa_v na9
  obtain ⟨x5, ev5⟩ := exa_v na11
  obtain ⟨x6, ev6⟩ := exa_v na13
  obtain ⟨x7, ev7⟩ := exa_v na15
  obtain ⟨x8, ev8⟩ := exa_v na19
  obtain ⟨x9, ev9⟩ := exa_v na21
  obtain ⟨x10, ev10⟩ := exa_v na27
  obtain ⟨x11, ev11⟩ := exa_v na29
  obtain ⟨x12, ev12⟩ := exa_v na31
  obtain ⟨x13, ev13⟩ := exa_v na33
  obtain ⟨x14, ev14⟩ := exa_v na35
  obtain ⟨x15, ev15⟩ := exa_v na37
  obtain ⟨x16, ev16⟩ := exa_v na39
  obtain ⟨x17, ev17⟩ := exa_v na42
  obtain ⟨x18, ev18⟩ := exa_v na49
  obtain ⟨x19, ev19⟩ := exa_v na51
  have len0 := own_len ev0 A0 na1
  have el0_0 := own_elem ev0 A0 null_at rfl na6
  have el0_1 := own_elem ev0 A0 ev4 rfl na10
  have el0_2 := own_elem ev0 A0 ev2 rfl na5
  have el0_3 := own_elem ev0 A0 ev1 rfl na3
  have el0_4 := own_elem ev0 A0 ev11 rfl na30
  have el0_5 := own_elem ev0 A0 ev14 rfl na36
  have el0_6 := own_elem ev0 A0 ev15 rfl na38
  have el0_7 := own_elem ev0 A0 ev5 rfl na12
  have el0_8 := own_elem ev0 A0 ev13 rfl na34
  have el0_9 := own_elem ev0 A0 ev18 rfl na50
  have el0_10 := own_elem ev0 A0 ev9 rfl na22
  have el0_11 := own_elem ev0 A0 ev16 rfl na40
  have el0_12 := own_elem ev0 A0 ev10 rfl na28
  have el0_13 := own_elem ev0 A0 ev3 rfl na8
  have el0_14 := own_elem ev0 A0 ev8 rfl na20
  have el0_15 := own_elem ev0 A0 ev6 rfl na14
  have el0_16 := own_elem ev0 A0 ev19 rfl na52
  have el0_17 := own_elem ev0 A0 ev17 rfl na43
  have el0_18 := own_elem ev0 A0 ev7 rfl na16
  have el0_19 := own_elem ev0 A0 null_at rfl na25
  have el0_20 := own_elem ev0 A0 null_at rfl na24
  have el0_21 := own_elem ev0 A0 null_at rfl na26
  have el0_22 := own_elem ev0 A0 null_at rfl na41
  have el0_23 := own_elem ev0 A0 null_at rfl na18
  have el0_24 := own_elem ev0 A0 null_at rfl nb52
  have el0_25 := own_elem ev0 A0 null_at rfl na48
  have el0_26 := own_elem ev0 A0 null_at rfl na47
  have el0_27 := own_elem ev0 A0 null_at rfl na46
  have el0_28 := own_elem ev0 A0 null_at rfl na17
  have el0_29 := own_elem ev0 A0 null_at rfl na44
  have el0_30 := own_elem ev0 A0 null_at rfl na45
  have el0_31 := own_elem ev0 A0 null_at rfl na23
  have el0_32 := own_elem ev0 A0 ev12 rfl na32
  have V0 : Arv s s.heap x0 cl0.cls (.object "com/example/ferrule/ferrule/io/TypeCode") (33 : Int32) [.null, (.ref x4), (.ref x2), (.ref x1), (.ref x11), (.ref x14), (.ref x15), (.ref x5), (.ref x13), (.ref x18), (.ref x9), (.ref x16), (.ref x10), (.ref x3), (.ref x8), (.ref x6), (.ref x19), (.ref x17), (.ref x7), .null, .null, .null, .null, .null, .null, .null, .null, .null, .null, .null, .null, .null, (.ref x12)] .null := Arv.start hfit A0 len0.2 len0.1 (by decide) rfl ⟨el0_0, el0_1, el0_2, el0_3, el0_4, el0_5, el0_6, el0_7, el0_8, el0_9, el0_10, el0_11, el0_12, el0_13, el0_14, el0_15, el0_16, el0_17, el0_18, el0_19, el0_20, el0_21, el0_22, el0_23, el0_24, el0_25, el0_26, el0_27, el0_28, el0_29, el0_30, el0_31, el0_32, trivial⟩
  have hW : Wd s (fun i => ([x0, x1, x2, x3, x4, x5, x6, x7, x8, x9, x10, x11, x12, x13, x14, x15, x16, x17, x18, x19, cl0.cls] : List Addr).getD i 0) := ⟨(Sta.start ev0 (Or.inr ⟨(wk2 hw), (wk5 hw)⟩)), (Sta.start ev1 (Or.inr ⟨(wk2 hw), (wk6 hw)⟩)), (Exa.start ev1 na2), (Sta.start ev2 (Or.inr ⟨(wk2 hw), (wk30 hw)⟩)), (Exa.start ev2 na4), (Sta.start ev3 (Or.inr ⟨(wk2 hw), (wk32 hw)⟩)), (Exa.start ev3 na7), (Sta.start ev4 (Or.inr ⟨(wk2 hw), (wk34 hw)⟩)), (Exa.start ev4 na9), (Sta.start ev5 (Or.inr ⟨(wk2 hw), (wk36 hw)⟩)), (Exa.start ev5 na11), (Sta.start ev6 (Or.inr ⟨(wk2 hw), (wk38 hw)⟩)), (Exa.start ev6 na13), (Sta.start ev7 (Or.inr ⟨(wk2 hw), (wk40 hw)⟩)), (Exa.start ev7 na15), (Sta.start ev8 (Or.inr ⟨(wk2 hw), (wk42 hw)⟩)), (Exa.start ev8 na19), (Sta.start ev9 (Or.inr ⟨(wk2 hw), (wk44 hw)⟩)), (Exa.start ev9 na21), (Sta.start ev10 (Or.inr ⟨(wk2 hw), (wk46 hw)⟩)), (Exa.start ev10 na27), (Sta.start ev11 (Or.inr ⟨(wk2 hw), (wk48 hw)⟩)), (Exa.start ev11 na29), (Sta.start ev12 (Or.inr ⟨(wk2 hw), (wk50 hw)⟩)), (Exa.start ev12 na31), (Sta.start ev13 (Or.inr ⟨(wk2 hw), (wk52 hw)⟩)), (Exa.start ev13 na33), (Sta.start ev14 (Or.inr ⟨(wk2 hw), (wk54 hw)⟩)), (Exa.start ev14 na35), (Sta.start ev15 (Or.inr ⟨(wk2 hw), (wk56 hw)⟩)), (Exa.start ev15 na37), (Sta.start ev16 (Or.inr ⟨(wk2 hw), (wk58 hw)⟩)), (Exa.start ev16 na39), (Sta.start ev17 (Or.inr ⟨(wk2 hw), (wk60 hw)⟩)), (Exa.start ev17 na42), (Sta.start ev18 (Or.inr ⟨(wk2 hw), (wk62 hw)⟩)), (Exa.start ev18 na49), (Sta.start ev19 (Or.inr ⟨(wk2 hw), (wk64 hw)⟩)), (Exa.start ev19 na51), V0, trivial⟩
  obtain ⟨n, o, h1, h2, h3, _, L, rfl, ⟨rfl, N⟩, hq⟩ := rm0 l s _ hw _ hW tables_1 i0 i1 s.heap s.heap.size (Old.start s) p e ha hc hk s m _ below hf ((Spec.applies_iff_loose hf).mp happ).1 ⟨rfl, State.Warmed39.refl s, rfl⟩ trivial
  refine ⟨n, _, h1, h2, h3, hpost _ _ _ _ _ _ ⟨Cond.after_iff.mpr rfl, Cond.after_iff.mpr (eq_i res_at (Term.int_eval (1)) rfl), trivial⟩ ⟨hq.1, hq.2.1, (hq.2.2.sift fun y hy => Or.inr (N y hy)).mono (by decide) (by decide)⟩⟩
theorem main_1_1 : Claimed_1_1 := comes_1 fun _ _ _ _ _ _ h hF => ⟨h.1, hF⟩
theorem main_1_2 : Claimed_1_2 := comes_1 fun _ _ _ _ _ _ h hF => ⟨h.2.1, hF⟩
end Jvm.Pilot.@@N@@
namespace Jvm.Pilot.@@N@@
open Jvm Jvm.ClassFile Sem Op Lib Jvm.Free Jvm.Stand Jvm.Pilot.@@N@@.Jvm.D
/-! MADE BY PROGRAM (witnessworld.py) out of the Statement's table words and the real class files: 13 classes; the members and pool entries that the words name. The judged class is class 1, her method 2. -/
namespace start1
open Jvm.ClassFile
def u (s : String) : CpInfo := .utf8 (stringToUtf16 s)
/-- a pool by its gaps: so many unusable entries, then the entry; so many at the end -/
def gap : Nat → List CpInfo → List CpInfo
  | 0, r => r
  | n + 1, r => .unusable :: gap n r
def poolList (es : List (Nat × CpInfo)) (last : Nat) : List CpInfo := es.foldr (fun e r => gap e.1 (e.2 :: r)) (gap last [])
def pool (es : List (Nat × CpInfo)) (last : Nat) : Array CpInfo := ⟨poolList es last⟩
def fileOf (pool : Array CpInfo) (this : Nat) (attrs : Array Attribute := #[]) (ms : Array MethodInfo := #[]) (fl : Nat := 33) (sup : Nat := 0) (ifs : Array Nat := #[]) (fds : Array FieldInfo := #[]) : ClassFile where
  minorVersion := 0
  majorVersion := 65
  constantPool := pool
  accessFlags := fl
  thisClass := this
  superClass := sup
  interfaces := ifs
  fields := fds
  methods := ms
  attributes := attrs
def plain (name : String) (sup : Option ClassId) : Class where
  name := name
  kind := .ordinary
  loader := none
  accessFlags := 33
  super := sup
  interfaces := #[]
  cf := none
  fields := #[]
  methods := #[]
  instanceTypes := #[]
  staticTypes := #[]
  resolved := #[]
  callSites := []
  init := .initialized
  statics := none
  mirror := none

def pool0 : Array CpInfo := pool [(5, u "<init>"), (0, u "()V"), (1, .class_ 10), (1, u "java/lang/Object")] 113

def k0m0 : Method := { name := "<init>", desc := "()V", sig := { parameters := [], returnType := none }, accessFlags := 1, code := none }
/-- java/lang/Object -/
def k0 : Class := { plain "java/lang/Object" none with
  accessFlags := 33
  interfaces := #[]
  cf := some (fileOf pool0 8 #[] #[{ accessFlags := 1, nameIndex := 5, descriptorIndex := 6, attributes := #[] }] 33 0 #[] #[])
  fields := #[]
  methods := #[k0m0]
  instanceTypes := #[]
  staticTypes := #[]
  resolved := Array.replicate 124 none
  statics := none }

def pool1 : Array CpInfo := pool [(2, .class_ 4), (1, u "java/lang/Object"), (0, u "<init>"), (0, u "()V"), (0, .fieldref 8 9), (0, .class_ 10), (0, .nameAndType 11 12), (0, u "com/example/ferrule/ferrule/io/TypeCode"), (0, u "OBJECT"), (0, u "Lcom/example/ferrule/ferrule/io/TypeCode;"), (0, .long 2), (1, .fieldref 8 16), (0, .nameAndType 17 12), (0, u "MAP"), (0, .long 3), (1, .fieldref 8 21), (0, .nameAndType 22 12), (0, u "MAPPING"), (0, .long 4), (1, .fieldref 8 26), (0, .nameAndType 27 12), (0, u "LIST"), (0, .long 5), (1, .fieldref 8 31), (0, .nameAndType 32 12), (0, u "LISTING"), (0, .long 6), (1, .fieldref 8 36), (0, .nameAndType 37 12), (0, u "SET"), (0, .long 7), (1, .fieldref 8 41), (0, .nameAndType 42 12), (0, u "DURATION"), (0, .long 8), (1, .fieldref 8 46), (0, .nameAndType 47 12), (0, u "DATA_SIZE"), (0, .long 9), (1, .fieldref 8 51), (0, .nameAndType 52 12), (0, u "PAIR"), (0, .long 10), (1, .fieldref 8 56), (0, .nameAndType 57 12), (0, u "INT_SEQ"), (0, .long 11), (1, .fieldref 8 61), (0, .nameAndType 62 12), (0, u "REGEX"), (0, .long 12), (1, .fieldref 8 66), (0, .nameAndType 67 12), (0, u "CLASS"), (0, .long 13), (1, .fieldref 8 71), (0, .nameAndType 72 12), (0, u "TYPE_ALIAS"), (0, .long 14), (1, .fieldref 8 76), (0, .nameAndType 77 12), (0, u "FUNCTION"), (0, .long 15), (1, .fieldref 8 81), (0, .nameAndType 82 12), (0, u "BYTES"), (0, .long 16), (1, .fieldref 8 86), (0, .nameAndType 87 12), (0, u "PROPERTY"), (0, .long 17), (1, .fieldref 8 91), (0, .nameAndType 92 12), (0, u "ENTRY"), (0, .long 18), (1, .fieldref 8 96), (0, .nameAndType 97 12), (0, u "ELEMENT"), (0, .long 32), (1, .fieldref 8 101), (0, .nameAndType 102 12), (0, u "REFERENCE"), (0, .methodref 8 104), (0, .nameAndType 105 106), (0, u "of"), (0, u "(J)Lcom/example/ferrule/ferrule/io/TypeCode;"), (0, .methodref 108 109), (0, .class_ 110), (0, .nameAndType 111 106), (0, u "com/example/ferrule/ferrule/io/TypeCodeOfPinLaw"), (0, u "expected"), (3, u "law"), (0, u "(JI)Z")] 2

def k1m0 : Method := { name := "<init>", desc := "()V", sig := { parameters := [], returnType := none }, accessFlags := 2, code := none }
def k1c1 : Code := { maxStack := 4, maxLocals := 2, code := method_2_code, exceptionTable := #[], attributes := #[] }
def k1m1 : Method := { name := "expected", desc := "(J)Lcom/example/ferrule/ferrule/io/TypeCode;", sig := { parameters := [.long], returnType := some (.object "com/example/ferrule/ferrule/io/TypeCode") }, accessFlags := 10, code := some k1c1 }
def k1c2 : Code := { maxStack := 3, maxLocals := 7, code := code, exceptionTable := #[], attributes := #[] }
def k1m2 : Method := { name := "law", desc := "(JI)Z", sig := { parameters := [.long, .int], returnType := some .boolean }, accessFlags := 9, code := some k1c2 }
/-- com/example/ferrule/ferrule/io/TypeCodeOfPinLaw -/
def k1 : Class := { plain "com/example/ferrule/ferrule/io/TypeCodeOfPinLaw" (some 0) with
  accessFlags := 49
  interfaces := #[]
  cf := some (fileOf pool1 108 #[] #[{ accessFlags := 2, nameIndex := 5, descriptorIndex := 6, attributes := #[] }, { accessFlags := 10, nameIndex := 111, descriptorIndex := 106, attributes := #[] }, { accessFlags := 9, nameIndex := 115, descriptorIndex := 116, attributes := #[] }] 49 2 #[] #[])
  fields := #[]
  methods := #[k1m0, k1m1, k1m2]
  instanceTypes := #[]
  staticTypes := #[]
  resolved := Array.replicate 119 none
  statics := none }

def pool2 : Array CpInfo := pool [(1, .class_ 2), (0, u "java/lang/constant/Constable"), (0, .class_ 4), (0, u "java/lang/Object")] 6

/-- java/lang/constant/Constable -/
def k2 : Class := { plain "java/lang/constant/Constable" (some 0) with
  accessFlags := 1537
  interfaces := #[]
  cf := some (fileOf pool2 1 #[] #[] 1537 3 #[] #[])
  fields := #[]
  methods := #[]
  instanceTypes := #[]
  staticTypes := #[]
  resolved := Array.replicate 11 none
  statics := none }

def pool3 : Array CpInfo := pool [(1, .class_ 2), (0, u "java/lang/Comparable"), (0, .class_ 4), (0, u "java/lang/Object")] 7

/-- java/lang/Comparable -/
def k3 : Class := { plain "java/lang/Comparable" (some 0) with
  accessFlags := 1537
  interfaces := #[]
  cf := some (fileOf pool3 1 #[] #[] 1537 3 #[] #[])
  fields := #[]
  methods := #[]
  instanceTypes := #[]
  staticTypes := #[]
  resolved := Array.replicate 12 none
  statics := none }

def pool4 : Array CpInfo := pool [(1, .class_ 2), (0, u "java/io/Serializable"), (0, .class_ 4), (0, u "java/lang/Object")] 2

/-- java/io/Serializable -/
def k4 : Class := { plain "java/io/Serializable" (some 0) with
  accessFlags := 1537
  interfaces := #[]
  cf := some (fileOf pool4 1 #[] #[] 1537 3 #[] #[])
  fields := #[]
  methods := #[]
  instanceTypes := #[]
  staticTypes := #[]
  resolved := Array.replicate 7 none
  statics := none }

def pool5 : Array CpInfo := pool [(2, .class_ 4), (1, u "java/lang/Enum"), (0, u "name"), (0, u "Ljava/lang/String;"), (2, u "ordinal"), (0, u "I"), (1, .class_ 14), (1, u "java/lang/Object"), (4, u "hash"), (86, .class_ 108), (1, u "java/lang/Enum$EnumDesc"), (2, .class_ 112), (0, u "java/lang/constant/Constable"), (0, .class_ 114), (0, u "java/lang/Comparable"), (0, .class_ 116), (0, u "java/io/Serializable")] 87

/-- java/lang/Enum -/
def k5 : Class := { plain "java/lang/Enum" (some 0) with
  accessFlags := 1057
  interfaces := #[2, 3, 4]
  cf := some (fileOf pool5 2 #[.nestMembers #[106]] #[] 1057 12 #[111, 113, 115] #[{ accessFlags := 18, nameIndex := 5, descriptorIndex := 6, attributes := #[] }, { accessFlags := 18, nameIndex := 9, descriptorIndex := 10, attributes := #[] }, { accessFlags := 2, nameIndex := 19, descriptorIndex := 10, attributes := #[] }])
  fields := #[{ name := "name", type := (.object "java/lang/String"), accessFlags := 18, slot := 0, constantValue := 0 }, { name := "ordinal", type := .int, accessFlags := 18, slot := 1, constantValue := 0 }, { name := "hash", type := .int, accessFlags := 2, slot := 2, constantValue := 0 }]
  methods := #[]
  instanceTypes := #[(.object "java/lang/String"), .int, .int]
  staticTypes := #[]
  resolved := Array.replicate 204 none
  statics := none }

def pool6 : Array CpInfo := pool [(1, .class_ 2), (0, u "com/example/ferrule/ferrule/io/TypeCode"), (2, u "OBJECT"), (0, u "Lcom/example/ferrule/ferrule/io/TypeCode;"), (2, u "MAP"), (2, u "MAPPING"), (2, u "LIST"), (2, u "LISTING"), (2, u "SET"), (2, u "DURATION"), (2, u "DATA_SIZE"), (2, u "PAIR"), (2, u "INT_SEQ"), (2, u "REGEX"), (2, u "CLASS"), (2, u "TYPE_ALIAS"), (2, u "FUNCTION"), (2, u "BYTES"), (2, u "PROPERTY"), (2, u "ENTRY"), (2, u "ELEMENT"), (2, u "REFERENCE"), (2, u "$VALUES"), (0, u "[Lcom/example/ferrule/ferrule/io/TypeCode;"), (6, .class_ 73), (1, u "java/lang/Enum"), (8, u "code"), (0, u "I"), (2, u "slots"), (2, u "phrase"), (0, u "Ljava/lang/String;"), (10, .fieldref 1 102), (0, .nameAndType 103 64), (0, u "BY_CODE"), (1, .class_ 107), (1, u "com/example/ferrule/ferrule/io/TypeCode$1"), (93, u "of"), (0, u "(J)Lcom/example/ferrule/ferrule/io/TypeCode;")] 13

def k6c0 : Code := { maxStack := 4, maxLocals := 2, code := prog_47_method_5_code, exceptionTable := #[], attributes := #[] }
def k6m0 : Method := { name := "of", desc := "(J)Lcom/example/ferrule/ferrule/io/TypeCode;", sig := { parameters := [.long], returnType := some (.object "com/example/ferrule/ferrule/io/TypeCode") }, accessFlags := 8, code := some k6c0 }
/-- com/example/ferrule/ferrule/io/TypeCode -/
def k6 : Class := { plain "com/example/ferrule/ferrule/io/TypeCode" (some 5) with
  accessFlags := 16432
  interfaces := #[]
  cf := some (fileOf pool6 1 #[.nestMembers #[105]] #[{ accessFlags := 8, nameIndex := 201, descriptorIndex := 202, attributes := #[] }] 16432 71 #[] #[{ accessFlags := 16409, nameIndex := 5, descriptorIndex := 6, attributes := #[] }, { accessFlags := 16409, nameIndex := 9, descriptorIndex := 6, attributes := #[] }, { accessFlags := 16409, nameIndex := 12, descriptorIndex := 6, attributes := #[] }, { accessFlags := 16409, nameIndex := 15, descriptorIndex := 6, attributes := #[] }, { accessFlags := 16409, nameIndex := 18, descriptorIndex := 6, attributes := #[] }, { accessFlags := 16409, nameIndex := 21, descriptorIndex := 6, attributes := #[] }, { accessFlags := 16409, nameIndex := 24, descriptorIndex := 6, attributes := #[] }, { accessFlags := 16409, nameIndex := 27, descriptorIndex := 6, attributes := #[] }, { accessFlags := 16409, nameIndex := 30, descriptorIndex := 6, attributes := #[] }, { accessFlags := 16409, nameIndex := 33, descriptorIndex := 6, attributes := #[] }, { accessFlags := 16409, nameIndex := 36, descriptorIndex := 6, attributes := #[] }, { accessFlags := 16409, nameIndex := 39, descriptorIndex := 6, attributes := #[] }, { accessFlags := 16409, nameIndex := 42, descriptorIndex := 6, attributes := #[] }, { accessFlags := 16409, nameIndex := 45, descriptorIndex := 6, attributes := #[] }, { accessFlags := 16409, nameIndex := 48, descriptorIndex := 6, attributes := #[] }, { accessFlags := 16409, nameIndex := 51, descriptorIndex := 6, attributes := #[] }, { accessFlags := 16409, nameIndex := 54, descriptorIndex := 6, attributes := #[] }, { accessFlags := 16409, nameIndex := 57, descriptorIndex := 6, attributes := #[] }, { accessFlags := 16409, nameIndex := 60, descriptorIndex := 6, attributes := #[] }, { accessFlags := 26, nameIndex := 103, descriptorIndex := 64, attributes := #[] }, { accessFlags := 18, nameIndex := 82, descriptorIndex := 83, attributes := #[] }, { accessFlags := 18, nameIndex := 86, descriptorIndex := 83, attributes := #[] }, { accessFlags := 18, nameIndex := 89, descriptorIndex := 90, attributes := #[] }, { accessFlags := 4122, nameIndex := 63, descriptorIndex := 64, attributes := #[] }])
  fields := #[{ name := "OBJECT", type := (.object "com/example/ferrule/ferrule/io/TypeCode"), accessFlags := 16409, slot := 0, constantValue := 0 }, { name := "MAP", type := (.object "com/example/ferrule/ferrule/io/TypeCode"), accessFlags := 16409, slot := 1, constantValue := 0 }, { name := "MAPPING", type := (.object "com/example/ferrule/ferrule/io/TypeCode"), accessFlags := 16409, slot := 2, constantValue := 0 }, { name := "LIST", type := (.object "com/example/ferrule/ferrule/io/TypeCode"), accessFlags := 16409, slot := 3, constantValue := 0 }, { name := "LISTING", type := (.object "com/example/ferrule/ferrule/io/TypeCode"), accessFlags := 16409, slot := 4, constantValue := 0 }, { name := "SET", type := (.object "com/example/ferrule/ferrule/io/TypeCode"), accessFlags := 16409, slot := 5, constantValue := 0 }, { name := "DURATION", type := (.object "com/example/ferrule/ferrule/io/TypeCode"), accessFlags := 16409, slot := 6, constantValue := 0 }, { name := "DATA_SIZE", type := (.object "com/example/ferrule/ferrule/io/TypeCode"), accessFlags := 16409, slot := 7, constantValue := 0 }, { name := "PAIR", type := (.object "com/example/ferrule/ferrule/io/TypeCode"), accessFlags := 16409, slot := 8, constantValue := 0 }, { name := "INT_SEQ", type := (.object "com/example/ferrule/ferrule/io/TypeCode"), accessFlags := 16409, slot := 9, constantValue := 0 }, { name := "REGEX", type := (.object "com/example/ferrule/ferrule/io/TypeCode"), accessFlags := 16409, slot := 10, constantValue := 0 }, { name := "CLASS", type := (.object "com/example/ferrule/ferrule/io/TypeCode"), accessFlags := 16409, slot := 11, constantValue := 0 }, { name := "TYPE_ALIAS", type := (.object "com/example/ferrule/ferrule/io/TypeCode"), accessFlags := 16409, slot := 12, constantValue := 0 }, { name := "FUNCTION", type := (.object "com/example/ferrule/ferrule/io/TypeCode"), accessFlags := 16409, slot := 13, constantValue := 0 }, { name := "BYTES", type := (.object "com/example/ferrule/ferrule/io/TypeCode"), accessFlags := 16409, slot := 14, constantValue := 0 }, { name := "PROPERTY", type := (.object "com/example/ferrule/ferrule/io/TypeCode"), accessFlags := 16409, slot := 15, constantValue := 0 }, { name := "ENTRY", type := (.object "com/example/ferrule/ferrule/io/TypeCode"), accessFlags := 16409, slot := 16, constantValue := 0 }, { name := "ELEMENT", type := (.object "com/example/ferrule/ferrule/io/TypeCode"), accessFlags := 16409, slot := 17, constantValue := 0 }, { name := "REFERENCE", type := (.object "com/example/ferrule/ferrule/io/TypeCode"), accessFlags := 16409, slot := 18, constantValue := 0 }, { name := "BY_CODE", type := (.array (.object "com/example/ferrule/ferrule/io/TypeCode")), accessFlags := 26, slot := 19, constantValue := 0 }, { name := "code", type := .int, accessFlags := 18, slot := 3, constantValue := 0 }, { name := "slots", type := .int, accessFlags := 18, slot := 4, constantValue := 0 }, { name := "phrase", type := (.object "java/lang/String"), accessFlags := 18, slot := 5, constantValue := 0 }, { name := "$VALUES", type := (.array (.object "com/example/ferrule/ferrule/io/TypeCode")), accessFlags := 4122, slot := 20, constantValue := 0 }]
  methods := #[k6m0]
  instanceTypes := #[(.object "java/lang/String"), .int, .int, .int, .int, (.object "java/lang/String")]
  staticTypes := #[(.object "com/example/ferrule/ferrule/io/TypeCode"), (.object "com/example/ferrule/ferrule/io/TypeCode"), (.object "com/example/ferrule/ferrule/io/TypeCode"), (.object "com/example/ferrule/ferrule/io/TypeCode"), (.object "com/example/ferrule/ferrule/io/TypeCode"), (.object "com/example/ferrule/ferrule/io/TypeCode"), (.object "com/example/ferrule/ferrule/io/TypeCode"), (.object "com/example/ferrule/ferrule/io/TypeCode"), (.object "com/example/ferrule/ferrule/io/TypeCode"), (.object "com/example/ferrule/ferrule/io/TypeCode"), (.object "com/example/ferrule/ferrule/io/TypeCode"), (.object "com/example/ferrule/ferrule/io/TypeCode"), (.object "com/example/ferrule/ferrule/io/TypeCode"), (.object "com/example/ferrule/ferrule/io/TypeCode"), (.object "com/example/ferrule/ferrule/io/TypeCode"), (.object "com/example/ferrule/ferrule/io/TypeCode"), (.object "com/example/ferrule/ferrule/io/TypeCode"), (.object "com/example/ferrule/ferrule/io/TypeCode"), (.object "com/example/ferrule/ferrule/io/TypeCode"), (.array (.object "com/example/ferrule/ferrule/io/TypeCode")), (.array (.object "com/example/ferrule/ferrule/io/TypeCode"))]
  resolved := Array.replicate 216 none
  statics := some 0 }

def pool7 : Array CpInfo := pool [(1, u "java/lang/Cloneable"), (0, .class_ 1), (0, u "java/lang/Object"), (0, .class_ 3)] 3

/-- java/lang/Cloneable -/
def k7 : Class := { plain "java/lang/Cloneable" (some 0) with
  accessFlags := 1537
  interfaces := #[]
  cf := some (fileOf pool7 2 #[] #[] 1537 4 #[] #[])
  fields := #[]
  methods := #[]
  instanceTypes := #[]
  staticTypes := #[]
  resolved := Array.replicate 8 none
  statics := none }

/-- the primitive byte -/
def k8 : Class := { plain "byte" none with kind := .primitive 'B', accessFlags := 0x411 }
/-- [B -/
def k9 : Class := { plain "[B" (some 0) with kind := .array 8 .byte, interfaces := #[7, 4], accessFlags := 1041 }

/-- the primitive int -/
def k10 : Class := { plain "int" none with kind := .primitive 'I', accessFlags := 0x411 }
/-- [I -/
def k11 : Class := { plain "[I" (some 0) with kind := .array 10 .int, interfaces := #[7, 4], accessFlags := 1041 }

/-- [Lcom/example/ferrule/ferrule/io/TypeCode; -/
def k12 : Class := { plain "[Lcom/example/ferrule/ferrule/io/TypeCode;" (some 0) with kind := .array 6 (.object "com/example/ferrule/ferrule/io/TypeCode"), interfaces := #[7, 4], accessFlags := 1041 }

def heap : Heap := #[{ cls := 6, slots := #[.ref 5, .ref 3, .ref 2, .ref 12, .ref 15, .ref 16, .ref 6, .ref 14, .ref 19, .ref 10, .ref 17, .ref 11, .ref 4, .ref 9, .ref 7, .ref 20, .ref 18, .ref 8, .ref 13, .ref 1, .null], vm := .statics 6 },
  { cls := 12, slots := #[.null, .ref 5, .ref 3, .ref 2, .ref 12, .ref 15, .ref 16, .ref 6, .ref 14, .ref 19, .ref 10, .ref 17, .ref 11, .ref 4, .ref 9, .ref 7, .ref 20, .ref 18, .ref 8, .null, .null, .null, .null, .null, .null, .null, .null, .null, .null, .null, .null, .null, .ref 13], vm := .none },
  { cls := 6, slots := #[.null, .int 0, .int 0, .int 0, .int 0, .null], vm := .none },
  { cls := 6, slots := #[.null, .int 0, .int 0, .int 0, .int 0, .null], vm := .none },
  { cls := 6, slots := #[.null, .int 0, .int 0, .int 0, .int 0, .null], vm := .none },
  { cls := 6, slots := #[.null, .int 0, .int 0, .int 0, .int 0, .null], vm := .none },
  { cls := 6, slots := #[.null, .int 0, .int 0, .int 0, .int 0, .null], vm := .none },
  { cls := 6, slots := #[.null, .int 0, .int 0, .int 0, .int 0, .null], vm := .none },
  { cls := 6, slots := #[.null, .int 0, .int 0, .int 0, .int 0, .null], vm := .none },
  { cls := 6, slots := #[.null, .int 0, .int 0, .int 0, .int 0, .null], vm := .none },
  { cls := 6, slots := #[.null, .int 0, .int 0, .int 0, .int 0, .null], vm := .none },
  { cls := 6, slots := #[.null, .int 0, .int 0, .int 0, .int 0, .null], vm := .none },
  { cls := 6, slots := #[.null, .int 0, .int 0, .int 0, .int 0, .null], vm := .none },
  { cls := 6, slots := #[.null, .int 0, .int 0, .int 0, .int 0, .null], vm := .none },
  { cls := 6, slots := #[.null, .int 0, .int 0, .int 0, .int 0, .null], vm := .none },
  { cls := 6, slots := #[.null, .int 0, .int 0, .int 0, .int 0, .null], vm := .none },
  { cls := 6, slots := #[.null, .int 0, .int 0, .int 0, .int 0, .null], vm := .none },
  { cls := 6, slots := #[.null, .int 0, .int 0, .int 0, .int 0, .null], vm := .none },
  { cls := 6, slots := #[.null, .int 0, .int 0, .int 0, .int 0, .null], vm := .none },
  { cls := 6, slots := #[.null, .int 0, .int 0, .int 0, .int 0, .null], vm := .none },
  { cls := 6, slots := #[.null, .int 0, .int 0, .int 0, .int 0, .null], vm := .none }]
def classes : Array Class := #[k0, k1, k2, k3, k4, k5, k6, k7, k8, k9, k10, k11, k12]
def interned : List (Array UInt16 × Addr) := []
def slotsUsed : Nat := 168
def theMethod : MethodId := ⟨1, 2⟩
def args0 : Array Value := #[.long 3, .int 6]
def aboutOver (below : List Frame) : State where
  vm := { classes := classes, interned := interned.toArray }
  heap := heap
  slotsUsed := slotsUsed
  threads := #[{ frames := .invoking theMethod args0 :: below }]
def below0 : List Frame := [.native { method := ⟨0, 0⟩, args := #[] }]
def about1 : State := aboutOver below0
def p0 : Program := .bare "" "" ""
def e0 : Env := launch0.env 0 0 0
theorem w_frames : about1.frames = Frame.invoking theMethod args0 :: below0 := rfl
set_option maxRecDepth 65536 in
theorem w_args : argsFit about1.vm theMethod args0 = true := by decide +kernel
set_option maxRecDepth 65536 in
theorem w_heap : heapFits about1 = true := by decide +kernel
set_option maxRecDepth 65536 in
theorem w_runnable : about1.curStatus? = some .runnable := by decide +kernel
set_option maxRecDepth 65536 in
theorem w_alone : about1.alone = true := by decide +kernel
set_option maxRecDepth 65536 in
theorem w_named : about1.methodNamed? x = some theMethod := by decide +kernel
set_option maxRecDepth 65536 in
theorem w_hears : about1.hears theMethod below0 = true := by decide +kernel
set_option maxRecDepth 65536 in
theorem w_ripe : about1.ripe theMethod args0 below0 = true := by decide +kernel
theorem w_running : about1.status = .running := rfl
set_option maxRecDepth 65536 in
theorem w_room : about1.hasRoom e0.platform room_1 = true :=
  launch0.hasRoom_least _ room_1 (by decide +kernel) (by decide +kernel) (by decide +kernel) (by decide +kernel) (by decide +kernel) (by decide +kernel)
theorem allAtoms_all (ts : List Jvm.Cond) (a : Array Jvm.Value) (st : Jvm.State) : (allAtoms ts).before a st = ts.all (fun c => c.before a st) := by
  induction ts with
  | nil => rfl
  | cons c t ih =>
    show (Jvm.Cond.and c (allAtoms t)).before a st = _
    rw [Jvm.Cond.before_and, ih, List.all_cons]
def words1 : List Jvm.Cond := Jvm.Cond.code x code maxLocals ret :: tables_1
/-- a 'code' word, met by the world's own term for the bytes: nothing is compared byte by byte -/
theorem code_word {y : MethodName} {bytes : ByteArray} {mx : Nat} {rt : Option FieldType} {a : Array Value} {s : State} {m : MethodId} {meth : Method} {c : Code} (h1 : s.methodNamed? y = some m) (h2 : s.vm.method? m = some meth) (h3 : meth.code = some c) (h4 : c.code = bytes)
    (h5 : (c.maxLocals == mx && c.exceptionTable.isEmpty && decide (c.maxStack ≤ mostOperands) && decide (meth.sig.returnType = rt) && !meth.locks && decide (parseMethodDescriptor y.desc = some meth.sig)) = true) : (Jvm.Cond.code y bytes mx rt).before a s = true := by
  simp only [Bool.and_eq_true, beq_iff_eq, Bool.not_eq_true', decide_eq_true_eq] at h5
  obtain ⟨⟨⟨⟨⟨g1, g2⟩, g3⟩, g4⟩, g5⟩, g6⟩ := h5
  simp [Cond.before, Cond.holds, Cond.value, h1, h2, h3, h4, g1, g2, g3, g4, g5, g6]
def isCode : Jvm.Cond → Bool
  | .code _ _ _ _ => true
  | _ => false
theorem all_split {L : List Jvm.Cond} {P : Jvm.Cond → Bool} (h1 : L.all (fun c => isCode c || P c) = true) (h2 : ∀ c ∈ L.filter isCode, P c = true) : L.all P = true := by
  refine List.all_eq_true.mpr fun c hc => ?_
  have h := List.all_eq_true.mp h1 c hc
  rcases Bool.eq_false_or_eq_true (isCode c) with hi | hi
  · exact h2 c (List.mem_filter.mpr ⟨hc, hi⟩)
  · simpa [hi] using h
set_option maxRecDepth 65536 in
theorem w_c0 : (Jvm.Cond.code x code maxLocals ret).before args0 about1 = true := code_word (m := ⟨1, 2⟩) (meth := k1m2) (c := k1c2) (by decide +kernel) rfl rfl rfl (by decide +kernel)
set_option maxRecDepth 65536 in
theorem w_c1 : (Jvm.Cond.code ({ cls := "com/example/ferrule/ferrule/io/TypeCode", name := "of", desc := "(J)Lcom/example/ferrule/ferrule/io/TypeCode;" } : Jvm.MethodName) prog_47_method_5_code (2 : Nat) (Option.some (Jvm.ClassFile.FieldType.object "com/example/ferrule/ferrule/io/TypeCode"))).before args0 about1 = true := code_word (m := ⟨6, 0⟩) (meth := k6m0) (c := k6c0) (by decide +kernel) rfl rfl rfl (by decide +kernel)
set_option maxRecDepth 65536 in
theorem w_c2 : (Jvm.Cond.code ({ cls := "com/example/ferrule/ferrule/io/TypeCodeOfPinLaw", name := "expected", desc := "(J)Lcom/example/ferrule/ferrule/io/TypeCode;" } : Jvm.MethodName) method_2_code (2 : Nat) (Option.some (Jvm.ClassFile.FieldType.object "com/example/ferrule/ferrule/io/TypeCode"))).before args0 about1 = true := code_word (m := ⟨1, 1⟩) (meth := k1m1) (c := k1c1) (by decide +kernel) rfl rfl rfl (by decide +kernel)
def codes1 : List Jvm.Cond := [Jvm.Cond.code x code maxLocals ret, Jvm.Cond.code ({ cls := "com/example/ferrule/ferrule/io/TypeCode", name := "of", desc := "(J)Lcom/example/ferrule/ferrule/io/TypeCode;" } : Jvm.MethodName) prog_47_method_5_code (2 : Nat) (Option.some (Jvm.ClassFile.FieldType.object "com/example/ferrule/ferrule/io/TypeCode")), Jvm.Cond.code ({ cls := "com/example/ferrule/ferrule/io/TypeCodeOfPinLaw", name := "expected", desc := "(J)Lcom/example/ferrule/ferrule/io/TypeCode;" } : Jvm.MethodName) method_2_code (2 : Nat) (Option.some (Jvm.ClassFile.FieldType.object "com/example/ferrule/ferrule/io/TypeCode"))]
set_option maxRecDepth 65536 in
theorem codes_eq : words1.filter isCode = codes1 := rfl
theorem w_codes : ∀ c ∈ words1.filter isCode, c.before args0 about1 = true := by
  rw [codes_eq]
  intro c hc
  simp only [codes1, List.mem_cons, List.not_mem_nil, or_false] at hc
  rcases hc with rfl | rfl | rfl
  · exact w_c0
  · exact w_c1
  · exact w_c2
set_option maxRecDepth 65536 in
theorem w_t1 : (words1.take 24).all (fun c => isCode c || c.before args0 about1) = true := by decide +kernel
set_option maxRecDepth 65536 in
theorem w_t2 : ((words1.drop 24).take 24).all (fun c => isCode c || c.before args0 about1) = true := by decide +kernel
set_option maxRecDepth 65536 in
theorem w_t3 : ((words1.drop 24).drop 24).all (fun c => isCode c || c.before args0 about1) = true := by decide +kernel
theorem w_tables : (allAtoms (Jvm.Cond.code x code maxLocals ret :: tables_1)).before args0 about1 = true := by
  rw [allAtoms_all]
  show words1.all (fun c => c.before args0 about1) = true
  refine all_split ?_ w_codes
  rw [← List.take_append_drop 24 words1, List.all_append, w_t1, ← List.take_append_drop 24 (words1.drop 24), List.all_append, w_t2, w_t3]
  rfl
set_option maxRecDepth 65536 in
theorem w_case : (Jvm.Cond.and given_1 narrow_1).before args0 about1 = true := by decide +kernel
theorem w_applies : (headSpec (Jvm.Cond.code x code maxLocals ret :: tables_1) room_1).applies x e0.platform about1 = true :=
  (Spec.applies_iff w_frames).mpr ⟨w_running, w_runnable, w_alone, w_named, w_hears, w_ripe, w_room, w_tables⟩
theorem atStart : AtStart classFile x code maxLocals ret World_1 tables_1 room_1 Calls_1 rest_1 Pre_1 launch0 p0 e0 about1 theMethod args0 below0 :=
  ⟨lists_1, trivial, launch0.admits_env _ _ _, launch0.least_env, fairChoices_fair.cas, fairChoices_fair.clock, w_frames, w_args, w_heap, w_applies, trivial, trivial, w_case⟩
end start1
theorem witness_1 : WitnessClaimed_1 := ⟨start1.p0, start1.e0, start1.about1, start1.theMethod, start1.args0, start1.below0, start1.atStart⟩
end Jvm.Pilot.@@N@@
