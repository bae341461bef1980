import JvmDerived
import JvmDerived.Pilot.@@N@@Statement
import JvmDerived.Pilot.@@N@@Code
set_option linter.unusedVariables false
set_option linter.unusedSimpArgs false
@@BLOCK:NumsL.lean.txt@@
namespace Jvm.RoadKit
open Sem ClassFile Op Lib Jvm.Stand Jvm.Free Jvm.LawKit
section New
variable {p : Program} {l : Launch} {e : Env} {R : Room} {s : State} {m : MethodId} {args : Array Value} {below : List Frame} {meth : Method} {c : Code} {T : State} {locs : List Loc} {cells slots : Nat}
theorem retI (X : Stand p l e R s m args below meth c T locs cells slots) (hx : p.tables.exec = Jvm.exec) {pc : Nat} {Ls : Array Slot} {z : Int32} {rest : List Value} (hret : meth.sig.returnType = some .int) (hd : decode c.code pc = .ok (.ireturn, 1)) {fs : List Frame}
    (hl : ∀ (f : JFrame) (acts : List Action), f.method = m → f.locked = none → f.entered = [] → (doReturn e (T.setTop f) acts (some (.int z))).1 = T.setFrames fs) : Steps p.tables e below (T.setTop (mkF m pc Ls (.int z :: rest))) (T.setFrames fs) := by
  have hm' : T.vm.method? m = some meth := X.method'
  have hn : narrow .int (.int z) = .int z := rfl
  show Steps p.tables e below (T.setTop { method := m, pc := pc, locals := Ls, stack := _ :: rest, locked := none }) _
  jvm_step X.here [X.here.top, hx, hd, hm', hret, hn]
  first | (intro acts; rw [hl _ acts rfl rfl rfl]) | rw [hl _ _ rfl rfl rfl]
  exact Steps.refl _
end New
end Jvm.RoadKit
namespace Jvm.OwnRuns
open Jvm Sem ClassFile Op Lib Jvm.Stand Jvm.Free Jvm.LawKit Jvm.RoadKit
/-- from the state T the invocation comes to its end, and there Φ holds -/
def Runs (tb : Tables) (e : Env) (below : List Frame) (Φ : Outcome → State → Prop) (T : State) : Prop := ∃ s₂ o, Steps tb e below T s₂ ∧ s₂.status = .running ∧ Ended s₂ below o ∧ Φ o s₂
abbrev Phi (s : State) (Q : Option Value → Heap → List Loc → Prop) (k n : Nat) (o : Outcome) (U' : State) : Prop := ∃ v L, o = .returned v ∧ Q v U'.heap L ∧ FrameEnd s o U' L k n
theorem Runs.st {tb : Tables} {e : Env} {below : List Frame} {Φ : Outcome → State → Prop} {T T' : State} (h : ∀ t, Steps tb e below T' t → Steps tb e below T t) (r : Runs tb e below Φ T') : Runs tb e below Φ T := by
  obtain ⟨a, o, h1, h2⟩ := r
  exact ⟨a, o, h a h1, h2⟩
theorem Runs.tr {tb : Tables} {e : Env} {below : List Frame} {Φ : Outcome → State → Prop} {T T' : State} (h : Steps tb e below T T') (r : Runs tb e below Φ T') : Runs tb e below Φ T := Runs.st (fun _ k => h.trans k) r
section Laws
variable {p : Program} {l : Launch} {e : Env} {R : Room} {s : State} {m : MethodId} {args : Array Value} {below : List Frame} {meth : Method} {c : Code} {T : State} {locs : List Loc} {cells slots : Nat}
theorem Runs.ret (X : Stand p l e R s m args below meth c T locs cells slots) (hlk : meth.locks = false) {v : Option Value} (hv : meth.sig.returnType = none → v = none) {Q : Option Value → Heap → List Loc → Prop} {k n : Nat} (hk : cells ≤ k) (hn : slots ≤ n) (hQ : Q v T.heap locs) {T0 : State}
    (hst : ∀ fs : List Frame, (∀ (f : JFrame) (acts : List Action), f.method = m → f.locked = none → f.entered = [] → (doReturn e (T.setTop f) acts v).1 = T.setFrames fs) → Steps p.tables e below T0 (T.setFrames fs)) : Runs p.tables e below (Phi s Q k n) T0 := by
  obtain ⟨fs, hr, hrun, hended, hW, hsame⟩ := X.leave hv hlk
  exact ⟨_, _, hst fs hr, hrun, hended, _, _, rfl, hQ, ⟨_, rfl⟩, hW, hsame.mono hk hn⟩
theorem wider (X : Stand p l e R s m args below meth c T locs cells slots) {c' s' : Nat} (hc : cells ≤ c') (hs : slots ≤ s') : Stand p l e R s m args below meth c T locs c' s' := { X with same := X.same.mono hc hs }
abbrev PhiW (s : State) (Q : Option Value → Heap → List Loc → Prop) (k n : Nat) (o : Outcome) (U' : State) : Prop := ∃ v L, o = .returned v ∧ Q v U'.heap L ∧ ReturnedEndW s o U' L k n
theorem Runs.retW {vm₁ : Vm} (X : Stand p l e R (s.setVm vm₁) m args below meth c T locs cells slots) {n1 : Nat} (hS : s.Since vm₁ n1) (hk1 : n1 ≤ T.heap.size) (hlk : meth.locks = false) {v : Option Value} (hv : meth.sig.returnType = none → v = none) {Q : Option Value → Heap → List Loc → Prop} {k n : Nat} (hk : cells ≤ k) (hn : slots ≤ n) (hQ : Q v T.heap locs) {T0 : State}
    (hst : ∀ fs : List Frame, (∀ (f : JFrame) (acts : List Action), f.method = m → f.locked = none → f.entered = [] → (doReturn e (T.setTop f) acts v).1 = T.setFrames fs) → Steps p.tables e below T0 (T.setFrames fs)) : Runs p.tables e below (PhiW s Q k n) T0 := by
  obtain ⟨fs, hr, hrun, hended, hW⟩ := (wider X hk hn).leaveW hS hk1 hv hlk
  exact ⟨_, _, hst fs hr, hrun, hended, _, _, rfl, hQ, hW⟩
abbrev PhiH (Z : State) (EL : List (String × Nat)) (s : State) (Q : Option Value → Heap → List Loc → Prop) (k n : Nat) (o : Outcome) (U' : State) : Prop := ∃ v L, o = .returned v ∧ Q v U'.heap L ∧ CHr Z EL s.vm s.heap U'.vm U'.heap ∧ ReturnedEndW s o U' L k n
theorem Runs.retH {Z : State} {EL : List (String × Nat)} {vm₁ : Vm} (X : Stand p l e R (s.setVm vm₁) m args below meth c T locs cells slots) {n1 : Nat} (hS : s.Since vm₁ n1) (hk1 : n1 ≤ T.heap.size) (hlk : meth.locks = false) {v : Option Value} (hv : meth.sig.returnType = none → v = none) {Q : Option Value → Heap → List Loc → Prop} {k n : Nat} (hk : cells ≤ k) (hn : slots ≤ n) (hQ : Q v T.heap locs) (hC : CHr Z EL s.vm s.heap T.vm T.heap) {T0 : State}
    (hst : ∀ fs : List Frame, (∀ (f : JFrame) (acts : List Action), f.method = m → f.locked = none → f.entered = [] → (doReturn e (T.setTop f) acts v).1 = T.setFrames fs) → Steps p.tables e below T0 (T.setFrames fs)) : Runs p.tables e below (PhiH Z EL s Q k n) T0 := by
  obtain ⟨fs, hr, hrun, hended, hW⟩ := (wider X hk hn).leaveW hS hk1 hv hlk
  exact ⟨_, _, hst fs hr, hrun, hended, _, _, rfl, hQ, hC, hW⟩
end Laws
section Facts
variable {Z : State} {h h' : Heap} {a : Addr} {C n d : String} {v : Value} {bo : Bool} {ws : List Addr}
theorem Ins_keep (F : Ins Z h a C bo) (K : Keep h h' ws) : Ins Z h' a C bo := by
  obtain ⟨cell, cT, h1, h2, h3⟩ := F
  obtain ⟨c', e1, e2, e3, -⟩ := K.2.2 _ _ h1
  exact ⟨c', cT, e1, h2, by rw [e2, e3]; exact h3⟩
theorem narrow_ref {t : FieldType} {v : Value} (h : v.isRef = true) : narrow t v = v := by rcases ref_cases h with rfl | ⟨_, rfl⟩ <;> cases t <;> rfl
end Facts
end Jvm.OwnRuns
namespace Jvm.OwnRuns
open Jvm Sem ClassFile Op Lib Jvm.Stand Jvm.Free Jvm.LawKit Jvm.RoadKit
section Words
variable {args : Array Value} {s : State} {t : Term}
theorem val_int {k : Int32} (h : (Cond.eq t (.int k)).value args s none s [] = some true) : t.eval args s none [] s = some (.int k) := Cond.eq_int (Cond.before_iff.mpr h) rfl
theorem the_static {C n d K : String} (h : (Cond.exactly (.static C n d) K).value args s none s [] = some true) (h1 : (Cond.initialized C).before args s = true) (h2 : (Cond.laysStatic C n d).before args s = true) :
    ∃ a, (Term.static C n d).eval args s none [] s = some (.ref a) ∧ Sta s s.heap C n d (.ref a) ∧ Exa s s.heap a K := by
  obtain ⟨a, e⟩ := exa_v h
  exact ⟨a, e, Sta.start e (Or.inr ⟨h1, h2⟩), Exa.start e h⟩
theorem the_int {C n d : String} {a : Addr} {k : Int32} (e : t.eval args s none [] s = some (.ref a)) (h : (Cond.eq (.field t C n d) (.int k)).value args s none s [] = some true) : Fld s s.heap a C n d (.int k) :=
  Fld.start ((fld_at e).symm.trans (val_int h))
theorem the_ref {C n d K : String} {a : Addr} (e : t.eval args s none [] s = some (.ref a)) (h : (Cond.exactly (.field t C n d) K).value args s none s [] = some true) :
    ∃ b, (Term.field t C n d).eval args s none [] s = some (.ref b) ∧ Fld s s.heap a C n d (.ref b) ∧ Exa s s.heap b K := by
  obtain ⟨b, eb⟩ := exa_v h
  exact ⟨b, eb, Fld.start ((fld_at e).symm.trans eb), Exa.start eb h⟩
theorem the_arr {C n d : String} {ty : FieldType} {a : Addr} (e : t.eval args s none [] s = some (.ref a)) (h : (Cond.arrayOf (.field t C n d) ty).value args s none s [] = some true) :
    ∃ b cl, (Term.field t C n d).eval args s none [] s = some (.ref b) ∧ Fld s s.heap a C n d (.ref b) ∧ Arr s s.heap b cl ty := by
  obtain ⟨b, eb⟩ := arr_v h
  obtain ⟨cl, A⟩ := Arr.start eb h
  exact ⟨b, cl, eb, Fld.start ((fld_at e).symm.trans eb), A⟩
theorem the_len {b : Addr} {cl : Cell} {ty : FieldType} {z : Int32} (e : t.eval args s none [] s = some (.ref b)) (A : Arr s s.heap b cl ty) (h : (Cond.eq (.length t) (.int z)).value args s none s [] = some true) : cl.slots.size < 2 ^ 31 ∧ cl.slots.size.toInt32 = z := by
  have hv := val_int h
  obtain ⟨x, c', e1, e2, -⟩ := Term.length_spec hv
  cases e.symm.trans e1
  have e3 := A.fin (Vm.Alike.refl _)
  cases e2.symm.trans e3
  have h31 := SBG.length_lt e1 e2 hv
  exact ⟨h31, Value.int.inj (Option.some.inj ((len_f e e3 h31).symm.trans hv))⟩
theorem the_elem {b : Addr} {cl : Cell} {ty : FieldType} {j k : Int32} (e : t.eval args s none [] s = some (.ref b)) (A : Arr s s.heap b cl ty) (h : (Cond.eq (.elem t (.int j)) (.int k)).value args s none s [] = some true) : cl.slots[j.toNatClampNeg]? = some (.int k) :=
  (elem_in (val_int h) e rfl A.1).2
end Words
end Jvm.OwnRuns
namespace Jvm.OwnRuns
open Jvm Sem ClassFile Op Lib Jvm.Stand Jvm.Free Jvm.LawKit Jvm.RoadKit
theorem fld_one {Z : State} {h : Heap} {a b d : Addr} {C n t : String} (F : Fld Z h a C n t (.ref b)) (G : Fld Z h a C n t (.ref d)) : b = d := by
  obtain ⟨c1, _, _, _, f1, h1, h2, -, -, -, -, h7⟩ := F
  obtain ⟨c2, _, _, _, f2, g1, g2, -, -, -, -, g7⟩ := G
  cases h1.symm.trans g1; cases h2.symm.trans g2
  exact Value.ref.inj (Option.some.inj (h7.symm.trans g7))
theorem arv_len {Z : State} {h : Heap} {a : Addr} {k k' : ClassId} {ty ty' : FieldType} {z z' : Int32} {vs vs' : List Value} {d d' : Value} (F : Arv Z h a k ty z vs d) (G : Arv Z h a k' ty' z' vs' d') : z = z' := by
  obtain ⟨c1, A1, -, S1, M1, -⟩ := F
  obtain ⟨c2, A2, -, S2, M2, -⟩ := G
  cases A1.1.symm.trans A2.1
  rw [← len_of S1 M1, ← len_of S2 M2]
end Jvm.OwnRuns
namespace Jvm.OwnRuns
open Jvm Sem ClassFile Op Lib Bundle Jvm.Stand Jvm.Free Jvm.LawKit Jvm.RoadKit Jvm.Free.SB Jvm.Free.SBG
/-- a String whose value is still null is no constant that the tables hold -/
theorem safe_null {Z : State} {EL : List (String × Nat)} {vm : Vm} {h : Heap} {x : Addr} {a0 : Array Value} {kk : Nat} (hal : Z.vm.Alike vm) (F : Fld Z h x "java/lang/String" "value" "[B" .null) (E : Exa Z h x "java/lang/String") (wi : (Cond.instantiable "java/lang/String" kk).before a0 Z = true) : Safe Z EL vm h x := fun B => by
  obtain ⟨pp, hp, u, a, hb, q, hqa, ⟨cS, ⟨⟨s1, s2, s3, ⟨cv, kv, iv, s4, s4'⟩, s5, s6, s7, s8, s9, s10, s11, s12, s13⟩, hfS, hcS⟩, r⟩, hy⟩ := B
  rcases hy with rfl | rfl
  · obtain ⟨cell, cf, k, i, f, h1, h2, h3, h4, h5, h6, h7⟩ := F
    have e1 : cell = q.sC := Option.some.inj (h1.symm.trans s1)
    obtain ⟨kv', z4⟩ := ff_back (U := Wst Z vm h) hal s4
    cases h2.symm.trans z4
    subst e1
    exact absurd (h7.symm.trans s8) (by simp)
  · obtain ⟨c1, k1, e1, e2, e3, e4, e5⟩ := E
    have e6 : c1 = q.SA := Option.some.inj (e1.symm.trans s10)
    subst e6
    obtain ⟨c2, k2, i1, i2, i3, -⟩ := Cond.instantiable_spec wi
    cases e2.symm.trans i1
    obtain ⟨-, k3, j1, comp, j2⟩ := s11
    obtain ⟨k4, j3, j4⟩ := hal.2.2 _ _ i2
    have j1' : vm.classes[q.SA.cls]? = some k3 := j1
    cases j1'.symm.trans j3
    rw [j4] at j2
    have j5 := i3.symm.trans j2
    cases j5
end Jvm.OwnRuns
namespace Jvm.Pilot.@@N@@
open Jvm Jvm.ClassFile Sem Op Lib Jvm.Free Jvm.Stand Jvm.LawKit Jvm.RoadKit Bundle Jvm.OwnRuns Jvm.Pilot.@@N@@.Jvm.D
def own_b (P : Prop) [Decidable P] : Int32 := if P then 1 else 0
theorem own_b_pos {P : Prop} [Decidable P] (h : P) : own_b P = 1 := if_pos h
theorem own_b_neg {P : Prop} [Decidable P] (h : ¬ P) : own_b P = 0 := if_neg h
theorem own_b_ne {P : Prop} [Decidable P] (h : ¬ (own_b P = 0)) : P := Decidable.byContradiction fun q => h (own_b_neg q)
theorem own_b_eq {P : Prop} [Decidable P] (h : own_b P = 0) : ¬ P := fun q => by rw [own_b_pos q] at h; exact absurd h (by decide)
theorem own_b_congr {P R : Prop} [Decidable P] [Decidable R] (h : P ↔ R) : own_b P = own_b R := by by_cases q : P; rw [own_b_pos q, own_b_pos (h.mp q)]; rw [own_b_neg q, own_b_neg fun r => q (h.mpr r)]
theorem own_getD (xs : List Int32) (i : Nat) (iv : Int32) (h : iv.toInt = i) : (xs.map Value.int).getD iv.toNatClampNeg (.int (0 : Int32)) = .int (xs.getD i 0) := by
  have e : iv.toNatClampNeg = i := by simp only [Int32.toNatClampNeg, h]; rfl
  rw [e]
  simp only [List.getD, List.getElem?_map]
  cases xs[i]? <;> rfl
theorem own_ext (xs ys : List Int32) (hl : xs.length = ys.length) (h : ∀ j, j < xs.length → xs.getD j 0 = ys.getD j 0) : xs = ys :=
  List.ext_getElem hl fun i h1 h2 => by
    have q := h i h1
    simpa [List.getD, h1, h2] using q
theorem own_succ (iv : Int32) (i : Nat) (h : iv.toInt = i) (hi : i < 2147483647) : (iv + (1 : Int32)).toInt = ((i + 1 : Nat) : Int) := by
  have a := c_iadd iv (1 : Int32)
  have b := rng32 (iv + (1 : Int32))
  rw [show (1 : Int32).toInt = 1 from rfl] at a
  omega
theorem own_nsub {Z : State} {a0 : Array Value} {C O K : String} {n : Nat} (w : (Cond.superclass C O).before a0 Z = true) (w0 : (Cond.noSuperclass O).before a0 Z = true) (wk : (Cond.instantiable K n).before a0 Z = true) (hC : C ≠ K) (hO : O ≠ K) : ∃ c t, Z.vm.findClass C = some c ∧ Z.vm.findClass K = some t ∧ Z.vm.assignable c t = false := by
  obtain ⟨t, kt, t1, t2, t3, t4, -⟩ := Cond.instantiable_spec wk
  obtain ⟨o, ko, o1, o2, o3, -, -⟩ := Cond.noSuperclass_spec w0
  obtain ⟨c, h0⟩ := found_sup w
  obtain ⟨q, k, kp, h1, h2, h3, h4, h5, -, h7⟩ := Cond.superclass_spec h0 w
  cases o1.symm.trans h1
  have ne := ids_ne h0 t1 hC
  have ne' := ids_ne o1 t1 hO
  have n1 : ∀ fuel, Z.vm.isSubclassAux fuel o t = false := fun fuel => by
    cases fuel with
    | zero => rfl
    | succ f => simp [Vm.isSubclassAux, ne', o2, o3]
  have n2 : ∀ fuel, Z.vm.isSubclassAux fuel c t = false := fun fuel => by
    cases fuel with
    | zero => rfl
    | succ f => simp [Vm.isSubclassAux, ne, h2, h4, n1]
  simp only [Bool.or_eq_false_iff] at t4
  refine ⟨c, t, h0, t1, ?_⟩
  show Z.vm.assignableAux (255 + 1) c t = false
  simp [Vm.assignableAux, ne, h2, t2, h5, t3, t4.1, Vm.isSubclass, n2]
def own_enc (n c d : Int32) (co : Int32) (xs : List Int32) : Prop :=
  (n = 0 ∧ co = 0 ∧ xs = []) ∨ (n = 1 ∧ ¬ ((255 : Int32) < c) ∧ co = 0 ∧ xs = [(nar .byte (c.toInt8.toInt32))]) ∨ (n = 1 ∧ (255 : Int32) < c ∧ co = 1 ∧ xs = [(nar .byte ((c >>> ((0 : Int32) &&& 31)).toInt8.toInt32)), (nar .byte ((c >>> ((8 : Int32) &&& 31)).toInt8.toInt32))]) ∨ (n = 2 ∧ (¬ ((255 : Int32) < c) ∧ ¬ ((255 : Int32) < d)) ∧ co = 0 ∧ xs = [(nar .byte (c.toInt8.toInt32)), (nar .byte (d.toInt8.toInt32))]) ∨ (n = 2 ∧ ((255 : Int32) < c ∨ (255 : Int32) < d) ∧ co = 1 ∧ xs = [(nar .byte ((c >>> ((0 : Int32) &&& 31)).toInt8.toInt32)), (nar .byte ((c >>> ((8 : Int32) &&& 31)).toInt8.toInt32)), (nar .byte ((d >>> ((0 : Int32) &&& 31)).toInt8.toInt32)), (nar .byte ((d >>> ((8 : Int32) &&& 31)).toInt8.toInt32))])
theorem own_bt (c : Int32) : (((nar .byte (c.toInt8.toInt32))).toInt - c.toInt) % 256 = 0 ∧ -128 ≤ ((nar .byte (c.toInt8.toInt32))).toInt ∧ ((nar .byte (c.toInt8.toInt32))).toInt < 128 := by
  have a := c_i2b c
  have b := c_i2b c.toInt8.toInt32
  simp only [nar]
  omega
theorem own_ht (c : Int32) : (((nar .byte ((c >>> ((0 : Int32) &&& 31)).toInt8.toInt32))).toInt - c.toInt) % 256 = 0 ∧ -128 ≤ ((nar .byte ((c >>> ((0 : Int32) &&& 31)).toInt8.toInt32))).toInt ∧ ((nar .byte ((c >>> ((0 : Int32) &&& 31)).toInt8.toInt32))).toInt < 128 := by
  have s := c_ishr c (0 : Int32) 0 (by decide)
  have a := c_i2b (c >>> ((0 : Int32) &&& 31))
  have b := c_i2b (c >>> ((0 : Int32) &&& 31)).toInt8.toInt32
  simp only [nar]
  omega
theorem own_lt8 (c : Int32) : (((nar .byte ((c >>> ((8 : Int32) &&& 31)).toInt8.toInt32))).toInt - c.toInt / 256) % 256 = 0 ∧ -128 ≤ ((nar .byte ((c >>> ((8 : Int32) &&& 31)).toInt8.toInt32))).toInt ∧ ((nar .byte ((c >>> ((8 : Int32) &&& 31)).toInt8.toInt32))).toInt < 128 := by
  have s := c_ishr c (8 : Int32) 8 (by decide)
  have a := c_i2b (c >>> ((8 : Int32) &&& 31))
  have b := c_i2b (c >>> ((8 : Int32) &&& 31)).toInt8.toInt32
  simp only [nar]
  omega
theorem own_bq (c c' : Int32) (r : 0 ≤ c.toInt ∧ c.toInt ≤ 65535) (r' : 0 ≤ c'.toInt ∧ c'.toInt ≤ 65535) (u : ¬ ((255 : Int32) < c)) (u' : ¬ ((255 : Int32) < c')) : (nar .byte (c.toInt8.toInt32)) = (nar .byte (c'.toInt8.toInt32)) ↔ c = c' := by
  have a := own_bt c
  have a' := own_bt c'
  rw [Int32.lt_iff_toInt_lt, show (255 : Int32).toInt = 255 from rfl] at u u'
  rw [← Int32.toInt_inj, ← Int32.toInt_inj]
  omega
theorem own_hq (c c' : Int32) (r : 0 ≤ c.toInt ∧ c.toInt ≤ 65535) (r' : 0 ≤ c'.toInt ∧ c'.toInt ≤ 65535) : ((nar .byte ((c >>> ((0 : Int32) &&& 31)).toInt8.toInt32)) = (nar .byte ((c' >>> ((0 : Int32) &&& 31)).toInt8.toInt32)) ∧ (nar .byte ((c >>> ((8 : Int32) &&& 31)).toInt8.toInt32)) = (nar .byte ((c' >>> ((8 : Int32) &&& 31)).toInt8.toInt32))) ↔ c = c' := by
  have a := own_ht c
  have a' := own_ht c'
  have b := own_lt8 c
  have b' := own_lt8 c'
  rw [← Int32.toInt_inj, ← Int32.toInt_inj, ← Int32.toInt_inj]
  omega
theorem own_law {n n' c d c' d' co co' : Int32} {xs xs' : List Int32} (rc : 0 ≤ c.toInt ∧ c.toInt ≤ 65535) (rd : 0 ≤ d.toInt ∧ d.toInt ≤ 65535) (rc' : 0 ≤ c'.toInt ∧ c'.toInt ≤ 65535) (rd' : 0 ≤ d'.toInt ∧ d'.toInt ≤ 65535) (E : own_enc n c d co xs) (E' : own_enc n' c' d' co' xs') : (co = co' ∧ xs = xs') ↔ (n = n' ∧ (n < 1 ∨ c = c') ∧ (n < 2 ∨ d = d')) := by
  have h01 : ¬ ((0 : Int32) = 1) := by decide
  have h02 : ¬ ((0 : Int32) = 2) := by decide
  have h10 : ¬ ((1 : Int32) = 0) := by decide
  have h12 : ¬ ((1 : Int32) = 2) := by decide
  have h20 : ¬ ((2 : Int32) = 0) := by decide
  have h21 : ¬ ((2 : Int32) = 1) := by decide
  have l01 : (0 : Int32) < 1 := by decide
  have l02 : (0 : Int32) < 2 := by decide
  have l11 : ¬ ((1 : Int32) < 1) := by decide
  have l12 : (1 : Int32) < 2 := by decide
  have l21 : ¬ ((2 : Int32) < 1) := by decide
  have l22 : ¬ ((2 : Int32) < 2) := by decide
  have hc := own_hq c c' rc rc'
  have hd := own_hq d d' rd rd'
  rcases E with ⟨rfl, rfl, rfl⟩ | ⟨rfl, u, rfl, rfl⟩ | ⟨rfl, u, rfl, rfl⟩ | ⟨rfl, u, rfl, rfl⟩ | ⟨rfl, u, rfl, rfl⟩ <;> rcases E' with ⟨rfl, rfl, rfl⟩ | ⟨rfl, u', rfl, rfl⟩ | ⟨rfl, u', rfl, rfl⟩ | ⟨rfl, u', rfl, rfl⟩ | ⟨rfl, u', rfl, rfl⟩
  case inl.inl => simp [l01, l02]
  case inr.inl.inr.inl => simp only [List.cons.injEq, and_true, true_and, l11, l12, false_or, true_or, own_bq c c' rc rc' u u']
  case inr.inl.inr.inr.inl => simp only [h01, false_and, true_and, l11, l12, false_or, true_or, and_true]; exact ⟨False.elim, fun q => u (q ▸ u')⟩
  case inr.inr.inl.inr.inl => simp only [h10, false_and, true_and, l11, l12, false_or, true_or, and_true]; exact ⟨False.elim, fun q => u' (q ▸ u)⟩
  case inr.inr.inl.inr.inr.inl => simp only [List.cons.injEq, and_true, true_and, l11, l12, false_or, true_or]; exact hc
  case inr.inr.inr.inl.inr.inr.inr.inl => simp only [List.cons.injEq, and_true, true_and, l21, l22, false_or, own_bq c c' rc rc' u.1 u'.1, own_bq d d' rd rd' u.2 u'.2]
  case inr.inr.inr.inl.inr.inr.inr.inr => simp only [h01, false_and, true_and, l21, l22, false_or]; exact ⟨False.elim, fun ⟨q1, q2⟩ => u'.elim (fun z => u.1 (q1 ▸ z)) (fun z => u.2 (q2 ▸ z))⟩
  case inr.inr.inr.inr.inr.inr.inr.inl => simp only [h10, false_and, true_and, l21, l22, false_or]; exact ⟨False.elim, fun ⟨q1, q2⟩ => u.elim (fun z => u'.1 (q1 ▸ z)) (fun z => u'.2 (q2 ▸ z))⟩
  case inr.inr.inr.inr.inr.inr.inr.inr => simp only [List.cons.injEq, and_true, true_and, l21, l22, false_or]; rw [← hc, ← hd]; exact ⟨fun ⟨a, b, c, d⟩ => ⟨⟨a, b⟩, c, d⟩, fun ⟨⟨a, b⟩, c, d⟩ => ⟨a, b, c, d⟩⟩
  all_goals simp [h01, h02, h10, h12, h20, h21]
theorem own_nc (c : Int32) (r : 0 ≤ c.toInt ∧ c.toInt ≤ 65535) : nar .char c = c := by
  have a := c_i2c c
  simp only [nar]
  apply Int32.toInt_inj.mp
  omega
theorem own_r16 (x : Int32) : 0 ≤ ((x &&& (65535 : Int32)).toUInt32.toUInt16.toUInt32.toInt32).toInt ∧ ((x &&& (65535 : Int32)).toUInt32.toUInt16.toUInt32.toInt32).toInt ≤ 65535 := by
  have a := c_i2c (x &&& (65535 : Int32))
  omega
def Q_rmIE0 (Z : State) (a : Addr) (d : Addr)  (h0 : Heap) (n0 : Nat) : Option Value → Heap → List Loc → Prop := (fun v h L => v = none ∧ Fr n0 L ∧ Keep h0 h [a] ∧ Exa Z h a "java/lang/String" ∧ Fld Z h a "java/lang/String" "coder" "B" (.int (0 : Int32)) ∧ ∃ b k2, Fld Z h a "java/lang/String" "value" "[B" (.ref b) ∧ Arv Z h b k2 .byte (0 : Int32) [] (.int (0 : Int32)))
theorem pn_java_lang_String : plainName "java/lang/String" = true := by first | (simp [plainName, overriddenIn]; done) | decide +kernel
theorem ef_jdk_42_method_149_RRIIN (m : MethodId) (x0 : Addr) (x1 : Addr) (x2 : Int32) (x3 : Int32)  : entryFrame m #[(.ref x0), (.ref x1), (.int x2), (.int x3), .null] 6 = mkF m 0 #[.val (.ref x0), .val (.ref x1), .val (.int x2), .val (.int x3), .val .null, .unset] [] := by first | (simp [entryFrame, mkF, argsToLocals, Value.category]; done) | rfl
theorem d_jdk_42_method_149_0 : decode jdk_42_method_149_code 0 = .ok (.aload_n 0, 1) := by decide +kernel
theorem d_jdk_42_method_149_1 : decode jdk_42_method_149_code 1 = .ok (.invokespecial 1, 3) := by decide +kernel
theorem d_jdk_42_method_149_4 : decode jdk_42_method_149_code 4 = .ok (.iload_n 3, 1) := by decide +kernel
theorem d_jdk_42_method_149_5 : decode jdk_42_method_149_code 5 = .ok (.ifCond .ne 22, 3) := by decide +kernel
theorem d_jdk_42_method_149_8 : decode jdk_42_method_149_code 8 = .ok (.aload_n 0, 1) := by decide +kernel
theorem d_jdk_42_method_149_9 : decode jdk_42_method_149_code 9 = .ok (.ldc 7, 2) := by decide +kernel
theorem d_jdk_42_method_149_11 : decode jdk_42_method_149_code 11 = .ok (.getfield 9, 3) := by decide +kernel
theorem d_jdk_42_method_149_14 : decode jdk_42_method_149_code 14 = .ok (.putfield 9, 3) := by decide +kernel
theorem d_jdk_42_method_149_17 : decode jdk_42_method_149_code 17 = .ok (.aload_n 0, 1) := by decide +kernel
theorem d_jdk_42_method_149_18 : decode jdk_42_method_149_code 18 = .ok (.ldc 7, 2) := by decide +kernel
theorem d_jdk_42_method_149_20 : decode jdk_42_method_149_code 20 = .ok (.getfield 15, 3) := by decide +kernel
theorem d_jdk_42_method_149_23 : decode jdk_42_method_149_code 23 = .ok (.putfield 15, 3) := by decide +kernel
theorem d_jdk_42_method_149_26 : decode jdk_42_method_149_code 26 = .ok (.return_, 1) := by decide +kernel
set_option maxRecDepth 65536 in
set_option maxHeartbeats 40000000 in
theorem rmIE0 (l : Launch) (Z : State) (a0 : Array Value) (hw : ∀ d ∈ tables_1, d.before a0 Z = true) (ws : List Jvm.Cond) (a : Addr) (d : Addr)  (h0 : Heap) (n0 : Nat) (Z0 : n0 ≤ h0.size) (E_a : Exa Z h0 a "java/lang/String") (F_v : Fld Z h0 a "java/lang/String" "value" "[B" .null) (F_c : Fld Z h0 a "java/lang/String" "coder" "B" (.int (0 : Int32))) (g_a : n0 ≤ a) (hEL : EW Z a0 [("java/lang/String", 7)]) :
    MetFree l (⟨"java/lang/String", "<init>", "([CIILjava/lang/Void;)V"⟩ : MethodName) (head1 (Jvm.Cond.code (⟨"java/lang/String", "<init>", "([CIILjava/lang/Void;)V"⟩ : MethodName) jdk_42_method_149_code 6 none :: ws) ({ frames := 1, cells := 2, slots := 4, locals := 12 } : Room)) (fun ar_ U => ar_ = #[(.ref a), (.ref d), (.int (0 : Int32)), (.int (0 : Int32)), .null] ∧ Z.Warmed39 U.vm ∧ U.heap = h0 ∧ CHv Z [("java/lang/String", 7)] U.vm h0) (fun _ _ _ _ _ => True) (fun _ U o U' => PhiH Z [("java/lang/String", 7)] U (Q_rmIE0 Z a d h0 n0) ({ frames := 1, cells := 2, slots := 4, locals := 12 } : Room).cells ({ frames := 1, cells := 2, slots := 4, locals := 12 } : Room).slots o U') := by
  refine MetFree.of_bodySF (plainFor_of_name pn_java_lang_String) hisR ?_
  intro p e s m args below meth c s₁ Bd hml0 hP hK
  obtain ⟨rfl, hZ, hh, HC0⟩ := hP
  have HR := CHr.refl HC0
  have hS : s.Since s.vm h0.size := (State.WarmedH.refl s).since _
  have hk := Nat.le_refl h0.size
  have hZ0 := hZ
  have hx := Bd.exec
  have hby := Bd.bytes
  have hlk := Bd.notSynchronized
  have hml : c.maxLocals = 6 := hml0
  have hown : s.vm.findClass "java/lang/String" = some m.cls := findClass_of_methodNamed Bd.named
  have hown0 := hown
  have hnm := (name_of_methodNamed Bd.named Bd.method).1
  have hret := Bd.returns
  have X0 : Stand p l e ({ frames := 1, cells := 2, slots := 4, locals := 12 } : Room) s m #[(.ref a), (.ref d), (.int (0 : Int32)), (.int (0 : Int32)), .null] below meth c s₁ [] 0 0 := Stand.of_body Bd
  have e0 : s₁.heap = h0 := by rw [← hh, Bd.state]; rfl
  have N0 := Fr.nil n0
  have sz := Z0
  have K := Keep.refl h0 [a]
  show Runs p.tables e below (PhiH Z [("java/lang/String", 7)] s (Q_rmIE0 Z a d h0 n0) ({ frames := 1, cells := 2, slots := 4, locals := 12 } : Room).cells ({ frames := 1, cells := 2, slots := 4, locals := 12 } : Room).slots) _
  refine Runs.st (fun t' k' => castTop (ef_jdk_42_method_149_RRIIN m a d (0 : Int32) (0 : Int32) ) k') ?_
  show Runs p.tables e below _ (s₁.setTop (mkF m 0 #[.val (.ref a), .val (.ref d), .val (.int (0 : Int32)), .val (.int (0 : Int32)), .val .null, .unset] []))
  have Sf_a := safe_null (EL := [("java/lang/String", 7)]) hZ.alike F_v E_a (hw _ (List.mem_of_getElem? (i := 6) rfl))
  refine Runs.st (fun t' k' => XS.aloadN X0.here hx rfl (hb hby d_jdk_42_method_149_0) rfl rfl k') ?_
  obtain ⟨T1_, X1_, e1_, st1_⟩ := initO X0 hx hZ hown (hw _ (List.mem_of_getElem? (i := 16) rfl)) (hw _ (List.mem_of_getElem? (i := 17) rfl)) (hw _ (List.mem_of_getElem? (i := 18) rfl)) e0 (g := (mkF m 1 #[.val (.ref a), .val (.ref d), .val (.int (0 : Int32)), .val (.int (0 : Int32)), .val .null, .unset] [(.ref a)])) rfl (by rw [hml]; rfl) rfl (hb hby d_jdk_42_method_149_1) (by decide) (W := 0) (by show 2 * 0 + _ ≤ _; exact Nat.le_of_eq rfl) (by decide)
  refine Runs.st (st1_) ?_
  show Runs p.tables e below _ (T1_.setTop (mkF m 4 #[.val (.ref a), .val (.ref d), .val (.int (0 : Int32)), .val (.int (0 : Int32)), .val .null, .unset] []))
  refine Runs.st (fun t' k' => XS.iloadN X1_.here hx rfl (hb hby d_jdk_42_method_149_4) rfl k') ?_
  refine Runs.st (fun t' k' => XS.ifNo X1_.here hx rfl (hb hby d_jdk_42_method_149_5) rfl ((if0 _ _).trans (teq rfl).2) k') ?_
  show Runs p.tables e below _ (T1_.setTop (mkF m 8 #[.val (.ref a), .val (.ref d), .val (.int (0 : Int32)), .val (.int (0 : Int32)), .val .null, .unset] []))
  refine Runs.st (fun t' k' => XS.aloadN X1_.here hx rfl (hb hby d_jdk_42_method_149_8) rfl rfl k') ?_
  have wS2_ : ∀ a ∈ Bundle.stringAtoms, a.before a0 Z = true := by
    intro a ha
    simp only [Bundle.stringAtoms, Bundle.sN, List.mem_cons, List.not_mem_nil, or_false] at ha
    rcases ha with rfl | rfl | rfl | rfl | rfl | rfl | rfl
    · exact (hw _ (List.mem_of_getElem? (i := 7) rfl))
    · exact (hw _ (List.mem_of_getElem? (i := 6) rfl))
    · exact (hw _ (List.mem_of_getElem? (i := 20) rfl))
    · exact (hw _ (List.mem_of_getElem? (i := 21) rfl))
    · exact (hw _ (List.mem_of_getElem? (i := 22) rfl))
    · exact (hw _ (List.mem_of_getElem? (i := 23) rfl))
    · exact (hw _ (List.mem_of_getElem? (i := 24) rfl))
  obtain ⟨lt, T2_, h2_, j2_, v_lt, kc2_, X2_, e2_, E2_, hS2_, hk2_, hZ2_, hown2_, E_lt, Fc_lt, Fv_lt, V_lt, -, -, HR2_, Lt_lt, hne2_, st2_⟩ := ldcCH (s := s) (vm0 := s.vm) (X := (show Stand p l e ({ frames := 1, cells := 2, slots := 4, locals := 12 } : Room) (s.setVm s.vm) m _ below meth c _ _ _ _ from X1_)) hx hZ hown (hw _ (List.mem_of_getElem? (i := 19) rfl)) wS2_ e1_ hS hk hEL (by simp) HR.1 (vs := []) (z := (0 : Int32)) ⟨by decide, by first | rfl | decide +kernel⟩ (by decide) (by decide) (g := (mkF m 9 #[.val (.ref a), .val (.ref d), .val (.int (0 : Int32)), .val (.int (0 : Int32)), .val .null, .unset] [(.ref a)])) rfl (hb hby d_jdk_42_method_149_9) (n := 0) (by decide) (by decide) (by decide) (by decide)
  replace Sf_a := HR2_.safe E_a.lt Sf_a
  replace HR := HR.trans HR2_
  refine Runs.st st2_ ?_
  replace E_a := E_a.ext E2_
  replace F_v := F_v.ext E2_
  replace F_c := F_c.ext E2_
  replace sz := Nat.le_trans sz E2_.1
  replace K := K.ext E2_
  replace hk := Nat.le_trans hk E2_.1
  have hS := hS2_
  have hk := hk2_
  have hZ := hZ2_
  have hown := hown2_
  show Runs p.tables e below _ (T2_.setTop (mkF m 11 #[.val (.ref a), .val (.ref d), .val (.int (0 : Int32)), .val (.int (0 : Int32)), .val .null, .unset] [(.ref lt), (.ref a)]))
  obtain ⟨ne_a_lt, ne_a_v_lt⟩ := hne2_ a Sf_a
  obtain ⟨T3_, X3_, e3_, st3_⟩ := getF X2_ hx hZ hown (host := "") (Or.inl (hw _ (List.mem_of_getElem? (i := 25) rfl))) Via.refl e2_ Fv_lt (g := (mkF m 11 #[.val (.ref a), .val (.ref d), .val (.int (0 : Int32)), .val (.int (0 : Int32)), .val .null, .unset] [(.ref lt), (.ref a)])) rfl rfl (hb hby d_jdk_42_method_149_11)
  refine Runs.st (st3_) ?_
  show Runs p.tables e below _ (T3_.setTop (mkF m 14 #[.val (.ref a), .val (.ref d), .val (.int (0 : Int32)), .val (.int (0 : Int32)), .val .null, .unset] [(.ref v_lt), (.ref a)]))
  obtain ⟨T4_, h4_, X4_, e4_, W4_, st4_⟩ := putF X3_ hx hZ hown (host := "") (Or.inl (hw _ (List.mem_of_getElem? (i := 25) rfl))) Via.refl e3_ F_v E_a (Or.inr ⟨(hw _ (List.mem_of_getElem? (i := 21) rfl)), rfl, hnm⟩) (hw _ (List.mem_of_getElem? (i := 6) rfl)) (ty := (.array .byte)) (by decide) rfl rfl (g := (mkF m 14 #[.val (.ref a), .val (.ref d), .val (.int (0 : Int32)), .val (.int (0 : Int32)), .val .null, .unset] [(.ref v_lt), (.ref a)])) rfl rfl (hb hby d_jdk_42_method_149_14)
  refine Runs.st (st4_) ?_
  replace F_v := F_v.same W4_
  replace E_a := Jvm.RoadKit.Exa.wr W4_ E_a
  replace F_c := F_c.other W4_ (Or.inr (slot_ne (Or.inr (hw _ (List.mem_of_getElem? (i := 22) rfl))) (Or.inr (hw _ (List.mem_of_getElem? (i := 21) rfl))) (by decide) (t := .byte) (t' := (.array .byte)) (by decide) (by decide)))
  replace E_lt := Jvm.RoadKit.Exa.wr W4_ E_lt
  replace Fc_lt := Fc_lt.other W4_ (Or.inl (Ne.symm ne_a_lt))
  replace Fv_lt := Fv_lt.other W4_ (Or.inl (Ne.symm ne_a_lt))
  replace V_lt := V_lt.other W4_ (Ne.symm ne_a_v_lt)
  replace sz := Nat.le_trans sz (Keep.of_wr W4_).1
  replace hk := Nat.le_trans hk (Keep.of_wr W4_).1
  have Sg_a := Safe.wr W4_ Sf_a HR.1 Sf_a
  replace HR := HR.trans (CHr.wr W4_ Sf_a HR.1)
  have Sf_a := Sg_a
  have N4_ := Fr.snoc X4_ N0 g_a
  replace K := K.wr W4_ (Or.inl (List.mem_of_getElem? (i := 0) rfl))
  show Runs p.tables e below _ (T4_.setTop (mkF m 17 #[.val (.ref a), .val (.ref d), .val (.int (0 : Int32)), .val (.int (0 : Int32)), .val .null, .unset] []))
  refine Runs.st (fun t' k' => XS.aloadN X4_.here hx rfl (hb hby d_jdk_42_method_149_17) rfl rfl k') ?_
  refine Runs.st (ldcAgain (s := s) (vm0 := T2_.vm) (X := (show Stand p l e ({ frames := 1, cells := 2, slots := 4, locals := 12 } : Room) (s.setVm T2_.vm) m _ below meth c _ _ _ _ from X4_)) hx hZ hown (hw _ (List.mem_of_getElem? (i := 19) rfl)) Lt_lt (g := (mkF m 18 #[.val (.ref a), .val (.ref d), .val (.int (0 : Int32)), .val (.int (0 : Int32)), .val .null, .unset] [(.ref a)])) rfl (hb hby d_jdk_42_method_149_18)) ?_
  show Runs p.tables e below _ (T4_.setTop (mkF m 20 #[.val (.ref a), .val (.ref d), .val (.int (0 : Int32)), .val (.int (0 : Int32)), .val .null, .unset] [(.ref lt), (.ref a)]))
  obtain ⟨T5_, X5_, e5_, st5_⟩ := getF X4_ hx hZ hown (host := "") (Or.inl (hw _ (List.mem_of_getElem? (i := 26) rfl))) Via.refl e4_ Fc_lt (g := (mkF m 20 #[.val (.ref a), .val (.ref d), .val (.int (0 : Int32)), .val (.int (0 : Int32)), .val .null, .unset] [(.ref lt), (.ref a)])) rfl rfl (hb hby d_jdk_42_method_149_20)
  refine Runs.st (st5_) ?_
  show Runs p.tables e below _ (T5_.setTop (mkF m 23 #[.val (.ref a), .val (.ref d), .val (.int (0 : Int32)), .val (.int (0 : Int32)), .val .null, .unset] [(.int (0 : Int32)), (.ref a)]))
  obtain ⟨T6_, h6_, X6_, e6_, W6_, st6_⟩ := putFN X5_ hx hZ hown (hw _ (List.mem_of_getElem? (i := 26) rfl)) Via.refl e5_ F_c E_a (Or.inr ⟨(hw _ (List.mem_of_getElem? (i := 22) rfl)), rfl, hnm⟩) (hw _ (List.mem_of_getElem? (i := 6) rfl)) (ty := .byte) (v' := .int (0 : Int32)) (by decide) rfl rfl (g := (mkF m 23 #[.val (.ref a), .val (.ref d), .val (.int (0 : Int32)), .val (.int (0 : Int32)), .val .null, .unset] [(.int (0 : Int32)), (.ref a)])) rfl rfl (hb hby d_jdk_42_method_149_23)
  refine Runs.st (st6_) ?_
  replace F_c := F_c.same W6_
  replace E_a := Jvm.RoadKit.Exa.wr W6_ E_a
  replace E_lt := Jvm.RoadKit.Exa.wr W6_ E_lt
  replace Fc_lt := Fc_lt.other W6_ (Or.inl (Ne.symm ne_a_lt))
  replace Fv_lt := Fv_lt.other W6_ (Or.inl (Ne.symm ne_a_lt))
  replace V_lt := V_lt.other W6_ (Ne.symm ne_a_v_lt)
  replace F_v := F_v.other W6_ (Or.inr (slot_ne (Or.inr (hw _ (List.mem_of_getElem? (i := 21) rfl))) (Or.inr (hw _ (List.mem_of_getElem? (i := 22) rfl))) (by decide) (t := (.array .byte)) (t' := .byte) (by decide) (by decide)))
  replace sz := Nat.le_trans sz (Keep.of_wr W6_).1
  replace hk := Nat.le_trans hk (Keep.of_wr W6_).1
  have Sg_a := Safe.wr W6_ Sf_a HR.1 Sf_a
  replace HR := HR.trans (CHr.wr W6_ Sf_a HR.1)
  have Sf_a := Sg_a
  have N6_ := Fr.snoc X6_ N4_ g_a
  replace K := K.wr W6_ (Or.inl (List.mem_of_getElem? (i := 0) rfl))
  show Runs p.tables e below _ (T6_.setTop (mkF m 26 #[.val (.ref a), .val (.ref d), .val (.int (0 : Int32)), .val (.int (0 : Int32)), .val .null, .unset] []))
  refine Runs.retH (s := s) (vm₁ := T2_.vm) X6_ hS (by rw [e6_]; exact hk) hlk (v := none) (fun _ => rfl) (by decide) (by decide) ?_ (by rw [hh, e6_]; exact HR.trans (CHv.at (show Stand p l e ({ frames := 1, cells := 2, slots := 4, locals := 12 } : Room) (s.setVm T2_.vm) m _ below meth c _ _ _ _ from X6_) hZ hEL HR.1)) (fun fs hr => X6_.returnOut hx hret (hb hby d_jdk_42_method_149_26) hr)
  try rw [e6_]
  exact ⟨rfl, N6_, K, E_a, F_c, v_lt, _, F_v, V_lt⟩
def Q_rmIE (Z : State) (a : Addr) (d : Addr) (k1 : ClassId) (h0 : Heap) (n0 : Nat) : Option Value → Heap → List Loc → Prop := (fun v h L => v = none ∧ Fr n0 L ∧ Keep h0 h [a] ∧ Exa Z h a "java/lang/String" ∧ Fld Z h a "java/lang/String" "coder" "B" (.int (0 : Int32)) ∧ ∃ b k2, Fld Z h a "java/lang/String" "value" "[B" (.ref b) ∧ Arv Z h b k2 .byte (0 : Int32) [] (.int (0 : Int32)))
theorem ef_jdk_42_method_3_RR (m : MethodId) (x0 : Addr) (x1 : Addr)  : entryFrame m #[(.ref x0), (.ref x1)] 2 = mkF m 0 #[.val (.ref x0), .val (.ref x1)] [] := by first | (simp [entryFrame, mkF, argsToLocals, Value.category]; done) | rfl
theorem d_jdk_42_method_3_0 : decode jdk_42_method_3_code 0 = .ok (.aload_n 0, 1) := by decide +kernel
theorem d_jdk_42_method_3_1 : decode jdk_42_method_3_code 1 = .ok (.aload_n 1, 1) := by decide +kernel
theorem d_jdk_42_method_3_2 : decode jdk_42_method_3_code 2 = .ok (.iconst 0, 1) := by decide +kernel
theorem d_jdk_42_method_3_3 : decode jdk_42_method_3_code 3 = .ok (.aload_n 1, 1) := by decide +kernel
theorem d_jdk_42_method_3_4 : decode jdk_42_method_3_code 4 = .ok (.arraylength, 1) := by decide +kernel
theorem d_jdk_42_method_3_5 : decode jdk_42_method_3_code 5 = .ok (.aconst_null, 1) := by decide +kernel
theorem pd__28_5bCIILjava_2flang_2fVoid_3b_29V : parseMethodDescriptor "([CIILjava/lang/Void;)V" = some ⟨[(.array .char), .int, .int, (.object "java/lang/Void")], none⟩ := by decide +kernel
theorem d_jdk_42_method_3_6 : decode jdk_42_method_3_code 6 = .ok (.invokespecial 27, 3) := by decide +kernel
theorem d_jdk_42_method_3_9 : decode jdk_42_method_3_code 9 = .ok (.return_, 1) := by decide +kernel
set_option maxRecDepth 65536 in
set_option maxHeartbeats 40000000 in
theorem rmIE (l : Launch) (Z : State) (a0 : Array Value) (hw : ∀ d ∈ tables_1, d.before a0 Z = true) (ws : List Jvm.Cond) (a : Addr) (d : Addr) (k1 : ClassId) (h0 : Heap) (n0 : Nat) (Z0 : n0 ≤ h0.size) (E_a : Exa Z h0 a "java/lang/String") (F_v : Fld Z h0 a "java/lang/String" "value" "[B" .null) (F_c : Fld Z h0 a "java/lang/String" "coder" "B" (.int (0 : Int32))) (g_a : n0 ≤ a) (hEL : EW Z a0 [("java/lang/String", 7)]) (V_d : Arv Z h0 d k1 .char (0 : Int32) [] (.int (0 : Int32))) :
    MetFree l (⟨"java/lang/String", "<init>", "([C)V"⟩ : MethodName) (head1 (Jvm.Cond.code (⟨"java/lang/String", "<init>", "([C)V"⟩ : MethodName) jdk_42_method_3_code 2 none :: ws) ({ frames := 2, cells := 2, slots := 4, locals := 29 } : Room)) (fun ar_ U => ar_ = #[(.ref a), (.ref d)] ∧ Z.Warmed39 U.vm ∧ U.heap = h0 ∧ CHv Z [("java/lang/String", 7)] U.vm h0) (fun _ _ _ _ _ => True) (fun _ U o U' => PhiH Z [("java/lang/String", 7)] U (Q_rmIE Z a d k1 h0 n0) ({ frames := 2, cells := 2, slots := 4, locals := 29 } : Room).cells ({ frames := 2, cells := 2, slots := 4, locals := 29 } : Room).slots o U') := by
  refine MetFree.of_bodySF (plainFor_of_name pn_java_lang_String) hisR ?_
  intro p e s m args below meth c s₁ Bd hml0 hP hK
  obtain ⟨rfl, hZ, hh, HC0⟩ := hP
  have HR := CHr.refl HC0
  have hS : s.Since s.vm h0.size := (State.WarmedH.refl s).since _
  have hk := Nat.le_refl h0.size
  have hZ0 := hZ
  have hx := Bd.exec
  have hby := Bd.bytes
  have hlk := Bd.notSynchronized
  have hml : c.maxLocals = 2 := hml0
  have hown : s.vm.findClass "java/lang/String" = some m.cls := findClass_of_methodNamed Bd.named
  have hown0 := hown
  have hnm := (name_of_methodNamed Bd.named Bd.method).1
  have hret := Bd.returns
  have X0 : Stand p l e ({ frames := 2, cells := 2, slots := 4, locals := 29 } : Room) s m #[(.ref a), (.ref d)] below meth c s₁ [] 0 0 := Stand.of_body Bd
  have e0 : s₁.heap = h0 := by rw [← hh, Bd.state]; rfl
  have N0 := Fr.nil n0
  have sz := Z0
  have K := Keep.refl h0 [a]
  show Runs p.tables e below (PhiH Z [("java/lang/String", 7)] s (Q_rmIE Z a d k1 h0 n0) ({ frames := 2, cells := 2, slots := 4, locals := 29 } : Room).cells ({ frames := 2, cells := 2, slots := 4, locals := 29 } : Room).slots) _
  refine Runs.st (fun t' k' => castTop (ef_jdk_42_method_3_RR m a d ) k') ?_
  show Runs p.tables e below _ (s₁.setTop (mkF m 0 #[.val (.ref a), .val (.ref d)] []))
  refine Runs.st (fun t' k' => XS.aloadN X0.here hx rfl (hb hby d_jdk_42_method_3_0) rfl rfl k') ?_
  refine Runs.st (fun t' k' => XS.aloadN X0.here hx rfl (hb hby d_jdk_42_method_3_1) rfl rfl k') ?_
  refine Runs.st (fun t' k' => XS.iconst X0.here hx rfl (hb hby d_jdk_42_method_3_2) k') ?_
  refine Runs.st (fun t' k' => XS.aloadN X0.here hx rfl (hb hby d_jdk_42_method_3_3) rfl rfl k') ?_
  obtain ⟨cl1_, Ar1_, -, S1_, M1_, -, -⟩ := id V_d
  refine Runs.st (X0.arraylength hx (by rw [e0]; exact Ar1_.1) (State.isArrayOf_alike hZ.alike Ar1_.2.1) (g := (mkF m 4 #[.val (.ref a), .val (.ref d)] [(.ref d), (.int (0 : Int32)), (.ref d), (.ref a)])) rfl rfl (hb hby d_jdk_42_method_3_4)) ?_
  rw [len_of S1_ M1_]
  show Runs p.tables e below _ (s₁.setTop (mkF m 5 #[.val (.ref a), .val (.ref d)] [(.int (0 : Int32)), (.int (0 : Int32)), (.ref d), (.ref a)]))
  refine Runs.st (fun t' k' => XS.aconstNull X0.here hx rfl (hb hby d_jdk_42_method_3_5) k') ?_
  obtain ⟨_, _, ⟨T2_, L2_, k2_, n2_⟩, -, X2_, hS2_, hg2_, ⟨Lc2_, hQ2_, l2_, y2_, z2_, HR2_⟩, st2_⟩ := (show Stand p l e ({ frames := 2, cells := 2, slots := 4, locals := 29 } : Room) (s.setVm s.vm) m _ below meth c _ _ _ _ from X0).specialBackS hx (y := (⟨"java/lang/String", "<init>", "([CIILjava/lang/Void;)V"⟩ : MethodName)) rfl hown (mvT hZ (hw _ (List.mem_of_getElem? (i := 12) rfl))) (mvT hZ (hw _ (List.mem_of_getElem? (i := 13) rfl))) (mvT hZ (hw _ (List.mem_of_getElem? (i := 15) rfl))) (by decide) (backOfSH (W := 0) (rmIE0 l Z a0 hw [] a d h0 n0 sz E_a F_v F_c g_a hEL) hZ (hw _ (List.mem_of_getElem? (i := 15) rfl)) (hw _ (List.mem_of_getElem? (i := 7) rfl)) (by decide) (by decide) hEL HR.1) (g := (mkF m 6 #[.val (.ref a), .val (.ref d)] [.null, (.int (0 : Int32)), (.int (0 : Int32)), (.ref d), (.ref a)])) rfl (by rw [hml]; rfl) (Steps.refl _) (a := a) (argsL := [(.ref d), (.int (0 : Int32)), (.int (0 : Int32)), .null]) (rest := []) (lenOf pd__28_5bCIILjava_2flang_2fVoid_3b_29V rfl) rfl (by show 2 * 0 + _ ≤ _; exact Nat.le_of_eq rfl) (hb hby d_jdk_42_method_3_6) (fun _ _ => ⟨rfl, e0, (by decide : 0 + 2 ≤ _), (by decide : 0 + 4 ≤ _)⟩)
  dsimp only [Pt.U] at hS2_ hg2_
  dsimp only [Pt.U] at HR2_
  replace HR := HR.trans HR2_
  dsimp only [Pt.U, Pt.locs, Pt.cells, Pt.slots] at X2_ l2_ y2_ z2_ st2_ hQ2_
  subst l2_ y2_ z2_
  obtain ⟨rfl, N2_q, K2_, E_a, F_c, b, k2, F_v, V_b⟩ := hQ2_
  have N2_ := Fr.app N0 N2_q
  replace hS := foldS (vm0 := s.vm) (T := s₁) hS (by rw [e0]; exact hk) hS2_ hg2_
  have hk := Nat.le_refl T2_.heap.size
  replace hZ : Z.Warmed39 (s.setVm T2_.vm).vm := State.Warmed39.trans (t := s) hZ0 hS.1
  replace hown : (s.setVm T2_.vm).vm.findClass "java/lang/String" = some m.cls := by rw [show (s.setVm T2_.vm).vm = T2_.vm from rfl, hS.1.alike.findClass]; exact hown0
  refine Runs.tr st2_ ?_
  replace X2_ := wider X2_ (c' := 2) (s' := 4) (by decide) (by decide)
  replace sz := Nat.le_trans sz K2_.1
  replace K := K.trans K2_ (allS (Or.inl (List.mem_of_getElem? (i := 0) rfl)) all0)
  show Runs p.tables e below _ (T2_.setTop (mkF m 9 #[.val (.ref a), .val (.ref d)] []))
  refine Runs.retH (s := s) (vm₁ := T2_.vm) X2_ hS hk hlk (v := none) (fun _ => rfl) (by decide) (by decide) ?_ (by rw [hh]; exact HR.trans (CHv.at (show Stand p l e ({ frames := 2, cells := 2, slots := 4, locals := 29 } : Room) (s.setVm T2_.vm) m _ below meth c _ _ _ _ from X2_) hZ hEL HR.1)) (fun fs hr => X2_.returnOut hx hret (hb hby d_jdk_42_method_3_9) hr)
  exact ⟨rfl, N2_, K, E_a, F_c, b, k2, F_v, V_b⟩
theorem own_gc (c : Int32) (rg : 0 ≤ c.toInt ∧ c.toInt ≤ 65535) : c = nar .char (((((nar .byte ((c >>> ((0 : Int32) &&& 31)).toInt8.toInt32)) &&& (255 : Int32)) <<< ((0 : Int32) &&& 31)) ||| (((nar .byte ((c >>> ((8 : Int32) &&& 31)).toInt8.toInt32)) &&& (255 : Int32)) <<< ((8 : Int32) &&& 31))).toUInt32.toUInt16.toUInt32.toInt32) := by
  apply Int32.toInt_inj.mp
  have a0 := c_ishr c (0 : Int32) 0 (by decide)
  have a8 := c_ishr c (8 : Int32) 8 (by decide)
  have b0 := c_i2b (c >>> ((0 : Int32) &&& 31))
  have b0' := c_i2b (c >>> ((0 : Int32) &&& 31)).toInt8.toInt32
  have b8 := c_i2b (c >>> ((8 : Int32) &&& 31))
  have b8' := c_i2b (c >>> ((8 : Int32) &&& 31)).toInt8.toInt32
  have m0 : ((c >>> ((0 : Int32) &&& 31)).toInt8.toInt32.toInt8.toInt32 &&& (255 : Int32)).toInt = (c >>> ((0 : Int32) &&& 31)).toInt8.toInt32.toInt8.toInt32.toInt % 2 ^ 8 := Jvm.Kit.i32_mask _ 255 (k := 8) (by decide) (by decide)
  have m8 : ((c >>> ((8 : Int32) &&& 31)).toInt8.toInt32.toInt8.toInt32 &&& (255 : Int32)).toInt = (c >>> ((8 : Int32) &&& 31)).toInt8.toInt32.toInt8.toInt32.toInt % 2 ^ 8 := Jvm.Kit.i32_mask _ 255 (k := 8) (by decide) (by decide)
  have s0 := c_ishl ((c >>> ((0 : Int32) &&& 31)).toInt8.toInt32.toInt8.toInt32 &&& (255 : Int32)) (0 : Int32) 0 (by decide)
  have s8 := c_ishl ((c >>> ((8 : Int32) &&& 31)).toInt8.toInt32.toInt8.toInt32 &&& (255 : Int32)) (8 : Int32) 8 (by decide)
  simp only [nar]
  generalize hx0 : ((c >>> ((0 : Int32) &&& 31)).toInt8.toInt32.toInt8.toInt32 &&& (255 : Int32)) = x0 at *
  generalize hx8 : ((c >>> ((8 : Int32) &&& 31)).toInt8.toInt32.toInt8.toInt32 &&& (255 : Int32)) = x8 at *
  have r0 := rng32 (x0 <<< ((0 : Int32) &&& 31))
  have r8 := rng32 (x8 <<< ((8 : Int32) &&& 31))
  have e0 : (x0 <<< ((0 : Int32) &&& 31)).toInt = x0.toInt := by omega
  have e8 : (x8 <<< ((8 : Int32) &&& 31)).toInt = x8.toInt * 256 := by omega
  have o := c_or' (x0 <<< ((0 : Int32) &&& 31)) (x8 <<< ((8 : Int32) &&& 31)) 8 (by decide) 256 (by decide) (by omega) (by omega) (by omega)
  have ro := rng32 ((x0 <<< ((0 : Int32) &&& 31)) ||| (x8 <<< ((8 : Int32) &&& 31)))
  have i1 := c_i2c ((x0 <<< ((0 : Int32) &&& 31)) ||| (x8 <<< ((8 : Int32) &&& 31)))
  have i2 := c_i2c (((x0 <<< ((0 : Int32) &&& 31)) ||| (x8 <<< ((8 : Int32) &&& 31))).toUInt32.toUInt16.toUInt32.toInt32)
  omega
def Q_rmCA1 (Z : State) (a : Addr) (b : Addr) (c0 : Int32) (k1 k2 : ClassId) (h0 : Heap) (n0 : Nat) : Option Value → Heap → List Loc → Prop := (fun v h L => v = some (.int (1 : Int32)) ∧ Fr n0 L ∧ Keep h0 h [b] ∧ Arv Z h b k2 .byte (1 : Int32) [(.int (nar .byte (c0.toInt8.toInt32)))] (.int (0 : Int32)))
theorem pn_java_lang_StringUTF16 : plainName "java/lang/StringUTF16" = true := by first | (simp [plainName, overriddenIn]; done) | decide +kernel
theorem ef_jdk_52_method_21_RIRII (m : MethodId) (x0 : Addr) (x1 : Int32) (x2 : Addr) (x3 : Int32) (x4 : Int32)  : entryFrame m #[(.ref x0), (.int x1), (.ref x2), (.int x3), (.int x4)] 7 = mkF m 0 #[.val (.ref x0), .val (.int x1), .val (.ref x2), .val (.int x3), .val (.int x4), .unset, .unset] [] := by first | (simp [entryFrame, mkF, argsToLocals, Value.category]; done) | rfl
theorem d_jdk_52_method_21_0 : decode jdk_52_method_21_code 0 = .ok (.iconst 0, 1) := by decide +kernel
theorem d_jdk_52_method_21_1 : decode jdk_52_method_21_code 1 = .ok (.istore 5, 2) := by decide +kernel
theorem d_jdk_52_method_21_3 : decode jdk_52_method_21_code 3 = .ok (.iload 5, 2) := by decide +kernel
theorem d_jdk_52_method_21_5 : decode jdk_52_method_21_code 5 = .ok (.iload 4, 2) := by decide +kernel
theorem d_jdk_52_method_21_7 : decode jdk_52_method_21_code 7 = .ok (.if_icmp .ge 37, 3) := by decide +kernel
theorem d_jdk_52_method_21_10 : decode jdk_52_method_21_code 10 = .ok (.aload_n 0, 1) := by decide +kernel
theorem d_jdk_52_method_21_11 : decode jdk_52_method_21_code 11 = .ok (.iload_n 1, 1) := by decide +kernel
theorem d_jdk_52_method_21_12 : decode jdk_52_method_21_code 12 = .ok (.caload, 1) := by decide +kernel
theorem d_jdk_52_method_21_13 : decode jdk_52_method_21_code 13 = .ok (.istore 6, 2) := by decide +kernel
theorem d_jdk_52_method_21_15 : decode jdk_52_method_21_code 15 = .ok (.iload 6, 2) := by decide +kernel
theorem d_jdk_52_method_21_17 : decode jdk_52_method_21_code 17 = .ok (.sipush 255, 3) := by decide +kernel
theorem d_jdk_52_method_21_20 : decode jdk_52_method_21_code 20 = .ok (.if_icmp .le 6, 3) := by decide +kernel
theorem d_jdk_52_method_21_26 : decode jdk_52_method_21_code 26 = .ok (.aload_n 2, 1) := by decide +kernel
theorem d_jdk_52_method_21_27 : decode jdk_52_method_21_code 27 = .ok (.iload_n 3, 1) := by decide +kernel
theorem d_jdk_52_method_21_28 : decode jdk_52_method_21_code 28 = .ok (.iload 6, 2) := by decide +kernel
theorem d_jdk_52_method_21_30 : decode jdk_52_method_21_code 30 = .ok (.i2b, 1) := by decide +kernel
theorem d_jdk_52_method_21_31 : decode jdk_52_method_21_code 31 = .ok (.bastore, 1) := by decide +kernel
theorem d_jdk_52_method_21_32 : decode jdk_52_method_21_code 32 = .ok (.iinc 1 1, 3) := by decide +kernel
theorem d_jdk_52_method_21_35 : decode jdk_52_method_21_code 35 = .ok (.iinc 3 1, 3) := by decide +kernel
theorem d_jdk_52_method_21_38 : decode jdk_52_method_21_code 38 = .ok (.iinc 5 1, 3) := by decide +kernel
theorem d_jdk_52_method_21_41 : decode jdk_52_method_21_code 41 = .ok (.goto (-38), 3) := by decide +kernel
theorem d_jdk_52_method_21_44 : decode jdk_52_method_21_code 44 = .ok (.iload 4, 2) := by decide +kernel
theorem d_jdk_52_method_21_46 : decode jdk_52_method_21_code 46 = .ok (.ireturn, 1) := by decide +kernel
set_option maxRecDepth 65536 in
set_option maxHeartbeats 40000000 in
theorem rmCA1 (l : Launch) (Z : State) (a0 : Array Value) (hw : ∀ d ∈ tables_1, d.before a0 Z = true) (ws : List Jvm.Cond) (a : Addr) (b : Addr) (c0 : Int32) (k1 k2 : ClassId) (h0 : Heap) (n0 : Nat) (Z0 : n0 ≤ h0.size) (V_a : Arv Z h0 a k1 .char (1 : Int32) [(.int c0)] (.int (0 : Int32))) (V_b : Arv Z h0 b k2 .byte (1 : Int32) [(.int (0 : Int32))] (.int (0 : Int32))) (ne_a_b : a ≠ b) (g_b : n0 ≤ b) (u0 : ¬ ((255 : Int32) < c0)) :
    MetFree l (⟨"java/lang/StringUTF16", "compress", "([CI[BII)I"⟩ : MethodName) (head1 (Jvm.Cond.code (⟨"java/lang/StringUTF16", "compress", "([CI[BII)I"⟩ : MethodName) jdk_52_method_21_code 7 (some .int) :: ws) ({ frames := 0, cells := 0, slots := 0, locals := 0 } : Room)) (fun ar_ U => ar_ = #[(.ref a), (.int (0 : Int32)), (.ref b), (.int (0 : Int32)), (.int (1 : Int32))] ∧ Z.Warmed39 U.vm ∧ U.heap = h0) (fun _ _ _ _ _ => True) (fun _ U o U' => Phi U (Q_rmCA1 Z a b c0 k1 k2 h0 n0) ({ frames := 0, cells := 0, slots := 0, locals := 0 } : Room).cells ({ frames := 0, cells := 0, slots := 0, locals := 0 } : Room).slots o U') := by
  refine MetFree.of_bodySF (plainFor_of_name pn_java_lang_StringUTF16) hisR ?_
  intro p e s m args below meth c s₁ Bd hml0 hP hK
  obtain ⟨rfl, hZ, hh⟩ := hP
  have hx := Bd.exec
  have hby := Bd.bytes
  have hlk := Bd.notSynchronized
  have hml : c.maxLocals = 7 := hml0
  have hown : s.vm.findClass "java/lang/StringUTF16" = some m.cls := findClass_of_methodNamed Bd.named
  have hown0 := hown
  have hnm := (name_of_methodNamed Bd.named Bd.method).1
  have hret := Bd.returns
  have X0 : Stand p l e ({ frames := 0, cells := 0, slots := 0, locals := 0 } : Room) s m #[(.ref a), (.int (0 : Int32)), (.ref b), (.int (0 : Int32)), (.int (1 : Int32))] below meth c s₁ [] 0 0 := Stand.of_body Bd
  have e0 : s₁.heap = h0 := by rw [← hh, Bd.state]; rfl
  have N0 := Fr.nil n0
  have sz := Z0
  have K := Keep.refl h0 [b]
  show Runs p.tables e below (Phi s (Q_rmCA1 Z a b c0 k1 k2 h0 n0) ({ frames := 0, cells := 0, slots := 0, locals := 0 } : Room).cells ({ frames := 0, cells := 0, slots := 0, locals := 0 } : Room).slots) _
  refine Runs.st (fun t' k' => castTop (ef_jdk_52_method_21_RIRII m a (0 : Int32) b (0 : Int32) (1 : Int32) ) k') ?_
  show Runs p.tables e below _ (s₁.setTop (mkF m 0 #[.val (.ref a), .val (.int (0 : Int32)), .val (.ref b), .val (.int (0 : Int32)), .val (.int (1 : Int32)), .unset, .unset] []))
  refine Runs.st (fun t' k' => XS.iconst X0.here hx rfl (hb hby d_jdk_52_method_21_0) k') ?_
  refine Runs.st (fun t' k' => XS.istore X0.here hx rfl (hb hby d_jdk_52_method_21_1) rfl (l' := #[.val (.ref a), .val (.int (0 : Int32)), .val (.ref b), .val (.int (0 : Int32)), .val (.int (1 : Int32)), .val (.int (0 : Int32)), .unset]) rfl k') ?_
  refine Runs.st (fun t' k' => XS.iload X0.here hx rfl (hb hby d_jdk_52_method_21_3) rfl k') ?_
  refine Runs.st (fun t' k' => XS.iload X0.here hx rfl (hb hby d_jdk_52_method_21_5) rfl k') ?_
  refine Runs.st (fun t' k' => XS.icmpNo X0.here hx rfl (hb hby d_jdk_52_method_21_7) rfl (tlt (by decide)).2.1 k') ?_
  show Runs p.tables e below _ (s₁.setTop (mkF m 10 #[.val (.ref a), .val (.int (0 : Int32)), .val (.ref b), .val (.int (0 : Int32)), .val (.int (1 : Int32)), .val (.int (0 : Int32)), .unset] []))
  refine Runs.st (fun t' k' => XS.aloadN X0.here hx rfl (hb hby d_jdk_52_method_21_10) rfl rfl k') ?_
  refine Runs.st (fun t' k' => XS.iloadN X0.here hx rfl (hb hby d_jdk_52_method_21_11) rfl k') ?_
  obtain ⟨cl1_, Ar1_, -, S1_, M1_, Ha1_, -⟩ := id V_a
  have hin1_ : ¬ ((0 : Int32) < 0 ∨ cl1_.slots.size ≤ ((0 : Int32)).toNatClampNeg) := inb_of S1_ ⟨by decide, by decide⟩
  refine Runs.st (X0.caload hx (j := (0 : Int32)) (v := (.int c0)) (by rw [e0]; exact Ar1_.1) (State.isArrayOf_alike hZ.alike Ar1_.2.1) Ar1_.2.2 hin1_ (Ha1_.at hin1_ rfl) (g := (mkF m 12 #[.val (.ref a), .val (.int (0 : Int32)), .val (.ref b), .val (.int (0 : Int32)), .val (.int (1 : Int32)), .val (.int (0 : Int32)), .unset] [(.int (0 : Int32)), (.ref a)])) rfl rfl (hb hby d_jdk_52_method_21_12)) ?_
  show Runs p.tables e below _ (s₁.setTop (mkF m 13 #[.val (.ref a), .val (.int (0 : Int32)), .val (.ref b), .val (.int (0 : Int32)), .val (.int (1 : Int32)), .val (.int (0 : Int32)), .unset] [(.int c0)]))
  refine Runs.st (fun t' k' => XS.istore X0.here hx rfl (hb hby d_jdk_52_method_21_13) rfl (l' := #[.val (.ref a), .val (.int (0 : Int32)), .val (.ref b), .val (.int (0 : Int32)), .val (.int (1 : Int32)), .val (.int (0 : Int32)), .val (.int c0)]) rfl k') ?_
  refine Runs.st (fun t' k' => XS.iload X0.here hx rfl (hb hby d_jdk_52_method_21_15) rfl k') ?_
  refine Runs.st (fun t' k' => XS.sipush X0.here hx rfl (hb hby d_jdk_52_method_21_17) k') ?_
  refine Runs.st (fun t' k' => XS.icmpYes X0.here hx rfl (pc0 := 20) (pc' := 26) rfl (hb hby d_jdk_52_method_21_20) rfl (flt u0).2.2.2 (by decide) (by decide) k') ?_
  show Runs p.tables e below _ (s₁.setTop (mkF m 26 #[.val (.ref a), .val (.int (0 : Int32)), .val (.ref b), .val (.int (0 : Int32)), .val (.int (1 : Int32)), .val (.int (0 : Int32)), .val (.int c0)] []))
  refine Runs.st (fun t' k' => XS.aloadN X0.here hx rfl (hb hby d_jdk_52_method_21_26) rfl rfl k') ?_
  refine Runs.st (fun t' k' => XS.iloadN X0.here hx rfl (hb hby d_jdk_52_method_21_27) rfl k') ?_
  refine Runs.st (fun t' k' => XS.iload X0.here hx rfl (hb hby d_jdk_52_method_21_28) rfl k') ?_
  refine Runs.st (fun t' k' => XS.i2b X0.here hx rfl (hb hby d_jdk_52_method_21_30) rfl k') ?_
  obtain ⟨cl2_, Ar2_, q2_, S2_, M2_, Ha2_, G2_⟩ := V_b
  have hin2_ : ¬ ((0 : Int32) < 0 ∨ cl2_.slots.size ≤ ((0 : Int32)).toNatClampNeg) := inb_of S2_ ⟨by decide, by decide⟩
  obtain ⟨T2_, h2_, X2_, e2_, W2_, st2_⟩ := stB X0 hx hZ e0 Ar2_ (j := (0 : Int32)) hin2_ (g := (mkF m 31 #[.val (.ref a), .val (.int (0 : Int32)), .val (.ref b), .val (.int (0 : Int32)), .val (.int (1 : Int32)), .val (.int (0 : Int32)), .val (.int c0)] [(.int (c0.toInt8.toInt32)), (.int (0 : Int32)), (.ref b)])) rfl rfl (hb hby d_jdk_52_method_21_31)
  refine Runs.st (st2_) ?_
  have V_b := Arv.set Ar2_ q2_ S2_ M2_ Ha2_ G2_ (fits_nar_byte _) W2_ 0 rfl (Nat.le_of_ble_eq_true rfl)
  replace V_a := V_a.other W2_ ne_a_b
  replace sz := Nat.le_trans sz (Keep.of_wr W2_).1
  have N2_ := Fr.snoc X2_ N0 g_b
  replace K := K.wr W2_ (Or.inl (List.mem_of_getElem? (i := 0) rfl))
  show Runs p.tables e below _ (T2_.setTop (mkF m 32 #[.val (.ref a), .val (.int (0 : Int32)), .val (.ref b), .val (.int (0 : Int32)), .val (.int (1 : Int32)), .val (.int (0 : Int32)), .val (.int c0)] []))
  refine Runs.st (fun t' k' => XS.iinc X2_.here hx rfl (hb hby d_jdk_52_method_21_32) rfl (l' := #[.val (.ref a), .val (.int ((0 : Int32) + (1 : Int32))), .val (.ref b), .val (.int (0 : Int32)), .val (.int (1 : Int32)), .val (.int (0 : Int32)), .val (.int c0)]) rfl k') ?_
  refine Runs.st (fun t' k' => XS.iinc X2_.here hx rfl (hb hby d_jdk_52_method_21_35) rfl (l' := #[.val (.ref a), .val (.int ((0 : Int32) + (1 : Int32))), .val (.ref b), .val (.int ((0 : Int32) + (1 : Int32))), .val (.int (1 : Int32)), .val (.int (0 : Int32)), .val (.int c0)]) rfl k') ?_
  refine Runs.st (fun t' k' => XS.iinc X2_.here hx rfl (hb hby d_jdk_52_method_21_38) rfl (l' := #[.val (.ref a), .val (.int ((0 : Int32) + (1 : Int32))), .val (.ref b), .val (.int ((0 : Int32) + (1 : Int32))), .val (.int (1 : Int32)), .val (.int ((0 : Int32) + (1 : Int32))), .val (.int c0)]) rfl k') ?_
  show Runs p.tables e below _ (T2_.setTop (mkF m 41 #[.val (.ref a), .val (.int ((0 : Int32) + (1 : Int32))), .val (.ref b), .val (.int ((0 : Int32) + (1 : Int32))), .val (.int (1 : Int32)), .val (.int ((0 : Int32) + (1 : Int32))), .val (.int c0)] []))
  rw [show ((0 : Int32) + (1 : Int32)) = (1 : Int32) from rfl]
  show Runs p.tables e below _ (T2_.setTop (mkF m 41 #[.val (.ref a), .val (.int (1 : Int32)), .val (.ref b), .val (.int (1 : Int32)), .val (.int (1 : Int32)), .val (.int (1 : Int32)), .val (.int c0)] []))
  refine Runs.st (fun t' k' => XS.goto X2_.here hx rfl (pc0 := 41) (pc' := 3) rfl (hb hby d_jdk_52_method_21_41) (by decide) (by decide) k') ?_
  refine Runs.st (fun t' k' => XS.iload X2_.here hx rfl (hb hby d_jdk_52_method_21_3) rfl k') ?_
  show Runs p.tables e below _ (T2_.setTop (mkF m 5 #[.val (.ref a), .val (.int (1 : Int32)), .val (.ref b), .val (.int (1 : Int32)), .val (.int (1 : Int32)), .val (.int (1 : Int32)), .val (.int c0)] [(.int (1 : Int32))]))
  refine Runs.st (fun t' k' => XS.iload X2_.here hx rfl (hb hby d_jdk_52_method_21_5) rfl k') ?_
  refine Runs.st (fun t' k' => XS.icmpYes X2_.here hx rfl (pc0 := 7) (pc' := 44) rfl (hb hby d_jdk_52_method_21_7) rfl (flt (by decide)).2.1 (by decide) (by decide) k') ?_
  show Runs p.tables e below _ (T2_.setTop (mkF m 44 #[.val (.ref a), .val (.int (1 : Int32)), .val (.ref b), .val (.int (1 : Int32)), .val (.int (1 : Int32)), .val (.int (1 : Int32)), .val (.int c0)] []))
  refine Runs.st (fun t' k' => XS.iload X2_.here hx rfl (hb hby d_jdk_52_method_21_44) rfl k') ?_
  refine Runs.ret X2_ hlk (v := (some (.int (1 : Int32)))) (fun h => by rw [hret] at h; cases h) (by decide) (by decide) ?_ (fun fs hr => retI X2_ hx hret (hb hby d_jdk_52_method_21_46) hr)
  try rw [e2_]
  exact ⟨rfl, N2_, K, V_b⟩
def Q_rmCB1 (Z : State) (a : Addr) (c0 : Int32) (k1 : ClassId) (h0 : Heap) (n0 : Nat) : Option Value → Heap → List Loc → Prop := (fun v h L => ∃ b k2, v = some (.ref b) ∧ Fr n0 L ∧ Keep h0 h [] ∧ h0.size ≤ b ∧ Arv Z h b k2 .byte (1 : Int32) [(.int (nar .byte (c0.toInt8.toInt32)))] (.int (0 : Int32)))
theorem ef_jdk_52_method_16_RII (m : MethodId) (x0 : Addr) (x1 : Int32) (x2 : Int32)  : entryFrame m #[(.ref x0), (.int x1), (.int x2)] 6 = mkF m 0 #[.val (.ref x0), .val (.int x1), .val (.int x2), .unset, .unset, .unset] [] := by first | (simp [entryFrame, mkF, argsToLocals, Value.category]; done) | rfl
theorem d_jdk_52_method_16_0 : decode jdk_52_method_16_code 0 = .ok (.iload_n 2, 1) := by decide +kernel
theorem d_jdk_52_method_16_1 : decode jdk_52_method_16_code 1 = .ok (.newarray .byte, 2) := by decide +kernel
theorem d_jdk_52_method_16_3 : decode jdk_52_method_16_code 3 = .ok (.astore_n 3, 1) := by decide +kernel
theorem d_jdk_52_method_16_4 : decode jdk_52_method_16_code 4 = .ok (.aload_n 0, 1) := by decide +kernel
theorem d_jdk_52_method_16_5 : decode jdk_52_method_16_code 5 = .ok (.iload_n 1, 1) := by decide +kernel
theorem d_jdk_52_method_16_6 : decode jdk_52_method_16_code 6 = .ok (.aload_n 3, 1) := by decide +kernel
theorem d_jdk_52_method_16_7 : decode jdk_52_method_16_code 7 = .ok (.iconst 0, 1) := by decide +kernel
theorem d_jdk_52_method_16_8 : decode jdk_52_method_16_code 8 = .ok (.iload_n 2, 1) := by decide +kernel
theorem pd__28_5bCI_5bBII_29I : parseMethodDescriptor "([CI[BII)I" = some ⟨[(.array .char), .int, (.array .byte), .int, .int], some .int⟩ := by decide +kernel
theorem d_jdk_52_method_16_9 : decode jdk_52_method_16_code 9 = .ok (.invokestatic 115, 3) := by decide +kernel
theorem d_jdk_52_method_16_12 : decode jdk_52_method_16_code 12 = .ok (.istore 4, 2) := by decide +kernel
theorem d_jdk_52_method_16_14 : decode jdk_52_method_16_code 14 = .ok (.iload 4, 2) := by decide +kernel
theorem d_jdk_52_method_16_16 : decode jdk_52_method_16_code 16 = .ok (.iload_n 2, 1) := by decide +kernel
theorem d_jdk_52_method_16_17 : decode jdk_52_method_16_code 17 = .ok (.if_icmp .eq 40, 3) := by decide +kernel
theorem d_jdk_52_method_16_57 : decode jdk_52_method_16_code 57 = .ok (.aload_n 3, 1) := by decide +kernel
theorem d_jdk_52_method_16_58 : decode jdk_52_method_16_code 58 = .ok (.areturn, 1) := by decide +kernel
set_option maxRecDepth 65536 in
set_option maxHeartbeats 40000000 in
theorem rmCB1 (l : Launch) (Z : State) (a0 : Array Value) (hw : ∀ d ∈ tables_1, d.before a0 Z = true) (ws : List Jvm.Cond) (a : Addr) (c0 : Int32) (k1 : ClassId) (h0 : Heap) (n0 : Nat) (Z0 : n0 ≤ h0.size) (V_a : Arv Z h0 a k1 .char (1 : Int32) [(.int c0)] (.int (0 : Int32))) (u0 : ¬ ((255 : Int32) < c0)) :
    MetFree l (⟨"java/lang/StringUTF16", "compress", "([CII)[B"⟩ : MethodName) (head1 (Jvm.Cond.code (⟨"java/lang/StringUTF16", "compress", "([CII)[B"⟩ : MethodName) jdk_52_method_16_code 6 (some (.array .byte)) :: ws) ({ frames := 1, cells := 1, slots := 1, locals := 18 } : Room)) (fun ar_ U => ar_ = #[(.ref a), (.int (0 : Int32)), (.int (1 : Int32))] ∧ Z.Warmed39 U.vm ∧ U.heap = h0) (fun _ _ _ _ _ => True) (fun _ U o U' => Phi U (Q_rmCB1 Z a c0 k1 h0 n0) ({ frames := 1, cells := 1, slots := 1, locals := 18 } : Room).cells ({ frames := 1, cells := 1, slots := 1, locals := 18 } : Room).slots o U') := by
  refine MetFree.of_bodySF (plainFor_of_name pn_java_lang_StringUTF16) hisR ?_
  intro p e s m args below meth c s₁ Bd hml0 hP hK
  obtain ⟨rfl, hZ, hh⟩ := hP
  have hx := Bd.exec
  have hby := Bd.bytes
  have hlk := Bd.notSynchronized
  have hml : c.maxLocals = 6 := hml0
  have hown : s.vm.findClass "java/lang/StringUTF16" = some m.cls := findClass_of_methodNamed Bd.named
  have hown0 := hown
  have hnm := (name_of_methodNamed Bd.named Bd.method).1
  have hret := Bd.returns
  have X0 : Stand p l e ({ frames := 1, cells := 1, slots := 1, locals := 18 } : Room) s m #[(.ref a), (.int (0 : Int32)), (.int (1 : Int32))] below meth c s₁ [] 0 0 := Stand.of_body Bd
  have e0 : s₁.heap = h0 := by rw [← hh, Bd.state]; rfl
  have N0 := Fr.nil n0
  have sz := Z0
  have K := Keep.refl h0 []
  show Runs p.tables e below (Phi s (Q_rmCB1 Z a c0 k1 h0 n0) ({ frames := 1, cells := 1, slots := 1, locals := 18 } : Room).cells ({ frames := 1, cells := 1, slots := 1, locals := 18 } : Room).slots) _
  refine Runs.st (fun t' k' => castTop (ef_jdk_52_method_16_RII m a (0 : Int32) (1 : Int32) ) k') ?_
  show Runs p.tables e below _ (s₁.setTop (mkF m 0 #[.val (.ref a), .val (.int (0 : Int32)), .val (.int (1 : Int32)), .unset, .unset, .unset] []))
  refine Runs.st (fun t' k' => XS.iloadN X0.here hx rfl (hb hby d_jdk_52_method_16_0) rfl k') ?_
  obtain ⟨T1_, h1_, k1_, X1_, e1_, E1_, A1_, st1_⟩ := newP X0 hx hZ (hw _ (List.mem_of_getElem? (i := 20) rfl)) e0 (g := (mkF m 1 #[.val (.ref a), .val (.int (0 : Int32)), .val (.int (1 : Int32)), .unset, .unset, .unset] [(.int (1 : Int32))])) rfl (hb hby d_jdk_52_method_16_1) rfl (by decide) (cap := 1) (by decide) (by decide) (by decide) (by decide)
  refine Runs.st (st1_) ?_
  obtain ⟨b, g1_⟩ : ∃ z, z = h0.size := ⟨_, rfl⟩
  rw [← g1_] at A1_
  try rw [← g1_]
  have g_b : n0 ≤ b := Nat.le_trans sz (Nat.le_of_eq g1_.symm)
  have sz_b : h0.size ≤ b := Nat.le_trans K.1 (Nat.le_of_eq g1_.symm)
  have ne_a_b : a ≠ b := Nat.ne_of_lt (Nat.lt_of_lt_of_le V_a.lt (Nat.le_of_eq g1_.symm))
  replace V_a := V_a.ext E1_
  replace sz := Nat.le_trans sz E1_.1
  replace K := K.ext E1_
  have V_b : Arv Z h1_ b k1_ .byte (1 : Int32) [(.int (0 : Int32))] (.int (0 : Int32)) := (Arv.new A1_ (by decide)).pad (pad_rep [] (.int (0 : Int32)) 1)
  show Runs p.tables e below _ (T1_.setTop (mkF m 3 #[.val (.ref a), .val (.int (0 : Int32)), .val (.int (1 : Int32)), .unset, .unset, .unset] [(.ref b)]))
  refine Runs.st (fun t' k' => XS.astoreN X1_.here hx rfl (hb hby d_jdk_52_method_16_3) rfl rfl (l' := #[.val (.ref a), .val (.int (0 : Int32)), .val (.int (1 : Int32)), .val (.ref b), .unset, .unset]) rfl k') ?_
  refine Runs.st (fun t' k' => XS.aloadN X1_.here hx rfl (hb hby d_jdk_52_method_16_4) rfl rfl k') ?_
  refine Runs.st (fun t' k' => XS.iloadN X1_.here hx rfl (hb hby d_jdk_52_method_16_5) rfl k') ?_
  refine Runs.st (fun t' k' => XS.aloadN X1_.here hx rfl (hb hby d_jdk_52_method_16_6) rfl rfl k') ?_
  refine Runs.st (fun t' k' => XS.iconst X1_.here hx rfl (hb hby d_jdk_52_method_16_7) k') ?_
  show Runs p.tables e below _ (T1_.setTop (mkF m 8 #[.val (.ref a), .val (.int (0 : Int32)), .val (.int (1 : Int32)), .val (.ref b), .unset, .unset] [(.int (0 : Int32)), (.ref b), (.int (0 : Int32)), (.ref a)]))
  refine Runs.st (fun t' k' => XS.iloadN X1_.here hx rfl (hb hby d_jdk_52_method_16_8) rfl k') ?_
  obtain ⟨_, _, ⟨T2_, L2_, k2_, n2_⟩, -, X2_, ⟨Lc2_, hQ2_, l2_, y2_, z2_⟩, st2_⟩ := Jvm.LawKit.callS X1_ hx (y := (⟨"java/lang/StringUTF16", "compress", "([CI[BII)I"⟩ : MethodName)) hown (mvT hZ (hw _ (List.mem_of_getElem? (i := 59) rfl))) (mvT hZ (hw _ (List.mem_of_getElem? (i := 60) rfl))) (mvT hZ (hw _ (List.mem_of_getElem? (i := 57) rfl))) (mvT hZ (hw _ (List.mem_of_getElem? (i := 61) rfl))) (by decide) (backOf (W := 0) (rmCA1 l Z a0 hw [] a b c0 k1 _ h1_ n0 sz V_a V_b ne_a_b g_b u0) hZ (hw _ (List.mem_of_getElem? (i := 61) rfl)) (hw _ (List.mem_of_getElem? (i := 57) rfl)) (by decide) (by decide)) (g := (mkF m 9 #[.val (.ref a), .val (.int (0 : Int32)), .val (.int (1 : Int32)), .val (.ref b), .unset, .unset] [(.int (1 : Int32)), (.int (0 : Int32)), (.ref b), (.int (0 : Int32)), (.ref a)])) rfl (by rw [hml]; rfl) (argsL := [(.ref a), (.int (0 : Int32)), (.ref b), (.int (0 : Int32)), (.int (1 : Int32))]) (rest := []) (lenOf pd__28_5bCI_5bBII_29I rfl) rfl (by show 2 * 0 + _ ≤ _; exact Nat.le_of_eq rfl) (hb hby d_jdk_52_method_16_9) (fun _ _ => ⟨rfl, e1_, (by decide : 1 + 0 ≤ _), (by decide : 1 + 0 ≤ _)⟩)
  dsimp only [Pt.U, Pt.locs, Pt.cells, Pt.slots] at X2_ l2_ y2_ z2_ st2_ hQ2_
  subst l2_ y2_ z2_
  obtain ⟨rfl, N2_q, K2_, V_b⟩ := hQ2_
  have N2_ := Fr.app N0 N2_q
  refine Runs.st (st2_) ?_
  replace X2_ := wider X2_ (c' := 1) (s' := 1) (by decide) (by decide)
  replace V_a := V_a.keep K2_ (ninS ne_a_b nin0)
  replace sz := Nat.le_trans sz K2_.1
  replace K := K.trans K2_ (allS (Or.inr sz_b) all0)
  show Runs p.tables e below _ (T2_.setTop (mkF m 12 #[.val (.ref a), .val (.int (0 : Int32)), .val (.int (1 : Int32)), .val (.ref b), .unset, .unset] [(.int (1 : Int32))]))
  refine Runs.st (fun t' k' => XS.istore X2_.here hx rfl (hb hby d_jdk_52_method_16_12) rfl (l' := #[.val (.ref a), .val (.int (0 : Int32)), .val (.int (1 : Int32)), .val (.ref b), .val (.int (1 : Int32)), .unset]) rfl k') ?_
  refine Runs.st (fun t' k' => XS.iload X2_.here hx rfl (hb hby d_jdk_52_method_16_14) rfl k') ?_
  refine Runs.st (fun t' k' => XS.iloadN X2_.here hx rfl (hb hby d_jdk_52_method_16_16) rfl k') ?_
  refine Runs.st (fun t' k' => XS.icmpYes X2_.here hx rfl (pc0 := 17) (pc' := 57) rfl (hb hby d_jdk_52_method_16_17) rfl (teq rfl).1 (by decide) (by decide) k') ?_
  show Runs p.tables e below _ (T2_.setTop (mkF m 57 #[.val (.ref a), .val (.int (0 : Int32)), .val (.int (1 : Int32)), .val (.ref b), .val (.int (1 : Int32)), .unset] []))
  refine Runs.st (fun t' k' => XS.aloadN X2_.here hx rfl (hb hby d_jdk_52_method_16_57) rfl rfl k') ?_
  refine Runs.ret X2_ hlk (v := (some (.ref b))) (fun h => by rw [hret] at h; cases h) (by decide) (by decide) ?_ (fun fs hr => retOut X2_ hx hret rfl (Or.inr (Or.inr (Or.inr (Or.inr ⟨rfl, rfl, rfl⟩)))) (hb hby d_jdk_52_method_16_58) hr)
  exact ⟨b, _, rfl, N2_, K, sz_b, V_b⟩
def Q_rmCd1 (Z : State) (b : Addr) (k2 : ClassId) (vs : List Value) (h0 : Heap) (n0 : Nat) : Option Value → Heap → List Loc → Prop := (fun v h L => v = some (.int (0 : Int32)) ∧ Fr n0 L ∧ h = h0)
theorem ef_jdk_52_method_15_RI (m : MethodId) (x0 : Addr) (x1 : Int32)  : entryFrame m #[(.ref x0), (.int x1)] 2 = mkF m 0 #[.val (.ref x0), .val (.int x1)] [] := by first | (simp [entryFrame, mkF, argsToLocals, Value.category]; done) | rfl
theorem d_jdk_52_method_15_0 : decode jdk_52_method_15_code 0 = .ok (.iload_n 1, 1) := by decide +kernel
theorem d_jdk_52_method_15_1 : decode jdk_52_method_15_code 1 = .ok (.aload_n 0, 1) := by decide +kernel
theorem d_jdk_52_method_15_2 : decode jdk_52_method_15_code 2 = .ok (.arraylength, 1) := by decide +kernel
theorem d_jdk_52_method_15_3 : decode jdk_52_method_15_code 3 = .ok (.isub, 1) := by decide +kernel
theorem d_jdk_52_method_15_4 : decode jdk_52_method_15_code 4 = .ok (.bipush 31, 2) := by decide +kernel
theorem d_jdk_52_method_15_6 : decode jdk_52_method_15_code 6 = .ok (.iushr, 1) := by decide +kernel
theorem d_jdk_52_method_15_7 : decode jdk_52_method_15_code 7 = .ok (.i2b, 1) := by decide +kernel
theorem d_jdk_52_method_15_8 : decode jdk_52_method_15_code 8 = .ok (.ireturn, 1) := by decide +kernel
set_option maxRecDepth 65536 in
set_option maxHeartbeats 40000000 in
theorem rmCd1 (l : Launch) (Z : State) (a0 : Array Value) (hw : ∀ d ∈ tables_1, d.before a0 Z = true) (ws : List Jvm.Cond) (b : Addr) (k2 : ClassId) (vs : List Value) (h0 : Heap) (n0 : Nat) (Z0 : n0 ≤ h0.size) (V_b : Arv Z h0 b k2 .byte (1 : Int32) vs (.int (0 : Int32))) :
    MetFree l (⟨"java/lang/StringUTF16", "coderFromArrayLen", "([BI)B"⟩ : MethodName) (head1 (Jvm.Cond.code (⟨"java/lang/StringUTF16", "coderFromArrayLen", "([BI)B"⟩ : MethodName) jdk_52_method_15_code 2 (some .byte) :: ws) ({ frames := 0, cells := 0, slots := 0, locals := 0 } : Room)) (fun ar_ U => ar_ = #[(.ref b), (.int (1 : Int32))] ∧ Z.Warmed39 U.vm ∧ U.heap = h0) (fun _ _ _ _ _ => True) (fun _ U o U' => Phi U (Q_rmCd1 Z b k2 vs h0 n0) ({ frames := 0, cells := 0, slots := 0, locals := 0 } : Room).cells ({ frames := 0, cells := 0, slots := 0, locals := 0 } : Room).slots o U') := by
  refine MetFree.of_bodySF (plainFor_of_name pn_java_lang_StringUTF16) hisR ?_
  intro p e s m args below meth c s₁ Bd hml0 hP hK
  obtain ⟨rfl, hZ, hh⟩ := hP
  have hx := Bd.exec
  have hby := Bd.bytes
  have hlk := Bd.notSynchronized
  have hml : c.maxLocals = 2 := hml0
  have hown : s.vm.findClass "java/lang/StringUTF16" = some m.cls := findClass_of_methodNamed Bd.named
  have hown0 := hown
  have hnm := (name_of_methodNamed Bd.named Bd.method).1
  have hret := Bd.returns
  have X0 : Stand p l e ({ frames := 0, cells := 0, slots := 0, locals := 0 } : Room) s m #[(.ref b), (.int (1 : Int32))] below meth c s₁ [] 0 0 := Stand.of_body Bd
  have e0 : s₁.heap = h0 := by rw [← hh, Bd.state]; rfl
  have N0 := Fr.nil n0
  have sz := Z0
  have K := Keep.refl h0 []
  show Runs p.tables e below (Phi s (Q_rmCd1 Z b k2 vs h0 n0) ({ frames := 0, cells := 0, slots := 0, locals := 0 } : Room).cells ({ frames := 0, cells := 0, slots := 0, locals := 0 } : Room).slots) _
  refine Runs.st (fun t' k' => castTop (ef_jdk_52_method_15_RI m b (1 : Int32) ) k') ?_
  show Runs p.tables e below _ (s₁.setTop (mkF m 0 #[.val (.ref b), .val (.int (1 : Int32))] []))
  refine Runs.st (fun t' k' => XS.iloadN X0.here hx rfl (hb hby d_jdk_52_method_15_0) rfl k') ?_
  refine Runs.st (fun t' k' => XS.aloadN X0.here hx rfl (hb hby d_jdk_52_method_15_1) rfl rfl k') ?_
  obtain ⟨cl1_, Ar1_, -, S1_, M1_, -, -⟩ := id V_b
  refine Runs.st (X0.arraylength hx (by rw [e0]; exact Ar1_.1) (State.isArrayOf_alike hZ.alike Ar1_.2.1) (g := (mkF m 2 #[.val (.ref b), .val (.int (1 : Int32))] [(.ref b), (.int (1 : Int32))])) rfl rfl (hb hby d_jdk_52_method_15_2)) ?_
  rw [len_of S1_ M1_]
  show Runs p.tables e below _ (s₁.setTop (mkF m 3 #[.val (.ref b), .val (.int (1 : Int32))] [(.int (1 : Int32)), (.int (1 : Int32))]))
  refine Runs.st (fun t' k' => XS.isub X0.here hx rfl (hb hby d_jdk_52_method_15_3) rfl k') ?_
  refine Runs.st (fun t' k' => XS.bipush X0.here hx rfl (hb hby d_jdk_52_method_15_4) k') ?_
  refine Runs.st (fun t' k' => XS.iushr X0.here hx rfl (hb hby d_jdk_52_method_15_6) rfl k') ?_
  refine Runs.st (fun t' k' => XS.i2b X0.here hx rfl (hb hby d_jdk_52_method_15_7) rfl k') ?_
  refine Runs.ret X0 hlk (v := (some (.int (nar .byte (((((1 : Int32) - (1 : Int32)).toUInt32 >>> ((31 : Int32) &&& 31).toUInt32).toInt32).toInt8.toInt32))))) (fun h => by rw [hret] at h; cases h) (by decide) (by decide) ?_ (fun fs hr => retN X0 hx (t := .byte) hret (by simp) (hb hby d_jdk_52_method_15_8) hr)
  try rw [e0]
  exact ⟨congrArg (fun z => some (Value.int z)) (by decide), N0, rfl⟩
def Q_rmID1 (Z : State) (a : Addr) (d : Addr) (c0 : Int32) (k1 : ClassId) (zc : Int32) (h0 : Heap) (n0 : Nat) : Option Value → Heap → List Loc → Prop := (fun v h L => v = none ∧ Fr n0 L ∧ Keep h0 h [a] ∧ Exa Z h a "java/lang/String" ∧ Fld Z h a "java/lang/String" "coder" "B" (.int (0 : Int32)) ∧ ∃ b k2, h0.size ≤ b ∧ Fld Z h a "java/lang/String" "value" "[B" (.ref b) ∧ Arv Z h b k2 .byte (1 : Int32) [(.int (nar .byte (c0.toInt8.toInt32)))] (.int (0 : Int32)))
theorem d_jdk_42_method_149_27 : decode jdk_42_method_149_code 27 = .ok (.getstatic 38, 3) := by decide +kernel
theorem d_jdk_42_method_149_30 : decode jdk_42_method_149_code 30 = .ok (.ifCond .eq 28, 3) := by decide +kernel
theorem d_jdk_42_method_149_33 : decode jdk_42_method_149_code 33 = .ok (.aload_n 1, 1) := by decide +kernel
theorem d_jdk_42_method_149_34 : decode jdk_42_method_149_code 34 = .ok (.iload_n 2, 1) := by decide +kernel
theorem d_jdk_42_method_149_35 : decode jdk_42_method_149_code 35 = .ok (.iload_n 3, 1) := by decide +kernel
theorem pd__28_5bCII_29_5bB : parseMethodDescriptor "([CII)[B" = some ⟨[(.array .char), .int, .int], some (.array .byte)⟩ := by decide +kernel
theorem d_jdk_42_method_149_36 : decode jdk_42_method_149_code 36 = .ok (.invokestatic 177, 3) := by decide +kernel
theorem d_jdk_42_method_149_39 : decode jdk_42_method_149_code 39 = .ok (.astore 5, 2) := by decide +kernel
theorem d_jdk_42_method_149_41 : decode jdk_42_method_149_code 41 = .ok (.aload_n 0, 1) := by decide +kernel
theorem d_jdk_42_method_149_42 : decode jdk_42_method_149_code 42 = .ok (.aload 5, 2) := by decide +kernel
theorem d_jdk_42_method_149_44 : decode jdk_42_method_149_code 44 = .ok (.iload_n 3, 1) := by decide +kernel
theorem pd__28_5bBI_29B : parseMethodDescriptor "([BI)B" = some ⟨[(.array .byte), .int], some .byte⟩ := by decide +kernel
theorem d_jdk_42_method_149_45 : decode jdk_42_method_149_code 45 = .ok (.invokestatic 47, 3) := by decide +kernel
theorem d_jdk_42_method_149_48 : decode jdk_42_method_149_code 48 = .ok (.putfield 15, 3) := by decide +kernel
theorem d_jdk_42_method_149_51 : decode jdk_42_method_149_code 51 = .ok (.aload_n 0, 1) := by decide +kernel
theorem d_jdk_42_method_149_52 : decode jdk_42_method_149_code 52 = .ok (.aload 5, 2) := by decide +kernel
theorem d_jdk_42_method_149_54 : decode jdk_42_method_149_code 54 = .ok (.putfield 9, 3) := by decide +kernel
theorem d_jdk_42_method_149_57 : decode jdk_42_method_149_code 57 = .ok (.return_, 1) := by decide +kernel
set_option maxRecDepth 65536 in
set_option maxHeartbeats 40000000 in
theorem rmID1 (l : Launch) (Z : State) (a0 : Array Value) (hw : ∀ d ∈ tables_1, d.before a0 Z = true) (ws : List Jvm.Cond) (a : Addr) (d : Addr) (c0 : Int32) (k1 : ClassId) (zc : Int32) (h0 : Heap) (n0 : Nat) (Z0 : n0 ≤ h0.size) (E_a : Exa Z h0 a "java/lang/String") (F_v : Fld Z h0 a "java/lang/String" "value" "[B" .null) (F_c : Fld Z h0 a "java/lang/String" "coder" "B" (.int (0 : Int32))) (g_a : n0 ≤ a) (V_d : Arv Z h0 d k1 .char (1 : Int32) [(.int c0)] (.int (0 : Int32))) (Sc : Sta Z h0 "java/lang/String" "COMPACT_STRINGS" "Z" (.int zc)) (hzc : ¬ zc = 0) (u0 : ¬ ((255 : Int32) < c0)) :
    MetFree l (⟨"java/lang/String", "<init>", "([CIILjava/lang/Void;)V"⟩ : MethodName) (head1 (Jvm.Cond.code (⟨"java/lang/String", "<init>", "([CIILjava/lang/Void;)V"⟩ : MethodName) jdk_42_method_149_code 6 none :: ws) ({ frames := 2, cells := 1, slots := 1, locals := 35 } : Room)) (fun ar_ U => ar_ = #[(.ref a), (.ref d), (.int (0 : Int32)), (.int (1 : Int32)), .null] ∧ Z.Warmed39 U.vm ∧ U.heap = h0) (fun _ _ _ _ _ => True) (fun _ U o U' => Phi U (Q_rmID1 Z a d c0 k1 zc h0 n0) ({ frames := 2, cells := 1, slots := 1, locals := 35 } : Room).cells ({ frames := 2, cells := 1, slots := 1, locals := 35 } : Room).slots o U') := by
  refine MetFree.of_bodySF (plainFor_of_name pn_java_lang_String) hisR ?_
  intro p e s m args below meth c s₁ Bd hml0 hP hK
  obtain ⟨rfl, hZ, hh⟩ := hP
  have hx := Bd.exec
  have hby := Bd.bytes
  have hlk := Bd.notSynchronized
  have hml : c.maxLocals = 6 := hml0
  have hown : s.vm.findClass "java/lang/String" = some m.cls := findClass_of_methodNamed Bd.named
  have hown0 := hown
  have hnm := (name_of_methodNamed Bd.named Bd.method).1
  have hret := Bd.returns
  have X0 : Stand p l e ({ frames := 2, cells := 1, slots := 1, locals := 35 } : Room) s m #[(.ref a), (.ref d), (.int (0 : Int32)), (.int (1 : Int32)), .null] below meth c s₁ [] 0 0 := Stand.of_body Bd
  have e0 : s₁.heap = h0 := by rw [← hh, Bd.state]; rfl
  have N0 := Fr.nil n0
  have sz := Z0
  have K := Keep.refl h0 [a]
  show Runs p.tables e below (Phi s (Q_rmID1 Z a d c0 k1 zc h0 n0) ({ frames := 2, cells := 1, slots := 1, locals := 35 } : Room).cells ({ frames := 2, cells := 1, slots := 1, locals := 35 } : Room).slots) _
  refine Runs.st (fun t' k' => castTop (ef_jdk_42_method_149_RRIIN m a d (0 : Int32) (1 : Int32) ) k') ?_
  show Runs p.tables e below _ (s₁.setTop (mkF m 0 #[.val (.ref a), .val (.ref d), .val (.int (0 : Int32)), .val (.int (1 : Int32)), .val .null, .unset] []))
  refine Runs.st (fun t' k' => XS.aloadN X0.here hx rfl (hb hby d_jdk_42_method_149_0) rfl rfl k') ?_
  obtain ⟨T1_, X1_, e1_, st1_⟩ := initO X0 hx hZ hown (hw _ (List.mem_of_getElem? (i := 16) rfl)) (hw _ (List.mem_of_getElem? (i := 17) rfl)) (hw _ (List.mem_of_getElem? (i := 18) rfl)) e0 (g := (mkF m 1 #[.val (.ref a), .val (.ref d), .val (.int (0 : Int32)), .val (.int (1 : Int32)), .val .null, .unset] [(.ref a)])) rfl (by rw [hml]; rfl) rfl (hb hby d_jdk_42_method_149_1) (by decide) (W := 0) (by show 2 * 0 + _ ≤ _; exact Nat.le_of_eq rfl) (by decide)
  refine Runs.st (st1_) ?_
  show Runs p.tables e below _ (T1_.setTop (mkF m 4 #[.val (.ref a), .val (.ref d), .val (.int (0 : Int32)), .val (.int (1 : Int32)), .val .null, .unset] []))
  refine Runs.st (fun t' k' => XS.iloadN X1_.here hx rfl (hb hby d_jdk_42_method_149_4) rfl k') ?_
  refine Runs.st (fun t' k' => XS.ifYes X1_.here hx rfl (pc0 := 5) (pc' := 27) rfl (hb hby d_jdk_42_method_149_5) rfl ((if0 _ _).trans (feq (by decide)).2) (by decide) (by decide) k') ?_
  show Runs p.tables e below _ (T1_.setTop (mkF m 27 #[.val (.ref a), .val (.ref d), .val (.int (0 : Int32)), .val (.int (1 : Int32)), .val .null, .unset] []))
  obtain ⟨T2_, X2_, e2_, st2_⟩ := getS2 X1_ hx hZ hown (host := "") (Or.inl (hw _ (List.mem_of_getElem? (i := 54) rfl))) Via.refl e1_ Sc (g := (mkF m 27 #[.val (.ref a), .val (.ref d), .val (.int (0 : Int32)), .val (.int (1 : Int32)), .val .null, .unset] [])) rfl (hb hby d_jdk_42_method_149_27)
  refine Runs.st (st2_) ?_
  show Runs p.tables e below _ (T2_.setTop (mkF m 30 #[.val (.ref a), .val (.ref d), .val (.int (0 : Int32)), .val (.int (1 : Int32)), .val .null, .unset] [(.int zc)]))
  refine Runs.st (fun t' k' => XS.ifNo X2_.here hx rfl (hb hby d_jdk_42_method_149_30) rfl ((if0 _ _).trans (feq hzc).1) k') ?_
  show Runs p.tables e below _ (T2_.setTop (mkF m 33 #[.val (.ref a), .val (.ref d), .val (.int (0 : Int32)), .val (.int (1 : Int32)), .val .null, .unset] []))
  refine Runs.st (fun t' k' => XS.aloadN X2_.here hx rfl (hb hby d_jdk_42_method_149_33) rfl rfl k') ?_
  refine Runs.st (fun t' k' => XS.iloadN X2_.here hx rfl (hb hby d_jdk_42_method_149_34) rfl k') ?_
  refine Runs.st (fun t' k' => XS.iloadN X2_.here hx rfl (hb hby d_jdk_42_method_149_35) rfl k') ?_
  have kz3_ := K.1
  have gz3_ := sz
  have lt3__a := E_a.lt
  obtain ⟨_, _, ⟨T3_, L3_, k3_, n3_⟩, -, X3_, ⟨Lc3_, hQ3_, l3_, y3_, z3_⟩, st3_⟩ := Jvm.LawKit.callS X2_ hx (y := (⟨"java/lang/StringUTF16", "compress", "([CII)[B"⟩ : MethodName)) hown (mvT hZ (hw _ (List.mem_of_getElem? (i := 55) rfl))) (mvT hZ (hw _ (List.mem_of_getElem? (i := 56) rfl))) (mvT hZ (hw _ (List.mem_of_getElem? (i := 57) rfl))) (mvT hZ (hw _ (List.mem_of_getElem? (i := 58) rfl))) (by decide) (backOf (W := 0) (rmCB1 l Z a0 hw [] d c0 k1 h0 n0 sz V_d u0) hZ (hw _ (List.mem_of_getElem? (i := 58) rfl)) (hw _ (List.mem_of_getElem? (i := 57) rfl)) (by decide) (by decide)) (g := (mkF m 36 #[.val (.ref a), .val (.ref d), .val (.int (0 : Int32)), .val (.int (1 : Int32)), .val .null, .unset] [(.int (1 : Int32)), (.int (0 : Int32)), (.ref d)])) rfl (by rw [hml]; rfl) (argsL := [(.ref d), (.int (0 : Int32)), (.int (1 : Int32))]) (rest := []) (lenOf pd__28_5bCII_29_5bB rfl) rfl (by show 2 * 0 + _ ≤ _; exact Nat.le_of_eq rfl) (hb hby d_jdk_42_method_149_36) (fun _ _ => ⟨rfl, e2_, (by decide : 0 + 1 ≤ _), (by decide : 0 + 1 ≤ _)⟩)
  dsimp only [Pt.U, Pt.locs, Pt.cells, Pt.slots] at X3_ l3_ y3_ z3_ st3_ hQ3_
  subst l3_ y3_ z3_
  obtain ⟨b, k2, rfl, N3_q, K3_, szb, V_b⟩ := hQ3_
  have N3_ := Fr.app N0 N3_q
  refine Runs.st (st3_) ?_
  replace X3_ := wider X3_ (c' := 1) (s' := 1) (by decide) (by decide)
  replace E_a := E_a.keep K3_
  replace F_v := F_v.keep K3_ nin0
  replace F_c := F_c.keep K3_ nin0
  replace sz := Nat.le_trans sz K3_.1
  replace K := K.trans K3_ all0
  have sz_b : h0.size ≤ b := Nat.le_trans kz3_ szb
  have g_b : n0 ≤ b := Nat.le_trans gz3_ szb
  have ne_a_b : a ≠ b := Nat.ne_of_lt (Nat.lt_of_lt_of_le lt3__a szb)
  show Runs p.tables e below _ (T3_.setTop (mkF m 39 #[.val (.ref a), .val (.ref d), .val (.int (0 : Int32)), .val (.int (1 : Int32)), .val .null, .unset] [(.ref b)]))
  refine Runs.st (fun t' k' => XS.astore X3_.here hx rfl (hb hby d_jdk_42_method_149_39) rfl rfl (l' := #[.val (.ref a), .val (.ref d), .val (.int (0 : Int32)), .val (.int (1 : Int32)), .val .null, .val (.ref b)]) rfl k') ?_
  refine Runs.st (fun t' k' => XS.aloadN X3_.here hx rfl (hb hby d_jdk_42_method_149_41) rfl rfl k') ?_
  refine Runs.st (fun t' k' => XS.aload X3_.here hx rfl (hb hby d_jdk_42_method_149_42) rfl rfl k') ?_
  refine Runs.st (fun t' k' => XS.iloadN X3_.here hx rfl (hb hby d_jdk_42_method_149_44) rfl k') ?_
  obtain ⟨_, _, ⟨T4_, L4_, k4_, n4_⟩, -, X4_, ⟨Lc4_, hQ4_, l4_, y4_, z4_⟩, st4_⟩ := Jvm.LawKit.callS X3_ hx (y := (⟨"java/lang/StringUTF16", "coderFromArrayLen", "([BI)B"⟩ : MethodName)) hown (mvT hZ (hw _ (List.mem_of_getElem? (i := 62) rfl))) (mvT hZ (hw _ (List.mem_of_getElem? (i := 63) rfl))) (mvT hZ (hw _ (List.mem_of_getElem? (i := 57) rfl))) (mvT hZ (hw _ (List.mem_of_getElem? (i := 64) rfl))) (by decide) (backOf (W := 1) (rmCd1 l Z a0 hw [] b k2 _ T3_.heap n0 sz V_b) hZ (hw _ (List.mem_of_getElem? (i := 64) rfl)) (hw _ (List.mem_of_getElem? (i := 57) rfl)) (by decide) (by decide)) (g := (mkF m 45 #[.val (.ref a), .val (.ref d), .val (.int (0 : Int32)), .val (.int (1 : Int32)), .val .null, .val (.ref b)] [(.int (1 : Int32)), (.ref b), (.ref a)])) rfl (by rw [hml]; rfl) (argsL := [(.ref b), (.int (1 : Int32))]) (rest := [(.ref a)]) (lenOf pd__28_5bBI_29B rfl) rfl (by show 2 * 0 + _ ≤ _; exact Nat.le_of_eq rfl) (hb hby d_jdk_42_method_149_45) (fun _ _ => ⟨rfl, rfl, (by decide : 1 + 0 ≤ _), (by decide : 1 + 0 ≤ _)⟩)
  dsimp only [Pt.U, Pt.locs, Pt.cells, Pt.slots] at X4_ l4_ y4_ z4_ st4_ hQ4_
  subst l4_ y4_ z4_
  obtain ⟨rfl, N4_q, e4_⟩ := hQ4_
  have N4_ := Fr.app N3_ N4_q
  refine Runs.st (st4_) ?_
  replace X4_ := wider X4_ (c' := 1) (s' := 1) (by decide) (by decide)
  show Runs p.tables e below _ (T4_.setTop (mkF m 48 #[.val (.ref a), .val (.ref d), .val (.int (0 : Int32)), .val (.int (1 : Int32)), .val .null, .val (.ref b)] [(.int (0 : Int32)), (.ref a)]))
  obtain ⟨T5_, h5_, X5_, e5_, W5_, st5_⟩ := putFN X4_ hx hZ hown (hw _ (List.mem_of_getElem? (i := 26) rfl)) Via.refl e4_ F_c E_a (Or.inr ⟨(hw _ (List.mem_of_getElem? (i := 22) rfl)), rfl, hnm⟩) (hw _ (List.mem_of_getElem? (i := 6) rfl)) (ty := .byte) (v' := .int (0 : Int32)) (by decide) rfl rfl (g := (mkF m 48 #[.val (.ref a), .val (.ref d), .val (.int (0 : Int32)), .val (.int (1 : Int32)), .val .null, .val (.ref b)] [(.int (0 : Int32)), (.ref a)])) rfl rfl (hb hby d_jdk_42_method_149_48)
  refine Runs.st (st5_) ?_
  replace F_c := F_c.same W5_
  replace E_a := Jvm.RoadKit.Exa.wr W5_ E_a
  replace F_v := F_v.other W5_ (Or.inr (slot_ne (Or.inr (hw _ (List.mem_of_getElem? (i := 21) rfl))) (Or.inr (hw _ (List.mem_of_getElem? (i := 22) rfl))) (by decide) (t := (.array .byte)) (t' := .byte) (by decide) (by decide)))
  replace V_b := V_b.other W5_ (Ne.symm ne_a_b)
  replace sz := Nat.le_trans sz (Keep.of_wr W5_).1
  have N5_ := Fr.snoc X5_ N4_ g_a
  replace K := K.wr W5_ (Or.inl (List.mem_of_getElem? (i := 0) rfl))
  show Runs p.tables e below _ (T5_.setTop (mkF m 51 #[.val (.ref a), .val (.ref d), .val (.int (0 : Int32)), .val (.int (1 : Int32)), .val .null, .val (.ref b)] []))
  refine Runs.st (fun t' k' => XS.aloadN X5_.here hx rfl (hb hby d_jdk_42_method_149_51) rfl rfl k') ?_
  refine Runs.st (fun t' k' => XS.aload X5_.here hx rfl (hb hby d_jdk_42_method_149_52) rfl rfl k') ?_
  obtain ⟨T6_, h6_, X6_, e6_, W6_, st6_⟩ := putF X5_ hx hZ hown (host := "") (Or.inl (hw _ (List.mem_of_getElem? (i := 25) rfl))) Via.refl e5_ F_v E_a (Or.inr ⟨(hw _ (List.mem_of_getElem? (i := 21) rfl)), rfl, hnm⟩) (hw _ (List.mem_of_getElem? (i := 6) rfl)) (ty := (.array .byte)) (by decide) rfl rfl (g := (mkF m 54 #[.val (.ref a), .val (.ref d), .val (.int (0 : Int32)), .val (.int (1 : Int32)), .val .null, .val (.ref b)] [(.ref b), (.ref a)])) rfl rfl (hb hby d_jdk_42_method_149_54)
  refine Runs.st (st6_) ?_
  replace F_v := F_v.same W6_
  replace E_a := Jvm.RoadKit.Exa.wr W6_ E_a
  replace V_b := V_b.other W6_ (Ne.symm ne_a_b)
  replace F_c := F_c.other W6_ (Or.inr (slot_ne (Or.inr (hw _ (List.mem_of_getElem? (i := 22) rfl))) (Or.inr (hw _ (List.mem_of_getElem? (i := 21) rfl))) (by decide) (t := .byte) (t' := (.array .byte)) (by decide) (by decide)))
  replace sz := Nat.le_trans sz (Keep.of_wr W6_).1
  have N6_ := Fr.snoc X6_ N5_ g_a
  replace K := K.wr W6_ (Or.inl (List.mem_of_getElem? (i := 0) rfl))
  show Runs p.tables e below _ (T6_.setTop (mkF m 57 #[.val (.ref a), .val (.ref d), .val (.int (0 : Int32)), .val (.int (1 : Int32)), .val .null, .val (.ref b)] []))
  refine Runs.ret X6_ hlk (v := none) (fun _ => rfl) (by decide) (by decide) ?_ (fun fs hr => X6_.returnOut hx hret (hb hby d_jdk_42_method_149_57) hr)
  try rw [e6_]
  exact ⟨rfl, N6_, K, E_a, F_c, b, k2, sz_b, F_v, V_b⟩
def Q_rmIC1 (Z : State) (a : Addr) (d : Addr) (c0 : Int32) (k1 : ClassId) (zc : Int32) (h0 : Heap) (n0 : Nat) : Option Value → Heap → List Loc → Prop := (fun v h L => v = none ∧ Fr n0 L ∧ Keep h0 h [a] ∧ Exa Z h a "java/lang/String" ∧ Fld Z h a "java/lang/String" "coder" "B" (.int (0 : Int32)) ∧ ∃ b k2, h0.size ≤ b ∧ Fld Z h a "java/lang/String" "value" "[B" (.ref b) ∧ Arv Z h b k2 .byte (1 : Int32) [(.int (nar .byte (c0.toInt8.toInt32)))] (.int (0 : Int32)))
set_option maxRecDepth 65536 in
set_option maxHeartbeats 40000000 in
theorem rmIC1 (l : Launch) (Z : State) (a0 : Array Value) (hw : ∀ d ∈ tables_1, d.before a0 Z = true) (ws : List Jvm.Cond) (a : Addr) (d : Addr) (c0 : Int32) (k1 : ClassId) (zc : Int32) (h0 : Heap) (n0 : Nat) (Z0 : n0 ≤ h0.size) (E_a : Exa Z h0 a "java/lang/String") (F_v : Fld Z h0 a "java/lang/String" "value" "[B" .null) (F_c : Fld Z h0 a "java/lang/String" "coder" "B" (.int (0 : Int32))) (g_a : n0 ≤ a) (V_d : Arv Z h0 d k1 .char (1 : Int32) [(.int c0)] (.int (0 : Int32))) (Sc : Sta Z h0 "java/lang/String" "COMPACT_STRINGS" "Z" (.int zc)) (hzc : ¬ zc = 0) (u0 : ¬ ((255 : Int32) < c0)) :
    MetFree l (⟨"java/lang/String", "<init>", "([C)V"⟩ : MethodName) (head1 (Jvm.Cond.code (⟨"java/lang/String", "<init>", "([C)V"⟩ : MethodName) jdk_42_method_3_code 2 none :: ws) ({ frames := 3, cells := 1, slots := 1, locals := 52 } : Room)) (fun ar_ U => ar_ = #[(.ref a), (.ref d)] ∧ Z.Warmed39 U.vm ∧ U.heap = h0) (fun _ _ _ _ _ => True) (fun _ U o U' => Phi U (Q_rmIC1 Z a d c0 k1 zc h0 n0) ({ frames := 3, cells := 1, slots := 1, locals := 52 } : Room).cells ({ frames := 3, cells := 1, slots := 1, locals := 52 } : Room).slots o U') := by
  refine MetFree.of_bodySF (plainFor_of_name pn_java_lang_String) hisR ?_
  intro p e s m args below meth c s₁ Bd hml0 hP hK
  obtain ⟨rfl, hZ, hh⟩ := hP
  have hx := Bd.exec
  have hby := Bd.bytes
  have hlk := Bd.notSynchronized
  have hml : c.maxLocals = 2 := hml0
  have hown : s.vm.findClass "java/lang/String" = some m.cls := findClass_of_methodNamed Bd.named
  have hown0 := hown
  have hnm := (name_of_methodNamed Bd.named Bd.method).1
  have hret := Bd.returns
  have X0 : Stand p l e ({ frames := 3, cells := 1, slots := 1, locals := 52 } : Room) s m #[(.ref a), (.ref d)] below meth c s₁ [] 0 0 := Stand.of_body Bd
  have e0 : s₁.heap = h0 := by rw [← hh, Bd.state]; rfl
  have N0 := Fr.nil n0
  have sz := Z0
  have K := Keep.refl h0 [a]
  show Runs p.tables e below (Phi s (Q_rmIC1 Z a d c0 k1 zc h0 n0) ({ frames := 3, cells := 1, slots := 1, locals := 52 } : Room).cells ({ frames := 3, cells := 1, slots := 1, locals := 52 } : Room).slots) _
  refine Runs.st (fun t' k' => castTop (ef_jdk_42_method_3_RR m a d ) k') ?_
  show Runs p.tables e below _ (s₁.setTop (mkF m 0 #[.val (.ref a), .val (.ref d)] []))
  refine Runs.st (fun t' k' => XS.aloadN X0.here hx rfl (hb hby d_jdk_42_method_3_0) rfl rfl k') ?_
  refine Runs.st (fun t' k' => XS.aloadN X0.here hx rfl (hb hby d_jdk_42_method_3_1) rfl rfl k') ?_
  refine Runs.st (fun t' k' => XS.iconst X0.here hx rfl (hb hby d_jdk_42_method_3_2) k') ?_
  refine Runs.st (fun t' k' => XS.aloadN X0.here hx rfl (hb hby d_jdk_42_method_3_3) rfl rfl k') ?_
  obtain ⟨cl1_, Ar1_, -, S1_, M1_, -, -⟩ := id V_d
  refine Runs.st (X0.arraylength hx (by rw [e0]; exact Ar1_.1) (State.isArrayOf_alike hZ.alike Ar1_.2.1) (g := (mkF m 4 #[.val (.ref a), .val (.ref d)] [(.ref d), (.int (0 : Int32)), (.ref d), (.ref a)])) rfl rfl (hb hby d_jdk_42_method_3_4)) ?_
  rw [len_of S1_ M1_]
  show Runs p.tables e below _ (s₁.setTop (mkF m 5 #[.val (.ref a), .val (.ref d)] [(.int (1 : Int32)), (.int (0 : Int32)), (.ref d), (.ref a)]))
  refine Runs.st (fun t' k' => XS.aconstNull X0.here hx rfl (hb hby d_jdk_42_method_3_5) k') ?_
  obtain ⟨_, _, ⟨T2_, L2_, k2_, n2_⟩, -, X2_, ⟨Lc2_, hQ2_, l2_, y2_, z2_⟩, st2_⟩ := X0.specialBack hx (y := (⟨"java/lang/String", "<init>", "([CIILjava/lang/Void;)V"⟩ : MethodName)) rfl hown (mvT hZ (hw _ (List.mem_of_getElem? (i := 12) rfl))) (mvT hZ (hw _ (List.mem_of_getElem? (i := 13) rfl))) (mvT hZ (hw _ (List.mem_of_getElem? (i := 15) rfl))) (by decide) (backOf (W := 0) (rmID1 l Z a0 hw [] a d c0 k1 zc h0 n0 sz E_a F_v F_c g_a V_d Sc hzc u0) hZ (hw _ (List.mem_of_getElem? (i := 15) rfl)) (hw _ (List.mem_of_getElem? (i := 7) rfl)) (by decide) (by decide)) (g := (mkF m 6 #[.val (.ref a), .val (.ref d)] [.null, (.int (1 : Int32)), (.int (0 : Int32)), (.ref d), (.ref a)])) rfl (by rw [hml]; rfl) (Steps.refl _) (a := a) (argsL := [(.ref d), (.int (0 : Int32)), (.int (1 : Int32)), .null]) (rest := []) (lenOf pd__28_5bCIILjava_2flang_2fVoid_3b_29V rfl) rfl (by show 2 * 0 + _ ≤ _; exact Nat.le_of_eq rfl) (hb hby d_jdk_42_method_3_6) (fun _ _ => ⟨rfl, e0, (by decide : 0 + 1 ≤ _), (by decide : 0 + 1 ≤ _)⟩)
  dsimp only [Pt.U, Pt.locs, Pt.cells, Pt.slots] at X2_ l2_ y2_ z2_ st2_ hQ2_
  subst l2_ y2_ z2_
  obtain ⟨rfl, N2_q, K2_, E_a, F_c, b, k2, szb, F_v, V_b⟩ := hQ2_
  have N2_ := Fr.app N0 N2_q
  refine Runs.tr st2_ ?_
  replace X2_ := wider X2_ (c' := 1) (s' := 1) (by decide) (by decide)
  replace sz := Nat.le_trans sz K2_.1
  replace K := K.trans K2_ (allS (Or.inl (List.mem_of_getElem? (i := 0) rfl)) all0)
  show Runs p.tables e below _ (T2_.setTop (mkF m 9 #[.val (.ref a), .val (.ref d)] []))
  refine Runs.ret X2_ hlk (v := none) (fun _ => rfl) (by decide) (by decide) ?_ (fun fs hr => X2_.returnOut hx hret (hb hby d_jdk_42_method_3_9) hr)
  exact ⟨rfl, N2_, K, E_a, F_c, b, k2, szb, F_v, V_b⟩
def Q_rmNL1 (Z : State)   (h0 : Heap) (n0 : Nat) : Option Value → Heap → List Loc → Prop := (fun v h L => v = some (.int (2 : Int32)) ∧ Fr n0 L ∧ h = h0)
theorem ef_jdk_52_method_3_I (m : MethodId) (x0 : Int32)  : entryFrame m #[(.int x0)] 1 = mkF m 0 #[.val (.int x0)] [] := by first | (simp [entryFrame, mkF, argsToLocals, Value.category]; done) | rfl
theorem d_jdk_52_method_3_0 : decode jdk_52_method_3_code 0 = .ok (.iload_n 0, 1) := by decide +kernel
theorem d_jdk_52_method_3_1 : decode jdk_52_method_3_code 1 = .ok (.ifCond .ge 11, 3) := by decide +kernel
theorem d_jdk_52_method_3_12 : decode jdk_52_method_3_code 12 = .ok (.iload_n 0, 1) := by decide +kernel
theorem d_jdk_52_method_3_13 : decode jdk_52_method_3_code 13 = .ok (.ldc 20, 2) := by decide +kernel
theorem d_jdk_52_method_3_15 : decode jdk_52_method_3_code 15 = .ok (.if_icmp .lt 40, 3) := by decide +kernel
theorem d_jdk_52_method_3_55 : decode jdk_52_method_3_code 55 = .ok (.iload_n 0, 1) := by decide +kernel
theorem d_jdk_52_method_3_56 : decode jdk_52_method_3_code 56 = .ok (.iconst 1, 1) := by decide +kernel
theorem d_jdk_52_method_3_57 : decode jdk_52_method_3_code 57 = .ok (.ishl, 1) := by decide +kernel
theorem d_jdk_52_method_3_58 : decode jdk_52_method_3_code 58 = .ok (.ireturn, 1) := by decide +kernel
set_option maxRecDepth 65536 in
set_option maxHeartbeats 40000000 in
theorem rmNL1 (l : Launch) (Z : State) (a0 : Array Value) (hw : ∀ d ∈ tables_1, d.before a0 Z = true) (ws : List Jvm.Cond)   (h0 : Heap) (n0 : Nat) (Z0 : n0 ≤ h0.size)  :
    MetFree l (⟨"java/lang/StringUTF16", "newBytesLength", "(I)I"⟩ : MethodName) (head1 (Jvm.Cond.code (⟨"java/lang/StringUTF16", "newBytesLength", "(I)I"⟩ : MethodName) jdk_52_method_3_code 1 (some .int) :: ws) ({ frames := 0, cells := 0, slots := 0, locals := 0 } : Room)) (fun ar_ U => ar_ = #[(.int (1 : Int32))] ∧ Z.Warmed39 U.vm ∧ U.heap = h0) (fun _ _ _ _ _ => True) (fun _ U o U' => Phi U (Q_rmNL1 Z  h0 n0) ({ frames := 0, cells := 0, slots := 0, locals := 0 } : Room).cells ({ frames := 0, cells := 0, slots := 0, locals := 0 } : Room).slots o U') := by
  refine MetFree.of_bodySF (plainFor_of_name pn_java_lang_StringUTF16) hisR ?_
  intro p e s m args below meth c s₁ Bd hml0 hP hK
  obtain ⟨rfl, hZ, hh⟩ := hP
  have hx := Bd.exec
  have hby := Bd.bytes
  have hlk := Bd.notSynchronized
  have hml : c.maxLocals = 1 := hml0
  have hown : s.vm.findClass "java/lang/StringUTF16" = some m.cls := findClass_of_methodNamed Bd.named
  have hown0 := hown
  have hnm := (name_of_methodNamed Bd.named Bd.method).1
  have hret := Bd.returns
  have X0 : Stand p l e ({ frames := 0, cells := 0, slots := 0, locals := 0 } : Room) s m #[(.int (1 : Int32))] below meth c s₁ [] 0 0 := Stand.of_body Bd
  have e0 : s₁.heap = h0 := by rw [← hh, Bd.state]; rfl
  have N0 := Fr.nil n0
  have sz := Z0
  have K := Keep.refl h0 []
  show Runs p.tables e below (Phi s (Q_rmNL1 Z  h0 n0) ({ frames := 0, cells := 0, slots := 0, locals := 0 } : Room).cells ({ frames := 0, cells := 0, slots := 0, locals := 0 } : Room).slots) _
  refine Runs.st (fun t' k' => castTop (ef_jdk_52_method_3_I m (1 : Int32) ) k') ?_
  show Runs p.tables e below _ (s₁.setTop (mkF m 0 #[.val (.int (1 : Int32))] []))
  refine Runs.st (fun t' k' => XS.iloadN X0.here hx rfl (hb hby d_jdk_52_method_3_0) rfl k') ?_
  refine Runs.st (fun t' k' => XS.ifYes X0.here hx rfl (pc0 := 1) (pc' := 12) rfl (hb hby d_jdk_52_method_3_1) rfl ((if0 _ _).trans (flt (by decide)).2.1) (by decide) (by decide) k') ?_
  show Runs p.tables e below _ (s₁.setTop (mkF m 12 #[.val (.int (1 : Int32))] []))
  refine Runs.st (fun t' k' => XS.iloadN X0.here hx rfl (hb hby d_jdk_52_method_3_12) rfl k') ?_
  refine Runs.st (fun t' k' => X0.ldcInt hx hown (mvT hZ (hw _ (List.mem_of_getElem? (i := 76) rfl))) (g := (mkF m 13 #[.val (.int (1 : Int32))] [(.int (1 : Int32))])) rfl (hb hby d_jdk_52_method_3_13) t' k') ?_
  refine Runs.st (fun t' k' => XS.icmpYes X0.here hx rfl (pc0 := 15) (pc' := 55) rfl (hb hby d_jdk_52_method_3_15) rfl (tlt (by decide)).1 (by decide) (by decide) k') ?_
  show Runs p.tables e below _ (s₁.setTop (mkF m 55 #[.val (.int (1 : Int32))] []))
  refine Runs.st (fun t' k' => XS.iloadN X0.here hx rfl (hb hby d_jdk_52_method_3_55) rfl k') ?_
  refine Runs.st (fun t' k' => XS.iconst X0.here hx rfl (hb hby d_jdk_52_method_3_56) k') ?_
  refine Runs.st (fun t' k' => XS.ishl X0.here hx rfl (hb hby d_jdk_52_method_3_57) rfl k') ?_
  refine Runs.ret X0 hlk (v := (some (.int ((1 : Int32) <<< ((1 : Int32) &&& 31))))) (fun h => by rw [hret] at h; cases h) (by decide) (by decide) ?_ (fun fs hr => retI X0 hx hret (hb hby d_jdk_52_method_3_58) hr)
  try rw [e0]
  exact ⟨congrArg (fun z => some (Value.int z)) (by decide), N0, rfl⟩
def Q_rmNB1 (Z : State)   (h0 : Heap) (n0 : Nat) : Option Value → Heap → List Loc → Prop := (fun v h L => ∃ b k, v = some (.ref b) ∧ Fr n0 L ∧ Keep h0 h [] ∧ h0.size ≤ b ∧ Arv Z h b k .byte (2 : Int32) [(.int (0 : Int32)), (.int (0 : Int32))] (.int (0 : Int32)))
theorem ef_jdk_52_method_2_I (m : MethodId) (x0 : Int32)  : entryFrame m #[(.int x0)] 1 = mkF m 0 #[.val (.int x0)] [] := by first | (simp [entryFrame, mkF, argsToLocals, Value.category]; done) | rfl
theorem d_jdk_52_method_2_0 : decode jdk_52_method_2_code 0 = .ok (.iload_n 0, 1) := by decide +kernel
theorem pd__28I_29I : parseMethodDescriptor "(I)I" = some ⟨[.int], some .int⟩ := by decide +kernel
theorem d_jdk_52_method_2_1 : decode jdk_52_method_2_code 1 = .ok (.invokestatic 11, 3) := by decide +kernel
theorem d_jdk_52_method_2_4 : decode jdk_52_method_2_code 4 = .ok (.newarray .byte, 2) := by decide +kernel
theorem d_jdk_52_method_2_6 : decode jdk_52_method_2_code 6 = .ok (.areturn, 1) := by decide +kernel
set_option maxRecDepth 65536 in
set_option maxHeartbeats 40000000 in
theorem rmNB1 (l : Launch) (Z : State) (a0 : Array Value) (hw : ∀ d ∈ tables_1, d.before a0 Z = true) (ws : List Jvm.Cond)   (h0 : Heap) (n0 : Nat) (Z0 : n0 ≤ h0.size)  :
    MetFree l (⟨"java/lang/StringUTF16", "newBytesFor", "(I)[B"⟩ : MethodName) (head1 (Jvm.Cond.code (⟨"java/lang/StringUTF16", "newBytesFor", "(I)[B"⟩ : MethodName) jdk_52_method_2_code 1 (some (.array .byte)) :: ws) ({ frames := 1, cells := 1, slots := 2, locals := 12 } : Room)) (fun ar_ U => ar_ = #[(.int (1 : Int32))] ∧ Z.Warmed39 U.vm ∧ U.heap = h0) (fun _ _ _ _ _ => True) (fun _ U o U' => Phi U (Q_rmNB1 Z  h0 n0) ({ frames := 1, cells := 1, slots := 2, locals := 12 } : Room).cells ({ frames := 1, cells := 1, slots := 2, locals := 12 } : Room).slots o U') := by
  refine MetFree.of_bodySF (plainFor_of_name pn_java_lang_StringUTF16) hisR ?_
  intro p e s m args below meth c s₁ Bd hml0 hP hK
  obtain ⟨rfl, hZ, hh⟩ := hP
  have hx := Bd.exec
  have hby := Bd.bytes
  have hlk := Bd.notSynchronized
  have hml : c.maxLocals = 1 := hml0
  have hown : s.vm.findClass "java/lang/StringUTF16" = some m.cls := findClass_of_methodNamed Bd.named
  have hown0 := hown
  have hnm := (name_of_methodNamed Bd.named Bd.method).1
  have hret := Bd.returns
  have X0 : Stand p l e ({ frames := 1, cells := 1, slots := 2, locals := 12 } : Room) s m #[(.int (1 : Int32))] below meth c s₁ [] 0 0 := Stand.of_body Bd
  have e0 : s₁.heap = h0 := by rw [← hh, Bd.state]; rfl
  have N0 := Fr.nil n0
  have sz := Z0
  have K := Keep.refl h0 []
  show Runs p.tables e below (Phi s (Q_rmNB1 Z  h0 n0) ({ frames := 1, cells := 1, slots := 2, locals := 12 } : Room).cells ({ frames := 1, cells := 1, slots := 2, locals := 12 } : Room).slots) _
  refine Runs.st (fun t' k' => castTop (ef_jdk_52_method_2_I m (1 : Int32) ) k') ?_
  show Runs p.tables e below _ (s₁.setTop (mkF m 0 #[.val (.int (1 : Int32))] []))
  refine Runs.st (fun t' k' => XS.iloadN X0.here hx rfl (hb hby d_jdk_52_method_2_0) rfl k') ?_
  obtain ⟨_, _, ⟨T1_, L1_, k1_, n1_⟩, -, X1_, ⟨Lc1_, hQ1_, l1_, y1_, z1_⟩, st1_⟩ := Jvm.LawKit.callS X0 hx (y := (⟨"java/lang/StringUTF16", "newBytesLength", "(I)I"⟩ : MethodName)) hown (mvT hZ (hw _ (List.mem_of_getElem? (i := 73) rfl))) (mvT hZ (hw _ (List.mem_of_getElem? (i := 74) rfl))) (mvT hZ (hw _ (List.mem_of_getElem? (i := 57) rfl))) (mvT hZ (hw _ (List.mem_of_getElem? (i := 75) rfl))) (by decide) (backOf (W := 0) (rmNL1 l Z a0 hw [] h0 n0 sz) hZ (hw _ (List.mem_of_getElem? (i := 75) rfl)) (hw _ (List.mem_of_getElem? (i := 57) rfl)) (by decide) (by decide)) (g := (mkF m 1 #[.val (.int (1 : Int32))] [(.int (1 : Int32))])) rfl (by rw [hml]; rfl) (argsL := [(.int (1 : Int32))]) (rest := []) (lenOf pd__28I_29I rfl) rfl (by show 2 * 0 + _ ≤ _; exact Nat.le_of_eq rfl) (hb hby d_jdk_52_method_2_1) (fun _ _ => ⟨rfl, e0, (by decide : 0 + 0 ≤ _), (by decide : 0 + 0 ≤ _)⟩)
  dsimp only [Pt.U, Pt.locs, Pt.cells, Pt.slots] at X1_ l1_ y1_ z1_ st1_ hQ1_
  subst l1_ y1_ z1_
  obtain ⟨rfl, N1_q, e1_⟩ := hQ1_
  have N1_ := Fr.app N0 N1_q
  refine Runs.st (st1_) ?_
  replace X1_ := wider X1_ (c' := 0) (s' := 0) (by decide) (by decide)
  show Runs p.tables e below _ (T1_.setTop (mkF m 4 #[.val (.int (1 : Int32))] [(.int (2 : Int32))]))
  obtain ⟨T2_, h2_, k2_, X2_, e2_, E2_, A2_, st2_⟩ := newP X1_ hx hZ (hw _ (List.mem_of_getElem? (i := 20) rfl)) e1_ (g := (mkF m 4 #[.val (.int (1 : Int32))] [(.int (2 : Int32))])) rfl (hb hby d_jdk_52_method_2_4) rfl (by decide) (cap := 2) (by decide) (by decide) (by decide) (by decide)
  refine Runs.st (st2_) ?_
  obtain ⟨b, g2_⟩ : ∃ z, z = h0.size := ⟨_, rfl⟩
  rw [← g2_] at A2_
  try rw [← g2_]
  have g_b : n0 ≤ b := Nat.le_trans sz (Nat.le_of_eq g2_.symm)
  have sz_b : h0.size ≤ b := Nat.le_trans K.1 (Nat.le_of_eq g2_.symm)
  replace sz := Nat.le_trans sz E2_.1
  replace K := K.ext E2_
  have V_b : Arv Z h2_ b k2_ .byte (2 : Int32) [(.int (0 : Int32)), (.int (0 : Int32))] (.int (0 : Int32)) := (Arv.new A2_ (by decide)).pad (pad_rep [] (.int (0 : Int32)) 2)
  show Runs p.tables e below _ (T2_.setTop (mkF m 6 #[.val (.int (1 : Int32))] [(.ref b)]))
  refine Runs.ret X2_ hlk (v := (some (.ref b))) (fun h => by rw [hret] at h; cases h) (by decide) (by decide) ?_ (fun fs hr => retOut X2_ hx hret rfl (Or.inr (Or.inr (Or.inr (Or.inr ⟨rfl, rfl, rfl⟩)))) (hb hby d_jdk_52_method_2_6) hr)
  try rw [e2_]
  exact ⟨b, _, rfl, N1_, K, sz_b, V_b⟩
def Q_rmPC1_0 (Z : State) (b : Addr) (c0 : Int32) (w0 w1 : Int32) (k : ClassId) (h0 : Heap) (n0 : Nat) : Option Value → Heap → List Loc → Prop := (fun v h L => v = none ∧ Fr n0 L ∧ Keep h0 h [b] ∧ Arv Z h b k .byte (2 : Int32) [(.int (nar .byte ((c0 >>> ((0 : Int32) &&& 31)).toInt8.toInt32))), (.int (nar .byte ((c0 >>> ((8 : Int32) &&& 31)).toInt8.toInt32)))] (.int (0 : Int32)))
theorem ef_jdk_52_method_4_RII (m : MethodId) (x0 : Addr) (x1 : Int32) (x2 : Int32)  : entryFrame m #[(.ref x0), (.int x1), (.int x2)] 3 = mkF m 0 #[.val (.ref x0), .val (.int x1), .val (.int x2)] [] := by first | (simp [entryFrame, mkF, argsToLocals, Value.category]; done) | rfl
theorem d_jdk_52_method_4_0 : decode jdk_52_method_4_code 0 = .ok (.getstatic 44, 3) := by decide +kernel
theorem d_jdk_52_method_4_3 : decode jdk_52_method_4_code 3 = .ok (.ifCond .ne 25, 3) := by decide +kernel
theorem d_jdk_52_method_4_28 : decode jdk_52_method_4_code 28 = .ok (.iload_n 1, 1) := by decide +kernel
theorem d_jdk_52_method_4_29 : decode jdk_52_method_4_code 29 = .ok (.iconst 1, 1) := by decide +kernel
theorem d_jdk_52_method_4_30 : decode jdk_52_method_4_code 30 = .ok (.ishl, 1) := by decide +kernel
theorem d_jdk_52_method_4_31 : decode jdk_52_method_4_code 31 = .ok (.istore_n 1, 1) := by decide +kernel
theorem d_jdk_52_method_4_32 : decode jdk_52_method_4_code 32 = .ok (.aload_n 0, 1) := by decide +kernel
theorem d_jdk_52_method_4_33 : decode jdk_52_method_4_code 33 = .ok (.iload_n 1, 1) := by decide +kernel
theorem d_jdk_52_method_4_34 : decode jdk_52_method_4_code 34 = .ok (.iinc 1 1, 3) := by decide +kernel
theorem d_jdk_52_method_4_37 : decode jdk_52_method_4_code 37 = .ok (.iload_n 2, 1) := by decide +kernel
theorem d_jdk_52_method_4_38 : decode jdk_52_method_4_code 38 = .ok (.getstatic 59, 3) := by decide +kernel
theorem d_jdk_52_method_4_41 : decode jdk_52_method_4_code 41 = .ok (.ishr, 1) := by decide +kernel
theorem d_jdk_52_method_4_42 : decode jdk_52_method_4_code 42 = .ok (.i2b, 1) := by decide +kernel
theorem d_jdk_52_method_4_43 : decode jdk_52_method_4_code 43 = .ok (.bastore, 1) := by decide +kernel
theorem d_jdk_52_method_4_44 : decode jdk_52_method_4_code 44 = .ok (.aload_n 0, 1) := by decide +kernel
theorem d_jdk_52_method_4_45 : decode jdk_52_method_4_code 45 = .ok (.iload_n 1, 1) := by decide +kernel
theorem d_jdk_52_method_4_46 : decode jdk_52_method_4_code 46 = .ok (.iload_n 2, 1) := by decide +kernel
theorem d_jdk_52_method_4_47 : decode jdk_52_method_4_code 47 = .ok (.getstatic 63, 3) := by decide +kernel
theorem d_jdk_52_method_4_50 : decode jdk_52_method_4_code 50 = .ok (.ishr, 1) := by decide +kernel
theorem d_jdk_52_method_4_51 : decode jdk_52_method_4_code 51 = .ok (.i2b, 1) := by decide +kernel
theorem d_jdk_52_method_4_52 : decode jdk_52_method_4_code 52 = .ok (.bastore, 1) := by decide +kernel
theorem d_jdk_52_method_4_53 : decode jdk_52_method_4_code 53 = .ok (.return_, 1) := by decide +kernel
set_option maxRecDepth 65536 in
set_option maxHeartbeats 40000000 in
theorem rmPC1_0 (l : Launch) (Z : State) (a0 : Array Value) (hw : ∀ d ∈ tables_1, d.before a0 Z = true) (ws : List Jvm.Cond) (b : Addr) (c0 : Int32) (w0 w1 : Int32) (k : ClassId) (h0 : Heap) (n0 : Nat) (Z0 : n0 ≤ h0.size) (old : Old Z n0 h0) (Sa : Sta Z Z.heap "java/lang/StringUTF16" "$assertionsDisabled" "Z" (.int (1 : Int32))) (Sh : Sta Z Z.heap "java/lang/StringUTF16" "HI_BYTE_SHIFT" "I" (.int (0 : Int32))) (Sl : Sta Z Z.heap "java/lang/StringUTF16" "LO_BYTE_SHIFT" "I" (.int (8 : Int32))) (V_b : Arv Z h0 b k .byte (2 : Int32) [(.int w0), (.int w1)] (.int (0 : Int32))) (g_b : n0 ≤ b) :
    MetFree l (⟨"java/lang/StringUTF16", "putChar", "([BII)V"⟩ : MethodName) (head1 (Jvm.Cond.code (⟨"java/lang/StringUTF16", "putChar", "([BII)V"⟩ : MethodName) jdk_52_method_4_code 3 none :: ws) ({ frames := 0, cells := 0, slots := 0, locals := 0 } : Room)) (fun ar_ U => ar_ = #[(.ref b), (.int (0 : Int32)), (.int c0)] ∧ Z.Warmed39 U.vm ∧ U.heap = h0) (fun _ _ _ _ _ => True) (fun _ U o U' => Phi U (Q_rmPC1_0 Z b c0 w0 w1 k h0 n0) ({ frames := 0, cells := 0, slots := 0, locals := 0 } : Room).cells ({ frames := 0, cells := 0, slots := 0, locals := 0 } : Room).slots o U') := by
  refine MetFree.of_bodySF (plainFor_of_name pn_java_lang_StringUTF16) hisR ?_
  intro p e s m args below meth c s₁ Bd hml0 hP hK
  obtain ⟨rfl, hZ, hh⟩ := hP
  have hx := Bd.exec
  have hby := Bd.bytes
  have hlk := Bd.notSynchronized
  have hml : c.maxLocals = 3 := hml0
  have hown : s.vm.findClass "java/lang/StringUTF16" = some m.cls := findClass_of_methodNamed Bd.named
  have hown0 := hown
  have hnm := (name_of_methodNamed Bd.named Bd.method).1
  have hret := Bd.returns
  have X0 : Stand p l e ({ frames := 0, cells := 0, slots := 0, locals := 0 } : Room) s m #[(.ref b), (.int (0 : Int32)), (.int c0)] below meth c s₁ [] 0 0 := Stand.of_body Bd
  have e0 : s₁.heap = h0 := by rw [← hh, Bd.state]; rfl
  have N0 := Fr.nil n0
  have sz := Z0
  have K := Keep.refl h0 [b]
  show Runs p.tables e below (Phi s (Q_rmPC1_0 Z b c0 w0 w1 k h0 n0) ({ frames := 0, cells := 0, slots := 0, locals := 0 } : Room).cells ({ frames := 0, cells := 0, slots := 0, locals := 0 } : Room).slots) _
  refine Runs.st (fun t' k' => castTop (ef_jdk_52_method_4_RII m b (0 : Int32) c0 ) k') ?_
  show Runs p.tables e below _ (s₁.setTop (mkF m 0 #[.val (.ref b), .val (.int (0 : Int32)), .val (.int c0)] []))
  obtain ⟨T1_, X1_, e1_, st1_⟩ := getS2 X0 hx hZ hown (host := "") (Or.inl (hw _ (List.mem_of_getElem? (i := 80) rfl))) Via.refl e0 (Sa.ext old.2) (g := (mkF m 0 #[.val (.ref b), .val (.int (0 : Int32)), .val (.int c0)] [])) rfl (hb hby d_jdk_52_method_4_0)
  refine Runs.st (st1_) ?_
  show Runs p.tables e below _ (T1_.setTop (mkF m 3 #[.val (.ref b), .val (.int (0 : Int32)), .val (.int c0)] [(.int (1 : Int32))]))
  refine Runs.st (fun t' k' => XS.ifYes X1_.here hx rfl (pc0 := 3) (pc' := 28) rfl (hb hby d_jdk_52_method_4_3) rfl ((if0 _ _).trans (feq (by decide)).2) (by decide) (by decide) k') ?_
  show Runs p.tables e below _ (T1_.setTop (mkF m 28 #[.val (.ref b), .val (.int (0 : Int32)), .val (.int c0)] []))
  refine Runs.st (fun t' k' => XS.iloadN X1_.here hx rfl (hb hby d_jdk_52_method_4_28) rfl k') ?_
  refine Runs.st (fun t' k' => XS.iconst X1_.here hx rfl (hb hby d_jdk_52_method_4_29) k') ?_
  refine Runs.st (fun t' k' => XS.ishl X1_.here hx rfl (hb hby d_jdk_52_method_4_30) rfl k') ?_
  show Runs p.tables e below _ (T1_.setTop (mkF m 31 #[.val (.ref b), .val (.int (0 : Int32)), .val (.int c0)] [(.int ((0 : Int32) <<< ((1 : Int32) &&& 31)))]))
  rw [show ((0 : Int32) <<< ((1 : Int32) &&& 31)) = (0 : Int32) from rfl]
  show Runs p.tables e below _ (T1_.setTop (mkF m 31 #[.val (.ref b), .val (.int (0 : Int32)), .val (.int c0)] [(.int (0 : Int32))]))
  refine Runs.st (fun t' k' => XS.istoreN X1_.here hx rfl (hb hby d_jdk_52_method_4_31) rfl (l' := #[.val (.ref b), .val (.int (0 : Int32)), .val (.int c0)]) rfl k') ?_
  refine Runs.st (fun t' k' => XS.aloadN X1_.here hx rfl (hb hby d_jdk_52_method_4_32) rfl rfl k') ?_
  show Runs p.tables e below _ (T1_.setTop (mkF m 33 #[.val (.ref b), .val (.int (0 : Int32)), .val (.int c0)] [(.ref b)]))
  refine Runs.st (fun t' k' => XS.iloadN X1_.here hx rfl (hb hby d_jdk_52_method_4_33) rfl k') ?_
  refine Runs.st (fun t' k' => XS.iinc X1_.here hx rfl (hb hby d_jdk_52_method_4_34) rfl (l' := #[.val (.ref b), .val (.int ((0 : Int32) + (1 : Int32))), .val (.int c0)]) rfl k') ?_
  show Runs p.tables e below _ (T1_.setTop (mkF m 37 #[.val (.ref b), .val (.int ((0 : Int32) + (1 : Int32))), .val (.int c0)] [(.int (0 : Int32)), (.ref b)]))
  rw [show ((0 : Int32) + (1 : Int32)) = (1 : Int32) from rfl]
  show Runs p.tables e below _ (T1_.setTop (mkF m 37 #[.val (.ref b), .val (.int (1 : Int32)), .val (.int c0)] [(.int (0 : Int32)), (.ref b)]))
  refine Runs.st (fun t' k' => XS.iloadN X1_.here hx rfl (hb hby d_jdk_52_method_4_37) rfl k') ?_
  obtain ⟨T2_, X2_, e2_, st2_⟩ := getS2 X1_ hx hZ hown (host := "") (Or.inl (hw _ (List.mem_of_getElem? (i := 81) rfl))) Via.refl e1_ (Sh.ext old.2) (g := (mkF m 38 #[.val (.ref b), .val (.int (1 : Int32)), .val (.int c0)] [(.int c0), (.int (0 : Int32)), (.ref b)])) rfl (hb hby d_jdk_52_method_4_38)
  refine Runs.st (st2_) ?_
  show Runs p.tables e below _ (T2_.setTop (mkF m 41 #[.val (.ref b), .val (.int (1 : Int32)), .val (.int c0)] [(.int (0 : Int32)), (.int c0), (.int (0 : Int32)), (.ref b)]))
  refine Runs.st (fun t' k' => XS.ishr X2_.here hx rfl (hb hby d_jdk_52_method_4_41) rfl k') ?_
  refine Runs.st (fun t' k' => XS.i2b X2_.here hx rfl (hb hby d_jdk_52_method_4_42) rfl k') ?_
  obtain ⟨cl3_, Ar3_, q3_, S3_, M3_, Ha3_, G3_⟩ := V_b
  have hin3_ : ¬ ((0 : Int32) < 0 ∨ cl3_.slots.size ≤ ((0 : Int32)).toNatClampNeg) := inb_of S3_ ⟨by decide, by decide⟩
  obtain ⟨T3_, h3_, X3_, e3_, W3_, st3_⟩ := stB X2_ hx hZ e2_ Ar3_ (j := (0 : Int32)) hin3_ (g := (mkF m 43 #[.val (.ref b), .val (.int (1 : Int32)), .val (.int c0)] [(.int ((c0 >>> ((0 : Int32) &&& 31)).toInt8.toInt32)), (.int (0 : Int32)), (.ref b)])) rfl rfl (hb hby d_jdk_52_method_4_43)
  refine Runs.st (st3_) ?_
  have V_b := Arv.set Ar3_ q3_ S3_ M3_ Ha3_ G3_ (fits_nar_byte _) W3_ 0 rfl (Nat.le_of_ble_eq_true rfl)
  replace old := old.wr W3_ g_b
  replace sz := Nat.le_trans sz (Keep.of_wr W3_).1
  have N3_ := Fr.snoc X3_ N0 g_b
  replace K := K.wr W3_ (Or.inl (List.mem_of_getElem? (i := 0) rfl))
  show Runs p.tables e below _ (T3_.setTop (mkF m 44 #[.val (.ref b), .val (.int (1 : Int32)), .val (.int c0)] []))
  refine Runs.st (fun t' k' => XS.aloadN X3_.here hx rfl (hb hby d_jdk_52_method_4_44) rfl rfl k') ?_
  refine Runs.st (fun t' k' => XS.iloadN X3_.here hx rfl (hb hby d_jdk_52_method_4_45) rfl k') ?_
  refine Runs.st (fun t' k' => XS.iloadN X3_.here hx rfl (hb hby d_jdk_52_method_4_46) rfl k') ?_
  obtain ⟨T4_, X4_, e4_, st4_⟩ := getS2 X3_ hx hZ hown (host := "") (Or.inl (hw _ (List.mem_of_getElem? (i := 82) rfl))) Via.refl e3_ (Sl.ext old.2) (g := (mkF m 47 #[.val (.ref b), .val (.int (1 : Int32)), .val (.int c0)] [(.int c0), (.int (1 : Int32)), (.ref b)])) rfl (hb hby d_jdk_52_method_4_47)
  refine Runs.st (st4_) ?_
  show Runs p.tables e below _ (T4_.setTop (mkF m 50 #[.val (.ref b), .val (.int (1 : Int32)), .val (.int c0)] [(.int (8 : Int32)), (.int c0), (.int (1 : Int32)), (.ref b)]))
  refine Runs.st (fun t' k' => XS.ishr X4_.here hx rfl (hb hby d_jdk_52_method_4_50) rfl k') ?_
  refine Runs.st (fun t' k' => XS.i2b X4_.here hx rfl (hb hby d_jdk_52_method_4_51) rfl k') ?_
  obtain ⟨cl5_, Ar5_, q5_, S5_, M5_, Ha5_, G5_⟩ := V_b
  have hin5_ : ¬ ((1 : Int32) < 0 ∨ cl5_.slots.size ≤ ((1 : Int32)).toNatClampNeg) := inb_of S5_ ⟨by decide, by decide⟩
  obtain ⟨T5_, h5_, X5_, e5_, W5_, st5_⟩ := stB X4_ hx hZ e4_ Ar5_ (j := (1 : Int32)) hin5_ (g := (mkF m 52 #[.val (.ref b), .val (.int (1 : Int32)), .val (.int c0)] [(.int ((c0 >>> ((8 : Int32) &&& 31)).toInt8.toInt32)), (.int (1 : Int32)), (.ref b)])) rfl rfl (hb hby d_jdk_52_method_4_52)
  refine Runs.st (st5_) ?_
  have V_b := Arv.set Ar5_ q5_ S5_ M5_ Ha5_ G5_ (fits_nar_byte _) W5_ 1 rfl (Nat.le_of_ble_eq_true rfl)
  replace old := old.wr W5_ g_b
  replace sz := Nat.le_trans sz (Keep.of_wr W5_).1
  have N5_ := Fr.snoc X5_ N3_ g_b
  replace K := K.wr W5_ (Or.inl (List.mem_of_getElem? (i := 0) rfl))
  show Runs p.tables e below _ (T5_.setTop (mkF m 53 #[.val (.ref b), .val (.int (1 : Int32)), .val (.int c0)] []))
  refine Runs.ret X5_ hlk (v := none) (fun _ => rfl) (by decide) (by decide) ?_ (fun fs hr => X5_.returnOut hx hret (hb hby d_jdk_52_method_4_53) hr)
  try rw [e5_]
  exact ⟨rfl, N5_, K, V_b⟩
def Q_rmTU1 (Z : State) (a : Addr) (c0 : Int32) (k1 : ClassId) (h0 : Heap) (n0 : Nat) : Option Value → Heap → List Loc → Prop := (fun v h L => ∃ b k, v = some (.ref b) ∧ Fr n0 L ∧ Keep h0 h [] ∧ h0.size ≤ b ∧ Arv Z h b k .byte (2 : Int32) [(.int (nar .byte ((c0 >>> ((0 : Int32) &&& 31)).toInt8.toInt32))), (.int (nar .byte ((c0 >>> ((8 : Int32) &&& 31)).toInt8.toInt32)))] (.int (0 : Int32)))
theorem ef_jdk_52_method_14_RII (m : MethodId) (x0 : Addr) (x1 : Int32) (x2 : Int32)  : entryFrame m #[(.ref x0), (.int x1), (.int x2)] 5 = mkF m 0 #[.val (.ref x0), .val (.int x1), .val (.int x2), .unset, .unset] [] := by first | (simp [entryFrame, mkF, argsToLocals, Value.category]; done) | rfl
theorem d_jdk_52_method_14_0 : decode jdk_52_method_14_code 0 = .ok (.iload_n 2, 1) := by decide +kernel
theorem pd__28I_29_5bB : parseMethodDescriptor "(I)[B" = some ⟨[.int], some (.array .byte)⟩ := by decide +kernel
theorem d_jdk_52_method_14_1 : decode jdk_52_method_14_code 1 = .ok (.invokestatic 107, 3) := by decide +kernel
theorem d_jdk_52_method_14_4 : decode jdk_52_method_14_code 4 = .ok (.astore_n 3, 1) := by decide +kernel
theorem d_jdk_52_method_14_5 : decode jdk_52_method_14_code 5 = .ok (.iconst 0, 1) := by decide +kernel
theorem d_jdk_52_method_14_6 : decode jdk_52_method_14_code 6 = .ok (.istore 4, 2) := by decide +kernel
theorem d_jdk_52_method_14_8 : decode jdk_52_method_14_code 8 = .ok (.iload 4, 2) := by decide +kernel
theorem d_jdk_52_method_14_10 : decode jdk_52_method_14_code 10 = .ok (.iload_n 2, 1) := by decide +kernel
theorem d_jdk_52_method_14_11 : decode jdk_52_method_14_code 11 = .ok (.if_icmp .ge 21, 3) := by decide +kernel
theorem d_jdk_52_method_14_14 : decode jdk_52_method_14_code 14 = .ok (.aload_n 3, 1) := by decide +kernel
theorem d_jdk_52_method_14_15 : decode jdk_52_method_14_code 15 = .ok (.iload 4, 2) := by decide +kernel
theorem d_jdk_52_method_14_17 : decode jdk_52_method_14_code 17 = .ok (.aload_n 0, 1) := by decide +kernel
theorem d_jdk_52_method_14_18 : decode jdk_52_method_14_code 18 = .ok (.iload_n 1, 1) := by decide +kernel
theorem d_jdk_52_method_14_19 : decode jdk_52_method_14_code 19 = .ok (.caload, 1) := by decide +kernel
theorem pd__28_5bBII_29V : parseMethodDescriptor "([BII)V" = some ⟨[(.array .byte), .int, .int], none⟩ := by decide +kernel
theorem d_jdk_52_method_14_20 : decode jdk_52_method_14_code 20 = .ok (.invokestatic 111, 3) := by decide +kernel
theorem d_jdk_52_method_14_23 : decode jdk_52_method_14_code 23 = .ok (.iinc 1 1, 3) := by decide +kernel
theorem d_jdk_52_method_14_26 : decode jdk_52_method_14_code 26 = .ok (.iinc 4 1, 3) := by decide +kernel
theorem d_jdk_52_method_14_29 : decode jdk_52_method_14_code 29 = .ok (.goto (-21), 3) := by decide +kernel
theorem d_jdk_52_method_14_32 : decode jdk_52_method_14_code 32 = .ok (.aload_n 3, 1) := by decide +kernel
theorem d_jdk_52_method_14_33 : decode jdk_52_method_14_code 33 = .ok (.areturn, 1) := by decide +kernel
set_option maxRecDepth 65536 in
set_option maxHeartbeats 40000000 in
theorem rmTU1 (l : Launch) (Z : State) (a0 : Array Value) (hw : ∀ d ∈ tables_1, d.before a0 Z = true) (ws : List Jvm.Cond) (a : Addr) (c0 : Int32) (k1 : ClassId) (h0 : Heap) (n0 : Nat) (Z0 : n0 ≤ h0.size) (old : Old Z n0 h0) (Sa : Sta Z Z.heap "java/lang/StringUTF16" "$assertionsDisabled" "Z" (.int (1 : Int32))) (Sh : Sta Z Z.heap "java/lang/StringUTF16" "HI_BYTE_SHIFT" "I" (.int (0 : Int32))) (Sl : Sta Z Z.heap "java/lang/StringUTF16" "LO_BYTE_SHIFT" "I" (.int (8 : Int32))) (V_a : Arv Z h0 a k1 .char (1 : Int32) [(.int c0)] (.int (0 : Int32))) :
    MetFree l (⟨"java/lang/StringUTF16", "toBytes", "([CII)[B"⟩ : MethodName) (head1 (Jvm.Cond.code (⟨"java/lang/StringUTF16", "toBytes", "([CII)[B"⟩ : MethodName) jdk_52_method_14_code 5 (some (.array .byte)) :: ws) ({ frames := 2, cells := 1, slots := 2, locals := 24 } : Room)) (fun ar_ U => ar_ = #[(.ref a), (.int (0 : Int32)), (.int (1 : Int32))] ∧ Z.Warmed39 U.vm ∧ U.heap = h0) (fun _ _ _ _ _ => True) (fun _ U o U' => Phi U (Q_rmTU1 Z a c0 k1 h0 n0) ({ frames := 2, cells := 1, slots := 2, locals := 24 } : Room).cells ({ frames := 2, cells := 1, slots := 2, locals := 24 } : Room).slots o U') := by
  refine MetFree.of_bodySF (plainFor_of_name pn_java_lang_StringUTF16) hisR ?_
  intro p e s m args below meth c s₁ Bd hml0 hP hK
  obtain ⟨rfl, hZ, hh⟩ := hP
  have hx := Bd.exec
  have hby := Bd.bytes
  have hlk := Bd.notSynchronized
  have hml : c.maxLocals = 5 := hml0
  have hown : s.vm.findClass "java/lang/StringUTF16" = some m.cls := findClass_of_methodNamed Bd.named
  have hown0 := hown
  have hnm := (name_of_methodNamed Bd.named Bd.method).1
  have hret := Bd.returns
  have X0 : Stand p l e ({ frames := 2, cells := 1, slots := 2, locals := 24 } : Room) s m #[(.ref a), (.int (0 : Int32)), (.int (1 : Int32))] below meth c s₁ [] 0 0 := Stand.of_body Bd
  have e0 : s₁.heap = h0 := by rw [← hh, Bd.state]; rfl
  have N0 := Fr.nil n0
  have sz := Z0
  have K := Keep.refl h0 []
  show Runs p.tables e below (Phi s (Q_rmTU1 Z a c0 k1 h0 n0) ({ frames := 2, cells := 1, slots := 2, locals := 24 } : Room).cells ({ frames := 2, cells := 1, slots := 2, locals := 24 } : Room).slots) _
  refine Runs.st (fun t' k' => castTop (ef_jdk_52_method_14_RII m a (0 : Int32) (1 : Int32) ) k') ?_
  show Runs p.tables e below _ (s₁.setTop (mkF m 0 #[.val (.ref a), .val (.int (0 : Int32)), .val (.int (1 : Int32)), .unset, .unset] []))
  refine Runs.st (fun t' k' => XS.iloadN X0.here hx rfl (hb hby d_jdk_52_method_14_0) rfl k') ?_
  have kz1_ := K.1
  have gz1_ := sz
  have lt1__a := V_a.lt
  obtain ⟨_, _, ⟨T1_, L1_, k1_, n1_⟩, -, X1_, ⟨Lc1_, hQ1_, l1_, y1_, z1_⟩, st1_⟩ := Jvm.LawKit.callS X0 hx (y := (⟨"java/lang/StringUTF16", "newBytesFor", "(I)[B"⟩ : MethodName)) hown (mvT hZ (hw _ (List.mem_of_getElem? (i := 70) rfl))) (mvT hZ (hw _ (List.mem_of_getElem? (i := 71) rfl))) (mvT hZ (hw _ (List.mem_of_getElem? (i := 57) rfl))) (mvT hZ (hw _ (List.mem_of_getElem? (i := 72) rfl))) (by decide) (backOf (W := 0) (rmNB1 l Z a0 hw [] h0 n0 sz) hZ (hw _ (List.mem_of_getElem? (i := 72) rfl)) (hw _ (List.mem_of_getElem? (i := 57) rfl)) (by decide) (by decide)) (g := (mkF m 1 #[.val (.ref a), .val (.int (0 : Int32)), .val (.int (1 : Int32)), .unset, .unset] [(.int (1 : Int32))])) rfl (by rw [hml]; rfl) (argsL := [(.int (1 : Int32))]) (rest := []) (lenOf pd__28I_29_5bB rfl) rfl (by show 2 * 0 + _ ≤ _; exact Nat.le_of_eq rfl) (hb hby d_jdk_52_method_14_1) (fun _ _ => ⟨rfl, e0, (by decide : 0 + 1 ≤ _), (by decide : 0 + 2 ≤ _)⟩)
  dsimp only [Pt.U, Pt.locs, Pt.cells, Pt.slots] at X1_ l1_ y1_ z1_ st1_ hQ1_
  subst l1_ y1_ z1_
  obtain ⟨b, kb, rfl, N1_q, K1_, szb, V_b⟩ := hQ1_
  have N1_ := Fr.app N0 N1_q
  refine Runs.st (st1_) ?_
  replace X1_ := wider X1_ (c' := 1) (s' := 2) (by decide) (by decide)
  replace old := old.keep K1_ all0
  replace V_a := V_a.keep K1_ nin0
  replace sz := Nat.le_trans sz K1_.1
  replace K := K.trans K1_ all0
  have sz_b : h0.size ≤ b := Nat.le_trans kz1_ szb
  have g_b : n0 ≤ b := Nat.le_trans gz1_ szb
  have ne_a_b : a ≠ b := Nat.ne_of_lt (Nat.lt_of_lt_of_le lt1__a szb)
  show Runs p.tables e below _ (T1_.setTop (mkF m 4 #[.val (.ref a), .val (.int (0 : Int32)), .val (.int (1 : Int32)), .unset, .unset] [(.ref b)]))
  refine Runs.st (fun t' k' => XS.astoreN X1_.here hx rfl (hb hby d_jdk_52_method_14_4) rfl rfl (l' := #[.val (.ref a), .val (.int (0 : Int32)), .val (.int (1 : Int32)), .val (.ref b), .unset]) rfl k') ?_
  refine Runs.st (fun t' k' => XS.iconst X1_.here hx rfl (hb hby d_jdk_52_method_14_5) k') ?_
  refine Runs.st (fun t' k' => XS.istore X1_.here hx rfl (hb hby d_jdk_52_method_14_6) rfl (l' := #[.val (.ref a), .val (.int (0 : Int32)), .val (.int (1 : Int32)), .val (.ref b), .val (.int (0 : Int32))]) rfl k') ?_
  refine Runs.st (fun t' k' => XS.iload X1_.here hx rfl (hb hby d_jdk_52_method_14_8) rfl k') ?_
  refine Runs.st (fun t' k' => XS.iloadN X1_.here hx rfl (hb hby d_jdk_52_method_14_10) rfl k') ?_
  show Runs p.tables e below _ (T1_.setTop (mkF m 11 #[.val (.ref a), .val (.int (0 : Int32)), .val (.int (1 : Int32)), .val (.ref b), .val (.int (0 : Int32))] [(.int (1 : Int32)), (.int (0 : Int32))]))
  refine Runs.st (fun t' k' => XS.icmpNo X1_.here hx rfl (hb hby d_jdk_52_method_14_11) rfl (tlt (by decide)).2.1 k') ?_
  show Runs p.tables e below _ (T1_.setTop (mkF m 14 #[.val (.ref a), .val (.int (0 : Int32)), .val (.int (1 : Int32)), .val (.ref b), .val (.int (0 : Int32))] []))
  refine Runs.st (fun t' k' => XS.aloadN X1_.here hx rfl (hb hby d_jdk_52_method_14_14) rfl rfl k') ?_
  refine Runs.st (fun t' k' => XS.iload X1_.here hx rfl (hb hby d_jdk_52_method_14_15) rfl k') ?_
  refine Runs.st (fun t' k' => XS.aloadN X1_.here hx rfl (hb hby d_jdk_52_method_14_17) rfl rfl k') ?_
  refine Runs.st (fun t' k' => XS.iloadN X1_.here hx rfl (hb hby d_jdk_52_method_14_18) rfl k') ?_
  obtain ⟨cl2_, Ar2_, -, S2_, M2_, Ha2_, -⟩ := id V_a
  have hin2_ : ¬ ((0 : Int32) < 0 ∨ cl2_.slots.size ≤ ((0 : Int32)).toNatClampNeg) := inb_of S2_ ⟨by decide, by decide⟩
  refine Runs.st (X1_.caload hx (j := (0 : Int32)) (v := (.int c0)) Ar2_.1 (State.isArrayOf_alike hZ.alike Ar2_.2.1) Ar2_.2.2 hin2_ (Ha2_.at hin2_ rfl) (g := (mkF m 19 #[.val (.ref a), .val (.int (0 : Int32)), .val (.int (1 : Int32)), .val (.ref b), .val (.int (0 : Int32))] [(.int (0 : Int32)), (.ref a), (.int (0 : Int32)), (.ref b)])) rfl rfl (hb hby d_jdk_52_method_14_19)) ?_
  show Runs p.tables e below _ (T1_.setTop (mkF m 20 #[.val (.ref a), .val (.int (0 : Int32)), .val (.int (1 : Int32)), .val (.ref b), .val (.int (0 : Int32))] [(.int c0), (.int (0 : Int32)), (.ref b)]))
  obtain ⟨_, _, ⟨T3_, L3_, k3_, n3_⟩, -, X3_, ⟨Lc3_, hQ3_, l3_, y3_, z3_⟩, st3_⟩ := Jvm.LawKit.callS X1_ hx (y := (⟨"java/lang/StringUTF16", "putChar", "([BII)V"⟩ : MethodName)) hown (mvT hZ (hw _ (List.mem_of_getElem? (i := 77) rfl))) (mvT hZ (hw _ (List.mem_of_getElem? (i := 78) rfl))) (mvT hZ (hw _ (List.mem_of_getElem? (i := 57) rfl))) (mvT hZ (hw _ (List.mem_of_getElem? (i := 79) rfl))) (by decide) (backOf (W := 0) (rmPC1_0 l Z a0 hw [] b c0 (0 : Int32) (0 : Int32) kb T1_.heap n0 sz old Sa Sh Sl V_b g_b) hZ (hw _ (List.mem_of_getElem? (i := 79) rfl)) (hw _ (List.mem_of_getElem? (i := 57) rfl)) (by decide) (by decide)) (g := (mkF m 20 #[.val (.ref a), .val (.int (0 : Int32)), .val (.int (1 : Int32)), .val (.ref b), .val (.int (0 : Int32))] [(.int c0), (.int (0 : Int32)), (.ref b)])) rfl (by rw [hml]; rfl) (argsL := [(.ref b), (.int (0 : Int32)), (.int c0)]) (rest := []) (lenOf pd__28_5bBII_29V rfl) rfl (by show 2 * 0 + _ ≤ _; exact Nat.le_of_eq rfl) (hb hby d_jdk_52_method_14_20) (fun _ _ => ⟨rfl, rfl, (by decide : 1 + 0 ≤ _), (by decide : 2 + 0 ≤ _)⟩)
  dsimp only [Pt.U, Pt.locs, Pt.cells, Pt.slots] at X3_ l3_ y3_ z3_ st3_ hQ3_
  subst l3_ y3_ z3_
  obtain ⟨rfl, N3_q, K3_, V_b⟩ := hQ3_
  have N3_ := Fr.app N1_ N3_q
  refine Runs.st (st3_) ?_
  replace X3_ := wider X3_ (c' := 1) (s' := 2) (by decide) (by decide)
  replace old := old.keep K3_ (allS g_b all0)
  replace V_a := V_a.keep K3_ (ninS ne_a_b nin0)
  replace sz := Nat.le_trans sz K3_.1
  replace K := K.trans K3_ (allS (Or.inr sz_b) all0)
  show Runs p.tables e below _ (T3_.setTop (mkF m 23 #[.val (.ref a), .val (.int (0 : Int32)), .val (.int (1 : Int32)), .val (.ref b), .val (.int (0 : Int32))] []))
  refine Runs.st (fun t' k' => XS.iinc X3_.here hx rfl (hb hby d_jdk_52_method_14_23) rfl (l' := #[.val (.ref a), .val (.int ((0 : Int32) + (1 : Int32))), .val (.int (1 : Int32)), .val (.ref b), .val (.int (0 : Int32))]) rfl k') ?_
  refine Runs.st (fun t' k' => XS.iinc X3_.here hx rfl (hb hby d_jdk_52_method_14_26) rfl (l' := #[.val (.ref a), .val (.int ((0 : Int32) + (1 : Int32))), .val (.int (1 : Int32)), .val (.ref b), .val (.int ((0 : Int32) + (1 : Int32)))]) rfl k') ?_
  show Runs p.tables e below _ (T3_.setTop (mkF m 29 #[.val (.ref a), .val (.int ((0 : Int32) + (1 : Int32))), .val (.int (1 : Int32)), .val (.ref b), .val (.int ((0 : Int32) + (1 : Int32)))] []))
  rw [show ((0 : Int32) + (1 : Int32)) = (1 : Int32) from rfl]
  show Runs p.tables e below _ (T3_.setTop (mkF m 29 #[.val (.ref a), .val (.int (1 : Int32)), .val (.int (1 : Int32)), .val (.ref b), .val (.int (1 : Int32))] []))
  refine Runs.st (fun t' k' => XS.goto X3_.here hx rfl (pc0 := 29) (pc' := 8) rfl (hb hby d_jdk_52_method_14_29) (by decide) (by decide) k') ?_
  refine Runs.st (fun t' k' => XS.iload X3_.here hx rfl (hb hby d_jdk_52_method_14_8) rfl k') ?_
  refine Runs.st (fun t' k' => XS.iloadN X3_.here hx rfl (hb hby d_jdk_52_method_14_10) rfl k') ?_
  show Runs p.tables e below _ (T3_.setTop (mkF m 11 #[.val (.ref a), .val (.int (1 : Int32)), .val (.int (1 : Int32)), .val (.ref b), .val (.int (1 : Int32))] [(.int (1 : Int32)), (.int (1 : Int32))]))
  refine Runs.st (fun t' k' => XS.icmpYes X3_.here hx rfl (pc0 := 11) (pc' := 32) rfl (hb hby d_jdk_52_method_14_11) rfl (flt (by decide)).2.1 (by decide) (by decide) k') ?_
  show Runs p.tables e below _ (T3_.setTop (mkF m 32 #[.val (.ref a), .val (.int (1 : Int32)), .val (.int (1 : Int32)), .val (.ref b), .val (.int (1 : Int32))] []))
  refine Runs.st (fun t' k' => XS.aloadN X3_.here hx rfl (hb hby d_jdk_52_method_14_32) rfl rfl k') ?_
  refine Runs.ret X3_ hlk (v := (some (.ref b))) (fun h => by rw [hret] at h; cases h) (by decide) (by decide) ?_ (fun fs hr => retOut X3_ hx hret rfl (Or.inr (Or.inr (Or.inr (Or.inr ⟨rfl, rfl, rfl⟩)))) (hb hby d_jdk_52_method_14_33) hr)
  exact ⟨b, kb, rfl, N3_, K, sz_b, V_b⟩
def Q_rmCU1 (Z : State) (b : Addr) (k2 : ClassId) (vs : List Value) (h0 : Heap) (n0 : Nat) : Option Value → Heap → List Loc → Prop := (fun v h L => v = some (.int (1 : Int32)) ∧ Fr n0 L ∧ h = h0)
set_option maxRecDepth 65536 in
set_option maxHeartbeats 40000000 in
theorem rmCU1 (l : Launch) (Z : State) (a0 : Array Value) (hw : ∀ d ∈ tables_1, d.before a0 Z = true) (ws : List Jvm.Cond) (b : Addr) (k2 : ClassId) (vs : List Value) (h0 : Heap) (n0 : Nat) (Z0 : n0 ≤ h0.size) (V_b : Arv Z h0 b k2 .byte (2 : Int32) vs (.int (0 : Int32))) :
    MetFree l (⟨"java/lang/StringUTF16", "coderFromArrayLen", "([BI)B"⟩ : MethodName) (head1 (Jvm.Cond.code (⟨"java/lang/StringUTF16", "coderFromArrayLen", "([BI)B"⟩ : MethodName) jdk_52_method_15_code 2 (some .byte) :: ws) ({ frames := 0, cells := 0, slots := 0, locals := 0 } : Room)) (fun ar_ U => ar_ = #[(.ref b), (.int (1 : Int32))] ∧ Z.Warmed39 U.vm ∧ U.heap = h0) (fun _ _ _ _ _ => True) (fun _ U o U' => Phi U (Q_rmCU1 Z b k2 vs h0 n0) ({ frames := 0, cells := 0, slots := 0, locals := 0 } : Room).cells ({ frames := 0, cells := 0, slots := 0, locals := 0 } : Room).slots o U') := by
  refine MetFree.of_bodySF (plainFor_of_name pn_java_lang_StringUTF16) hisR ?_
  intro p e s m args below meth c s₁ Bd hml0 hP hK
  obtain ⟨rfl, hZ, hh⟩ := hP
  have hx := Bd.exec
  have hby := Bd.bytes
  have hlk := Bd.notSynchronized
  have hml : c.maxLocals = 2 := hml0
  have hown : s.vm.findClass "java/lang/StringUTF16" = some m.cls := findClass_of_methodNamed Bd.named
  have hown0 := hown
  have hnm := (name_of_methodNamed Bd.named Bd.method).1
  have hret := Bd.returns
  have X0 : Stand p l e ({ frames := 0, cells := 0, slots := 0, locals := 0 } : Room) s m #[(.ref b), (.int (1 : Int32))] below meth c s₁ [] 0 0 := Stand.of_body Bd
  have e0 : s₁.heap = h0 := by rw [← hh, Bd.state]; rfl
  have N0 := Fr.nil n0
  have sz := Z0
  have K := Keep.refl h0 []
  show Runs p.tables e below (Phi s (Q_rmCU1 Z b k2 vs h0 n0) ({ frames := 0, cells := 0, slots := 0, locals := 0 } : Room).cells ({ frames := 0, cells := 0, slots := 0, locals := 0 } : Room).slots) _
  refine Runs.st (fun t' k' => castTop (ef_jdk_52_method_15_RI m b (1 : Int32) ) k') ?_
  show Runs p.tables e below _ (s₁.setTop (mkF m 0 #[.val (.ref b), .val (.int (1 : Int32))] []))
  refine Runs.st (fun t' k' => XS.iloadN X0.here hx rfl (hb hby d_jdk_52_method_15_0) rfl k') ?_
  refine Runs.st (fun t' k' => XS.aloadN X0.here hx rfl (hb hby d_jdk_52_method_15_1) rfl rfl k') ?_
  obtain ⟨cl1_, Ar1_, -, S1_, M1_, -, -⟩ := id V_b
  refine Runs.st (X0.arraylength hx (by rw [e0]; exact Ar1_.1) (State.isArrayOf_alike hZ.alike Ar1_.2.1) (g := (mkF m 2 #[.val (.ref b), .val (.int (1 : Int32))] [(.ref b), (.int (1 : Int32))])) rfl rfl (hb hby d_jdk_52_method_15_2)) ?_
  rw [len_of S1_ M1_]
  show Runs p.tables e below _ (s₁.setTop (mkF m 3 #[.val (.ref b), .val (.int (1 : Int32))] [(.int (2 : Int32)), (.int (1 : Int32))]))
  refine Runs.st (fun t' k' => XS.isub X0.here hx rfl (hb hby d_jdk_52_method_15_3) rfl k') ?_
  refine Runs.st (fun t' k' => XS.bipush X0.here hx rfl (hb hby d_jdk_52_method_15_4) k') ?_
  refine Runs.st (fun t' k' => XS.iushr X0.here hx rfl (hb hby d_jdk_52_method_15_6) rfl k') ?_
  refine Runs.st (fun t' k' => XS.i2b X0.here hx rfl (hb hby d_jdk_52_method_15_7) rfl k') ?_
  refine Runs.ret X0 hlk (v := (some (.int (nar .byte (((((1 : Int32) - (2 : Int32)).toUInt32 >>> ((31 : Int32) &&& 31).toUInt32).toInt32).toInt8.toInt32))))) (fun h => by rw [hret] at h; cases h) (by decide) (by decide) ?_ (fun fs hr => retN X0 hx (t := .byte) hret (by simp) (hb hby d_jdk_52_method_15_8) hr)
  try rw [e0]
  exact ⟨congrArg (fun z => some (Value.int z)) (by decide), N0, rfl⟩
def Q_rmCV1_0 (Z : State) (a : Addr) (b : Addr) (c0 : Int32) (k1 k2 : ClassId) (h0 : Heap) (n0 : Nat) : Option Value → Heap → List Loc → Prop := (fun v h L => v = some (.int (0 : Int32)) ∧ Fr n0 L ∧ Keep h0 h [b])
theorem d_jdk_52_method_21_23 : decode jdk_52_method_21_code 23 = .ok (.iload 5, 2) := by decide +kernel
theorem d_jdk_52_method_21_25 : decode jdk_52_method_21_code 25 = .ok (.ireturn, 1) := by decide +kernel
set_option maxRecDepth 65536 in
set_option maxHeartbeats 40000000 in
theorem rmCV1_0 (l : Launch) (Z : State) (a0 : Array Value) (hw : ∀ d ∈ tables_1, d.before a0 Z = true) (ws : List Jvm.Cond) (a : Addr) (b : Addr) (c0 : Int32) (k1 k2 : ClassId) (h0 : Heap) (n0 : Nat) (Z0 : n0 ≤ h0.size) (V_a : Arv Z h0 a k1 .char (1 : Int32) [(.int c0)] (.int (0 : Int32))) (V_b : Arv Z h0 b k2 .byte (1 : Int32) [(.int (0 : Int32))] (.int (0 : Int32))) (ne_a_b : a ≠ b) (g_b : n0 ≤ b)  (u0 : (255 : Int32) < c0) :
    MetFree l (⟨"java/lang/StringUTF16", "compress", "([CI[BII)I"⟩ : MethodName) (head1 (Jvm.Cond.code (⟨"java/lang/StringUTF16", "compress", "([CI[BII)I"⟩ : MethodName) jdk_52_method_21_code 7 (some .int) :: ws) ({ frames := 0, cells := 0, slots := 0, locals := 0 } : Room)) (fun ar_ U => ar_ = #[(.ref a), (.int (0 : Int32)), (.ref b), (.int (0 : Int32)), (.int (1 : Int32))] ∧ Z.Warmed39 U.vm ∧ U.heap = h0) (fun _ _ _ _ _ => True) (fun _ U o U' => Phi U (Q_rmCV1_0 Z a b c0 k1 k2 h0 n0) ({ frames := 0, cells := 0, slots := 0, locals := 0 } : Room).cells ({ frames := 0, cells := 0, slots := 0, locals := 0 } : Room).slots o U') := by
  refine MetFree.of_bodySF (plainFor_of_name pn_java_lang_StringUTF16) hisR ?_
  intro p e s m args below meth c s₁ Bd hml0 hP hK
  obtain ⟨rfl, hZ, hh⟩ := hP
  have hx := Bd.exec
  have hby := Bd.bytes
  have hlk := Bd.notSynchronized
  have hml : c.maxLocals = 7 := hml0
  have hown : s.vm.findClass "java/lang/StringUTF16" = some m.cls := findClass_of_methodNamed Bd.named
  have hown0 := hown
  have hnm := (name_of_methodNamed Bd.named Bd.method).1
  have hret := Bd.returns
  have X0 : Stand p l e ({ frames := 0, cells := 0, slots := 0, locals := 0 } : Room) s m #[(.ref a), (.int (0 : Int32)), (.ref b), (.int (0 : Int32)), (.int (1 : Int32))] below meth c s₁ [] 0 0 := Stand.of_body Bd
  have e0 : s₁.heap = h0 := by rw [← hh, Bd.state]; rfl
  have N0 := Fr.nil n0
  have sz := Z0
  have K := Keep.refl h0 [b]
  show Runs p.tables e below (Phi s (Q_rmCV1_0 Z a b c0 k1 k2 h0 n0) ({ frames := 0, cells := 0, slots := 0, locals := 0 } : Room).cells ({ frames := 0, cells := 0, slots := 0, locals := 0 } : Room).slots) _
  refine Runs.st (fun t' k' => castTop (ef_jdk_52_method_21_RIRII m a (0 : Int32) b (0 : Int32) (1 : Int32) ) k') ?_
  show Runs p.tables e below _ (s₁.setTop (mkF m 0 #[.val (.ref a), .val (.int (0 : Int32)), .val (.ref b), .val (.int (0 : Int32)), .val (.int (1 : Int32)), .unset, .unset] []))
  refine Runs.st (fun t' k' => XS.iconst X0.here hx rfl (hb hby d_jdk_52_method_21_0) k') ?_
  refine Runs.st (fun t' k' => XS.istore X0.here hx rfl (hb hby d_jdk_52_method_21_1) rfl (l' := #[.val (.ref a), .val (.int (0 : Int32)), .val (.ref b), .val (.int (0 : Int32)), .val (.int (1 : Int32)), .val (.int (0 : Int32)), .unset]) rfl k') ?_
  refine Runs.st (fun t' k' => XS.iload X0.here hx rfl (hb hby d_jdk_52_method_21_3) rfl k') ?_
  refine Runs.st (fun t' k' => XS.iload X0.here hx rfl (hb hby d_jdk_52_method_21_5) rfl k') ?_
  refine Runs.st (fun t' k' => XS.icmpNo X0.here hx rfl (hb hby d_jdk_52_method_21_7) rfl (tlt (by decide)).2.1 k') ?_
  show Runs p.tables e below _ (s₁.setTop (mkF m 10 #[.val (.ref a), .val (.int (0 : Int32)), .val (.ref b), .val (.int (0 : Int32)), .val (.int (1 : Int32)), .val (.int (0 : Int32)), .unset] []))
  refine Runs.st (fun t' k' => XS.aloadN X0.here hx rfl (hb hby d_jdk_52_method_21_10) rfl rfl k') ?_
  refine Runs.st (fun t' k' => XS.iloadN X0.here hx rfl (hb hby d_jdk_52_method_21_11) rfl k') ?_
  obtain ⟨cl1_, Ar1_, -, S1_, M1_, Ha1_, -⟩ := id V_a
  have hin1_ : ¬ ((0 : Int32) < 0 ∨ cl1_.slots.size ≤ ((0 : Int32)).toNatClampNeg) := inb_of S1_ ⟨by decide, by decide⟩
  refine Runs.st (X0.caload hx (j := (0 : Int32)) (v := (.int c0)) (by rw [e0]; exact Ar1_.1) (State.isArrayOf_alike hZ.alike Ar1_.2.1) Ar1_.2.2 hin1_ (Ha1_.at hin1_ rfl) (g := (mkF m 12 #[.val (.ref a), .val (.int (0 : Int32)), .val (.ref b), .val (.int (0 : Int32)), .val (.int (1 : Int32)), .val (.int (0 : Int32)), .unset] [(.int (0 : Int32)), (.ref a)])) rfl rfl (hb hby d_jdk_52_method_21_12)) ?_
  show Runs p.tables e below _ (s₁.setTop (mkF m 13 #[.val (.ref a), .val (.int (0 : Int32)), .val (.ref b), .val (.int (0 : Int32)), .val (.int (1 : Int32)), .val (.int (0 : Int32)), .unset] [(.int c0)]))
  refine Runs.st (fun t' k' => XS.istore X0.here hx rfl (hb hby d_jdk_52_method_21_13) rfl (l' := #[.val (.ref a), .val (.int (0 : Int32)), .val (.ref b), .val (.int (0 : Int32)), .val (.int (1 : Int32)), .val (.int (0 : Int32)), .val (.int c0)]) rfl k') ?_
  refine Runs.st (fun t' k' => XS.iload X0.here hx rfl (hb hby d_jdk_52_method_21_15) rfl k') ?_
  refine Runs.st (fun t' k' => XS.sipush X0.here hx rfl (hb hby d_jdk_52_method_21_17) k') ?_
  refine Runs.st (fun t' k' => XS.icmpNo X0.here hx rfl (hb hby d_jdk_52_method_21_20) rfl (tlt u0).2.2.2 k') ?_
  show Runs p.tables e below _ (s₁.setTop (mkF m 23 #[.val (.ref a), .val (.int (0 : Int32)), .val (.ref b), .val (.int (0 : Int32)), .val (.int (1 : Int32)), .val (.int (0 : Int32)), .val (.int c0)] []))
  refine Runs.st (fun t' k' => XS.iload X0.here hx rfl (hb hby d_jdk_52_method_21_23) rfl k') ?_
  refine Runs.ret X0 hlk (v := (some (.int (0 : Int32)))) (fun h => by rw [hret] at h; cases h) (by decide) (by decide) ?_ (fun fs hr => retI X0 hx hret (hb hby d_jdk_52_method_21_25) hr)
  try rw [e0]
  exact ⟨rfl, N0, K⟩
def Q_rmGC1_0 (Z : State) (b : Addr) (w0 w1 : Int32) (k : ClassId) (r : Int32) (h0 : Heap) (n0 : Nat) : Option Value → Heap → List Loc → Prop := (fun v h L => v = some (.int r) ∧ Fr n0 L ∧ h = h0)
theorem ef_jdk_52_method_5_RI (m : MethodId) (x0 : Addr) (x1 : Int32)  : entryFrame m #[(.ref x0), (.int x1)] 2 = mkF m 0 #[.val (.ref x0), .val (.int x1)] [] := by first | (simp [entryFrame, mkF, argsToLocals, Value.category]; done) | rfl
theorem d_jdk_52_method_5_0 : decode jdk_52_method_5_code 0 = .ok (.getstatic 44, 3) := by decide +kernel
theorem d_jdk_52_method_5_3 : decode jdk_52_method_5_code 3 = .ok (.ifCond .ne 25, 3) := by decide +kernel
theorem d_jdk_52_method_5_28 : decode jdk_52_method_5_code 28 = .ok (.iload_n 1, 1) := by decide +kernel
theorem d_jdk_52_method_5_29 : decode jdk_52_method_5_code 29 = .ok (.iconst 1, 1) := by decide +kernel
theorem d_jdk_52_method_5_30 : decode jdk_52_method_5_code 30 = .ok (.ishl, 1) := by decide +kernel
theorem d_jdk_52_method_5_31 : decode jdk_52_method_5_code 31 = .ok (.istore_n 1, 1) := by decide +kernel
theorem d_jdk_52_method_5_32 : decode jdk_52_method_5_code 32 = .ok (.aload_n 0, 1) := by decide +kernel
theorem d_jdk_52_method_5_33 : decode jdk_52_method_5_code 33 = .ok (.iload_n 1, 1) := by decide +kernel
theorem d_jdk_52_method_5_34 : decode jdk_52_method_5_code 34 = .ok (.iinc 1 1, 3) := by decide +kernel
theorem d_jdk_52_method_5_37 : decode jdk_52_method_5_code 37 = .ok (.baload, 1) := by decide +kernel
theorem d_jdk_52_method_5_38 : decode jdk_52_method_5_code 38 = .ok (.sipush 255, 3) := by decide +kernel
theorem d_jdk_52_method_5_41 : decode jdk_52_method_5_code 41 = .ok (.iand, 1) := by decide +kernel
theorem d_jdk_52_method_5_42 : decode jdk_52_method_5_code 42 = .ok (.getstatic 59, 3) := by decide +kernel
theorem d_jdk_52_method_5_45 : decode jdk_52_method_5_code 45 = .ok (.ishl, 1) := by decide +kernel
theorem d_jdk_52_method_5_46 : decode jdk_52_method_5_code 46 = .ok (.aload_n 0, 1) := by decide +kernel
theorem d_jdk_52_method_5_47 : decode jdk_52_method_5_code 47 = .ok (.iload_n 1, 1) := by decide +kernel
theorem d_jdk_52_method_5_48 : decode jdk_52_method_5_code 48 = .ok (.baload, 1) := by decide +kernel
theorem d_jdk_52_method_5_49 : decode jdk_52_method_5_code 49 = .ok (.sipush 255, 3) := by decide +kernel
theorem d_jdk_52_method_5_52 : decode jdk_52_method_5_code 52 = .ok (.iand, 1) := by decide +kernel
theorem d_jdk_52_method_5_53 : decode jdk_52_method_5_code 53 = .ok (.getstatic 63, 3) := by decide +kernel
theorem d_jdk_52_method_5_56 : decode jdk_52_method_5_code 56 = .ok (.ishl, 1) := by decide +kernel
theorem d_jdk_52_method_5_57 : decode jdk_52_method_5_code 57 = .ok (.ior, 1) := by decide +kernel
theorem d_jdk_52_method_5_58 : decode jdk_52_method_5_code 58 = .ok (.i2c, 1) := by decide +kernel
theorem d_jdk_52_method_5_59 : decode jdk_52_method_5_code 59 = .ok (.ireturn, 1) := by decide +kernel
set_option maxRecDepth 65536 in
set_option maxHeartbeats 40000000 in
theorem rmGC1_0 (l : Launch) (Z : State) (a0 : Array Value) (hw : ∀ d ∈ tables_1, d.before a0 Z = true) (ws : List Jvm.Cond) (b : Addr) (w0 w1 : Int32) (k : ClassId) (r : Int32) (h0 : Heap) (n0 : Nat) (Z0 : n0 ≤ h0.size) (old : Old Z n0 h0) (Sa : Sta Z Z.heap "java/lang/StringUTF16" "$assertionsDisabled" "Z" (.int (1 : Int32))) (Sh : Sta Z Z.heap "java/lang/StringUTF16" "HI_BYTE_SHIFT" "I" (.int (0 : Int32))) (Sl : Sta Z Z.heap "java/lang/StringUTF16" "LO_BYTE_SHIFT" "I" (.int (8 : Int32))) (V_b : Arv Z h0 b k .byte (2 : Int32) [(.int w0), (.int w1)] (.int (0 : Int32))) (hr_ : r = nar .char ((((w0 &&& (255 : Int32)) <<< ((0 : Int32) &&& 31)) ||| ((w1 &&& (255 : Int32)) <<< ((8 : Int32) &&& 31))).toUInt32.toUInt16.toUInt32.toInt32)) :
    MetFree l (⟨"java/lang/StringUTF16", "getChar", "([BI)C"⟩ : MethodName) (head1 (Jvm.Cond.code (⟨"java/lang/StringUTF16", "getChar", "([BI)C"⟩ : MethodName) jdk_52_method_5_code 2 (some .char) :: ws) ({ frames := 0, cells := 0, slots := 0, locals := 0 } : Room)) (fun ar_ U => ar_ = #[(.ref b), (.int (0 : Int32))] ∧ Z.Warmed39 U.vm ∧ U.heap = h0) (fun _ _ _ _ _ => True) (fun _ U o U' => Phi U (Q_rmGC1_0 Z b w0 w1 k r h0 n0) ({ frames := 0, cells := 0, slots := 0, locals := 0 } : Room).cells ({ frames := 0, cells := 0, slots := 0, locals := 0 } : Room).slots o U') := by
  refine MetFree.of_bodySF (plainFor_of_name pn_java_lang_StringUTF16) hisR ?_
  intro p e s m args below meth c s₁ Bd hml0 hP hK
  obtain ⟨rfl, hZ, hh⟩ := hP
  have hx := Bd.exec
  have hby := Bd.bytes
  have hlk := Bd.notSynchronized
  have hml : c.maxLocals = 2 := hml0
  have hown : s.vm.findClass "java/lang/StringUTF16" = some m.cls := findClass_of_methodNamed Bd.named
  have hown0 := hown
  have hnm := (name_of_methodNamed Bd.named Bd.method).1
  have hret := Bd.returns
  have X0 : Stand p l e ({ frames := 0, cells := 0, slots := 0, locals := 0 } : Room) s m #[(.ref b), (.int (0 : Int32))] below meth c s₁ [] 0 0 := Stand.of_body Bd
  have e0 : s₁.heap = h0 := by rw [← hh, Bd.state]; rfl
  have N0 := Fr.nil n0
  have sz := Z0
  have K := Keep.refl h0 []
  show Runs p.tables e below (Phi s (Q_rmGC1_0 Z b w0 w1 k r h0 n0) ({ frames := 0, cells := 0, slots := 0, locals := 0 } : Room).cells ({ frames := 0, cells := 0, slots := 0, locals := 0 } : Room).slots) _
  refine Runs.st (fun t' k' => castTop (ef_jdk_52_method_5_RI m b (0 : Int32) ) k') ?_
  show Runs p.tables e below _ (s₁.setTop (mkF m 0 #[.val (.ref b), .val (.int (0 : Int32))] []))
  obtain ⟨T1_, X1_, e1_, st1_⟩ := getS2 X0 hx hZ hown (host := "") (Or.inl (hw _ (List.mem_of_getElem? (i := 80) rfl))) Via.refl e0 (Sa.ext old.2) (g := (mkF m 0 #[.val (.ref b), .val (.int (0 : Int32))] [])) rfl (hb hby d_jdk_52_method_5_0)
  refine Runs.st (st1_) ?_
  show Runs p.tables e below _ (T1_.setTop (mkF m 3 #[.val (.ref b), .val (.int (0 : Int32))] [(.int (1 : Int32))]))
  refine Runs.st (fun t' k' => XS.ifYes X1_.here hx rfl (pc0 := 3) (pc' := 28) rfl (hb hby d_jdk_52_method_5_3) rfl ((if0 _ _).trans (feq (by decide)).2) (by decide) (by decide) k') ?_
  show Runs p.tables e below _ (T1_.setTop (mkF m 28 #[.val (.ref b), .val (.int (0 : Int32))] []))
  refine Runs.st (fun t' k' => XS.iloadN X1_.here hx rfl (hb hby d_jdk_52_method_5_28) rfl k') ?_
  refine Runs.st (fun t' k' => XS.iconst X1_.here hx rfl (hb hby d_jdk_52_method_5_29) k') ?_
  refine Runs.st (fun t' k' => XS.ishl X1_.here hx rfl (hb hby d_jdk_52_method_5_30) rfl k') ?_
  show Runs p.tables e below _ (T1_.setTop (mkF m 31 #[.val (.ref b), .val (.int (0 : Int32))] [(.int ((0 : Int32) <<< ((1 : Int32) &&& 31)))]))
  rw [show ((0 : Int32) <<< ((1 : Int32) &&& 31)) = (0 : Int32) from rfl]
  show Runs p.tables e below _ (T1_.setTop (mkF m 31 #[.val (.ref b), .val (.int (0 : Int32))] [(.int (0 : Int32))]))
  refine Runs.st (fun t' k' => XS.istoreN X1_.here hx rfl (hb hby d_jdk_52_method_5_31) rfl (l' := #[.val (.ref b), .val (.int (0 : Int32))]) rfl k') ?_
  refine Runs.st (fun t' k' => XS.aloadN X1_.here hx rfl (hb hby d_jdk_52_method_5_32) rfl rfl k') ?_
  show Runs p.tables e below _ (T1_.setTop (mkF m 33 #[.val (.ref b), .val (.int (0 : Int32))] [(.ref b)]))
  refine Runs.st (fun t' k' => XS.iloadN X1_.here hx rfl (hb hby d_jdk_52_method_5_33) rfl k') ?_
  refine Runs.st (fun t' k' => XS.iinc X1_.here hx rfl (hb hby d_jdk_52_method_5_34) rfl (l' := #[.val (.ref b), .val (.int ((0 : Int32) + (1 : Int32)))]) rfl k') ?_
  show Runs p.tables e below _ (T1_.setTop (mkF m 37 #[.val (.ref b), .val (.int ((0 : Int32) + (1 : Int32)))] [(.int (0 : Int32)), (.ref b)]))
  rw [show ((0 : Int32) + (1 : Int32)) = (1 : Int32) from rfl]
  show Runs p.tables e below _ (T1_.setTop (mkF m 37 #[.val (.ref b), .val (.int (1 : Int32))] [(.int (0 : Int32)), (.ref b)]))
  obtain ⟨cl2_, Ar2_, -, S2_, M2_, Ha2_, -⟩ := id V_b
  have hin2_ : ¬ ((0 : Int32) < 0 ∨ cl2_.slots.size ≤ ((0 : Int32)).toNatClampNeg) := inb_of S2_ ⟨by decide, by decide⟩
  refine Runs.st (X1_.baloadBytes hx (j := (0 : Int32)) (v := (.int w0)) (by rw [e1_]; exact Ar2_.1) (State.isArrayOf_alike hZ.alike Ar2_.2.1) Ar2_.2.2 hin2_ (Ha2_.at hin2_ rfl) (g := (mkF m 37 #[.val (.ref b), .val (.int (1 : Int32))] [(.int (0 : Int32)), (.ref b)])) rfl rfl (hb hby d_jdk_52_method_5_37)) ?_
  show Runs p.tables e below _ (T1_.setTop (mkF m 38 #[.val (.ref b), .val (.int (1 : Int32))] [(.int w0)]))
  refine Runs.st (fun t' k' => XS.sipush X1_.here hx rfl (hb hby d_jdk_52_method_5_38) k') ?_
  refine Runs.st (fun t' k' => XS.iand X1_.here hx rfl (hb hby d_jdk_52_method_5_41) rfl k') ?_
  obtain ⟨T3_, X3_, e3_, st3_⟩ := getS2 X1_ hx hZ hown (host := "") (Or.inl (hw _ (List.mem_of_getElem? (i := 81) rfl))) Via.refl e1_ (Sh.ext old.2) (g := (mkF m 42 #[.val (.ref b), .val (.int (1 : Int32))] [(.int (w0 &&& (255 : Int32)))])) rfl (hb hby d_jdk_52_method_5_42)
  refine Runs.st (st3_) ?_
  show Runs p.tables e below _ (T3_.setTop (mkF m 45 #[.val (.ref b), .val (.int (1 : Int32))] [(.int (0 : Int32)), (.int (w0 &&& (255 : Int32)))]))
  refine Runs.st (fun t' k' => XS.ishl X3_.here hx rfl (hb hby d_jdk_52_method_5_45) rfl k') ?_
  refine Runs.st (fun t' k' => XS.aloadN X3_.here hx rfl (hb hby d_jdk_52_method_5_46) rfl rfl k') ?_
  refine Runs.st (fun t' k' => XS.iloadN X3_.here hx rfl (hb hby d_jdk_52_method_5_47) rfl k') ?_
  obtain ⟨cl4_, Ar4_, -, S4_, M4_, Ha4_, -⟩ := id V_b
  have hin4_ : ¬ ((1 : Int32) < 0 ∨ cl4_.slots.size ≤ ((1 : Int32)).toNatClampNeg) := inb_of S4_ ⟨by decide, by decide⟩
  refine Runs.st (X3_.baloadBytes hx (j := (1 : Int32)) (v := (.int w1)) (by rw [e3_]; exact Ar4_.1) (State.isArrayOf_alike hZ.alike Ar4_.2.1) Ar4_.2.2 hin4_ (Ha4_.at hin4_ rfl) (g := (mkF m 48 #[.val (.ref b), .val (.int (1 : Int32))] [(.int (1 : Int32)), (.ref b), (.int ((w0 &&& (255 : Int32)) <<< ((0 : Int32) &&& 31)))])) rfl rfl (hb hby d_jdk_52_method_5_48)) ?_
  show Runs p.tables e below _ (T3_.setTop (mkF m 49 #[.val (.ref b), .val (.int (1 : Int32))] [(.int w1), (.int ((w0 &&& (255 : Int32)) <<< ((0 : Int32) &&& 31)))]))
  refine Runs.st (fun t' k' => XS.sipush X3_.here hx rfl (hb hby d_jdk_52_method_5_49) k') ?_
  refine Runs.st (fun t' k' => XS.iand X3_.here hx rfl (hb hby d_jdk_52_method_5_52) rfl k') ?_
  obtain ⟨T5_, X5_, e5_, st5_⟩ := getS2 X3_ hx hZ hown (host := "") (Or.inl (hw _ (List.mem_of_getElem? (i := 82) rfl))) Via.refl e3_ (Sl.ext old.2) (g := (mkF m 53 #[.val (.ref b), .val (.int (1 : Int32))] [(.int (w1 &&& (255 : Int32))), (.int ((w0 &&& (255 : Int32)) <<< ((0 : Int32) &&& 31)))])) rfl (hb hby d_jdk_52_method_5_53)
  refine Runs.st (st5_) ?_
  show Runs p.tables e below _ (T5_.setTop (mkF m 56 #[.val (.ref b), .val (.int (1 : Int32))] [(.int (8 : Int32)), (.int (w1 &&& (255 : Int32))), (.int ((w0 &&& (255 : Int32)) <<< ((0 : Int32) &&& 31)))]))
  refine Runs.st (fun t' k' => XS.ishl X5_.here hx rfl (hb hby d_jdk_52_method_5_56) rfl k') ?_
  refine Runs.st (fun t' k' => XS.ior X5_.here hx rfl (hb hby d_jdk_52_method_5_57) rfl k') ?_
  refine Runs.st (fun t' k' => XS.i2c X5_.here hx rfl (hb hby d_jdk_52_method_5_58) rfl k') ?_
  refine Runs.ret X5_ hlk (v := (some (.int (nar .char ((((w0 &&& (255 : Int32)) <<< ((0 : Int32) &&& 31)) ||| ((w1 &&& (255 : Int32)) <<< ((8 : Int32) &&& 31))).toUInt32.toUInt16.toUInt32.toInt32))))) (fun h => by rw [hret] at h; cases h) (by decide) (by decide) ?_ (fun fs hr => retN X5_ hx (t := .char) hret (by simp) (hb hby d_jdk_52_method_5_59) hr)
  try rw [e5_]
  exact ⟨congrArg (fun z => some (Value.int z)) hr_.symm, N0, rfl⟩
def Q_rmCW1_0 (Z : State) (a : Addr) (c0 : Int32) (k1 : ClassId) (h0 : Heap) (n0 : Nat) : Option Value → Heap → List Loc → Prop := (fun v h L => ∃ b k2, v = some (.ref b) ∧ Fr n0 L ∧ Keep h0 h [] ∧ h0.size ≤ b ∧ Arv Z h b k2 .byte (2 : Int32) [(.int (nar .byte ((c0 >>> ((0 : Int32) &&& 31)).toInt8.toInt32))), (.int (nar .byte ((c0 >>> ((8 : Int32) &&& 31)).toInt8.toInt32)))] (.int (0 : Int32)))
theorem d_jdk_52_method_16_20 : decode jdk_52_method_16_code 20 = .ok (.aload_n 0, 1) := by decide +kernel
theorem d_jdk_52_method_16_21 : decode jdk_52_method_16_code 21 = .ok (.iload_n 1, 1) := by decide +kernel
theorem d_jdk_52_method_16_22 : decode jdk_52_method_16_code 22 = .ok (.iload_n 2, 1) := by decide +kernel
theorem d_jdk_52_method_16_23 : decode jdk_52_method_16_code 23 = .ok (.invokestatic 119, 3) := by decide +kernel
theorem d_jdk_52_method_16_26 : decode jdk_52_method_16_code 26 = .ok (.astore 5, 2) := by decide +kernel
theorem d_jdk_52_method_16_28 : decode jdk_52_method_16_code 28 = .ok (.aload 5, 2) := by decide +kernel
theorem d_jdk_52_method_16_30 : decode jdk_52_method_16_code 30 = .ok (.iload 4, 2) := by decide +kernel
theorem pd__28_5bBI_29C : parseMethodDescriptor "([BI)C" = some ⟨[(.array .byte), .int], some .char⟩ := by decide +kernel
theorem d_jdk_52_method_16_32 : decode jdk_52_method_16_code 32 = .ok (.invokestatic 71, 3) := by decide +kernel
theorem d_jdk_52_method_16_35 : decode jdk_52_method_16_code 35 = .ok (.sipush 255, 3) := by decide +kernel
theorem d_jdk_52_method_16_38 : decode jdk_52_method_16_code 38 = .ok (.if_icmp .gt 16, 3) := by decide +kernel
theorem d_jdk_52_method_16_54 : decode jdk_52_method_16_code 54 = .ok (.aload 5, 2) := by decide +kernel
theorem d_jdk_52_method_16_56 : decode jdk_52_method_16_code 56 = .ok (.areturn, 1) := by decide +kernel
set_option maxRecDepth 65536 in
set_option maxHeartbeats 40000000 in
theorem rmCW1_0 (l : Launch) (Z : State) (a0 : Array Value) (hw : ∀ d ∈ tables_1, d.before a0 Z = true) (ws : List Jvm.Cond) (a : Addr) (c0 : Int32) (k1 : ClassId) (h0 : Heap) (n0 : Nat) (Z0 : n0 ≤ h0.size) (old : Old Z n0 h0) (Sa : Sta Z Z.heap "java/lang/StringUTF16" "$assertionsDisabled" "Z" (.int (1 : Int32))) (Sh : Sta Z Z.heap "java/lang/StringUTF16" "HI_BYTE_SHIFT" "I" (.int (0 : Int32))) (Sl : Sta Z Z.heap "java/lang/StringUTF16" "LO_BYTE_SHIFT" "I" (.int (8 : Int32))) (V_a : Arv Z h0 a k1 .char (1 : Int32) [(.int c0)] (.int (0 : Int32)))  (u0 : (255 : Int32) < c0) (rg : 0 ≤ c0.toInt ∧ c0.toInt ≤ 65535) :
    MetFree l (⟨"java/lang/StringUTF16", "compress", "([CII)[B"⟩ : MethodName) (head1 (Jvm.Cond.code (⟨"java/lang/StringUTF16", "compress", "([CII)[B"⟩ : MethodName) jdk_52_method_16_code 6 (some (.array .byte)) :: ws) ({ frames := 3, cells := 2, slots := 3, locals := 41 } : Room)) (fun ar_ U => ar_ = #[(.ref a), (.int (0 : Int32)), (.int (1 : Int32))] ∧ Z.Warmed39 U.vm ∧ U.heap = h0) (fun _ _ _ _ _ => True) (fun _ U o U' => Phi U (Q_rmCW1_0 Z a c0 k1 h0 n0) ({ frames := 3, cells := 2, slots := 3, locals := 41 } : Room).cells ({ frames := 3, cells := 2, slots := 3, locals := 41 } : Room).slots o U') := by
  refine MetFree.of_bodySF (plainFor_of_name pn_java_lang_StringUTF16) hisR ?_
  intro p e s m args below meth c s₁ Bd hml0 hP hK
  obtain ⟨rfl, hZ, hh⟩ := hP
  have hx := Bd.exec
  have hby := Bd.bytes
  have hlk := Bd.notSynchronized
  have hml : c.maxLocals = 6 := hml0
  have hown : s.vm.findClass "java/lang/StringUTF16" = some m.cls := findClass_of_methodNamed Bd.named
  have hown0 := hown
  have hnm := (name_of_methodNamed Bd.named Bd.method).1
  have hret := Bd.returns
  have X0 : Stand p l e ({ frames := 3, cells := 2, slots := 3, locals := 41 } : Room) s m #[(.ref a), (.int (0 : Int32)), (.int (1 : Int32))] below meth c s₁ [] 0 0 := Stand.of_body Bd
  have e0 : s₁.heap = h0 := by rw [← hh, Bd.state]; rfl
  have N0 := Fr.nil n0
  have sz := Z0
  have K := Keep.refl h0 []
  show Runs p.tables e below (Phi s (Q_rmCW1_0 Z a c0 k1 h0 n0) ({ frames := 3, cells := 2, slots := 3, locals := 41 } : Room).cells ({ frames := 3, cells := 2, slots := 3, locals := 41 } : Room).slots) _
  refine Runs.st (fun t' k' => castTop (ef_jdk_52_method_16_RII m a (0 : Int32) (1 : Int32) ) k') ?_
  show Runs p.tables e below _ (s₁.setTop (mkF m 0 #[.val (.ref a), .val (.int (0 : Int32)), .val (.int (1 : Int32)), .unset, .unset, .unset] []))
  refine Runs.st (fun t' k' => XS.iloadN X0.here hx rfl (hb hby d_jdk_52_method_16_0) rfl k') ?_
  obtain ⟨T1_, h1_, k1_, X1_, e1_, E1_, A1_, st1_⟩ := newP X0 hx hZ (hw _ (List.mem_of_getElem? (i := 20) rfl)) e0 (g := (mkF m 1 #[.val (.ref a), .val (.int (0 : Int32)), .val (.int (1 : Int32)), .unset, .unset, .unset] [(.int (1 : Int32))])) rfl (hb hby d_jdk_52_method_16_1) rfl (by decide) (cap := 1) (by decide) (by decide) (by decide) (by decide)
  refine Runs.st (st1_) ?_
  obtain ⟨d, g1_⟩ : ∃ z, z = h0.size := ⟨_, rfl⟩
  rw [← g1_] at A1_
  try rw [← g1_]
  have g_d : n0 ≤ d := Nat.le_trans sz (Nat.le_of_eq g1_.symm)
  have sz_d : h0.size ≤ d := Nat.le_trans K.1 (Nat.le_of_eq g1_.symm)
  have ne_a_d : a ≠ d := Nat.ne_of_lt (Nat.lt_of_lt_of_le V_a.lt (Nat.le_of_eq g1_.symm))
  replace old := old.ext E1_
  replace V_a := V_a.ext E1_
  replace sz := Nat.le_trans sz E1_.1
  replace K := K.ext E1_
  have V_d : Arv Z h1_ d k1_ .byte (1 : Int32) [(.int (0 : Int32))] (.int (0 : Int32)) := (Arv.new A1_ (by decide)).pad (pad_rep [] (.int (0 : Int32)) 1)
  show Runs p.tables e below _ (T1_.setTop (mkF m 3 #[.val (.ref a), .val (.int (0 : Int32)), .val (.int (1 : Int32)), .unset, .unset, .unset] [(.ref d)]))
  refine Runs.st (fun t' k' => XS.astoreN X1_.here hx rfl (hb hby d_jdk_52_method_16_3) rfl rfl (l' := #[.val (.ref a), .val (.int (0 : Int32)), .val (.int (1 : Int32)), .val (.ref d), .unset, .unset]) rfl k') ?_
  refine Runs.st (fun t' k' => XS.aloadN X1_.here hx rfl (hb hby d_jdk_52_method_16_4) rfl rfl k') ?_
  refine Runs.st (fun t' k' => XS.iloadN X1_.here hx rfl (hb hby d_jdk_52_method_16_5) rfl k') ?_
  refine Runs.st (fun t' k' => XS.aloadN X1_.here hx rfl (hb hby d_jdk_52_method_16_6) rfl rfl k') ?_
  refine Runs.st (fun t' k' => XS.iconst X1_.here hx rfl (hb hby d_jdk_52_method_16_7) k') ?_
  show Runs p.tables e below _ (T1_.setTop (mkF m 8 #[.val (.ref a), .val (.int (0 : Int32)), .val (.int (1 : Int32)), .val (.ref d), .unset, .unset] [(.int (0 : Int32)), (.ref d), (.int (0 : Int32)), (.ref a)]))
  refine Runs.st (fun t' k' => XS.iloadN X1_.here hx rfl (hb hby d_jdk_52_method_16_8) rfl k') ?_
  obtain ⟨_, _, ⟨T2_, L2_, k2_, n2_⟩, -, X2_, ⟨Lc2_, hQ2_, l2_, y2_, z2_⟩, st2_⟩ := Jvm.LawKit.callS X1_ hx (y := (⟨"java/lang/StringUTF16", "compress", "([CI[BII)I"⟩ : MethodName)) hown (mvT hZ (hw _ (List.mem_of_getElem? (i := 59) rfl))) (mvT hZ (hw _ (List.mem_of_getElem? (i := 60) rfl))) (mvT hZ (hw _ (List.mem_of_getElem? (i := 57) rfl))) (mvT hZ (hw _ (List.mem_of_getElem? (i := 61) rfl))) (by decide) (backOf (W := 0) (rmCV1_0 l Z a0 hw [] a d c0 k1 _ h1_ n0 sz V_a V_d ne_a_d g_d u0) hZ (hw _ (List.mem_of_getElem? (i := 61) rfl)) (hw _ (List.mem_of_getElem? (i := 57) rfl)) (by decide) (by decide)) (g := (mkF m 9 #[.val (.ref a), .val (.int (0 : Int32)), .val (.int (1 : Int32)), .val (.ref d), .unset, .unset] [(.int (1 : Int32)), (.int (0 : Int32)), (.ref d), (.int (0 : Int32)), (.ref a)])) rfl (by rw [hml]; rfl) (argsL := [(.ref a), (.int (0 : Int32)), (.ref d), (.int (0 : Int32)), (.int (1 : Int32))]) (rest := []) (lenOf pd__28_5bCI_5bBII_29I rfl) rfl (by show 2 * 0 + _ ≤ _; exact Nat.le_of_eq rfl) (hb hby d_jdk_52_method_16_9) (fun _ _ => ⟨rfl, e1_, (by decide : 1 + 0 ≤ _), (by decide : 1 + 0 ≤ _)⟩)
  dsimp only [Pt.U, Pt.locs, Pt.cells, Pt.slots] at X2_ l2_ y2_ z2_ st2_ hQ2_
  subst l2_ y2_ z2_
  obtain ⟨rfl, N2_q, K2_⟩ := hQ2_
  have N2_ := Fr.app N0 N2_q
  refine Runs.st (st2_) ?_
  replace X2_ := wider X2_ (c' := 1) (s' := 1) (by decide) (by decide)
  replace old := old.keep K2_ (allS g_d all0)
  replace V_a := V_a.keep K2_ (ninS ne_a_d nin0)
  replace sz := Nat.le_trans sz K2_.1
  replace K := K.trans K2_ (allS (Or.inr sz_d) all0)
  show Runs p.tables e below _ (T2_.setTop (mkF m 12 #[.val (.ref a), .val (.int (0 : Int32)), .val (.int (1 : Int32)), .val (.ref d), .unset, .unset] [(.int (0 : Int32))]))
  refine Runs.st (fun t' k' => XS.istore X2_.here hx rfl (hb hby d_jdk_52_method_16_12) rfl (l' := #[.val (.ref a), .val (.int (0 : Int32)), .val (.int (1 : Int32)), .val (.ref d), .val (.int (0 : Int32)), .unset]) rfl k') ?_
  refine Runs.st (fun t' k' => XS.iload X2_.here hx rfl (hb hby d_jdk_52_method_16_14) rfl k') ?_
  refine Runs.st (fun t' k' => XS.iloadN X2_.here hx rfl (hb hby d_jdk_52_method_16_16) rfl k') ?_
  refine Runs.st (fun t' k' => XS.icmpNo X2_.here hx rfl (hb hby d_jdk_52_method_16_17) rfl (feq (by decide)).1 k') ?_
  show Runs p.tables e below _ (T2_.setTop (mkF m 20 #[.val (.ref a), .val (.int (0 : Int32)), .val (.int (1 : Int32)), .val (.ref d), .val (.int (0 : Int32)), .unset] []))
  refine Runs.st (fun t' k' => XS.aloadN X2_.here hx rfl (hb hby d_jdk_52_method_16_20) rfl rfl k') ?_
  refine Runs.st (fun t' k' => XS.iloadN X2_.here hx rfl (hb hby d_jdk_52_method_16_21) rfl k') ?_
  refine Runs.st (fun t' k' => XS.iloadN X2_.here hx rfl (hb hby d_jdk_52_method_16_22) rfl k') ?_
  have kz3_ := K.1
  have gz3_ := sz
  have lt3__a := V_a.lt
  obtain ⟨_, _, ⟨T3_, L3_, k3_, n3_⟩, -, X3_, ⟨Lc3_, hQ3_, l3_, y3_, z3_⟩, st3_⟩ := Jvm.LawKit.callS X2_ hx (y := (⟨"java/lang/StringUTF16", "toBytes", "([CII)[B"⟩ : MethodName)) hown (mvT hZ (hw _ (List.mem_of_getElem? (i := 67) rfl))) (mvT hZ (hw _ (List.mem_of_getElem? (i := 68) rfl))) (mvT hZ (hw _ (List.mem_of_getElem? (i := 57) rfl))) (mvT hZ (hw _ (List.mem_of_getElem? (i := 69) rfl))) (by decide) (backOf (W := 0) (rmTU1 l Z a0 hw [] a c0 k1 T2_.heap n0 sz old Sa Sh Sl V_a) hZ (hw _ (List.mem_of_getElem? (i := 69) rfl)) (hw _ (List.mem_of_getElem? (i := 57) rfl)) (by decide) (by decide)) (g := (mkF m 23 #[.val (.ref a), .val (.int (0 : Int32)), .val (.int (1 : Int32)), .val (.ref d), .val (.int (0 : Int32)), .unset] [(.int (1 : Int32)), (.int (0 : Int32)), (.ref a)])) rfl (by rw [hml]; rfl) (argsL := [(.ref a), (.int (0 : Int32)), (.int (1 : Int32))]) (rest := []) (lenOf pd__28_5bCII_29_5bB rfl) rfl (by show 2 * 0 + _ ≤ _; exact Nat.le_of_eq rfl) (hb hby d_jdk_52_method_16_23) (fun _ _ => ⟨rfl, rfl, (by decide : 1 + 1 ≤ _), (by decide : 1 + 2 ≤ _)⟩)
  dsimp only [Pt.U, Pt.locs, Pt.cells, Pt.slots] at X3_ l3_ y3_ z3_ st3_ hQ3_
  subst l3_ y3_ z3_
  obtain ⟨b, kb, rfl, N3_q, K3_, szb, V_b⟩ := hQ3_
  have N3_ := Fr.app N2_ N3_q
  refine Runs.st (st3_) ?_
  replace X3_ := wider X3_ (c' := 2) (s' := 3) (by decide) (by decide)
  replace old := old.keep K3_ all0
  replace V_a := V_a.keep K3_ nin0
  replace sz := Nat.le_trans sz K3_.1
  replace K := K.trans K3_ all0
  have sz_b : h0.size ≤ b := Nat.le_trans kz3_ szb
  have g_b : n0 ≤ b := Nat.le_trans gz3_ szb
  have ne_a_b : a ≠ b := Nat.ne_of_lt (Nat.lt_of_lt_of_le lt3__a szb)
  show Runs p.tables e below _ (T3_.setTop (mkF m 26 #[.val (.ref a), .val (.int (0 : Int32)), .val (.int (1 : Int32)), .val (.ref d), .val (.int (0 : Int32)), .unset] [(.ref b)]))
  refine Runs.st (fun t' k' => XS.astore X3_.here hx rfl (hb hby d_jdk_52_method_16_26) rfl rfl (l' := #[.val (.ref a), .val (.int (0 : Int32)), .val (.int (1 : Int32)), .val (.ref d), .val (.int (0 : Int32)), .val (.ref b)]) rfl k') ?_
  refine Runs.st (fun t' k' => XS.aload X3_.here hx rfl (hb hby d_jdk_52_method_16_28) rfl rfl k') ?_
  refine Runs.st (fun t' k' => XS.iload X3_.here hx rfl (hb hby d_jdk_52_method_16_30) rfl k') ?_
  obtain ⟨_, _, ⟨T4_, L4_, k4_, n4_⟩, -, X4_, ⟨Lc4_, hQ4_, l4_, y4_, z4_⟩, st4_⟩ := Jvm.LawKit.callS X3_ hx (y := (⟨"java/lang/StringUTF16", "getChar", "([BI)C"⟩ : MethodName)) hown (mvT hZ (hw _ (List.mem_of_getElem? (i := 83) rfl))) (mvT hZ (hw _ (List.mem_of_getElem? (i := 84) rfl))) (mvT hZ (hw _ (List.mem_of_getElem? (i := 57) rfl))) (mvT hZ (hw _ (List.mem_of_getElem? (i := 85) rfl))) (by decide) (backOf (W := 0) (rmGC1_0 l Z a0 hw [] b (nar .byte ((c0 >>> ((0 : Int32) &&& 31)).toInt8.toInt32)) (nar .byte ((c0 >>> ((8 : Int32) &&& 31)).toInt8.toInt32)) kb c0 T3_.heap n0 sz old Sa Sh Sl V_b (own_gc _ rg)) hZ (hw _ (List.mem_of_getElem? (i := 85) rfl)) (hw _ (List.mem_of_getElem? (i := 57) rfl)) (by decide) (by decide)) (g := (mkF m 32 #[.val (.ref a), .val (.int (0 : Int32)), .val (.int (1 : Int32)), .val (.ref d), .val (.int (0 : Int32)), .val (.ref b)] [(.int (0 : Int32)), (.ref b)])) rfl (by rw [hml]; rfl) (argsL := [(.ref b), (.int (0 : Int32))]) (rest := []) (lenOf pd__28_5bBI_29C rfl) rfl (by show 2 * 0 + _ ≤ _; exact Nat.le_of_eq rfl) (hb hby d_jdk_52_method_16_32) (fun _ _ => ⟨rfl, rfl, (by decide : 2 + 0 ≤ _), (by decide : 3 + 0 ≤ _)⟩)
  dsimp only [Pt.U, Pt.locs, Pt.cells, Pt.slots] at X4_ l4_ y4_ z4_ st4_ hQ4_
  subst l4_ y4_ z4_
  obtain ⟨rfl, N4_q, e4_⟩ := hQ4_
  have N4_ := Fr.app N3_ N4_q
  refine Runs.st (st4_) ?_
  replace X4_ := wider X4_ (c' := 2) (s' := 3) (by decide) (by decide)
  show Runs p.tables e below _ (T4_.setTop (mkF m 35 #[.val (.ref a), .val (.int (0 : Int32)), .val (.int (1 : Int32)), .val (.ref d), .val (.int (0 : Int32)), .val (.ref b)] [(.int c0)]))
  refine Runs.st (fun t' k' => XS.sipush X4_.here hx rfl (hb hby d_jdk_52_method_16_35) k') ?_
  refine Runs.st (fun t' k' => XS.icmpYes X4_.here hx rfl (pc0 := 38) (pc' := 54) rfl (hb hby d_jdk_52_method_16_38) rfl (tlt u0).2.2.1 (by decide) (by decide) k') ?_
  show Runs p.tables e below _ (T4_.setTop (mkF m 54 #[.val (.ref a), .val (.int (0 : Int32)), .val (.int (1 : Int32)), .val (.ref d), .val (.int (0 : Int32)), .val (.ref b)] []))
  refine Runs.st (fun t' k' => XS.aload X4_.here hx rfl (hb hby d_jdk_52_method_16_54) rfl rfl k') ?_
  refine Runs.ret X4_ hlk (v := (some (.ref b))) (fun h => by rw [hret] at h; cases h) (by decide) (by decide) ?_ (fun fs hr => retOut X4_ hx hret rfl (Or.inr (Or.inr (Or.inr (Or.inr ⟨rfl, rfl, rfl⟩)))) (hb hby d_jdk_52_method_16_56) hr)
  try rw [e4_]
  exact ⟨b, kb, rfl, N4_, K, sz_b, V_b⟩
def Q_rmIV1_0 (Z : State) (a : Addr) (d : Addr) (c0 : Int32) (k1 : ClassId) (zc : Int32) (h0 : Heap) (n0 : Nat) : Option Value → Heap → List Loc → Prop := (fun v h L => v = none ∧ Fr n0 L ∧ Keep h0 h [a] ∧ Exa Z h a "java/lang/String" ∧ Fld Z h a "java/lang/String" "coder" "B" (.int (1 : Int32)) ∧ ∃ b k2, h0.size ≤ b ∧ Fld Z h a "java/lang/String" "value" "[B" (.ref b) ∧ Arv Z h b k2 .byte (2 : Int32) [(.int (nar .byte ((c0 >>> ((0 : Int32) &&& 31)).toInt8.toInt32))), (.int (nar .byte ((c0 >>> ((8 : Int32) &&& 31)).toInt8.toInt32)))] (.int (0 : Int32)))
set_option maxRecDepth 65536 in
set_option maxHeartbeats 40000000 in
theorem rmIV1_0 (l : Launch) (Z : State) (a0 : Array Value) (hw : ∀ d ∈ tables_1, d.before a0 Z = true) (ws : List Jvm.Cond) (a : Addr) (d : Addr) (c0 : Int32) (k1 : ClassId) (zc : Int32) (h0 : Heap) (n0 : Nat) (Z0 : n0 ≤ h0.size) (old : Old Z n0 h0) (Sa : Sta Z Z.heap "java/lang/StringUTF16" "$assertionsDisabled" "Z" (.int (1 : Int32))) (Sh : Sta Z Z.heap "java/lang/StringUTF16" "HI_BYTE_SHIFT" "I" (.int (0 : Int32))) (Sl : Sta Z Z.heap "java/lang/StringUTF16" "LO_BYTE_SHIFT" "I" (.int (8 : Int32))) (E_a : Exa Z h0 a "java/lang/String") (F_v : Fld Z h0 a "java/lang/String" "value" "[B" .null) (F_c : Fld Z h0 a "java/lang/String" "coder" "B" (.int (0 : Int32))) (g_a : n0 ≤ a) (V_d : Arv Z h0 d k1 .char (1 : Int32) [(.int c0)] (.int (0 : Int32))) (Sc : Sta Z Z.heap "java/lang/String" "COMPACT_STRINGS" "Z" (.int zc)) (hzc : ¬ zc = 0)  (u0 : (255 : Int32) < c0) (rg : 0 ≤ c0.toInt ∧ c0.toInt ≤ 65535) :
    MetFree l (⟨"java/lang/String", "<init>", "([CIILjava/lang/Void;)V"⟩ : MethodName) (head1 (Jvm.Cond.code (⟨"java/lang/String", "<init>", "([CIILjava/lang/Void;)V"⟩ : MethodName) jdk_42_method_149_code 6 none :: ws) ({ frames := 4, cells := 2, slots := 3, locals := 58 } : Room)) (fun ar_ U => ar_ = #[(.ref a), (.ref d), (.int (0 : Int32)), (.int (1 : Int32)), .null] ∧ Z.Warmed39 U.vm ∧ U.heap = h0) (fun _ _ _ _ _ => True) (fun _ U o U' => Phi U (Q_rmIV1_0 Z a d c0 k1 zc h0 n0) ({ frames := 4, cells := 2, slots := 3, locals := 58 } : Room).cells ({ frames := 4, cells := 2, slots := 3, locals := 58 } : Room).slots o U') := by
  refine MetFree.of_bodySF (plainFor_of_name pn_java_lang_String) hisR ?_
  intro p e s m args below meth c s₁ Bd hml0 hP hK
  obtain ⟨rfl, hZ, hh⟩ := hP
  have hx := Bd.exec
  have hby := Bd.bytes
  have hlk := Bd.notSynchronized
  have hml : c.maxLocals = 6 := hml0
  have hown : s.vm.findClass "java/lang/String" = some m.cls := findClass_of_methodNamed Bd.named
  have hown0 := hown
  have hnm := (name_of_methodNamed Bd.named Bd.method).1
  have hret := Bd.returns
  have X0 : Stand p l e ({ frames := 4, cells := 2, slots := 3, locals := 58 } : Room) s m #[(.ref a), (.ref d), (.int (0 : Int32)), (.int (1 : Int32)), .null] below meth c s₁ [] 0 0 := Stand.of_body Bd
  have e0 : s₁.heap = h0 := by rw [← hh, Bd.state]; rfl
  have N0 := Fr.nil n0
  have sz := Z0
  have K := Keep.refl h0 [a]
  show Runs p.tables e below (Phi s (Q_rmIV1_0 Z a d c0 k1 zc h0 n0) ({ frames := 4, cells := 2, slots := 3, locals := 58 } : Room).cells ({ frames := 4, cells := 2, slots := 3, locals := 58 } : Room).slots) _
  refine Runs.st (fun t' k' => castTop (ef_jdk_42_method_149_RRIIN m a d (0 : Int32) (1 : Int32) ) k') ?_
  show Runs p.tables e below _ (s₁.setTop (mkF m 0 #[.val (.ref a), .val (.ref d), .val (.int (0 : Int32)), .val (.int (1 : Int32)), .val .null, .unset] []))
  refine Runs.st (fun t' k' => XS.aloadN X0.here hx rfl (hb hby d_jdk_42_method_149_0) rfl rfl k') ?_
  obtain ⟨T1_, X1_, e1_, st1_⟩ := initO X0 hx hZ hown (hw _ (List.mem_of_getElem? (i := 16) rfl)) (hw _ (List.mem_of_getElem? (i := 17) rfl)) (hw _ (List.mem_of_getElem? (i := 18) rfl)) e0 (g := (mkF m 1 #[.val (.ref a), .val (.ref d), .val (.int (0 : Int32)), .val (.int (1 : Int32)), .val .null, .unset] [(.ref a)])) rfl (by rw [hml]; rfl) rfl (hb hby d_jdk_42_method_149_1) (by decide) (W := 0) (by show 2 * 0 + _ ≤ _; exact Nat.le_of_eq rfl) (by decide)
  refine Runs.st (st1_) ?_
  show Runs p.tables e below _ (T1_.setTop (mkF m 4 #[.val (.ref a), .val (.ref d), .val (.int (0 : Int32)), .val (.int (1 : Int32)), .val .null, .unset] []))
  refine Runs.st (fun t' k' => XS.iloadN X1_.here hx rfl (hb hby d_jdk_42_method_149_4) rfl k') ?_
  refine Runs.st (fun t' k' => XS.ifYes X1_.here hx rfl (pc0 := 5) (pc' := 27) rfl (hb hby d_jdk_42_method_149_5) rfl ((if0 _ _).trans (feq (by decide)).2) (by decide) (by decide) k') ?_
  show Runs p.tables e below _ (T1_.setTop (mkF m 27 #[.val (.ref a), .val (.ref d), .val (.int (0 : Int32)), .val (.int (1 : Int32)), .val .null, .unset] []))
  obtain ⟨T2_, X2_, e2_, st2_⟩ := getS2 X1_ hx hZ hown (host := "") (Or.inl (hw _ (List.mem_of_getElem? (i := 54) rfl))) Via.refl e1_ (Sc.ext old.2) (g := (mkF m 27 #[.val (.ref a), .val (.ref d), .val (.int (0 : Int32)), .val (.int (1 : Int32)), .val .null, .unset] [])) rfl (hb hby d_jdk_42_method_149_27)
  refine Runs.st (st2_) ?_
  show Runs p.tables e below _ (T2_.setTop (mkF m 30 #[.val (.ref a), .val (.ref d), .val (.int (0 : Int32)), .val (.int (1 : Int32)), .val .null, .unset] [(.int zc)]))
  refine Runs.st (fun t' k' => XS.ifNo X2_.here hx rfl (hb hby d_jdk_42_method_149_30) rfl ((if0 _ _).trans (feq hzc).1) k') ?_
  show Runs p.tables e below _ (T2_.setTop (mkF m 33 #[.val (.ref a), .val (.ref d), .val (.int (0 : Int32)), .val (.int (1 : Int32)), .val .null, .unset] []))
  refine Runs.st (fun t' k' => XS.aloadN X2_.here hx rfl (hb hby d_jdk_42_method_149_33) rfl rfl k') ?_
  refine Runs.st (fun t' k' => XS.iloadN X2_.here hx rfl (hb hby d_jdk_42_method_149_34) rfl k') ?_
  refine Runs.st (fun t' k' => XS.iloadN X2_.here hx rfl (hb hby d_jdk_42_method_149_35) rfl k') ?_
  have kz3_ := K.1
  have gz3_ := sz
  have lt3__a := E_a.lt
  have lt3__d := V_d.lt
  obtain ⟨_, _, ⟨T3_, L3_, k3_, n3_⟩, -, X3_, ⟨Lc3_, hQ3_, l3_, y3_, z3_⟩, st3_⟩ := Jvm.LawKit.callS X2_ hx (y := (⟨"java/lang/StringUTF16", "compress", "([CII)[B"⟩ : MethodName)) hown (mvT hZ (hw _ (List.mem_of_getElem? (i := 55) rfl))) (mvT hZ (hw _ (List.mem_of_getElem? (i := 56) rfl))) (mvT hZ (hw _ (List.mem_of_getElem? (i := 57) rfl))) (mvT hZ (hw _ (List.mem_of_getElem? (i := 58) rfl))) (by decide) (backOf (W := 0) (rmCW1_0 l Z a0 hw [] d c0 k1 h0 n0 sz old Sa Sh Sl V_d u0 rg) hZ (hw _ (List.mem_of_getElem? (i := 58) rfl)) (hw _ (List.mem_of_getElem? (i := 57) rfl)) (by decide) (by decide)) (g := (mkF m 36 #[.val (.ref a), .val (.ref d), .val (.int (0 : Int32)), .val (.int (1 : Int32)), .val .null, .unset] [(.int (1 : Int32)), (.int (0 : Int32)), (.ref d)])) rfl (by rw [hml]; rfl) (argsL := [(.ref d), (.int (0 : Int32)), (.int (1 : Int32))]) (rest := []) (lenOf pd__28_5bCII_29_5bB rfl) rfl (by show 2 * 0 + _ ≤ _; exact Nat.le_of_eq rfl) (hb hby d_jdk_42_method_149_36) (fun _ _ => ⟨rfl, e2_, (by decide : 0 + 2 ≤ _), (by decide : 0 + 3 ≤ _)⟩)
  dsimp only [Pt.U, Pt.locs, Pt.cells, Pt.slots] at X3_ l3_ y3_ z3_ st3_ hQ3_
  subst l3_ y3_ z3_
  obtain ⟨b, k2, rfl, N3_q, K3_, szb, V_b⟩ := hQ3_
  have N3_ := Fr.app N0 N3_q
  refine Runs.st (st3_) ?_
  replace X3_ := wider X3_ (c' := 2) (s' := 3) (by decide) (by decide)
  replace old := old.keep K3_ all0
  replace E_a := E_a.keep K3_
  replace F_v := F_v.keep K3_ nin0
  replace F_c := F_c.keep K3_ nin0
  replace V_d := V_d.keep K3_ nin0
  replace sz := Nat.le_trans sz K3_.1
  replace K := K.trans K3_ all0
  have sz_b : h0.size ≤ b := Nat.le_trans kz3_ szb
  have g_b : n0 ≤ b := Nat.le_trans gz3_ szb
  have ne_a_b : a ≠ b := Nat.ne_of_lt (Nat.lt_of_lt_of_le lt3__a szb)
  have ne_d_b : d ≠ b := Nat.ne_of_lt (Nat.lt_of_lt_of_le lt3__d szb)
  show Runs p.tables e below _ (T3_.setTop (mkF m 39 #[.val (.ref a), .val (.ref d), .val (.int (0 : Int32)), .val (.int (1 : Int32)), .val .null, .unset] [(.ref b)]))
  refine Runs.st (fun t' k' => XS.astore X3_.here hx rfl (hb hby d_jdk_42_method_149_39) rfl rfl (l' := #[.val (.ref a), .val (.ref d), .val (.int (0 : Int32)), .val (.int (1 : Int32)), .val .null, .val (.ref b)]) rfl k') ?_
  refine Runs.st (fun t' k' => XS.aloadN X3_.here hx rfl (hb hby d_jdk_42_method_149_41) rfl rfl k') ?_
  refine Runs.st (fun t' k' => XS.aload X3_.here hx rfl (hb hby d_jdk_42_method_149_42) rfl rfl k') ?_
  refine Runs.st (fun t' k' => XS.iloadN X3_.here hx rfl (hb hby d_jdk_42_method_149_44) rfl k') ?_
  obtain ⟨_, _, ⟨T4_, L4_, k4_, n4_⟩, -, X4_, ⟨Lc4_, hQ4_, l4_, y4_, z4_⟩, st4_⟩ := Jvm.LawKit.callS X3_ hx (y := (⟨"java/lang/StringUTF16", "coderFromArrayLen", "([BI)B"⟩ : MethodName)) hown (mvT hZ (hw _ (List.mem_of_getElem? (i := 62) rfl))) (mvT hZ (hw _ (List.mem_of_getElem? (i := 63) rfl))) (mvT hZ (hw _ (List.mem_of_getElem? (i := 57) rfl))) (mvT hZ (hw _ (List.mem_of_getElem? (i := 64) rfl))) (by decide) (backOf (W := 1) (rmCU1 l Z a0 hw [] b k2 _ T3_.heap n0 sz V_b) hZ (hw _ (List.mem_of_getElem? (i := 64) rfl)) (hw _ (List.mem_of_getElem? (i := 57) rfl)) (by decide) (by decide)) (g := (mkF m 45 #[.val (.ref a), .val (.ref d), .val (.int (0 : Int32)), .val (.int (1 : Int32)), .val .null, .val (.ref b)] [(.int (1 : Int32)), (.ref b), (.ref a)])) rfl (by rw [hml]; rfl) (argsL := [(.ref b), (.int (1 : Int32))]) (rest := [(.ref a)]) (lenOf pd__28_5bBI_29B rfl) rfl (by show 2 * 0 + _ ≤ _; exact Nat.le_of_eq rfl) (hb hby d_jdk_42_method_149_45) (fun _ _ => ⟨rfl, rfl, (by decide : 2 + 0 ≤ _), (by decide : 3 + 0 ≤ _)⟩)
  dsimp only [Pt.U, Pt.locs, Pt.cells, Pt.slots] at X4_ l4_ y4_ z4_ st4_ hQ4_
  subst l4_ y4_ z4_
  obtain ⟨rfl, N4_q, e4_⟩ := hQ4_
  have N4_ := Fr.app N3_ N4_q
  refine Runs.st (st4_) ?_
  replace X4_ := wider X4_ (c' := 2) (s' := 3) (by decide) (by decide)
  show Runs p.tables e below _ (T4_.setTop (mkF m 48 #[.val (.ref a), .val (.ref d), .val (.int (0 : Int32)), .val (.int (1 : Int32)), .val .null, .val (.ref b)] [(.int (1 : Int32)), (.ref a)]))
  obtain ⟨T5_, h5_, X5_, e5_, W5_, st5_⟩ := putFN X4_ hx hZ hown (hw _ (List.mem_of_getElem? (i := 26) rfl)) Via.refl e4_ F_c E_a (Or.inr ⟨(hw _ (List.mem_of_getElem? (i := 22) rfl)), rfl, hnm⟩) (hw _ (List.mem_of_getElem? (i := 6) rfl)) (ty := .byte) (v' := .int (1 : Int32)) (by decide) rfl rfl (g := (mkF m 48 #[.val (.ref a), .val (.ref d), .val (.int (0 : Int32)), .val (.int (1 : Int32)), .val .null, .val (.ref b)] [(.int (1 : Int32)), (.ref a)])) rfl rfl (hb hby d_jdk_42_method_149_48)
  refine Runs.st (st5_) ?_
  replace F_c := F_c.same W5_
  replace old := old.wr W5_ g_a
  replace E_a := Jvm.RoadKit.Exa.wr W5_ E_a
  replace F_v := F_v.other W5_ (Or.inr (slot_ne (Or.inr (hw _ (List.mem_of_getElem? (i := 21) rfl))) (Or.inr (hw _ (List.mem_of_getElem? (i := 22) rfl))) (by decide) (t := (.array .byte)) (t' := .byte) (by decide) (by decide)))
  replace V_b := V_b.other W5_ (Ne.symm ne_a_b)
  replace sz := Nat.le_trans sz (Keep.of_wr W5_).1
  have N5_ := Fr.snoc X5_ N4_ g_a
  replace K := K.wr W5_ (Or.inl (List.mem_of_getElem? (i := 0) rfl))
  show Runs p.tables e below _ (T5_.setTop (mkF m 51 #[.val (.ref a), .val (.ref d), .val (.int (0 : Int32)), .val (.int (1 : Int32)), .val .null, .val (.ref b)] []))
  refine Runs.st (fun t' k' => XS.aloadN X5_.here hx rfl (hb hby d_jdk_42_method_149_51) rfl rfl k') ?_
  refine Runs.st (fun t' k' => XS.aload X5_.here hx rfl (hb hby d_jdk_42_method_149_52) rfl rfl k') ?_
  obtain ⟨T6_, h6_, X6_, e6_, W6_, st6_⟩ := putF X5_ hx hZ hown (host := "") (Or.inl (hw _ (List.mem_of_getElem? (i := 25) rfl))) Via.refl e5_ F_v E_a (Or.inr ⟨(hw _ (List.mem_of_getElem? (i := 21) rfl)), rfl, hnm⟩) (hw _ (List.mem_of_getElem? (i := 6) rfl)) (ty := (.array .byte)) (by decide) rfl rfl (g := (mkF m 54 #[.val (.ref a), .val (.ref d), .val (.int (0 : Int32)), .val (.int (1 : Int32)), .val .null, .val (.ref b)] [(.ref b), (.ref a)])) rfl rfl (hb hby d_jdk_42_method_149_54)
  refine Runs.st (st6_) ?_
  replace F_v := F_v.same W6_
  replace old := old.wr W6_ g_a
  replace E_a := Jvm.RoadKit.Exa.wr W6_ E_a
  replace V_b := V_b.other W6_ (Ne.symm ne_a_b)
  replace F_c := F_c.other W6_ (Or.inr (slot_ne (Or.inr (hw _ (List.mem_of_getElem? (i := 22) rfl))) (Or.inr (hw _ (List.mem_of_getElem? (i := 21) rfl))) (by decide) (t := .byte) (t' := (.array .byte)) (by decide) (by decide)))
  replace sz := Nat.le_trans sz (Keep.of_wr W6_).1
  have N6_ := Fr.snoc X6_ N5_ g_a
  replace K := K.wr W6_ (Or.inl (List.mem_of_getElem? (i := 0) rfl))
  show Runs p.tables e below _ (T6_.setTop (mkF m 57 #[.val (.ref a), .val (.ref d), .val (.int (0 : Int32)), .val (.int (1 : Int32)), .val .null, .val (.ref b)] []))
  refine Runs.ret X6_ hlk (v := none) (fun _ => rfl) (by decide) (by decide) ?_ (fun fs hr => X6_.returnOut hx hret (hb hby d_jdk_42_method_149_57) hr)
  try rw [e6_]
  exact ⟨rfl, N6_, K, E_a, F_c, b, k2, sz_b, F_v, V_b⟩
def Q_rmIU1_0 (Z : State) (a : Addr) (d : Addr) (c0 : Int32) (k1 : ClassId) (zc : Int32) (h0 : Heap) (n0 : Nat) : Option Value → Heap → List Loc → Prop := (fun v h L => v = none ∧ Fr n0 L ∧ Keep h0 h [a] ∧ Exa Z h a "java/lang/String" ∧ Fld Z h a "java/lang/String" "coder" "B" (.int (1 : Int32)) ∧ ∃ b k2, h0.size ≤ b ∧ Fld Z h a "java/lang/String" "value" "[B" (.ref b) ∧ Arv Z h b k2 .byte (2 : Int32) [(.int (nar .byte ((c0 >>> ((0 : Int32) &&& 31)).toInt8.toInt32))), (.int (nar .byte ((c0 >>> ((8 : Int32) &&& 31)).toInt8.toInt32)))] (.int (0 : Int32)))
set_option maxRecDepth 65536 in
set_option maxHeartbeats 40000000 in
theorem rmIU1_0 (l : Launch) (Z : State) (a0 : Array Value) (hw : ∀ d ∈ tables_1, d.before a0 Z = true) (ws : List Jvm.Cond) (a : Addr) (d : Addr) (c0 : Int32) (k1 : ClassId) (zc : Int32) (h0 : Heap) (n0 : Nat) (Z0 : n0 ≤ h0.size) (old : Old Z n0 h0) (Sa : Sta Z Z.heap "java/lang/StringUTF16" "$assertionsDisabled" "Z" (.int (1 : Int32))) (Sh : Sta Z Z.heap "java/lang/StringUTF16" "HI_BYTE_SHIFT" "I" (.int (0 : Int32))) (Sl : Sta Z Z.heap "java/lang/StringUTF16" "LO_BYTE_SHIFT" "I" (.int (8 : Int32))) (E_a : Exa Z h0 a "java/lang/String") (F_v : Fld Z h0 a "java/lang/String" "value" "[B" .null) (F_c : Fld Z h0 a "java/lang/String" "coder" "B" (.int (0 : Int32))) (g_a : n0 ≤ a) (V_d : Arv Z h0 d k1 .char (1 : Int32) [(.int c0)] (.int (0 : Int32))) (Sc : Sta Z Z.heap "java/lang/String" "COMPACT_STRINGS" "Z" (.int zc)) (hzc : ¬ zc = 0)  (u0 : (255 : Int32) < c0) (rg : 0 ≤ c0.toInt ∧ c0.toInt ≤ 65535) :
    MetFree l (⟨"java/lang/String", "<init>", "([C)V"⟩ : MethodName) (head1 (Jvm.Cond.code (⟨"java/lang/String", "<init>", "([C)V"⟩ : MethodName) jdk_42_method_3_code 2 none :: ws) ({ frames := 5, cells := 2, slots := 3, locals := 75 } : Room)) (fun ar_ U => ar_ = #[(.ref a), (.ref d)] ∧ Z.Warmed39 U.vm ∧ U.heap = h0) (fun _ _ _ _ _ => True) (fun _ U o U' => Phi U (Q_rmIU1_0 Z a d c0 k1 zc h0 n0) ({ frames := 5, cells := 2, slots := 3, locals := 75 } : Room).cells ({ frames := 5, cells := 2, slots := 3, locals := 75 } : Room).slots o U') := by
  refine MetFree.of_bodySF (plainFor_of_name pn_java_lang_String) hisR ?_
  intro p e s m args below meth c s₁ Bd hml0 hP hK
  obtain ⟨rfl, hZ, hh⟩ := hP
  have hx := Bd.exec
  have hby := Bd.bytes
  have hlk := Bd.notSynchronized
  have hml : c.maxLocals = 2 := hml0
  have hown : s.vm.findClass "java/lang/String" = some m.cls := findClass_of_methodNamed Bd.named
  have hown0 := hown
  have hnm := (name_of_methodNamed Bd.named Bd.method).1
  have hret := Bd.returns
  have X0 : Stand p l e ({ frames := 5, cells := 2, slots := 3, locals := 75 } : Room) s m #[(.ref a), (.ref d)] below meth c s₁ [] 0 0 := Stand.of_body Bd
  have e0 : s₁.heap = h0 := by rw [← hh, Bd.state]; rfl
  have N0 := Fr.nil n0
  have sz := Z0
  have K := Keep.refl h0 [a]
  show Runs p.tables e below (Phi s (Q_rmIU1_0 Z a d c0 k1 zc h0 n0) ({ frames := 5, cells := 2, slots := 3, locals := 75 } : Room).cells ({ frames := 5, cells := 2, slots := 3, locals := 75 } : Room).slots) _
  refine Runs.st (fun t' k' => castTop (ef_jdk_42_method_3_RR m a d ) k') ?_
  show Runs p.tables e below _ (s₁.setTop (mkF m 0 #[.val (.ref a), .val (.ref d)] []))
  refine Runs.st (fun t' k' => XS.aloadN X0.here hx rfl (hb hby d_jdk_42_method_3_0) rfl rfl k') ?_
  refine Runs.st (fun t' k' => XS.aloadN X0.here hx rfl (hb hby d_jdk_42_method_3_1) rfl rfl k') ?_
  refine Runs.st (fun t' k' => XS.iconst X0.here hx rfl (hb hby d_jdk_42_method_3_2) k') ?_
  refine Runs.st (fun t' k' => XS.aloadN X0.here hx rfl (hb hby d_jdk_42_method_3_3) rfl rfl k') ?_
  obtain ⟨cl1_, Ar1_, -, S1_, M1_, -, -⟩ := id V_d
  refine Runs.st (X0.arraylength hx (by rw [e0]; exact Ar1_.1) (State.isArrayOf_alike hZ.alike Ar1_.2.1) (g := (mkF m 4 #[.val (.ref a), .val (.ref d)] [(.ref d), (.int (0 : Int32)), (.ref d), (.ref a)])) rfl rfl (hb hby d_jdk_42_method_3_4)) ?_
  rw [len_of S1_ M1_]
  show Runs p.tables e below _ (s₁.setTop (mkF m 5 #[.val (.ref a), .val (.ref d)] [(.int (1 : Int32)), (.int (0 : Int32)), (.ref d), (.ref a)]))
  refine Runs.st (fun t' k' => XS.aconstNull X0.here hx rfl (hb hby d_jdk_42_method_3_5) k') ?_
  obtain ⟨_, _, ⟨T2_, L2_, k2_, n2_⟩, -, X2_, ⟨Lc2_, hQ2_, l2_, y2_, z2_⟩, st2_⟩ := X0.specialBack hx (y := (⟨"java/lang/String", "<init>", "([CIILjava/lang/Void;)V"⟩ : MethodName)) rfl hown (mvT hZ (hw _ (List.mem_of_getElem? (i := 12) rfl))) (mvT hZ (hw _ (List.mem_of_getElem? (i := 13) rfl))) (mvT hZ (hw _ (List.mem_of_getElem? (i := 15) rfl))) (by decide) (backOf (W := 0) (rmIV1_0 l Z a0 hw [] a d c0 k1 zc h0 n0 sz old Sa Sh Sl E_a F_v F_c g_a V_d Sc hzc u0 rg) hZ (hw _ (List.mem_of_getElem? (i := 15) rfl)) (hw _ (List.mem_of_getElem? (i := 7) rfl)) (by decide) (by decide)) (g := (mkF m 6 #[.val (.ref a), .val (.ref d)] [.null, (.int (1 : Int32)), (.int (0 : Int32)), (.ref d), (.ref a)])) rfl (by rw [hml]; rfl) (Steps.refl _) (a := a) (argsL := [(.ref d), (.int (0 : Int32)), (.int (1 : Int32)), .null]) (rest := []) (lenOf pd__28_5bCIILjava_2flang_2fVoid_3b_29V rfl) rfl (by show 2 * 0 + _ ≤ _; exact Nat.le_of_eq rfl) (hb hby d_jdk_42_method_3_6) (fun _ _ => ⟨rfl, e0, (by decide : 0 + 2 ≤ _), (by decide : 0 + 3 ≤ _)⟩)
  dsimp only [Pt.U, Pt.locs, Pt.cells, Pt.slots] at X2_ l2_ y2_ z2_ st2_ hQ2_
  subst l2_ y2_ z2_
  obtain ⟨rfl, N2_q, K2_, E_a, F_c, b, k2, szb, F_v, V_b⟩ := hQ2_
  have N2_ := Fr.app N0 N2_q
  refine Runs.tr st2_ ?_
  replace X2_ := wider X2_ (c' := 2) (s' := 3) (by decide) (by decide)
  replace old := old.keep K2_ (allS g_a all0)
  replace sz := Nat.le_trans sz K2_.1
  replace K := K.trans K2_ (allS (Or.inl (List.mem_of_getElem? (i := 0) rfl)) all0)
  show Runs p.tables e below _ (T2_.setTop (mkF m 9 #[.val (.ref a), .val (.ref d)] []))
  refine Runs.ret X2_ hlk (v := none) (fun _ => rfl) (by decide) (by decide) ?_ (fun fs hr => X2_.returnOut hx hret (hb hby d_jdk_42_method_3_9) hr)
  exact ⟨rfl, N2_, K, E_a, F_c, b, k2, szb, F_v, V_b⟩
def Q_rmCA2 (Z : State) (a : Addr) (b : Addr) (c0 c1 : Int32) (k1 k2 : ClassId) (h0 : Heap) (n0 : Nat) : Option Value → Heap → List Loc → Prop := (fun v h L => v = some (.int (2 : Int32)) ∧ Fr n0 L ∧ Keep h0 h [b] ∧ Arv Z h b k2 .byte (2 : Int32) [(.int (nar .byte (c0.toInt8.toInt32))), (.int (nar .byte (c1.toInt8.toInt32)))] (.int (0 : Int32)))
set_option maxRecDepth 65536 in
set_option maxHeartbeats 40000000 in
theorem rmCA2 (l : Launch) (Z : State) (a0 : Array Value) (hw : ∀ d ∈ tables_1, d.before a0 Z = true) (ws : List Jvm.Cond) (a : Addr) (b : Addr) (c0 c1 : Int32) (k1 k2 : ClassId) (h0 : Heap) (n0 : Nat) (Z0 : n0 ≤ h0.size) (V_a : Arv Z h0 a k1 .char (2 : Int32) [(.int c0), (.int c1)] (.int (0 : Int32))) (V_b : Arv Z h0 b k2 .byte (2 : Int32) [(.int (0 : Int32)), (.int (0 : Int32))] (.int (0 : Int32))) (ne_a_b : a ≠ b) (g_b : n0 ≤ b) (u0 : ¬ ((255 : Int32) < c0)) (u1 : ¬ ((255 : Int32) < c1)) :
    MetFree l (⟨"java/lang/StringUTF16", "compress", "([CI[BII)I"⟩ : MethodName) (head1 (Jvm.Cond.code (⟨"java/lang/StringUTF16", "compress", "([CI[BII)I"⟩ : MethodName) jdk_52_method_21_code 7 (some .int) :: ws) ({ frames := 0, cells := 0, slots := 0, locals := 0 } : Room)) (fun ar_ U => ar_ = #[(.ref a), (.int (0 : Int32)), (.ref b), (.int (0 : Int32)), (.int (2 : Int32))] ∧ Z.Warmed39 U.vm ∧ U.heap = h0) (fun _ _ _ _ _ => True) (fun _ U o U' => Phi U (Q_rmCA2 Z a b c0 c1 k1 k2 h0 n0) ({ frames := 0, cells := 0, slots := 0, locals := 0 } : Room).cells ({ frames := 0, cells := 0, slots := 0, locals := 0 } : Room).slots o U') := by
  refine MetFree.of_bodySF (plainFor_of_name pn_java_lang_StringUTF16) hisR ?_
  intro p e s m args below meth c s₁ Bd hml0 hP hK
  obtain ⟨rfl, hZ, hh⟩ := hP
  have hx := Bd.exec
  have hby := Bd.bytes
  have hlk := Bd.notSynchronized
  have hml : c.maxLocals = 7 := hml0
  have hown : s.vm.findClass "java/lang/StringUTF16" = some m.cls := findClass_of_methodNamed Bd.named
  have hown0 := hown
  have hnm := (name_of_methodNamed Bd.named Bd.method).1
  have hret := Bd.returns
  have X0 : Stand p l e ({ frames := 0, cells := 0, slots := 0, locals := 0 } : Room) s m #[(.ref a), (.int (0 : Int32)), (.ref b), (.int (0 : Int32)), (.int (2 : Int32))] below meth c s₁ [] 0 0 := Stand.of_body Bd
  have e0 : s₁.heap = h0 := by rw [← hh, Bd.state]; rfl
  have N0 := Fr.nil n0
  have sz := Z0
  have K := Keep.refl h0 [b]
  show Runs p.tables e below (Phi s (Q_rmCA2 Z a b c0 c1 k1 k2 h0 n0) ({ frames := 0, cells := 0, slots := 0, locals := 0 } : Room).cells ({ frames := 0, cells := 0, slots := 0, locals := 0 } : Room).slots) _
  refine Runs.st (fun t' k' => castTop (ef_jdk_52_method_21_RIRII m a (0 : Int32) b (0 : Int32) (2 : Int32) ) k') ?_
  show Runs p.tables e below _ (s₁.setTop (mkF m 0 #[.val (.ref a), .val (.int (0 : Int32)), .val (.ref b), .val (.int (0 : Int32)), .val (.int (2 : Int32)), .unset, .unset] []))
  refine Runs.st (fun t' k' => XS.iconst X0.here hx rfl (hb hby d_jdk_52_method_21_0) k') ?_
  refine Runs.st (fun t' k' => XS.istore X0.here hx rfl (hb hby d_jdk_52_method_21_1) rfl (l' := #[.val (.ref a), .val (.int (0 : Int32)), .val (.ref b), .val (.int (0 : Int32)), .val (.int (2 : Int32)), .val (.int (0 : Int32)), .unset]) rfl k') ?_
  refine Runs.st (fun t' k' => XS.iload X0.here hx rfl (hb hby d_jdk_52_method_21_3) rfl k') ?_
  refine Runs.st (fun t' k' => XS.iload X0.here hx rfl (hb hby d_jdk_52_method_21_5) rfl k') ?_
  refine Runs.st (fun t' k' => XS.icmpNo X0.here hx rfl (hb hby d_jdk_52_method_21_7) rfl (tlt (by decide)).2.1 k') ?_
  show Runs p.tables e below _ (s₁.setTop (mkF m 10 #[.val (.ref a), .val (.int (0 : Int32)), .val (.ref b), .val (.int (0 : Int32)), .val (.int (2 : Int32)), .val (.int (0 : Int32)), .unset] []))
  refine Runs.st (fun t' k' => XS.aloadN X0.here hx rfl (hb hby d_jdk_52_method_21_10) rfl rfl k') ?_
  refine Runs.st (fun t' k' => XS.iloadN X0.here hx rfl (hb hby d_jdk_52_method_21_11) rfl k') ?_
  obtain ⟨cl1_, Ar1_, -, S1_, M1_, Ha1_, -⟩ := id V_a
  have hin1_ : ¬ ((0 : Int32) < 0 ∨ cl1_.slots.size ≤ ((0 : Int32)).toNatClampNeg) := inb_of S1_ ⟨by decide, by decide⟩
  refine Runs.st (X0.caload hx (j := (0 : Int32)) (v := (.int c0)) (by rw [e0]; exact Ar1_.1) (State.isArrayOf_alike hZ.alike Ar1_.2.1) Ar1_.2.2 hin1_ (Ha1_.at hin1_ rfl) (g := (mkF m 12 #[.val (.ref a), .val (.int (0 : Int32)), .val (.ref b), .val (.int (0 : Int32)), .val (.int (2 : Int32)), .val (.int (0 : Int32)), .unset] [(.int (0 : Int32)), (.ref a)])) rfl rfl (hb hby d_jdk_52_method_21_12)) ?_
  show Runs p.tables e below _ (s₁.setTop (mkF m 13 #[.val (.ref a), .val (.int (0 : Int32)), .val (.ref b), .val (.int (0 : Int32)), .val (.int (2 : Int32)), .val (.int (0 : Int32)), .unset] [(.int c0)]))
  refine Runs.st (fun t' k' => XS.istore X0.here hx rfl (hb hby d_jdk_52_method_21_13) rfl (l' := #[.val (.ref a), .val (.int (0 : Int32)), .val (.ref b), .val (.int (0 : Int32)), .val (.int (2 : Int32)), .val (.int (0 : Int32)), .val (.int c0)]) rfl k') ?_
  refine Runs.st (fun t' k' => XS.iload X0.here hx rfl (hb hby d_jdk_52_method_21_15) rfl k') ?_
  refine Runs.st (fun t' k' => XS.sipush X0.here hx rfl (hb hby d_jdk_52_method_21_17) k') ?_
  refine Runs.st (fun t' k' => XS.icmpYes X0.here hx rfl (pc0 := 20) (pc' := 26) rfl (hb hby d_jdk_52_method_21_20) rfl (flt u0).2.2.2 (by decide) (by decide) k') ?_
  show Runs p.tables e below _ (s₁.setTop (mkF m 26 #[.val (.ref a), .val (.int (0 : Int32)), .val (.ref b), .val (.int (0 : Int32)), .val (.int (2 : Int32)), .val (.int (0 : Int32)), .val (.int c0)] []))
  refine Runs.st (fun t' k' => XS.aloadN X0.here hx rfl (hb hby d_jdk_52_method_21_26) rfl rfl k') ?_
  refine Runs.st (fun t' k' => XS.iloadN X0.here hx rfl (hb hby d_jdk_52_method_21_27) rfl k') ?_
  refine Runs.st (fun t' k' => XS.iload X0.here hx rfl (hb hby d_jdk_52_method_21_28) rfl k') ?_
  refine Runs.st (fun t' k' => XS.i2b X0.here hx rfl (hb hby d_jdk_52_method_21_30) rfl k') ?_
  obtain ⟨cl2_, Ar2_, q2_, S2_, M2_, Ha2_, G2_⟩ := V_b
  have hin2_ : ¬ ((0 : Int32) < 0 ∨ cl2_.slots.size ≤ ((0 : Int32)).toNatClampNeg) := inb_of S2_ ⟨by decide, by decide⟩
  obtain ⟨T2_, h2_, X2_, e2_, W2_, st2_⟩ := stB X0 hx hZ e0 Ar2_ (j := (0 : Int32)) hin2_ (g := (mkF m 31 #[.val (.ref a), .val (.int (0 : Int32)), .val (.ref b), .val (.int (0 : Int32)), .val (.int (2 : Int32)), .val (.int (0 : Int32)), .val (.int c0)] [(.int (c0.toInt8.toInt32)), (.int (0 : Int32)), (.ref b)])) rfl rfl (hb hby d_jdk_52_method_21_31)
  refine Runs.st (st2_) ?_
  have V_b := Arv.set Ar2_ q2_ S2_ M2_ Ha2_ G2_ (fits_nar_byte _) W2_ 0 rfl (Nat.le_of_ble_eq_true rfl)
  replace V_a := V_a.other W2_ ne_a_b
  replace sz := Nat.le_trans sz (Keep.of_wr W2_).1
  have N2_ := Fr.snoc X2_ N0 g_b
  replace K := K.wr W2_ (Or.inl (List.mem_of_getElem? (i := 0) rfl))
  show Runs p.tables e below _ (T2_.setTop (mkF m 32 #[.val (.ref a), .val (.int (0 : Int32)), .val (.ref b), .val (.int (0 : Int32)), .val (.int (2 : Int32)), .val (.int (0 : Int32)), .val (.int c0)] []))
  refine Runs.st (fun t' k' => XS.iinc X2_.here hx rfl (hb hby d_jdk_52_method_21_32) rfl (l' := #[.val (.ref a), .val (.int ((0 : Int32) + (1 : Int32))), .val (.ref b), .val (.int (0 : Int32)), .val (.int (2 : Int32)), .val (.int (0 : Int32)), .val (.int c0)]) rfl k') ?_
  refine Runs.st (fun t' k' => XS.iinc X2_.here hx rfl (hb hby d_jdk_52_method_21_35) rfl (l' := #[.val (.ref a), .val (.int ((0 : Int32) + (1 : Int32))), .val (.ref b), .val (.int ((0 : Int32) + (1 : Int32))), .val (.int (2 : Int32)), .val (.int (0 : Int32)), .val (.int c0)]) rfl k') ?_
  refine Runs.st (fun t' k' => XS.iinc X2_.here hx rfl (hb hby d_jdk_52_method_21_38) rfl (l' := #[.val (.ref a), .val (.int ((0 : Int32) + (1 : Int32))), .val (.ref b), .val (.int ((0 : Int32) + (1 : Int32))), .val (.int (2 : Int32)), .val (.int ((0 : Int32) + (1 : Int32))), .val (.int c0)]) rfl k') ?_
  show Runs p.tables e below _ (T2_.setTop (mkF m 41 #[.val (.ref a), .val (.int ((0 : Int32) + (1 : Int32))), .val (.ref b), .val (.int ((0 : Int32) + (1 : Int32))), .val (.int (2 : Int32)), .val (.int ((0 : Int32) + (1 : Int32))), .val (.int c0)] []))
  rw [show ((0 : Int32) + (1 : Int32)) = (1 : Int32) from rfl]
  show Runs p.tables e below _ (T2_.setTop (mkF m 41 #[.val (.ref a), .val (.int (1 : Int32)), .val (.ref b), .val (.int (1 : Int32)), .val (.int (2 : Int32)), .val (.int (1 : Int32)), .val (.int c0)] []))
  refine Runs.st (fun t' k' => XS.goto X2_.here hx rfl (pc0 := 41) (pc' := 3) rfl (hb hby d_jdk_52_method_21_41) (by decide) (by decide) k') ?_
  refine Runs.st (fun t' k' => XS.iload X2_.here hx rfl (hb hby d_jdk_52_method_21_3) rfl k') ?_
  show Runs p.tables e below _ (T2_.setTop (mkF m 5 #[.val (.ref a), .val (.int (1 : Int32)), .val (.ref b), .val (.int (1 : Int32)), .val (.int (2 : Int32)), .val (.int (1 : Int32)), .val (.int c0)] [(.int (1 : Int32))]))
  refine Runs.st (fun t' k' => XS.iload X2_.here hx rfl (hb hby d_jdk_52_method_21_5) rfl k') ?_
  refine Runs.st (fun t' k' => XS.icmpNo X2_.here hx rfl (hb hby d_jdk_52_method_21_7) rfl (tlt (by decide)).2.1 k') ?_
  show Runs p.tables e below _ (T2_.setTop (mkF m 10 #[.val (.ref a), .val (.int (1 : Int32)), .val (.ref b), .val (.int (1 : Int32)), .val (.int (2 : Int32)), .val (.int (1 : Int32)), .val (.int c0)] []))
  refine Runs.st (fun t' k' => XS.aloadN X2_.here hx rfl (hb hby d_jdk_52_method_21_10) rfl rfl k') ?_
  refine Runs.st (fun t' k' => XS.iloadN X2_.here hx rfl (hb hby d_jdk_52_method_21_11) rfl k') ?_
  obtain ⟨cl3_, Ar3_, -, S3_, M3_, Ha3_, -⟩ := id V_a
  have hin3_ : ¬ ((1 : Int32) < 0 ∨ cl3_.slots.size ≤ ((1 : Int32)).toNatClampNeg) := inb_of S3_ ⟨by decide, by decide⟩
  refine Runs.st (X2_.caload hx (j := (1 : Int32)) (v := (.int c1)) (by rw [e2_]; exact Ar3_.1) (State.isArrayOf_alike hZ.alike Ar3_.2.1) Ar3_.2.2 hin3_ (Ha3_.at hin3_ rfl) (g := (mkF m 12 #[.val (.ref a), .val (.int (1 : Int32)), .val (.ref b), .val (.int (1 : Int32)), .val (.int (2 : Int32)), .val (.int (1 : Int32)), .val (.int c0)] [(.int (1 : Int32)), (.ref a)])) rfl rfl (hb hby d_jdk_52_method_21_12)) ?_
  show Runs p.tables e below _ (T2_.setTop (mkF m 13 #[.val (.ref a), .val (.int (1 : Int32)), .val (.ref b), .val (.int (1 : Int32)), .val (.int (2 : Int32)), .val (.int (1 : Int32)), .val (.int c0)] [(.int c1)]))
  refine Runs.st (fun t' k' => XS.istore X2_.here hx rfl (hb hby d_jdk_52_method_21_13) rfl (l' := #[.val (.ref a), .val (.int (1 : Int32)), .val (.ref b), .val (.int (1 : Int32)), .val (.int (2 : Int32)), .val (.int (1 : Int32)), .val (.int c1)]) rfl k') ?_
  refine Runs.st (fun t' k' => XS.iload X2_.here hx rfl (hb hby d_jdk_52_method_21_15) rfl k') ?_
  refine Runs.st (fun t' k' => XS.sipush X2_.here hx rfl (hb hby d_jdk_52_method_21_17) k') ?_
  refine Runs.st (fun t' k' => XS.icmpYes X2_.here hx rfl (pc0 := 20) (pc' := 26) rfl (hb hby d_jdk_52_method_21_20) rfl (flt u1).2.2.2 (by decide) (by decide) k') ?_
  show Runs p.tables e below _ (T2_.setTop (mkF m 26 #[.val (.ref a), .val (.int (1 : Int32)), .val (.ref b), .val (.int (1 : Int32)), .val (.int (2 : Int32)), .val (.int (1 : Int32)), .val (.int c1)] []))
  refine Runs.st (fun t' k' => XS.aloadN X2_.here hx rfl (hb hby d_jdk_52_method_21_26) rfl rfl k') ?_
  refine Runs.st (fun t' k' => XS.iloadN X2_.here hx rfl (hb hby d_jdk_52_method_21_27) rfl k') ?_
  refine Runs.st (fun t' k' => XS.iload X2_.here hx rfl (hb hby d_jdk_52_method_21_28) rfl k') ?_
  refine Runs.st (fun t' k' => XS.i2b X2_.here hx rfl (hb hby d_jdk_52_method_21_30) rfl k') ?_
  obtain ⟨cl4_, Ar4_, q4_, S4_, M4_, Ha4_, G4_⟩ := V_b
  have hin4_ : ¬ ((1 : Int32) < 0 ∨ cl4_.slots.size ≤ ((1 : Int32)).toNatClampNeg) := inb_of S4_ ⟨by decide, by decide⟩
  obtain ⟨T4_, h4_, X4_, e4_, W4_, st4_⟩ := stB X2_ hx hZ e2_ Ar4_ (j := (1 : Int32)) hin4_ (g := (mkF m 31 #[.val (.ref a), .val (.int (1 : Int32)), .val (.ref b), .val (.int (1 : Int32)), .val (.int (2 : Int32)), .val (.int (1 : Int32)), .val (.int c1)] [(.int (c1.toInt8.toInt32)), (.int (1 : Int32)), (.ref b)])) rfl rfl (hb hby d_jdk_52_method_21_31)
  refine Runs.st (st4_) ?_
  have V_b := Arv.set Ar4_ q4_ S4_ M4_ Ha4_ G4_ (fits_nar_byte _) W4_ 1 rfl (Nat.le_of_ble_eq_true rfl)
  replace V_a := V_a.other W4_ ne_a_b
  replace sz := Nat.le_trans sz (Keep.of_wr W4_).1
  have N4_ := Fr.snoc X4_ N2_ g_b
  replace K := K.wr W4_ (Or.inl (List.mem_of_getElem? (i := 0) rfl))
  show Runs p.tables e below _ (T4_.setTop (mkF m 32 #[.val (.ref a), .val (.int (1 : Int32)), .val (.ref b), .val (.int (1 : Int32)), .val (.int (2 : Int32)), .val (.int (1 : Int32)), .val (.int c1)] []))
  refine Runs.st (fun t' k' => XS.iinc X4_.here hx rfl (hb hby d_jdk_52_method_21_32) rfl (l' := #[.val (.ref a), .val (.int ((1 : Int32) + (1 : Int32))), .val (.ref b), .val (.int (1 : Int32)), .val (.int (2 : Int32)), .val (.int (1 : Int32)), .val (.int c1)]) rfl k') ?_
  refine Runs.st (fun t' k' => XS.iinc X4_.here hx rfl (hb hby d_jdk_52_method_21_35) rfl (l' := #[.val (.ref a), .val (.int ((1 : Int32) + (1 : Int32))), .val (.ref b), .val (.int ((1 : Int32) + (1 : Int32))), .val (.int (2 : Int32)), .val (.int (1 : Int32)), .val (.int c1)]) rfl k') ?_
  refine Runs.st (fun t' k' => XS.iinc X4_.here hx rfl (hb hby d_jdk_52_method_21_38) rfl (l' := #[.val (.ref a), .val (.int ((1 : Int32) + (1 : Int32))), .val (.ref b), .val (.int ((1 : Int32) + (1 : Int32))), .val (.int (2 : Int32)), .val (.int ((1 : Int32) + (1 : Int32))), .val (.int c1)]) rfl k') ?_
  show Runs p.tables e below _ (T4_.setTop (mkF m 41 #[.val (.ref a), .val (.int ((1 : Int32) + (1 : Int32))), .val (.ref b), .val (.int ((1 : Int32) + (1 : Int32))), .val (.int (2 : Int32)), .val (.int ((1 : Int32) + (1 : Int32))), .val (.int c1)] []))
  rw [show ((1 : Int32) + (1 : Int32)) = (2 : Int32) from rfl]
  show Runs p.tables e below _ (T4_.setTop (mkF m 41 #[.val (.ref a), .val (.int (2 : Int32)), .val (.ref b), .val (.int (2 : Int32)), .val (.int (2 : Int32)), .val (.int (2 : Int32)), .val (.int c1)] []))
  refine Runs.st (fun t' k' => XS.goto X4_.here hx rfl (pc0 := 41) (pc' := 3) rfl (hb hby d_jdk_52_method_21_41) (by decide) (by decide) k') ?_
  refine Runs.st (fun t' k' => XS.iload X4_.here hx rfl (hb hby d_jdk_52_method_21_3) rfl k') ?_
  show Runs p.tables e below _ (T4_.setTop (mkF m 5 #[.val (.ref a), .val (.int (2 : Int32)), .val (.ref b), .val (.int (2 : Int32)), .val (.int (2 : Int32)), .val (.int (2 : Int32)), .val (.int c1)] [(.int (2 : Int32))]))
  refine Runs.st (fun t' k' => XS.iload X4_.here hx rfl (hb hby d_jdk_52_method_21_5) rfl k') ?_
  refine Runs.st (fun t' k' => XS.icmpYes X4_.here hx rfl (pc0 := 7) (pc' := 44) rfl (hb hby d_jdk_52_method_21_7) rfl (flt (by decide)).2.1 (by decide) (by decide) k') ?_
  show Runs p.tables e below _ (T4_.setTop (mkF m 44 #[.val (.ref a), .val (.int (2 : Int32)), .val (.ref b), .val (.int (2 : Int32)), .val (.int (2 : Int32)), .val (.int (2 : Int32)), .val (.int c1)] []))
  refine Runs.st (fun t' k' => XS.iload X4_.here hx rfl (hb hby d_jdk_52_method_21_44) rfl k') ?_
  refine Runs.ret X4_ hlk (v := (some (.int (2 : Int32)))) (fun h => by rw [hret] at h; cases h) (by decide) (by decide) ?_ (fun fs hr => retI X4_ hx hret (hb hby d_jdk_52_method_21_46) hr)
  try rw [e4_]
  exact ⟨rfl, N4_, K, V_b⟩
def Q_rmCB2 (Z : State) (a : Addr) (c0 c1 : Int32) (k1 : ClassId) (h0 : Heap) (n0 : Nat) : Option Value → Heap → List Loc → Prop := (fun v h L => ∃ b k2, v = some (.ref b) ∧ Fr n0 L ∧ Keep h0 h [] ∧ h0.size ≤ b ∧ Arv Z h b k2 .byte (2 : Int32) [(.int (nar .byte (c0.toInt8.toInt32))), (.int (nar .byte (c1.toInt8.toInt32)))] (.int (0 : Int32)))
set_option maxRecDepth 65536 in
set_option maxHeartbeats 40000000 in
theorem rmCB2 (l : Launch) (Z : State) (a0 : Array Value) (hw : ∀ d ∈ tables_1, d.before a0 Z = true) (ws : List Jvm.Cond) (a : Addr) (c0 c1 : Int32) (k1 : ClassId) (h0 : Heap) (n0 : Nat) (Z0 : n0 ≤ h0.size) (V_a : Arv Z h0 a k1 .char (2 : Int32) [(.int c0), (.int c1)] (.int (0 : Int32))) (u0 : ¬ ((255 : Int32) < c0)) (u1 : ¬ ((255 : Int32) < c1)) :
    MetFree l (⟨"java/lang/StringUTF16", "compress", "([CII)[B"⟩ : MethodName) (head1 (Jvm.Cond.code (⟨"java/lang/StringUTF16", "compress", "([CII)[B"⟩ : MethodName) jdk_52_method_16_code 6 (some (.array .byte)) :: ws) ({ frames := 1, cells := 1, slots := 2, locals := 18 } : Room)) (fun ar_ U => ar_ = #[(.ref a), (.int (0 : Int32)), (.int (2 : Int32))] ∧ Z.Warmed39 U.vm ∧ U.heap = h0) (fun _ _ _ _ _ => True) (fun _ U o U' => Phi U (Q_rmCB2 Z a c0 c1 k1 h0 n0) ({ frames := 1, cells := 1, slots := 2, locals := 18 } : Room).cells ({ frames := 1, cells := 1, slots := 2, locals := 18 } : Room).slots o U') := by
  refine MetFree.of_bodySF (plainFor_of_name pn_java_lang_StringUTF16) hisR ?_
  intro p e s m args below meth c s₁ Bd hml0 hP hK
  obtain ⟨rfl, hZ, hh⟩ := hP
  have hx := Bd.exec
  have hby := Bd.bytes
  have hlk := Bd.notSynchronized
  have hml : c.maxLocals = 6 := hml0
  have hown : s.vm.findClass "java/lang/StringUTF16" = some m.cls := findClass_of_methodNamed Bd.named
  have hown0 := hown
  have hnm := (name_of_methodNamed Bd.named Bd.method).1
  have hret := Bd.returns
  have X0 : Stand p l e ({ frames := 1, cells := 1, slots := 2, locals := 18 } : Room) s m #[(.ref a), (.int (0 : Int32)), (.int (2 : Int32))] below meth c s₁ [] 0 0 := Stand.of_body Bd
  have e0 : s₁.heap = h0 := by rw [← hh, Bd.state]; rfl
  have N0 := Fr.nil n0
  have sz := Z0
  have K := Keep.refl h0 []
  show Runs p.tables e below (Phi s (Q_rmCB2 Z a c0 c1 k1 h0 n0) ({ frames := 1, cells := 1, slots := 2, locals := 18 } : Room).cells ({ frames := 1, cells := 1, slots := 2, locals := 18 } : Room).slots) _
  refine Runs.st (fun t' k' => castTop (ef_jdk_52_method_16_RII m a (0 : Int32) (2 : Int32) ) k') ?_
  show Runs p.tables e below _ (s₁.setTop (mkF m 0 #[.val (.ref a), .val (.int (0 : Int32)), .val (.int (2 : Int32)), .unset, .unset, .unset] []))
  refine Runs.st (fun t' k' => XS.iloadN X0.here hx rfl (hb hby d_jdk_52_method_16_0) rfl k') ?_
  obtain ⟨T1_, h1_, k1_, X1_, e1_, E1_, A1_, st1_⟩ := newP X0 hx hZ (hw _ (List.mem_of_getElem? (i := 20) rfl)) e0 (g := (mkF m 1 #[.val (.ref a), .val (.int (0 : Int32)), .val (.int (2 : Int32)), .unset, .unset, .unset] [(.int (2 : Int32))])) rfl (hb hby d_jdk_52_method_16_1) rfl (by decide) (cap := 2) (by decide) (by decide) (by decide) (by decide)
  refine Runs.st (st1_) ?_
  obtain ⟨b, g1_⟩ : ∃ z, z = h0.size := ⟨_, rfl⟩
  rw [← g1_] at A1_
  try rw [← g1_]
  have g_b : n0 ≤ b := Nat.le_trans sz (Nat.le_of_eq g1_.symm)
  have sz_b : h0.size ≤ b := Nat.le_trans K.1 (Nat.le_of_eq g1_.symm)
  have ne_a_b : a ≠ b := Nat.ne_of_lt (Nat.lt_of_lt_of_le V_a.lt (Nat.le_of_eq g1_.symm))
  replace V_a := V_a.ext E1_
  replace sz := Nat.le_trans sz E1_.1
  replace K := K.ext E1_
  have V_b : Arv Z h1_ b k1_ .byte (2 : Int32) [(.int (0 : Int32)), (.int (0 : Int32))] (.int (0 : Int32)) := (Arv.new A1_ (by decide)).pad (pad_rep [] (.int (0 : Int32)) 2)
  show Runs p.tables e below _ (T1_.setTop (mkF m 3 #[.val (.ref a), .val (.int (0 : Int32)), .val (.int (2 : Int32)), .unset, .unset, .unset] [(.ref b)]))
  refine Runs.st (fun t' k' => XS.astoreN X1_.here hx rfl (hb hby d_jdk_52_method_16_3) rfl rfl (l' := #[.val (.ref a), .val (.int (0 : Int32)), .val (.int (2 : Int32)), .val (.ref b), .unset, .unset]) rfl k') ?_
  refine Runs.st (fun t' k' => XS.aloadN X1_.here hx rfl (hb hby d_jdk_52_method_16_4) rfl rfl k') ?_
  refine Runs.st (fun t' k' => XS.iloadN X1_.here hx rfl (hb hby d_jdk_52_method_16_5) rfl k') ?_
  refine Runs.st (fun t' k' => XS.aloadN X1_.here hx rfl (hb hby d_jdk_52_method_16_6) rfl rfl k') ?_
  refine Runs.st (fun t' k' => XS.iconst X1_.here hx rfl (hb hby d_jdk_52_method_16_7) k') ?_
  show Runs p.tables e below _ (T1_.setTop (mkF m 8 #[.val (.ref a), .val (.int (0 : Int32)), .val (.int (2 : Int32)), .val (.ref b), .unset, .unset] [(.int (0 : Int32)), (.ref b), (.int (0 : Int32)), (.ref a)]))
  refine Runs.st (fun t' k' => XS.iloadN X1_.here hx rfl (hb hby d_jdk_52_method_16_8) rfl k') ?_
  obtain ⟨_, _, ⟨T2_, L2_, k2_, n2_⟩, -, X2_, ⟨Lc2_, hQ2_, l2_, y2_, z2_⟩, st2_⟩ := Jvm.LawKit.callS X1_ hx (y := (⟨"java/lang/StringUTF16", "compress", "([CI[BII)I"⟩ : MethodName)) hown (mvT hZ (hw _ (List.mem_of_getElem? (i := 59) rfl))) (mvT hZ (hw _ (List.mem_of_getElem? (i := 60) rfl))) (mvT hZ (hw _ (List.mem_of_getElem? (i := 57) rfl))) (mvT hZ (hw _ (List.mem_of_getElem? (i := 61) rfl))) (by decide) (backOf (W := 0) (rmCA2 l Z a0 hw [] a b c0 c1 k1 _ h1_ n0 sz V_a V_b ne_a_b g_b u0 u1) hZ (hw _ (List.mem_of_getElem? (i := 61) rfl)) (hw _ (List.mem_of_getElem? (i := 57) rfl)) (by decide) (by decide)) (g := (mkF m 9 #[.val (.ref a), .val (.int (0 : Int32)), .val (.int (2 : Int32)), .val (.ref b), .unset, .unset] [(.int (2 : Int32)), (.int (0 : Int32)), (.ref b), (.int (0 : Int32)), (.ref a)])) rfl (by rw [hml]; rfl) (argsL := [(.ref a), (.int (0 : Int32)), (.ref b), (.int (0 : Int32)), (.int (2 : Int32))]) (rest := []) (lenOf pd__28_5bCI_5bBII_29I rfl) rfl (by show 2 * 0 + _ ≤ _; exact Nat.le_of_eq rfl) (hb hby d_jdk_52_method_16_9) (fun _ _ => ⟨rfl, e1_, (by decide : 1 + 0 ≤ _), (by decide : 2 + 0 ≤ _)⟩)
  dsimp only [Pt.U, Pt.locs, Pt.cells, Pt.slots] at X2_ l2_ y2_ z2_ st2_ hQ2_
  subst l2_ y2_ z2_
  obtain ⟨rfl, N2_q, K2_, V_b⟩ := hQ2_
  have N2_ := Fr.app N0 N2_q
  refine Runs.st (st2_) ?_
  replace X2_ := wider X2_ (c' := 1) (s' := 2) (by decide) (by decide)
  replace V_a := V_a.keep K2_ (ninS ne_a_b nin0)
  replace sz := Nat.le_trans sz K2_.1
  replace K := K.trans K2_ (allS (Or.inr sz_b) all0)
  show Runs p.tables e below _ (T2_.setTop (mkF m 12 #[.val (.ref a), .val (.int (0 : Int32)), .val (.int (2 : Int32)), .val (.ref b), .unset, .unset] [(.int (2 : Int32))]))
  refine Runs.st (fun t' k' => XS.istore X2_.here hx rfl (hb hby d_jdk_52_method_16_12) rfl (l' := #[.val (.ref a), .val (.int (0 : Int32)), .val (.int (2 : Int32)), .val (.ref b), .val (.int (2 : Int32)), .unset]) rfl k') ?_
  refine Runs.st (fun t' k' => XS.iload X2_.here hx rfl (hb hby d_jdk_52_method_16_14) rfl k') ?_
  refine Runs.st (fun t' k' => XS.iloadN X2_.here hx rfl (hb hby d_jdk_52_method_16_16) rfl k') ?_
  refine Runs.st (fun t' k' => XS.icmpYes X2_.here hx rfl (pc0 := 17) (pc' := 57) rfl (hb hby d_jdk_52_method_16_17) rfl (teq rfl).1 (by decide) (by decide) k') ?_
  show Runs p.tables e below _ (T2_.setTop (mkF m 57 #[.val (.ref a), .val (.int (0 : Int32)), .val (.int (2 : Int32)), .val (.ref b), .val (.int (2 : Int32)), .unset] []))
  refine Runs.st (fun t' k' => XS.aloadN X2_.here hx rfl (hb hby d_jdk_52_method_16_57) rfl rfl k') ?_
  refine Runs.ret X2_ hlk (v := (some (.ref b))) (fun h => by rw [hret] at h; cases h) (by decide) (by decide) ?_ (fun fs hr => retOut X2_ hx hret rfl (Or.inr (Or.inr (Or.inr (Or.inr ⟨rfl, rfl, rfl⟩)))) (hb hby d_jdk_52_method_16_58) hr)
  exact ⟨b, _, rfl, N2_, K, sz_b, V_b⟩
def Q_rmCd2 (Z : State) (b : Addr) (k2 : ClassId) (vs : List Value) (h0 : Heap) (n0 : Nat) : Option Value → Heap → List Loc → Prop := (fun v h L => v = some (.int (0 : Int32)) ∧ Fr n0 L ∧ h = h0)
set_option maxRecDepth 65536 in
set_option maxHeartbeats 40000000 in
theorem rmCd2 (l : Launch) (Z : State) (a0 : Array Value) (hw : ∀ d ∈ tables_1, d.before a0 Z = true) (ws : List Jvm.Cond) (b : Addr) (k2 : ClassId) (vs : List Value) (h0 : Heap) (n0 : Nat) (Z0 : n0 ≤ h0.size) (V_b : Arv Z h0 b k2 .byte (2 : Int32) vs (.int (0 : Int32))) :
    MetFree l (⟨"java/lang/StringUTF16", "coderFromArrayLen", "([BI)B"⟩ : MethodName) (head1 (Jvm.Cond.code (⟨"java/lang/StringUTF16", "coderFromArrayLen", "([BI)B"⟩ : MethodName) jdk_52_method_15_code 2 (some .byte) :: ws) ({ frames := 0, cells := 0, slots := 0, locals := 0 } : Room)) (fun ar_ U => ar_ = #[(.ref b), (.int (2 : Int32))] ∧ Z.Warmed39 U.vm ∧ U.heap = h0) (fun _ _ _ _ _ => True) (fun _ U o U' => Phi U (Q_rmCd2 Z b k2 vs h0 n0) ({ frames := 0, cells := 0, slots := 0, locals := 0 } : Room).cells ({ frames := 0, cells := 0, slots := 0, locals := 0 } : Room).slots o U') := by
  refine MetFree.of_bodySF (plainFor_of_name pn_java_lang_StringUTF16) hisR ?_
  intro p e s m args below meth c s₁ Bd hml0 hP hK
  obtain ⟨rfl, hZ, hh⟩ := hP
  have hx := Bd.exec
  have hby := Bd.bytes
  have hlk := Bd.notSynchronized
  have hml : c.maxLocals = 2 := hml0
  have hown : s.vm.findClass "java/lang/StringUTF16" = some m.cls := findClass_of_methodNamed Bd.named
  have hown0 := hown
  have hnm := (name_of_methodNamed Bd.named Bd.method).1
  have hret := Bd.returns
  have X0 : Stand p l e ({ frames := 0, cells := 0, slots := 0, locals := 0 } : Room) s m #[(.ref b), (.int (2 : Int32))] below meth c s₁ [] 0 0 := Stand.of_body Bd
  have e0 : s₁.heap = h0 := by rw [← hh, Bd.state]; rfl
  have N0 := Fr.nil n0
  have sz := Z0
  have K := Keep.refl h0 []
  show Runs p.tables e below (Phi s (Q_rmCd2 Z b k2 vs h0 n0) ({ frames := 0, cells := 0, slots := 0, locals := 0 } : Room).cells ({ frames := 0, cells := 0, slots := 0, locals := 0 } : Room).slots) _
  refine Runs.st (fun t' k' => castTop (ef_jdk_52_method_15_RI m b (2 : Int32) ) k') ?_
  show Runs p.tables e below _ (s₁.setTop (mkF m 0 #[.val (.ref b), .val (.int (2 : Int32))] []))
  refine Runs.st (fun t' k' => XS.iloadN X0.here hx rfl (hb hby d_jdk_52_method_15_0) rfl k') ?_
  refine Runs.st (fun t' k' => XS.aloadN X0.here hx rfl (hb hby d_jdk_52_method_15_1) rfl rfl k') ?_
  obtain ⟨cl1_, Ar1_, -, S1_, M1_, -, -⟩ := id V_b
  refine Runs.st (X0.arraylength hx (by rw [e0]; exact Ar1_.1) (State.isArrayOf_alike hZ.alike Ar1_.2.1) (g := (mkF m 2 #[.val (.ref b), .val (.int (2 : Int32))] [(.ref b), (.int (2 : Int32))])) rfl rfl (hb hby d_jdk_52_method_15_2)) ?_
  rw [len_of S1_ M1_]
  show Runs p.tables e below _ (s₁.setTop (mkF m 3 #[.val (.ref b), .val (.int (2 : Int32))] [(.int (2 : Int32)), (.int (2 : Int32))]))
  refine Runs.st (fun t' k' => XS.isub X0.here hx rfl (hb hby d_jdk_52_method_15_3) rfl k') ?_
  refine Runs.st (fun t' k' => XS.bipush X0.here hx rfl (hb hby d_jdk_52_method_15_4) k') ?_
  refine Runs.st (fun t' k' => XS.iushr X0.here hx rfl (hb hby d_jdk_52_method_15_6) rfl k') ?_
  refine Runs.st (fun t' k' => XS.i2b X0.here hx rfl (hb hby d_jdk_52_method_15_7) rfl k') ?_
  refine Runs.ret X0 hlk (v := (some (.int (nar .byte (((((2 : Int32) - (2 : Int32)).toUInt32 >>> ((31 : Int32) &&& 31).toUInt32).toInt32).toInt8.toInt32))))) (fun h => by rw [hret] at h; cases h) (by decide) (by decide) ?_ (fun fs hr => retN X0 hx (t := .byte) hret (by simp) (hb hby d_jdk_52_method_15_8) hr)
  try rw [e0]
  exact ⟨congrArg (fun z => some (Value.int z)) (by decide), N0, rfl⟩
def Q_rmID2 (Z : State) (a : Addr) (d : Addr) (c0 c1 : Int32) (k1 : ClassId) (zc : Int32) (h0 : Heap) (n0 : Nat) : Option Value → Heap → List Loc → Prop := (fun v h L => v = none ∧ Fr n0 L ∧ Keep h0 h [a] ∧ Exa Z h a "java/lang/String" ∧ Fld Z h a "java/lang/String" "coder" "B" (.int (0 : Int32)) ∧ ∃ b k2, h0.size ≤ b ∧ Fld Z h a "java/lang/String" "value" "[B" (.ref b) ∧ Arv Z h b k2 .byte (2 : Int32) [(.int (nar .byte (c0.toInt8.toInt32))), (.int (nar .byte (c1.toInt8.toInt32)))] (.int (0 : Int32)))
set_option maxRecDepth 65536 in
set_option maxHeartbeats 40000000 in
theorem rmID2 (l : Launch) (Z : State) (a0 : Array Value) (hw : ∀ d ∈ tables_1, d.before a0 Z = true) (ws : List Jvm.Cond) (a : Addr) (d : Addr) (c0 c1 : Int32) (k1 : ClassId) (zc : Int32) (h0 : Heap) (n0 : Nat) (Z0 : n0 ≤ h0.size) (E_a : Exa Z h0 a "java/lang/String") (F_v : Fld Z h0 a "java/lang/String" "value" "[B" .null) (F_c : Fld Z h0 a "java/lang/String" "coder" "B" (.int (0 : Int32))) (g_a : n0 ≤ a) (V_d : Arv Z h0 d k1 .char (2 : Int32) [(.int c0), (.int c1)] (.int (0 : Int32))) (Sc : Sta Z h0 "java/lang/String" "COMPACT_STRINGS" "Z" (.int zc)) (hzc : ¬ zc = 0) (u0 : ¬ ((255 : Int32) < c0)) (u1 : ¬ ((255 : Int32) < c1)) :
    MetFree l (⟨"java/lang/String", "<init>", "([CIILjava/lang/Void;)V"⟩ : MethodName) (head1 (Jvm.Cond.code (⟨"java/lang/String", "<init>", "([CIILjava/lang/Void;)V"⟩ : MethodName) jdk_42_method_149_code 6 none :: ws) ({ frames := 2, cells := 1, slots := 2, locals := 35 } : Room)) (fun ar_ U => ar_ = #[(.ref a), (.ref d), (.int (0 : Int32)), (.int (2 : Int32)), .null] ∧ Z.Warmed39 U.vm ∧ U.heap = h0) (fun _ _ _ _ _ => True) (fun _ U o U' => Phi U (Q_rmID2 Z a d c0 c1 k1 zc h0 n0) ({ frames := 2, cells := 1, slots := 2, locals := 35 } : Room).cells ({ frames := 2, cells := 1, slots := 2, locals := 35 } : Room).slots o U') := by
  refine MetFree.of_bodySF (plainFor_of_name pn_java_lang_String) hisR ?_
  intro p e s m args below meth c s₁ Bd hml0 hP hK
  obtain ⟨rfl, hZ, hh⟩ := hP
  have hx := Bd.exec
  have hby := Bd.bytes
  have hlk := Bd.notSynchronized
  have hml : c.maxLocals = 6 := hml0
  have hown : s.vm.findClass "java/lang/String" = some m.cls := findClass_of_methodNamed Bd.named
  have hown0 := hown
  have hnm := (name_of_methodNamed Bd.named Bd.method).1
  have hret := Bd.returns
  have X0 : Stand p l e ({ frames := 2, cells := 1, slots := 2, locals := 35 } : Room) s m #[(.ref a), (.ref d), (.int (0 : Int32)), (.int (2 : Int32)), .null] below meth c s₁ [] 0 0 := Stand.of_body Bd
  have e0 : s₁.heap = h0 := by rw [← hh, Bd.state]; rfl
  have N0 := Fr.nil n0
  have sz := Z0
  have K := Keep.refl h0 [a]
  show Runs p.tables e below (Phi s (Q_rmID2 Z a d c0 c1 k1 zc h0 n0) ({ frames := 2, cells := 1, slots := 2, locals := 35 } : Room).cells ({ frames := 2, cells := 1, slots := 2, locals := 35 } : Room).slots) _
  refine Runs.st (fun t' k' => castTop (ef_jdk_42_method_149_RRIIN m a d (0 : Int32) (2 : Int32) ) k') ?_
  show Runs p.tables e below _ (s₁.setTop (mkF m 0 #[.val (.ref a), .val (.ref d), .val (.int (0 : Int32)), .val (.int (2 : Int32)), .val .null, .unset] []))
  refine Runs.st (fun t' k' => XS.aloadN X0.here hx rfl (hb hby d_jdk_42_method_149_0) rfl rfl k') ?_
  obtain ⟨T1_, X1_, e1_, st1_⟩ := initO X0 hx hZ hown (hw _ (List.mem_of_getElem? (i := 16) rfl)) (hw _ (List.mem_of_getElem? (i := 17) rfl)) (hw _ (List.mem_of_getElem? (i := 18) rfl)) e0 (g := (mkF m 1 #[.val (.ref a), .val (.ref d), .val (.int (0 : Int32)), .val (.int (2 : Int32)), .val .null, .unset] [(.ref a)])) rfl (by rw [hml]; rfl) rfl (hb hby d_jdk_42_method_149_1) (by decide) (W := 0) (by show 2 * 0 + _ ≤ _; exact Nat.le_of_eq rfl) (by decide)
  refine Runs.st (st1_) ?_
  show Runs p.tables e below _ (T1_.setTop (mkF m 4 #[.val (.ref a), .val (.ref d), .val (.int (0 : Int32)), .val (.int (2 : Int32)), .val .null, .unset] []))
  refine Runs.st (fun t' k' => XS.iloadN X1_.here hx rfl (hb hby d_jdk_42_method_149_4) rfl k') ?_
  refine Runs.st (fun t' k' => XS.ifYes X1_.here hx rfl (pc0 := 5) (pc' := 27) rfl (hb hby d_jdk_42_method_149_5) rfl ((if0 _ _).trans (feq (by decide)).2) (by decide) (by decide) k') ?_
  show Runs p.tables e below _ (T1_.setTop (mkF m 27 #[.val (.ref a), .val (.ref d), .val (.int (0 : Int32)), .val (.int (2 : Int32)), .val .null, .unset] []))
  obtain ⟨T2_, X2_, e2_, st2_⟩ := getS2 X1_ hx hZ hown (host := "") (Or.inl (hw _ (List.mem_of_getElem? (i := 54) rfl))) Via.refl e1_ Sc (g := (mkF m 27 #[.val (.ref a), .val (.ref d), .val (.int (0 : Int32)), .val (.int (2 : Int32)), .val .null, .unset] [])) rfl (hb hby d_jdk_42_method_149_27)
  refine Runs.st (st2_) ?_
  show Runs p.tables e below _ (T2_.setTop (mkF m 30 #[.val (.ref a), .val (.ref d), .val (.int (0 : Int32)), .val (.int (2 : Int32)), .val .null, .unset] [(.int zc)]))
  refine Runs.st (fun t' k' => XS.ifNo X2_.here hx rfl (hb hby d_jdk_42_method_149_30) rfl ((if0 _ _).trans (feq hzc).1) k') ?_
  show Runs p.tables e below _ (T2_.setTop (mkF m 33 #[.val (.ref a), .val (.ref d), .val (.int (0 : Int32)), .val (.int (2 : Int32)), .val .null, .unset] []))
  refine Runs.st (fun t' k' => XS.aloadN X2_.here hx rfl (hb hby d_jdk_42_method_149_33) rfl rfl k') ?_
  refine Runs.st (fun t' k' => XS.iloadN X2_.here hx rfl (hb hby d_jdk_42_method_149_34) rfl k') ?_
  refine Runs.st (fun t' k' => XS.iloadN X2_.here hx rfl (hb hby d_jdk_42_method_149_35) rfl k') ?_
  have kz3_ := K.1
  have gz3_ := sz
  have lt3__a := E_a.lt
  obtain ⟨_, _, ⟨T3_, L3_, k3_, n3_⟩, -, X3_, ⟨Lc3_, hQ3_, l3_, y3_, z3_⟩, st3_⟩ := Jvm.LawKit.callS X2_ hx (y := (⟨"java/lang/StringUTF16", "compress", "([CII)[B"⟩ : MethodName)) hown (mvT hZ (hw _ (List.mem_of_getElem? (i := 55) rfl))) (mvT hZ (hw _ (List.mem_of_getElem? (i := 56) rfl))) (mvT hZ (hw _ (List.mem_of_getElem? (i := 57) rfl))) (mvT hZ (hw _ (List.mem_of_getElem? (i := 58) rfl))) (by decide) (backOf (W := 0) (rmCB2 l Z a0 hw [] d c0 c1 k1 h0 n0 sz V_d u0 u1) hZ (hw _ (List.mem_of_getElem? (i := 58) rfl)) (hw _ (List.mem_of_getElem? (i := 57) rfl)) (by decide) (by decide)) (g := (mkF m 36 #[.val (.ref a), .val (.ref d), .val (.int (0 : Int32)), .val (.int (2 : Int32)), .val .null, .unset] [(.int (2 : Int32)), (.int (0 : Int32)), (.ref d)])) rfl (by rw [hml]; rfl) (argsL := [(.ref d), (.int (0 : Int32)), (.int (2 : Int32))]) (rest := []) (lenOf pd__28_5bCII_29_5bB rfl) rfl (by show 2 * 0 + _ ≤ _; exact Nat.le_of_eq rfl) (hb hby d_jdk_42_method_149_36) (fun _ _ => ⟨rfl, e2_, (by decide : 0 + 1 ≤ _), (by decide : 0 + 2 ≤ _)⟩)
  dsimp only [Pt.U, Pt.locs, Pt.cells, Pt.slots] at X3_ l3_ y3_ z3_ st3_ hQ3_
  subst l3_ y3_ z3_
  obtain ⟨b, k2, rfl, N3_q, K3_, szb, V_b⟩ := hQ3_
  have N3_ := Fr.app N0 N3_q
  refine Runs.st (st3_) ?_
  replace X3_ := wider X3_ (c' := 1) (s' := 2) (by decide) (by decide)
  replace E_a := E_a.keep K3_
  replace F_v := F_v.keep K3_ nin0
  replace F_c := F_c.keep K3_ nin0
  replace sz := Nat.le_trans sz K3_.1
  replace K := K.trans K3_ all0
  have sz_b : h0.size ≤ b := Nat.le_trans kz3_ szb
  have g_b : n0 ≤ b := Nat.le_trans gz3_ szb
  have ne_a_b : a ≠ b := Nat.ne_of_lt (Nat.lt_of_lt_of_le lt3__a szb)
  show Runs p.tables e below _ (T3_.setTop (mkF m 39 #[.val (.ref a), .val (.ref d), .val (.int (0 : Int32)), .val (.int (2 : Int32)), .val .null, .unset] [(.ref b)]))
  refine Runs.st (fun t' k' => XS.astore X3_.here hx rfl (hb hby d_jdk_42_method_149_39) rfl rfl (l' := #[.val (.ref a), .val (.ref d), .val (.int (0 : Int32)), .val (.int (2 : Int32)), .val .null, .val (.ref b)]) rfl k') ?_
  refine Runs.st (fun t' k' => XS.aloadN X3_.here hx rfl (hb hby d_jdk_42_method_149_41) rfl rfl k') ?_
  refine Runs.st (fun t' k' => XS.aload X3_.here hx rfl (hb hby d_jdk_42_method_149_42) rfl rfl k') ?_
  refine Runs.st (fun t' k' => XS.iloadN X3_.here hx rfl (hb hby d_jdk_42_method_149_44) rfl k') ?_
  obtain ⟨_, _, ⟨T4_, L4_, k4_, n4_⟩, -, X4_, ⟨Lc4_, hQ4_, l4_, y4_, z4_⟩, st4_⟩ := Jvm.LawKit.callS X3_ hx (y := (⟨"java/lang/StringUTF16", "coderFromArrayLen", "([BI)B"⟩ : MethodName)) hown (mvT hZ (hw _ (List.mem_of_getElem? (i := 62) rfl))) (mvT hZ (hw _ (List.mem_of_getElem? (i := 63) rfl))) (mvT hZ (hw _ (List.mem_of_getElem? (i := 57) rfl))) (mvT hZ (hw _ (List.mem_of_getElem? (i := 64) rfl))) (by decide) (backOf (W := 1) (rmCd2 l Z a0 hw [] b k2 _ T3_.heap n0 sz V_b) hZ (hw _ (List.mem_of_getElem? (i := 64) rfl)) (hw _ (List.mem_of_getElem? (i := 57) rfl)) (by decide) (by decide)) (g := (mkF m 45 #[.val (.ref a), .val (.ref d), .val (.int (0 : Int32)), .val (.int (2 : Int32)), .val .null, .val (.ref b)] [(.int (2 : Int32)), (.ref b), (.ref a)])) rfl (by rw [hml]; rfl) (argsL := [(.ref b), (.int (2 : Int32))]) (rest := [(.ref a)]) (lenOf pd__28_5bBI_29B rfl) rfl (by show 2 * 0 + _ ≤ _; exact Nat.le_of_eq rfl) (hb hby d_jdk_42_method_149_45) (fun _ _ => ⟨rfl, rfl, (by decide : 1 + 0 ≤ _), (by decide : 2 + 0 ≤ _)⟩)
  dsimp only [Pt.U, Pt.locs, Pt.cells, Pt.slots] at X4_ l4_ y4_ z4_ st4_ hQ4_
  subst l4_ y4_ z4_
  obtain ⟨rfl, N4_q, e4_⟩ := hQ4_
  have N4_ := Fr.app N3_ N4_q
  refine Runs.st (st4_) ?_
  replace X4_ := wider X4_ (c' := 1) (s' := 2) (by decide) (by decide)
  show Runs p.tables e below _ (T4_.setTop (mkF m 48 #[.val (.ref a), .val (.ref d), .val (.int (0 : Int32)), .val (.int (2 : Int32)), .val .null, .val (.ref b)] [(.int (0 : Int32)), (.ref a)]))
  obtain ⟨T5_, h5_, X5_, e5_, W5_, st5_⟩ := putFN X4_ hx hZ hown (hw _ (List.mem_of_getElem? (i := 26) rfl)) Via.refl e4_ F_c E_a (Or.inr ⟨(hw _ (List.mem_of_getElem? (i := 22) rfl)), rfl, hnm⟩) (hw _ (List.mem_of_getElem? (i := 6) rfl)) (ty := .byte) (v' := .int (0 : Int32)) (by decide) rfl rfl (g := (mkF m 48 #[.val (.ref a), .val (.ref d), .val (.int (0 : Int32)), .val (.int (2 : Int32)), .val .null, .val (.ref b)] [(.int (0 : Int32)), (.ref a)])) rfl rfl (hb hby d_jdk_42_method_149_48)
  refine Runs.st (st5_) ?_
  replace F_c := F_c.same W5_
  replace E_a := Jvm.RoadKit.Exa.wr W5_ E_a
  replace F_v := F_v.other W5_ (Or.inr (slot_ne (Or.inr (hw _ (List.mem_of_getElem? (i := 21) rfl))) (Or.inr (hw _ (List.mem_of_getElem? (i := 22) rfl))) (by decide) (t := (.array .byte)) (t' := .byte) (by decide) (by decide)))
  replace V_b := V_b.other W5_ (Ne.symm ne_a_b)
  replace sz := Nat.le_trans sz (Keep.of_wr W5_).1
  have N5_ := Fr.snoc X5_ N4_ g_a
  replace K := K.wr W5_ (Or.inl (List.mem_of_getElem? (i := 0) rfl))
  show Runs p.tables e below _ (T5_.setTop (mkF m 51 #[.val (.ref a), .val (.ref d), .val (.int (0 : Int32)), .val (.int (2 : Int32)), .val .null, .val (.ref b)] []))
  refine Runs.st (fun t' k' => XS.aloadN X5_.here hx rfl (hb hby d_jdk_42_method_149_51) rfl rfl k') ?_
  refine Runs.st (fun t' k' => XS.aload X5_.here hx rfl (hb hby d_jdk_42_method_149_52) rfl rfl k') ?_
  obtain ⟨T6_, h6_, X6_, e6_, W6_, st6_⟩ := putF X5_ hx hZ hown (host := "") (Or.inl (hw _ (List.mem_of_getElem? (i := 25) rfl))) Via.refl e5_ F_v E_a (Or.inr ⟨(hw _ (List.mem_of_getElem? (i := 21) rfl)), rfl, hnm⟩) (hw _ (List.mem_of_getElem? (i := 6) rfl)) (ty := (.array .byte)) (by decide) rfl rfl (g := (mkF m 54 #[.val (.ref a), .val (.ref d), .val (.int (0 : Int32)), .val (.int (2 : Int32)), .val .null, .val (.ref b)] [(.ref b), (.ref a)])) rfl rfl (hb hby d_jdk_42_method_149_54)
  refine Runs.st (st6_) ?_
  replace F_v := F_v.same W6_
  replace E_a := Jvm.RoadKit.Exa.wr W6_ E_a
  replace V_b := V_b.other W6_ (Ne.symm ne_a_b)
  replace F_c := F_c.other W6_ (Or.inr (slot_ne (Or.inr (hw _ (List.mem_of_getElem? (i := 22) rfl))) (Or.inr (hw _ (List.mem_of_getElem? (i := 21) rfl))) (by decide) (t := .byte) (t' := (.array .byte)) (by decide) (by decide)))
  replace sz := Nat.le_trans sz (Keep.of_wr W6_).1
  have N6_ := Fr.snoc X6_ N5_ g_a
  replace K := K.wr W6_ (Or.inl (List.mem_of_getElem? (i := 0) rfl))
  show Runs p.tables e below _ (T6_.setTop (mkF m 57 #[.val (.ref a), .val (.ref d), .val (.int (0 : Int32)), .val (.int (2 : Int32)), .val .null, .val (.ref b)] []))
  refine Runs.ret X6_ hlk (v := none) (fun _ => rfl) (by decide) (by decide) ?_ (fun fs hr => X6_.returnOut hx hret (hb hby d_jdk_42_method_149_57) hr)
  try rw [e6_]
  exact ⟨rfl, N6_, K, E_a, F_c, b, k2, sz_b, F_v, V_b⟩
def Q_rmIC2 (Z : State) (a : Addr) (d : Addr) (c0 c1 : Int32) (k1 : ClassId) (zc : Int32) (h0 : Heap) (n0 : Nat) : Option Value → Heap → List Loc → Prop := (fun v h L => v = none ∧ Fr n0 L ∧ Keep h0 h [a] ∧ Exa Z h a "java/lang/String" ∧ Fld Z h a "java/lang/String" "coder" "B" (.int (0 : Int32)) ∧ ∃ b k2, h0.size ≤ b ∧ Fld Z h a "java/lang/String" "value" "[B" (.ref b) ∧ Arv Z h b k2 .byte (2 : Int32) [(.int (nar .byte (c0.toInt8.toInt32))), (.int (nar .byte (c1.toInt8.toInt32)))] (.int (0 : Int32)))
set_option maxRecDepth 65536 in
set_option maxHeartbeats 40000000 in
theorem rmIC2 (l : Launch) (Z : State) (a0 : Array Value) (hw : ∀ d ∈ tables_1, d.before a0 Z = true) (ws : List Jvm.Cond) (a : Addr) (d : Addr) (c0 c1 : Int32) (k1 : ClassId) (zc : Int32) (h0 : Heap) (n0 : Nat) (Z0 : n0 ≤ h0.size) (E_a : Exa Z h0 a "java/lang/String") (F_v : Fld Z h0 a "java/lang/String" "value" "[B" .null) (F_c : Fld Z h0 a "java/lang/String" "coder" "B" (.int (0 : Int32))) (g_a : n0 ≤ a) (V_d : Arv Z h0 d k1 .char (2 : Int32) [(.int c0), (.int c1)] (.int (0 : Int32))) (Sc : Sta Z h0 "java/lang/String" "COMPACT_STRINGS" "Z" (.int zc)) (hzc : ¬ zc = 0) (u0 : ¬ ((255 : Int32) < c0)) (u1 : ¬ ((255 : Int32) < c1)) :
    MetFree l (⟨"java/lang/String", "<init>", "([C)V"⟩ : MethodName) (head1 (Jvm.Cond.code (⟨"java/lang/String", "<init>", "([C)V"⟩ : MethodName) jdk_42_method_3_code 2 none :: ws) ({ frames := 3, cells := 1, slots := 2, locals := 52 } : Room)) (fun ar_ U => ar_ = #[(.ref a), (.ref d)] ∧ Z.Warmed39 U.vm ∧ U.heap = h0) (fun _ _ _ _ _ => True) (fun _ U o U' => Phi U (Q_rmIC2 Z a d c0 c1 k1 zc h0 n0) ({ frames := 3, cells := 1, slots := 2, locals := 52 } : Room).cells ({ frames := 3, cells := 1, slots := 2, locals := 52 } : Room).slots o U') := by
  refine MetFree.of_bodySF (plainFor_of_name pn_java_lang_String) hisR ?_
  intro p e s m args below meth c s₁ Bd hml0 hP hK
  obtain ⟨rfl, hZ, hh⟩ := hP
  have hx := Bd.exec
  have hby := Bd.bytes
  have hlk := Bd.notSynchronized
  have hml : c.maxLocals = 2 := hml0
  have hown : s.vm.findClass "java/lang/String" = some m.cls := findClass_of_methodNamed Bd.named
  have hown0 := hown
  have hnm := (name_of_methodNamed Bd.named Bd.method).1
  have hret := Bd.returns
  have X0 : Stand p l e ({ frames := 3, cells := 1, slots := 2, locals := 52 } : Room) s m #[(.ref a), (.ref d)] below meth c s₁ [] 0 0 := Stand.of_body Bd
  have e0 : s₁.heap = h0 := by rw [← hh, Bd.state]; rfl
  have N0 := Fr.nil n0
  have sz := Z0
  have K := Keep.refl h0 [a]
  show Runs p.tables e below (Phi s (Q_rmIC2 Z a d c0 c1 k1 zc h0 n0) ({ frames := 3, cells := 1, slots := 2, locals := 52 } : Room).cells ({ frames := 3, cells := 1, slots := 2, locals := 52 } : Room).slots) _
  refine Runs.st (fun t' k' => castTop (ef_jdk_42_method_3_RR m a d ) k') ?_
  show Runs p.tables e below _ (s₁.setTop (mkF m 0 #[.val (.ref a), .val (.ref d)] []))
  refine Runs.st (fun t' k' => XS.aloadN X0.here hx rfl (hb hby d_jdk_42_method_3_0) rfl rfl k') ?_
  refine Runs.st (fun t' k' => XS.aloadN X0.here hx rfl (hb hby d_jdk_42_method_3_1) rfl rfl k') ?_
  refine Runs.st (fun t' k' => XS.iconst X0.here hx rfl (hb hby d_jdk_42_method_3_2) k') ?_
  refine Runs.st (fun t' k' => XS.aloadN X0.here hx rfl (hb hby d_jdk_42_method_3_3) rfl rfl k') ?_
  obtain ⟨cl1_, Ar1_, -, S1_, M1_, -, -⟩ := id V_d
  refine Runs.st (X0.arraylength hx (by rw [e0]; exact Ar1_.1) (State.isArrayOf_alike hZ.alike Ar1_.2.1) (g := (mkF m 4 #[.val (.ref a), .val (.ref d)] [(.ref d), (.int (0 : Int32)), (.ref d), (.ref a)])) rfl rfl (hb hby d_jdk_42_method_3_4)) ?_
  rw [len_of S1_ M1_]
  show Runs p.tables e below _ (s₁.setTop (mkF m 5 #[.val (.ref a), .val (.ref d)] [(.int (2 : Int32)), (.int (0 : Int32)), (.ref d), (.ref a)]))
  refine Runs.st (fun t' k' => XS.aconstNull X0.here hx rfl (hb hby d_jdk_42_method_3_5) k') ?_
  obtain ⟨_, _, ⟨T2_, L2_, k2_, n2_⟩, -, X2_, ⟨Lc2_, hQ2_, l2_, y2_, z2_⟩, st2_⟩ := X0.specialBack hx (y := (⟨"java/lang/String", "<init>", "([CIILjava/lang/Void;)V"⟩ : MethodName)) rfl hown (mvT hZ (hw _ (List.mem_of_getElem? (i := 12) rfl))) (mvT hZ (hw _ (List.mem_of_getElem? (i := 13) rfl))) (mvT hZ (hw _ (List.mem_of_getElem? (i := 15) rfl))) (by decide) (backOf (W := 0) (rmID2 l Z a0 hw [] a d c0 c1 k1 zc h0 n0 sz E_a F_v F_c g_a V_d Sc hzc u0 u1) hZ (hw _ (List.mem_of_getElem? (i := 15) rfl)) (hw _ (List.mem_of_getElem? (i := 7) rfl)) (by decide) (by decide)) (g := (mkF m 6 #[.val (.ref a), .val (.ref d)] [.null, (.int (2 : Int32)), (.int (0 : Int32)), (.ref d), (.ref a)])) rfl (by rw [hml]; rfl) (Steps.refl _) (a := a) (argsL := [(.ref d), (.int (0 : Int32)), (.int (2 : Int32)), .null]) (rest := []) (lenOf pd__28_5bCIILjava_2flang_2fVoid_3b_29V rfl) rfl (by show 2 * 0 + _ ≤ _; exact Nat.le_of_eq rfl) (hb hby d_jdk_42_method_3_6) (fun _ _ => ⟨rfl, e0, (by decide : 0 + 1 ≤ _), (by decide : 0 + 2 ≤ _)⟩)
  dsimp only [Pt.U, Pt.locs, Pt.cells, Pt.slots] at X2_ l2_ y2_ z2_ st2_ hQ2_
  subst l2_ y2_ z2_
  obtain ⟨rfl, N2_q, K2_, E_a, F_c, b, k2, szb, F_v, V_b⟩ := hQ2_
  have N2_ := Fr.app N0 N2_q
  refine Runs.tr st2_ ?_
  replace X2_ := wider X2_ (c' := 1) (s' := 2) (by decide) (by decide)
  replace sz := Nat.le_trans sz K2_.1
  replace K := K.trans K2_ (allS (Or.inl (List.mem_of_getElem? (i := 0) rfl)) all0)
  show Runs p.tables e below _ (T2_.setTop (mkF m 9 #[.val (.ref a), .val (.ref d)] []))
  refine Runs.ret X2_ hlk (v := none) (fun _ => rfl) (by decide) (by decide) ?_ (fun fs hr => X2_.returnOut hx hret (hb hby d_jdk_42_method_3_9) hr)
  exact ⟨rfl, N2_, K, E_a, F_c, b, k2, szb, F_v, V_b⟩
def Q_rmNL2 (Z : State)   (h0 : Heap) (n0 : Nat) : Option Value → Heap → List Loc → Prop := (fun v h L => v = some (.int (4 : Int32)) ∧ Fr n0 L ∧ h = h0)
set_option maxRecDepth 65536 in
set_option maxHeartbeats 40000000 in
theorem rmNL2 (l : Launch) (Z : State) (a0 : Array Value) (hw : ∀ d ∈ tables_1, d.before a0 Z = true) (ws : List Jvm.Cond)   (h0 : Heap) (n0 : Nat) (Z0 : n0 ≤ h0.size)  :
    MetFree l (⟨"java/lang/StringUTF16", "newBytesLength", "(I)I"⟩ : MethodName) (head1 (Jvm.Cond.code (⟨"java/lang/StringUTF16", "newBytesLength", "(I)I"⟩ : MethodName) jdk_52_method_3_code 1 (some .int) :: ws) ({ frames := 0, cells := 0, slots := 0, locals := 0 } : Room)) (fun ar_ U => ar_ = #[(.int (2 : Int32))] ∧ Z.Warmed39 U.vm ∧ U.heap = h0) (fun _ _ _ _ _ => True) (fun _ U o U' => Phi U (Q_rmNL2 Z  h0 n0) ({ frames := 0, cells := 0, slots := 0, locals := 0 } : Room).cells ({ frames := 0, cells := 0, slots := 0, locals := 0 } : Room).slots o U') := by
  refine MetFree.of_bodySF (plainFor_of_name pn_java_lang_StringUTF16) hisR ?_
  intro p e s m args below meth c s₁ Bd hml0 hP hK
  obtain ⟨rfl, hZ, hh⟩ := hP
  have hx := Bd.exec
  have hby := Bd.bytes
  have hlk := Bd.notSynchronized
  have hml : c.maxLocals = 1 := hml0
  have hown : s.vm.findClass "java/lang/StringUTF16" = some m.cls := findClass_of_methodNamed Bd.named
  have hown0 := hown
  have hnm := (name_of_methodNamed Bd.named Bd.method).1
  have hret := Bd.returns
  have X0 : Stand p l e ({ frames := 0, cells := 0, slots := 0, locals := 0 } : Room) s m #[(.int (2 : Int32))] below meth c s₁ [] 0 0 := Stand.of_body Bd
  have e0 : s₁.heap = h0 := by rw [← hh, Bd.state]; rfl
  have N0 := Fr.nil n0
  have sz := Z0
  have K := Keep.refl h0 []
  show Runs p.tables e below (Phi s (Q_rmNL2 Z  h0 n0) ({ frames := 0, cells := 0, slots := 0, locals := 0 } : Room).cells ({ frames := 0, cells := 0, slots := 0, locals := 0 } : Room).slots) _
  refine Runs.st (fun t' k' => castTop (ef_jdk_52_method_3_I m (2 : Int32) ) k') ?_
  show Runs p.tables e below _ (s₁.setTop (mkF m 0 #[.val (.int (2 : Int32))] []))
  refine Runs.st (fun t' k' => XS.iloadN X0.here hx rfl (hb hby d_jdk_52_method_3_0) rfl k') ?_
  refine Runs.st (fun t' k' => XS.ifYes X0.here hx rfl (pc0 := 1) (pc' := 12) rfl (hb hby d_jdk_52_method_3_1) rfl ((if0 _ _).trans (flt (by decide)).2.1) (by decide) (by decide) k') ?_
  show Runs p.tables e below _ (s₁.setTop (mkF m 12 #[.val (.int (2 : Int32))] []))
  refine Runs.st (fun t' k' => XS.iloadN X0.here hx rfl (hb hby d_jdk_52_method_3_12) rfl k') ?_
  refine Runs.st (fun t' k' => X0.ldcInt hx hown (mvT hZ (hw _ (List.mem_of_getElem? (i := 76) rfl))) (g := (mkF m 13 #[.val (.int (2 : Int32))] [(.int (2 : Int32))])) rfl (hb hby d_jdk_52_method_3_13) t' k') ?_
  refine Runs.st (fun t' k' => XS.icmpYes X0.here hx rfl (pc0 := 15) (pc' := 55) rfl (hb hby d_jdk_52_method_3_15) rfl (tlt (by decide)).1 (by decide) (by decide) k') ?_
  show Runs p.tables e below _ (s₁.setTop (mkF m 55 #[.val (.int (2 : Int32))] []))
  refine Runs.st (fun t' k' => XS.iloadN X0.here hx rfl (hb hby d_jdk_52_method_3_55) rfl k') ?_
  refine Runs.st (fun t' k' => XS.iconst X0.here hx rfl (hb hby d_jdk_52_method_3_56) k') ?_
  refine Runs.st (fun t' k' => XS.ishl X0.here hx rfl (hb hby d_jdk_52_method_3_57) rfl k') ?_
  refine Runs.ret X0 hlk (v := (some (.int ((2 : Int32) <<< ((1 : Int32) &&& 31))))) (fun h => by rw [hret] at h; cases h) (by decide) (by decide) ?_ (fun fs hr => retI X0 hx hret (hb hby d_jdk_52_method_3_58) hr)
  try rw [e0]
  exact ⟨congrArg (fun z => some (Value.int z)) (by decide), N0, rfl⟩
def Q_rmNB2 (Z : State)   (h0 : Heap) (n0 : Nat) : Option Value → Heap → List Loc → Prop := (fun v h L => ∃ b k, v = some (.ref b) ∧ Fr n0 L ∧ Keep h0 h [] ∧ h0.size ≤ b ∧ Arv Z h b k .byte (4 : Int32) [(.int (0 : Int32)), (.int (0 : Int32)), (.int (0 : Int32)), (.int (0 : Int32))] (.int (0 : Int32)))
set_option maxRecDepth 65536 in
set_option maxHeartbeats 40000000 in
theorem rmNB2 (l : Launch) (Z : State) (a0 : Array Value) (hw : ∀ d ∈ tables_1, d.before a0 Z = true) (ws : List Jvm.Cond)   (h0 : Heap) (n0 : Nat) (Z0 : n0 ≤ h0.size)  :
    MetFree l (⟨"java/lang/StringUTF16", "newBytesFor", "(I)[B"⟩ : MethodName) (head1 (Jvm.Cond.code (⟨"java/lang/StringUTF16", "newBytesFor", "(I)[B"⟩ : MethodName) jdk_52_method_2_code 1 (some (.array .byte)) :: ws) ({ frames := 1, cells := 1, slots := 4, locals := 12 } : Room)) (fun ar_ U => ar_ = #[(.int (2 : Int32))] ∧ Z.Warmed39 U.vm ∧ U.heap = h0) (fun _ _ _ _ _ => True) (fun _ U o U' => Phi U (Q_rmNB2 Z  h0 n0) ({ frames := 1, cells := 1, slots := 4, locals := 12 } : Room).cells ({ frames := 1, cells := 1, slots := 4, locals := 12 } : Room).slots o U') := by
  refine MetFree.of_bodySF (plainFor_of_name pn_java_lang_StringUTF16) hisR ?_
  intro p e s m args below meth c s₁ Bd hml0 hP hK
  obtain ⟨rfl, hZ, hh⟩ := hP
  have hx := Bd.exec
  have hby := Bd.bytes
  have hlk := Bd.notSynchronized
  have hml : c.maxLocals = 1 := hml0
  have hown : s.vm.findClass "java/lang/StringUTF16" = some m.cls := findClass_of_methodNamed Bd.named
  have hown0 := hown
  have hnm := (name_of_methodNamed Bd.named Bd.method).1
  have hret := Bd.returns
  have X0 : Stand p l e ({ frames := 1, cells := 1, slots := 4, locals := 12 } : Room) s m #[(.int (2 : Int32))] below meth c s₁ [] 0 0 := Stand.of_body Bd
  have e0 : s₁.heap = h0 := by rw [← hh, Bd.state]; rfl
  have N0 := Fr.nil n0
  have sz := Z0
  have K := Keep.refl h0 []
  show Runs p.tables e below (Phi s (Q_rmNB2 Z  h0 n0) ({ frames := 1, cells := 1, slots := 4, locals := 12 } : Room).cells ({ frames := 1, cells := 1, slots := 4, locals := 12 } : Room).slots) _
  refine Runs.st (fun t' k' => castTop (ef_jdk_52_method_2_I m (2 : Int32) ) k') ?_
  show Runs p.tables e below _ (s₁.setTop (mkF m 0 #[.val (.int (2 : Int32))] []))
  refine Runs.st (fun t' k' => XS.iloadN X0.here hx rfl (hb hby d_jdk_52_method_2_0) rfl k') ?_
  obtain ⟨_, _, ⟨T1_, L1_, k1_, n1_⟩, -, X1_, ⟨Lc1_, hQ1_, l1_, y1_, z1_⟩, st1_⟩ := Jvm.LawKit.callS X0 hx (y := (⟨"java/lang/StringUTF16", "newBytesLength", "(I)I"⟩ : MethodName)) hown (mvT hZ (hw _ (List.mem_of_getElem? (i := 73) rfl))) (mvT hZ (hw _ (List.mem_of_getElem? (i := 74) rfl))) (mvT hZ (hw _ (List.mem_of_getElem? (i := 57) rfl))) (mvT hZ (hw _ (List.mem_of_getElem? (i := 75) rfl))) (by decide) (backOf (W := 0) (rmNL2 l Z a0 hw [] h0 n0 sz) hZ (hw _ (List.mem_of_getElem? (i := 75) rfl)) (hw _ (List.mem_of_getElem? (i := 57) rfl)) (by decide) (by decide)) (g := (mkF m 1 #[.val (.int (2 : Int32))] [(.int (2 : Int32))])) rfl (by rw [hml]; rfl) (argsL := [(.int (2 : Int32))]) (rest := []) (lenOf pd__28I_29I rfl) rfl (by show 2 * 0 + _ ≤ _; exact Nat.le_of_eq rfl) (hb hby d_jdk_52_method_2_1) (fun _ _ => ⟨rfl, e0, (by decide : 0 + 0 ≤ _), (by decide : 0 + 0 ≤ _)⟩)
  dsimp only [Pt.U, Pt.locs, Pt.cells, Pt.slots] at X1_ l1_ y1_ z1_ st1_ hQ1_
  subst l1_ y1_ z1_
  obtain ⟨rfl, N1_q, e1_⟩ := hQ1_
  have N1_ := Fr.app N0 N1_q
  refine Runs.st (st1_) ?_
  replace X1_ := wider X1_ (c' := 0) (s' := 0) (by decide) (by decide)
  show Runs p.tables e below _ (T1_.setTop (mkF m 4 #[.val (.int (2 : Int32))] [(.int (4 : Int32))]))
  obtain ⟨T2_, h2_, k2_, X2_, e2_, E2_, A2_, st2_⟩ := newP X1_ hx hZ (hw _ (List.mem_of_getElem? (i := 20) rfl)) e1_ (g := (mkF m 4 #[.val (.int (2 : Int32))] [(.int (4 : Int32))])) rfl (hb hby d_jdk_52_method_2_4) rfl (by decide) (cap := 4) (by decide) (by decide) (by decide) (by decide)
  refine Runs.st (st2_) ?_
  obtain ⟨b, g2_⟩ : ∃ z, z = h0.size := ⟨_, rfl⟩
  rw [← g2_] at A2_
  try rw [← g2_]
  have g_b : n0 ≤ b := Nat.le_trans sz (Nat.le_of_eq g2_.symm)
  have sz_b : h0.size ≤ b := Nat.le_trans K.1 (Nat.le_of_eq g2_.symm)
  replace sz := Nat.le_trans sz E2_.1
  replace K := K.ext E2_
  have V_b : Arv Z h2_ b k2_ .byte (4 : Int32) [(.int (0 : Int32)), (.int (0 : Int32)), (.int (0 : Int32)), (.int (0 : Int32))] (.int (0 : Int32)) := (Arv.new A2_ (by decide)).pad (pad_rep [] (.int (0 : Int32)) 4)
  show Runs p.tables e below _ (T2_.setTop (mkF m 6 #[.val (.int (2 : Int32))] [(.ref b)]))
  refine Runs.ret X2_ hlk (v := (some (.ref b))) (fun h => by rw [hret] at h; cases h) (by decide) (by decide) ?_ (fun fs hr => retOut X2_ hx hret rfl (Or.inr (Or.inr (Or.inr (Or.inr ⟨rfl, rfl, rfl⟩)))) (hb hby d_jdk_52_method_2_6) hr)
  try rw [e2_]
  exact ⟨b, _, rfl, N1_, K, sz_b, V_b⟩
def Q_rmPC2_0 (Z : State) (b : Addr) (c0 : Int32) (w0 w1 w2 w3 : Int32) (k : ClassId) (h0 : Heap) (n0 : Nat) : Option Value → Heap → List Loc → Prop := (fun v h L => v = none ∧ Fr n0 L ∧ Keep h0 h [b] ∧ Arv Z h b k .byte (4 : Int32) [(.int (nar .byte ((c0 >>> ((0 : Int32) &&& 31)).toInt8.toInt32))), (.int (nar .byte ((c0 >>> ((8 : Int32) &&& 31)).toInt8.toInt32))), (.int w2), (.int w3)] (.int (0 : Int32)))
set_option maxRecDepth 65536 in
set_option maxHeartbeats 40000000 in
theorem rmPC2_0 (l : Launch) (Z : State) (a0 : Array Value) (hw : ∀ d ∈ tables_1, d.before a0 Z = true) (ws : List Jvm.Cond) (b : Addr) (c0 : Int32) (w0 w1 w2 w3 : Int32) (k : ClassId) (h0 : Heap) (n0 : Nat) (Z0 : n0 ≤ h0.size) (old : Old Z n0 h0) (Sa : Sta Z Z.heap "java/lang/StringUTF16" "$assertionsDisabled" "Z" (.int (1 : Int32))) (Sh : Sta Z Z.heap "java/lang/StringUTF16" "HI_BYTE_SHIFT" "I" (.int (0 : Int32))) (Sl : Sta Z Z.heap "java/lang/StringUTF16" "LO_BYTE_SHIFT" "I" (.int (8 : Int32))) (V_b : Arv Z h0 b k .byte (4 : Int32) [(.int w0), (.int w1), (.int w2), (.int w3)] (.int (0 : Int32))) (g_b : n0 ≤ b) :
    MetFree l (⟨"java/lang/StringUTF16", "putChar", "([BII)V"⟩ : MethodName) (head1 (Jvm.Cond.code (⟨"java/lang/StringUTF16", "putChar", "([BII)V"⟩ : MethodName) jdk_52_method_4_code 3 none :: ws) ({ frames := 0, cells := 0, slots := 0, locals := 0 } : Room)) (fun ar_ U => ar_ = #[(.ref b), (.int (0 : Int32)), (.int c0)] ∧ Z.Warmed39 U.vm ∧ U.heap = h0) (fun _ _ _ _ _ => True) (fun _ U o U' => Phi U (Q_rmPC2_0 Z b c0 w0 w1 w2 w3 k h0 n0) ({ frames := 0, cells := 0, slots := 0, locals := 0 } : Room).cells ({ frames := 0, cells := 0, slots := 0, locals := 0 } : Room).slots o U') := by
  refine MetFree.of_bodySF (plainFor_of_name pn_java_lang_StringUTF16) hisR ?_
  intro p e s m args below meth c s₁ Bd hml0 hP hK
  obtain ⟨rfl, hZ, hh⟩ := hP
  have hx := Bd.exec
  have hby := Bd.bytes
  have hlk := Bd.notSynchronized
  have hml : c.maxLocals = 3 := hml0
  have hown : s.vm.findClass "java/lang/StringUTF16" = some m.cls := findClass_of_methodNamed Bd.named
  have hown0 := hown
  have hnm := (name_of_methodNamed Bd.named Bd.method).1
  have hret := Bd.returns
  have X0 : Stand p l e ({ frames := 0, cells := 0, slots := 0, locals := 0 } : Room) s m #[(.ref b), (.int (0 : Int32)), (.int c0)] below meth c s₁ [] 0 0 := Stand.of_body Bd
  have e0 : s₁.heap = h0 := by rw [← hh, Bd.state]; rfl
  have N0 := Fr.nil n0
  have sz := Z0
  have K := Keep.refl h0 [b]
  show Runs p.tables e below (Phi s (Q_rmPC2_0 Z b c0 w0 w1 w2 w3 k h0 n0) ({ frames := 0, cells := 0, slots := 0, locals := 0 } : Room).cells ({ frames := 0, cells := 0, slots := 0, locals := 0 } : Room).slots) _
  refine Runs.st (fun t' k' => castTop (ef_jdk_52_method_4_RII m b (0 : Int32) c0 ) k') ?_
  show Runs p.tables e below _ (s₁.setTop (mkF m 0 #[.val (.ref b), .val (.int (0 : Int32)), .val (.int c0)] []))
  obtain ⟨T1_, X1_, e1_, st1_⟩ := getS2 X0 hx hZ hown (host := "") (Or.inl (hw _ (List.mem_of_getElem? (i := 80) rfl))) Via.refl e0 (Sa.ext old.2) (g := (mkF m 0 #[.val (.ref b), .val (.int (0 : Int32)), .val (.int c0)] [])) rfl (hb hby d_jdk_52_method_4_0)
  refine Runs.st (st1_) ?_
  show Runs p.tables e below _ (T1_.setTop (mkF m 3 #[.val (.ref b), .val (.int (0 : Int32)), .val (.int c0)] [(.int (1 : Int32))]))
  refine Runs.st (fun t' k' => XS.ifYes X1_.here hx rfl (pc0 := 3) (pc' := 28) rfl (hb hby d_jdk_52_method_4_3) rfl ((if0 _ _).trans (feq (by decide)).2) (by decide) (by decide) k') ?_
  show Runs p.tables e below _ (T1_.setTop (mkF m 28 #[.val (.ref b), .val (.int (0 : Int32)), .val (.int c0)] []))
  refine Runs.st (fun t' k' => XS.iloadN X1_.here hx rfl (hb hby d_jdk_52_method_4_28) rfl k') ?_
  refine Runs.st (fun t' k' => XS.iconst X1_.here hx rfl (hb hby d_jdk_52_method_4_29) k') ?_
  refine Runs.st (fun t' k' => XS.ishl X1_.here hx rfl (hb hby d_jdk_52_method_4_30) rfl k') ?_
  show Runs p.tables e below _ (T1_.setTop (mkF m 31 #[.val (.ref b), .val (.int (0 : Int32)), .val (.int c0)] [(.int ((0 : Int32) <<< ((1 : Int32) &&& 31)))]))
  rw [show ((0 : Int32) <<< ((1 : Int32) &&& 31)) = (0 : Int32) from rfl]
  show Runs p.tables e below _ (T1_.setTop (mkF m 31 #[.val (.ref b), .val (.int (0 : Int32)), .val (.int c0)] [(.int (0 : Int32))]))
  refine Runs.st (fun t' k' => XS.istoreN X1_.here hx rfl (hb hby d_jdk_52_method_4_31) rfl (l' := #[.val (.ref b), .val (.int (0 : Int32)), .val (.int c0)]) rfl k') ?_
  refine Runs.st (fun t' k' => XS.aloadN X1_.here hx rfl (hb hby d_jdk_52_method_4_32) rfl rfl k') ?_
  show Runs p.tables e below _ (T1_.setTop (mkF m 33 #[.val (.ref b), .val (.int (0 : Int32)), .val (.int c0)] [(.ref b)]))
  refine Runs.st (fun t' k' => XS.iloadN X1_.here hx rfl (hb hby d_jdk_52_method_4_33) rfl k') ?_
  refine Runs.st (fun t' k' => XS.iinc X1_.here hx rfl (hb hby d_jdk_52_method_4_34) rfl (l' := #[.val (.ref b), .val (.int ((0 : Int32) + (1 : Int32))), .val (.int c0)]) rfl k') ?_
  show Runs p.tables e below _ (T1_.setTop (mkF m 37 #[.val (.ref b), .val (.int ((0 : Int32) + (1 : Int32))), .val (.int c0)] [(.int (0 : Int32)), (.ref b)]))
  rw [show ((0 : Int32) + (1 : Int32)) = (1 : Int32) from rfl]
  show Runs p.tables e below _ (T1_.setTop (mkF m 37 #[.val (.ref b), .val (.int (1 : Int32)), .val (.int c0)] [(.int (0 : Int32)), (.ref b)]))
  refine Runs.st (fun t' k' => XS.iloadN X1_.here hx rfl (hb hby d_jdk_52_method_4_37) rfl k') ?_
  obtain ⟨T2_, X2_, e2_, st2_⟩ := getS2 X1_ hx hZ hown (host := "") (Or.inl (hw _ (List.mem_of_getElem? (i := 81) rfl))) Via.refl e1_ (Sh.ext old.2) (g := (mkF m 38 #[.val (.ref b), .val (.int (1 : Int32)), .val (.int c0)] [(.int c0), (.int (0 : Int32)), (.ref b)])) rfl (hb hby d_jdk_52_method_4_38)
  refine Runs.st (st2_) ?_
  show Runs p.tables e below _ (T2_.setTop (mkF m 41 #[.val (.ref b), .val (.int (1 : Int32)), .val (.int c0)] [(.int (0 : Int32)), (.int c0), (.int (0 : Int32)), (.ref b)]))
  refine Runs.st (fun t' k' => XS.ishr X2_.here hx rfl (hb hby d_jdk_52_method_4_41) rfl k') ?_
  refine Runs.st (fun t' k' => XS.i2b X2_.here hx rfl (hb hby d_jdk_52_method_4_42) rfl k') ?_
  obtain ⟨cl3_, Ar3_, q3_, S3_, M3_, Ha3_, G3_⟩ := V_b
  have hin3_ : ¬ ((0 : Int32) < 0 ∨ cl3_.slots.size ≤ ((0 : Int32)).toNatClampNeg) := inb_of S3_ ⟨by decide, by decide⟩
  obtain ⟨T3_, h3_, X3_, e3_, W3_, st3_⟩ := stB X2_ hx hZ e2_ Ar3_ (j := (0 : Int32)) hin3_ (g := (mkF m 43 #[.val (.ref b), .val (.int (1 : Int32)), .val (.int c0)] [(.int ((c0 >>> ((0 : Int32) &&& 31)).toInt8.toInt32)), (.int (0 : Int32)), (.ref b)])) rfl rfl (hb hby d_jdk_52_method_4_43)
  refine Runs.st (st3_) ?_
  have V_b := Arv.set Ar3_ q3_ S3_ M3_ Ha3_ G3_ (fits_nar_byte _) W3_ 0 rfl (Nat.le_of_ble_eq_true rfl)
  replace old := old.wr W3_ g_b
  replace sz := Nat.le_trans sz (Keep.of_wr W3_).1
  have N3_ := Fr.snoc X3_ N0 g_b
  replace K := K.wr W3_ (Or.inl (List.mem_of_getElem? (i := 0) rfl))
  show Runs p.tables e below _ (T3_.setTop (mkF m 44 #[.val (.ref b), .val (.int (1 : Int32)), .val (.int c0)] []))
  refine Runs.st (fun t' k' => XS.aloadN X3_.here hx rfl (hb hby d_jdk_52_method_4_44) rfl rfl k') ?_
  refine Runs.st (fun t' k' => XS.iloadN X3_.here hx rfl (hb hby d_jdk_52_method_4_45) rfl k') ?_
  refine Runs.st (fun t' k' => XS.iloadN X3_.here hx rfl (hb hby d_jdk_52_method_4_46) rfl k') ?_
  obtain ⟨T4_, X4_, e4_, st4_⟩ := getS2 X3_ hx hZ hown (host := "") (Or.inl (hw _ (List.mem_of_getElem? (i := 82) rfl))) Via.refl e3_ (Sl.ext old.2) (g := (mkF m 47 #[.val (.ref b), .val (.int (1 : Int32)), .val (.int c0)] [(.int c0), (.int (1 : Int32)), (.ref b)])) rfl (hb hby d_jdk_52_method_4_47)
  refine Runs.st (st4_) ?_
  show Runs p.tables e below _ (T4_.setTop (mkF m 50 #[.val (.ref b), .val (.int (1 : Int32)), .val (.int c0)] [(.int (8 : Int32)), (.int c0), (.int (1 : Int32)), (.ref b)]))
  refine Runs.st (fun t' k' => XS.ishr X4_.here hx rfl (hb hby d_jdk_52_method_4_50) rfl k') ?_
  refine Runs.st (fun t' k' => XS.i2b X4_.here hx rfl (hb hby d_jdk_52_method_4_51) rfl k') ?_
  obtain ⟨cl5_, Ar5_, q5_, S5_, M5_, Ha5_, G5_⟩ := V_b
  have hin5_ : ¬ ((1 : Int32) < 0 ∨ cl5_.slots.size ≤ ((1 : Int32)).toNatClampNeg) := inb_of S5_ ⟨by decide, by decide⟩
  obtain ⟨T5_, h5_, X5_, e5_, W5_, st5_⟩ := stB X4_ hx hZ e4_ Ar5_ (j := (1 : Int32)) hin5_ (g := (mkF m 52 #[.val (.ref b), .val (.int (1 : Int32)), .val (.int c0)] [(.int ((c0 >>> ((8 : Int32) &&& 31)).toInt8.toInt32)), (.int (1 : Int32)), (.ref b)])) rfl rfl (hb hby d_jdk_52_method_4_52)
  refine Runs.st (st5_) ?_
  have V_b := Arv.set Ar5_ q5_ S5_ M5_ Ha5_ G5_ (fits_nar_byte _) W5_ 1 rfl (Nat.le_of_ble_eq_true rfl)
  replace old := old.wr W5_ g_b
  replace sz := Nat.le_trans sz (Keep.of_wr W5_).1
  have N5_ := Fr.snoc X5_ N3_ g_b
  replace K := K.wr W5_ (Or.inl (List.mem_of_getElem? (i := 0) rfl))
  show Runs p.tables e below _ (T5_.setTop (mkF m 53 #[.val (.ref b), .val (.int (1 : Int32)), .val (.int c0)] []))
  refine Runs.ret X5_ hlk (v := none) (fun _ => rfl) (by decide) (by decide) ?_ (fun fs hr => X5_.returnOut hx hret (hb hby d_jdk_52_method_4_53) hr)
  try rw [e5_]
  exact ⟨rfl, N5_, K, V_b⟩
def Q_rmPC2_1 (Z : State) (b : Addr) (c0 : Int32) (w0 w1 w2 w3 : Int32) (k : ClassId) (h0 : Heap) (n0 : Nat) : Option Value → Heap → List Loc → Prop := (fun v h L => v = none ∧ Fr n0 L ∧ Keep h0 h [b] ∧ Arv Z h b k .byte (4 : Int32) [(.int w0), (.int w1), (.int (nar .byte ((c0 >>> ((0 : Int32) &&& 31)).toInt8.toInt32))), (.int (nar .byte ((c0 >>> ((8 : Int32) &&& 31)).toInt8.toInt32)))] (.int (0 : Int32)))
set_option maxRecDepth 65536 in
set_option maxHeartbeats 40000000 in
theorem rmPC2_1 (l : Launch) (Z : State) (a0 : Array Value) (hw : ∀ d ∈ tables_1, d.before a0 Z = true) (ws : List Jvm.Cond) (b : Addr) (c0 : Int32) (w0 w1 w2 w3 : Int32) (k : ClassId) (h0 : Heap) (n0 : Nat) (Z0 : n0 ≤ h0.size) (old : Old Z n0 h0) (Sa : Sta Z Z.heap "java/lang/StringUTF16" "$assertionsDisabled" "Z" (.int (1 : Int32))) (Sh : Sta Z Z.heap "java/lang/StringUTF16" "HI_BYTE_SHIFT" "I" (.int (0 : Int32))) (Sl : Sta Z Z.heap "java/lang/StringUTF16" "LO_BYTE_SHIFT" "I" (.int (8 : Int32))) (V_b : Arv Z h0 b k .byte (4 : Int32) [(.int w0), (.int w1), (.int w2), (.int w3)] (.int (0 : Int32))) (g_b : n0 ≤ b) :
    MetFree l (⟨"java/lang/StringUTF16", "putChar", "([BII)V"⟩ : MethodName) (head1 (Jvm.Cond.code (⟨"java/lang/StringUTF16", "putChar", "([BII)V"⟩ : MethodName) jdk_52_method_4_code 3 none :: ws) ({ frames := 0, cells := 0, slots := 0, locals := 0 } : Room)) (fun ar_ U => ar_ = #[(.ref b), (.int (1 : Int32)), (.int c0)] ∧ Z.Warmed39 U.vm ∧ U.heap = h0) (fun _ _ _ _ _ => True) (fun _ U o U' => Phi U (Q_rmPC2_1 Z b c0 w0 w1 w2 w3 k h0 n0) ({ frames := 0, cells := 0, slots := 0, locals := 0 } : Room).cells ({ frames := 0, cells := 0, slots := 0, locals := 0 } : Room).slots o U') := by
  refine MetFree.of_bodySF (plainFor_of_name pn_java_lang_StringUTF16) hisR ?_
  intro p e s m args below meth c s₁ Bd hml0 hP hK
  obtain ⟨rfl, hZ, hh⟩ := hP
  have hx := Bd.exec
  have hby := Bd.bytes
  have hlk := Bd.notSynchronized
  have hml : c.maxLocals = 3 := hml0
  have hown : s.vm.findClass "java/lang/StringUTF16" = some m.cls := findClass_of_methodNamed Bd.named
  have hown0 := hown
  have hnm := (name_of_methodNamed Bd.named Bd.method).1
  have hret := Bd.returns
  have X0 : Stand p l e ({ frames := 0, cells := 0, slots := 0, locals := 0 } : Room) s m #[(.ref b), (.int (1 : Int32)), (.int c0)] below meth c s₁ [] 0 0 := Stand.of_body Bd
  have e0 : s₁.heap = h0 := by rw [← hh, Bd.state]; rfl
  have N0 := Fr.nil n0
  have sz := Z0
  have K := Keep.refl h0 [b]
  show Runs p.tables e below (Phi s (Q_rmPC2_1 Z b c0 w0 w1 w2 w3 k h0 n0) ({ frames := 0, cells := 0, slots := 0, locals := 0 } : Room).cells ({ frames := 0, cells := 0, slots := 0, locals := 0 } : Room).slots) _
  refine Runs.st (fun t' k' => castTop (ef_jdk_52_method_4_RII m b (1 : Int32) c0 ) k') ?_
  show Runs p.tables e below _ (s₁.setTop (mkF m 0 #[.val (.ref b), .val (.int (1 : Int32)), .val (.int c0)] []))
  obtain ⟨T1_, X1_, e1_, st1_⟩ := getS2 X0 hx hZ hown (host := "") (Or.inl (hw _ (List.mem_of_getElem? (i := 80) rfl))) Via.refl e0 (Sa.ext old.2) (g := (mkF m 0 #[.val (.ref b), .val (.int (1 : Int32)), .val (.int c0)] [])) rfl (hb hby d_jdk_52_method_4_0)
  refine Runs.st (st1_) ?_
  show Runs p.tables e below _ (T1_.setTop (mkF m 3 #[.val (.ref b), .val (.int (1 : Int32)), .val (.int c0)] [(.int (1 : Int32))]))
  refine Runs.st (fun t' k' => XS.ifYes X1_.here hx rfl (pc0 := 3) (pc' := 28) rfl (hb hby d_jdk_52_method_4_3) rfl ((if0 _ _).trans (feq (by decide)).2) (by decide) (by decide) k') ?_
  show Runs p.tables e below _ (T1_.setTop (mkF m 28 #[.val (.ref b), .val (.int (1 : Int32)), .val (.int c0)] []))
  refine Runs.st (fun t' k' => XS.iloadN X1_.here hx rfl (hb hby d_jdk_52_method_4_28) rfl k') ?_
  refine Runs.st (fun t' k' => XS.iconst X1_.here hx rfl (hb hby d_jdk_52_method_4_29) k') ?_
  refine Runs.st (fun t' k' => XS.ishl X1_.here hx rfl (hb hby d_jdk_52_method_4_30) rfl k') ?_
  show Runs p.tables e below _ (T1_.setTop (mkF m 31 #[.val (.ref b), .val (.int (1 : Int32)), .val (.int c0)] [(.int ((1 : Int32) <<< ((1 : Int32) &&& 31)))]))
  rw [show ((1 : Int32) <<< ((1 : Int32) &&& 31)) = (2 : Int32) from rfl]
  show Runs p.tables e below _ (T1_.setTop (mkF m 31 #[.val (.ref b), .val (.int (1 : Int32)), .val (.int c0)] [(.int (2 : Int32))]))
  refine Runs.st (fun t' k' => XS.istoreN X1_.here hx rfl (hb hby d_jdk_52_method_4_31) rfl (l' := #[.val (.ref b), .val (.int (2 : Int32)), .val (.int c0)]) rfl k') ?_
  refine Runs.st (fun t' k' => XS.aloadN X1_.here hx rfl (hb hby d_jdk_52_method_4_32) rfl rfl k') ?_
  show Runs p.tables e below _ (T1_.setTop (mkF m 33 #[.val (.ref b), .val (.int (2 : Int32)), .val (.int c0)] [(.ref b)]))
  refine Runs.st (fun t' k' => XS.iloadN X1_.here hx rfl (hb hby d_jdk_52_method_4_33) rfl k') ?_
  refine Runs.st (fun t' k' => XS.iinc X1_.here hx rfl (hb hby d_jdk_52_method_4_34) rfl (l' := #[.val (.ref b), .val (.int ((2 : Int32) + (1 : Int32))), .val (.int c0)]) rfl k') ?_
  show Runs p.tables e below _ (T1_.setTop (mkF m 37 #[.val (.ref b), .val (.int ((2 : Int32) + (1 : Int32))), .val (.int c0)] [(.int (2 : Int32)), (.ref b)]))
  rw [show ((2 : Int32) + (1 : Int32)) = (3 : Int32) from rfl]
  show Runs p.tables e below _ (T1_.setTop (mkF m 37 #[.val (.ref b), .val (.int (3 : Int32)), .val (.int c0)] [(.int (2 : Int32)), (.ref b)]))
  refine Runs.st (fun t' k' => XS.iloadN X1_.here hx rfl (hb hby d_jdk_52_method_4_37) rfl k') ?_
  obtain ⟨T2_, X2_, e2_, st2_⟩ := getS2 X1_ hx hZ hown (host := "") (Or.inl (hw _ (List.mem_of_getElem? (i := 81) rfl))) Via.refl e1_ (Sh.ext old.2) (g := (mkF m 38 #[.val (.ref b), .val (.int (3 : Int32)), .val (.int c0)] [(.int c0), (.int (2 : Int32)), (.ref b)])) rfl (hb hby d_jdk_52_method_4_38)
  refine Runs.st (st2_) ?_
  show Runs p.tables e below _ (T2_.setTop (mkF m 41 #[.val (.ref b), .val (.int (3 : Int32)), .val (.int c0)] [(.int (0 : Int32)), (.int c0), (.int (2 : Int32)), (.ref b)]))
  refine Runs.st (fun t' k' => XS.ishr X2_.here hx rfl (hb hby d_jdk_52_method_4_41) rfl k') ?_
  refine Runs.st (fun t' k' => XS.i2b X2_.here hx rfl (hb hby d_jdk_52_method_4_42) rfl k') ?_
  obtain ⟨cl3_, Ar3_, q3_, S3_, M3_, Ha3_, G3_⟩ := V_b
  have hin3_ : ¬ ((2 : Int32) < 0 ∨ cl3_.slots.size ≤ ((2 : Int32)).toNatClampNeg) := inb_of S3_ ⟨by decide, by decide⟩
  obtain ⟨T3_, h3_, X3_, e3_, W3_, st3_⟩ := stB X2_ hx hZ e2_ Ar3_ (j := (2 : Int32)) hin3_ (g := (mkF m 43 #[.val (.ref b), .val (.int (3 : Int32)), .val (.int c0)] [(.int ((c0 >>> ((0 : Int32) &&& 31)).toInt8.toInt32)), (.int (2 : Int32)), (.ref b)])) rfl rfl (hb hby d_jdk_52_method_4_43)
  refine Runs.st (st3_) ?_
  have V_b := Arv.set Ar3_ q3_ S3_ M3_ Ha3_ G3_ (fits_nar_byte _) W3_ 2 rfl (Nat.le_of_ble_eq_true rfl)
  replace old := old.wr W3_ g_b
  replace sz := Nat.le_trans sz (Keep.of_wr W3_).1
  have N3_ := Fr.snoc X3_ N0 g_b
  replace K := K.wr W3_ (Or.inl (List.mem_of_getElem? (i := 0) rfl))
  show Runs p.tables e below _ (T3_.setTop (mkF m 44 #[.val (.ref b), .val (.int (3 : Int32)), .val (.int c0)] []))
  refine Runs.st (fun t' k' => XS.aloadN X3_.here hx rfl (hb hby d_jdk_52_method_4_44) rfl rfl k') ?_
  refine Runs.st (fun t' k' => XS.iloadN X3_.here hx rfl (hb hby d_jdk_52_method_4_45) rfl k') ?_
  refine Runs.st (fun t' k' => XS.iloadN X3_.here hx rfl (hb hby d_jdk_52_method_4_46) rfl k') ?_
  obtain ⟨T4_, X4_, e4_, st4_⟩ := getS2 X3_ hx hZ hown (host := "") (Or.inl (hw _ (List.mem_of_getElem? (i := 82) rfl))) Via.refl e3_ (Sl.ext old.2) (g := (mkF m 47 #[.val (.ref b), .val (.int (3 : Int32)), .val (.int c0)] [(.int c0), (.int (3 : Int32)), (.ref b)])) rfl (hb hby d_jdk_52_method_4_47)
  refine Runs.st (st4_) ?_
  show Runs p.tables e below _ (T4_.setTop (mkF m 50 #[.val (.ref b), .val (.int (3 : Int32)), .val (.int c0)] [(.int (8 : Int32)), (.int c0), (.int (3 : Int32)), (.ref b)]))
  refine Runs.st (fun t' k' => XS.ishr X4_.here hx rfl (hb hby d_jdk_52_method_4_50) rfl k') ?_
  refine Runs.st (fun t' k' => XS.i2b X4_.here hx rfl (hb hby d_jdk_52_method_4_51) rfl k') ?_
  obtain ⟨cl5_, Ar5_, q5_, S5_, M5_, Ha5_, G5_⟩ := V_b
  have hin5_ : ¬ ((3 : Int32) < 0 ∨ cl5_.slots.size ≤ ((3 : Int32)).toNatClampNeg) := inb_of S5_ ⟨by decide, by decide⟩
  obtain ⟨T5_, h5_, X5_, e5_, W5_, st5_⟩ := stB X4_ hx hZ e4_ Ar5_ (j := (3 : Int32)) hin5_ (g := (mkF m 52 #[.val (.ref b), .val (.int (3 : Int32)), .val (.int c0)] [(.int ((c0 >>> ((8 : Int32) &&& 31)).toInt8.toInt32)), (.int (3 : Int32)), (.ref b)])) rfl rfl (hb hby d_jdk_52_method_4_52)
  refine Runs.st (st5_) ?_
  have V_b := Arv.set Ar5_ q5_ S5_ M5_ Ha5_ G5_ (fits_nar_byte _) W5_ 3 rfl (Nat.le_of_ble_eq_true rfl)
  replace old := old.wr W5_ g_b
  replace sz := Nat.le_trans sz (Keep.of_wr W5_).1
  have N5_ := Fr.snoc X5_ N3_ g_b
  replace K := K.wr W5_ (Or.inl (List.mem_of_getElem? (i := 0) rfl))
  show Runs p.tables e below _ (T5_.setTop (mkF m 53 #[.val (.ref b), .val (.int (3 : Int32)), .val (.int c0)] []))
  refine Runs.ret X5_ hlk (v := none) (fun _ => rfl) (by decide) (by decide) ?_ (fun fs hr => X5_.returnOut hx hret (hb hby d_jdk_52_method_4_53) hr)
  try rw [e5_]
  exact ⟨rfl, N5_, K, V_b⟩
def Q_rmTU2 (Z : State) (a : Addr) (c0 c1 : Int32) (k1 : ClassId) (h0 : Heap) (n0 : Nat) : Option Value → Heap → List Loc → Prop := (fun v h L => ∃ b k, v = some (.ref b) ∧ Fr n0 L ∧ Keep h0 h [] ∧ h0.size ≤ b ∧ Arv Z h b k .byte (4 : Int32) [(.int (nar .byte ((c0 >>> ((0 : Int32) &&& 31)).toInt8.toInt32))), (.int (nar .byte ((c0 >>> ((8 : Int32) &&& 31)).toInt8.toInt32))), (.int (nar .byte ((c1 >>> ((0 : Int32) &&& 31)).toInt8.toInt32))), (.int (nar .byte ((c1 >>> ((8 : Int32) &&& 31)).toInt8.toInt32)))] (.int (0 : Int32)))
set_option maxRecDepth 65536 in
set_option maxHeartbeats 40000000 in
theorem rmTU2 (l : Launch) (Z : State) (a0 : Array Value) (hw : ∀ d ∈ tables_1, d.before a0 Z = true) (ws : List Jvm.Cond) (a : Addr) (c0 c1 : Int32) (k1 : ClassId) (h0 : Heap) (n0 : Nat) (Z0 : n0 ≤ h0.size) (old : Old Z n0 h0) (Sa : Sta Z Z.heap "java/lang/StringUTF16" "$assertionsDisabled" "Z" (.int (1 : Int32))) (Sh : Sta Z Z.heap "java/lang/StringUTF16" "HI_BYTE_SHIFT" "I" (.int (0 : Int32))) (Sl : Sta Z Z.heap "java/lang/StringUTF16" "LO_BYTE_SHIFT" "I" (.int (8 : Int32))) (V_a : Arv Z h0 a k1 .char (2 : Int32) [(.int c0), (.int c1)] (.int (0 : Int32))) :
    MetFree l (⟨"java/lang/StringUTF16", "toBytes", "([CII)[B"⟩ : MethodName) (head1 (Jvm.Cond.code (⟨"java/lang/StringUTF16", "toBytes", "([CII)[B"⟩ : MethodName) jdk_52_method_14_code 5 (some (.array .byte)) :: ws) ({ frames := 2, cells := 1, slots := 4, locals := 24 } : Room)) (fun ar_ U => ar_ = #[(.ref a), (.int (0 : Int32)), (.int (2 : Int32))] ∧ Z.Warmed39 U.vm ∧ U.heap = h0) (fun _ _ _ _ _ => True) (fun _ U o U' => Phi U (Q_rmTU2 Z a c0 c1 k1 h0 n0) ({ frames := 2, cells := 1, slots := 4, locals := 24 } : Room).cells ({ frames := 2, cells := 1, slots := 4, locals := 24 } : Room).slots o U') := by
  refine MetFree.of_bodySF (plainFor_of_name pn_java_lang_StringUTF16) hisR ?_
  intro p e s m args below meth c s₁ Bd hml0 hP hK
  obtain ⟨rfl, hZ, hh⟩ := hP
  have hx := Bd.exec
  have hby := Bd.bytes
  have hlk := Bd.notSynchronized
  have hml : c.maxLocals = 5 := hml0
  have hown : s.vm.findClass "java/lang/StringUTF16" = some m.cls := findClass_of_methodNamed Bd.named
  have hown0 := hown
  have hnm := (name_of_methodNamed Bd.named Bd.method).1
  have hret := Bd.returns
  have X0 : Stand p l e ({ frames := 2, cells := 1, slots := 4, locals := 24 } : Room) s m #[(.ref a), (.int (0 : Int32)), (.int (2 : Int32))] below meth c s₁ [] 0 0 := Stand.of_body Bd
  have e0 : s₁.heap = h0 := by rw [← hh, Bd.state]; rfl
  have N0 := Fr.nil n0
  have sz := Z0
  have K := Keep.refl h0 []
  show Runs p.tables e below (Phi s (Q_rmTU2 Z a c0 c1 k1 h0 n0) ({ frames := 2, cells := 1, slots := 4, locals := 24 } : Room).cells ({ frames := 2, cells := 1, slots := 4, locals := 24 } : Room).slots) _
  refine Runs.st (fun t' k' => castTop (ef_jdk_52_method_14_RII m a (0 : Int32) (2 : Int32) ) k') ?_
  show Runs p.tables e below _ (s₁.setTop (mkF m 0 #[.val (.ref a), .val (.int (0 : Int32)), .val (.int (2 : Int32)), .unset, .unset] []))
  refine Runs.st (fun t' k' => XS.iloadN X0.here hx rfl (hb hby d_jdk_52_method_14_0) rfl k') ?_
  have kz1_ := K.1
  have gz1_ := sz
  have lt1__a := V_a.lt
  obtain ⟨_, _, ⟨T1_, L1_, k1_, n1_⟩, -, X1_, ⟨Lc1_, hQ1_, l1_, y1_, z1_⟩, st1_⟩ := Jvm.LawKit.callS X0 hx (y := (⟨"java/lang/StringUTF16", "newBytesFor", "(I)[B"⟩ : MethodName)) hown (mvT hZ (hw _ (List.mem_of_getElem? (i := 70) rfl))) (mvT hZ (hw _ (List.mem_of_getElem? (i := 71) rfl))) (mvT hZ (hw _ (List.mem_of_getElem? (i := 57) rfl))) (mvT hZ (hw _ (List.mem_of_getElem? (i := 72) rfl))) (by decide) (backOf (W := 0) (rmNB2 l Z a0 hw [] h0 n0 sz) hZ (hw _ (List.mem_of_getElem? (i := 72) rfl)) (hw _ (List.mem_of_getElem? (i := 57) rfl)) (by decide) (by decide)) (g := (mkF m 1 #[.val (.ref a), .val (.int (0 : Int32)), .val (.int (2 : Int32)), .unset, .unset] [(.int (2 : Int32))])) rfl (by rw [hml]; rfl) (argsL := [(.int (2 : Int32))]) (rest := []) (lenOf pd__28I_29_5bB rfl) rfl (by show 2 * 0 + _ ≤ _; exact Nat.le_of_eq rfl) (hb hby d_jdk_52_method_14_1) (fun _ _ => ⟨rfl, e0, (by decide : 0 + 1 ≤ _), (by decide : 0 + 4 ≤ _)⟩)
  dsimp only [Pt.U, Pt.locs, Pt.cells, Pt.slots] at X1_ l1_ y1_ z1_ st1_ hQ1_
  subst l1_ y1_ z1_
  obtain ⟨b, kb, rfl, N1_q, K1_, szb, V_b⟩ := hQ1_
  have N1_ := Fr.app N0 N1_q
  refine Runs.st (st1_) ?_
  replace X1_ := wider X1_ (c' := 1) (s' := 4) (by decide) (by decide)
  replace old := old.keep K1_ all0
  replace V_a := V_a.keep K1_ nin0
  replace sz := Nat.le_trans sz K1_.1
  replace K := K.trans K1_ all0
  have sz_b : h0.size ≤ b := Nat.le_trans kz1_ szb
  have g_b : n0 ≤ b := Nat.le_trans gz1_ szb
  have ne_a_b : a ≠ b := Nat.ne_of_lt (Nat.lt_of_lt_of_le lt1__a szb)
  show Runs p.tables e below _ (T1_.setTop (mkF m 4 #[.val (.ref a), .val (.int (0 : Int32)), .val (.int (2 : Int32)), .unset, .unset] [(.ref b)]))
  refine Runs.st (fun t' k' => XS.astoreN X1_.here hx rfl (hb hby d_jdk_52_method_14_4) rfl rfl (l' := #[.val (.ref a), .val (.int (0 : Int32)), .val (.int (2 : Int32)), .val (.ref b), .unset]) rfl k') ?_
  refine Runs.st (fun t' k' => XS.iconst X1_.here hx rfl (hb hby d_jdk_52_method_14_5) k') ?_
  refine Runs.st (fun t' k' => XS.istore X1_.here hx rfl (hb hby d_jdk_52_method_14_6) rfl (l' := #[.val (.ref a), .val (.int (0 : Int32)), .val (.int (2 : Int32)), .val (.ref b), .val (.int (0 : Int32))]) rfl k') ?_
  refine Runs.st (fun t' k' => XS.iload X1_.here hx rfl (hb hby d_jdk_52_method_14_8) rfl k') ?_
  refine Runs.st (fun t' k' => XS.iloadN X1_.here hx rfl (hb hby d_jdk_52_method_14_10) rfl k') ?_
  show Runs p.tables e below _ (T1_.setTop (mkF m 11 #[.val (.ref a), .val (.int (0 : Int32)), .val (.int (2 : Int32)), .val (.ref b), .val (.int (0 : Int32))] [(.int (2 : Int32)), (.int (0 : Int32))]))
  refine Runs.st (fun t' k' => XS.icmpNo X1_.here hx rfl (hb hby d_jdk_52_method_14_11) rfl (tlt (by decide)).2.1 k') ?_
  show Runs p.tables e below _ (T1_.setTop (mkF m 14 #[.val (.ref a), .val (.int (0 : Int32)), .val (.int (2 : Int32)), .val (.ref b), .val (.int (0 : Int32))] []))
  refine Runs.st (fun t' k' => XS.aloadN X1_.here hx rfl (hb hby d_jdk_52_method_14_14) rfl rfl k') ?_
  refine Runs.st (fun t' k' => XS.iload X1_.here hx rfl (hb hby d_jdk_52_method_14_15) rfl k') ?_
  refine Runs.st (fun t' k' => XS.aloadN X1_.here hx rfl (hb hby d_jdk_52_method_14_17) rfl rfl k') ?_
  refine Runs.st (fun t' k' => XS.iloadN X1_.here hx rfl (hb hby d_jdk_52_method_14_18) rfl k') ?_
  obtain ⟨cl2_, Ar2_, -, S2_, M2_, Ha2_, -⟩ := id V_a
  have hin2_ : ¬ ((0 : Int32) < 0 ∨ cl2_.slots.size ≤ ((0 : Int32)).toNatClampNeg) := inb_of S2_ ⟨by decide, by decide⟩
  refine Runs.st (X1_.caload hx (j := (0 : Int32)) (v := (.int c0)) Ar2_.1 (State.isArrayOf_alike hZ.alike Ar2_.2.1) Ar2_.2.2 hin2_ (Ha2_.at hin2_ rfl) (g := (mkF m 19 #[.val (.ref a), .val (.int (0 : Int32)), .val (.int (2 : Int32)), .val (.ref b), .val (.int (0 : Int32))] [(.int (0 : Int32)), (.ref a), (.int (0 : Int32)), (.ref b)])) rfl rfl (hb hby d_jdk_52_method_14_19)) ?_
  show Runs p.tables e below _ (T1_.setTop (mkF m 20 #[.val (.ref a), .val (.int (0 : Int32)), .val (.int (2 : Int32)), .val (.ref b), .val (.int (0 : Int32))] [(.int c0), (.int (0 : Int32)), (.ref b)]))
  obtain ⟨_, _, ⟨T3_, L3_, k3_, n3_⟩, -, X3_, ⟨Lc3_, hQ3_, l3_, y3_, z3_⟩, st3_⟩ := Jvm.LawKit.callS X1_ hx (y := (⟨"java/lang/StringUTF16", "putChar", "([BII)V"⟩ : MethodName)) hown (mvT hZ (hw _ (List.mem_of_getElem? (i := 77) rfl))) (mvT hZ (hw _ (List.mem_of_getElem? (i := 78) rfl))) (mvT hZ (hw _ (List.mem_of_getElem? (i := 57) rfl))) (mvT hZ (hw _ (List.mem_of_getElem? (i := 79) rfl))) (by decide) (backOf (W := 0) (rmPC2_0 l Z a0 hw [] b c0 (0 : Int32) (0 : Int32) (0 : Int32) (0 : Int32) kb T1_.heap n0 sz old Sa Sh Sl V_b g_b) hZ (hw _ (List.mem_of_getElem? (i := 79) rfl)) (hw _ (List.mem_of_getElem? (i := 57) rfl)) (by decide) (by decide)) (g := (mkF m 20 #[.val (.ref a), .val (.int (0 : Int32)), .val (.int (2 : Int32)), .val (.ref b), .val (.int (0 : Int32))] [(.int c0), (.int (0 : Int32)), (.ref b)])) rfl (by rw [hml]; rfl) (argsL := [(.ref b), (.int (0 : Int32)), (.int c0)]) (rest := []) (lenOf pd__28_5bBII_29V rfl) rfl (by show 2 * 0 + _ ≤ _; exact Nat.le_of_eq rfl) (hb hby d_jdk_52_method_14_20) (fun _ _ => ⟨rfl, rfl, (by decide : 1 + 0 ≤ _), (by decide : 4 + 0 ≤ _)⟩)
  dsimp only [Pt.U, Pt.locs, Pt.cells, Pt.slots] at X3_ l3_ y3_ z3_ st3_ hQ3_
  subst l3_ y3_ z3_
  obtain ⟨rfl, N3_q, K3_, V_b⟩ := hQ3_
  have N3_ := Fr.app N1_ N3_q
  refine Runs.st (st3_) ?_
  replace X3_ := wider X3_ (c' := 1) (s' := 4) (by decide) (by decide)
  replace old := old.keep K3_ (allS g_b all0)
  replace V_a := V_a.keep K3_ (ninS ne_a_b nin0)
  replace sz := Nat.le_trans sz K3_.1
  replace K := K.trans K3_ (allS (Or.inr sz_b) all0)
  show Runs p.tables e below _ (T3_.setTop (mkF m 23 #[.val (.ref a), .val (.int (0 : Int32)), .val (.int (2 : Int32)), .val (.ref b), .val (.int (0 : Int32))] []))
  refine Runs.st (fun t' k' => XS.iinc X3_.here hx rfl (hb hby d_jdk_52_method_14_23) rfl (l' := #[.val (.ref a), .val (.int ((0 : Int32) + (1 : Int32))), .val (.int (2 : Int32)), .val (.ref b), .val (.int (0 : Int32))]) rfl k') ?_
  refine Runs.st (fun t' k' => XS.iinc X3_.here hx rfl (hb hby d_jdk_52_method_14_26) rfl (l' := #[.val (.ref a), .val (.int ((0 : Int32) + (1 : Int32))), .val (.int (2 : Int32)), .val (.ref b), .val (.int ((0 : Int32) + (1 : Int32)))]) rfl k') ?_
  show Runs p.tables e below _ (T3_.setTop (mkF m 29 #[.val (.ref a), .val (.int ((0 : Int32) + (1 : Int32))), .val (.int (2 : Int32)), .val (.ref b), .val (.int ((0 : Int32) + (1 : Int32)))] []))
  rw [show ((0 : Int32) + (1 : Int32)) = (1 : Int32) from rfl]
  show Runs p.tables e below _ (T3_.setTop (mkF m 29 #[.val (.ref a), .val (.int (1 : Int32)), .val (.int (2 : Int32)), .val (.ref b), .val (.int (1 : Int32))] []))
  refine Runs.st (fun t' k' => XS.goto X3_.here hx rfl (pc0 := 29) (pc' := 8) rfl (hb hby d_jdk_52_method_14_29) (by decide) (by decide) k') ?_
  refine Runs.st (fun t' k' => XS.iload X3_.here hx rfl (hb hby d_jdk_52_method_14_8) rfl k') ?_
  refine Runs.st (fun t' k' => XS.iloadN X3_.here hx rfl (hb hby d_jdk_52_method_14_10) rfl k') ?_
  show Runs p.tables e below _ (T3_.setTop (mkF m 11 #[.val (.ref a), .val (.int (1 : Int32)), .val (.int (2 : Int32)), .val (.ref b), .val (.int (1 : Int32))] [(.int (2 : Int32)), (.int (1 : Int32))]))
  refine Runs.st (fun t' k' => XS.icmpNo X3_.here hx rfl (hb hby d_jdk_52_method_14_11) rfl (tlt (by decide)).2.1 k') ?_
  show Runs p.tables e below _ (T3_.setTop (mkF m 14 #[.val (.ref a), .val (.int (1 : Int32)), .val (.int (2 : Int32)), .val (.ref b), .val (.int (1 : Int32))] []))
  refine Runs.st (fun t' k' => XS.aloadN X3_.here hx rfl (hb hby d_jdk_52_method_14_14) rfl rfl k') ?_
  refine Runs.st (fun t' k' => XS.iload X3_.here hx rfl (hb hby d_jdk_52_method_14_15) rfl k') ?_
  refine Runs.st (fun t' k' => XS.aloadN X3_.here hx rfl (hb hby d_jdk_52_method_14_17) rfl rfl k') ?_
  refine Runs.st (fun t' k' => XS.iloadN X3_.here hx rfl (hb hby d_jdk_52_method_14_18) rfl k') ?_
  obtain ⟨cl4_, Ar4_, -, S4_, M4_, Ha4_, -⟩ := id V_a
  have hin4_ : ¬ ((1 : Int32) < 0 ∨ cl4_.slots.size ≤ ((1 : Int32)).toNatClampNeg) := inb_of S4_ ⟨by decide, by decide⟩
  refine Runs.st (X3_.caload hx (j := (1 : Int32)) (v := (.int c1)) Ar4_.1 (State.isArrayOf_alike hZ.alike Ar4_.2.1) Ar4_.2.2 hin4_ (Ha4_.at hin4_ rfl) (g := (mkF m 19 #[.val (.ref a), .val (.int (1 : Int32)), .val (.int (2 : Int32)), .val (.ref b), .val (.int (1 : Int32))] [(.int (1 : Int32)), (.ref a), (.int (1 : Int32)), (.ref b)])) rfl rfl (hb hby d_jdk_52_method_14_19)) ?_
  show Runs p.tables e below _ (T3_.setTop (mkF m 20 #[.val (.ref a), .val (.int (1 : Int32)), .val (.int (2 : Int32)), .val (.ref b), .val (.int (1 : Int32))] [(.int c1), (.int (1 : Int32)), (.ref b)]))
  obtain ⟨_, _, ⟨T5_, L5_, k5_, n5_⟩, -, X5_, ⟨Lc5_, hQ5_, l5_, y5_, z5_⟩, st5_⟩ := Jvm.LawKit.callS X3_ hx (y := (⟨"java/lang/StringUTF16", "putChar", "([BII)V"⟩ : MethodName)) hown (mvT hZ (hw _ (List.mem_of_getElem? (i := 77) rfl))) (mvT hZ (hw _ (List.mem_of_getElem? (i := 78) rfl))) (mvT hZ (hw _ (List.mem_of_getElem? (i := 57) rfl))) (mvT hZ (hw _ (List.mem_of_getElem? (i := 79) rfl))) (by decide) (backOf (W := 0) (rmPC2_1 l Z a0 hw [] b c1 (nar .byte ((c0 >>> ((0 : Int32) &&& 31)).toInt8.toInt32)) (nar .byte ((c0 >>> ((8 : Int32) &&& 31)).toInt8.toInt32)) (0 : Int32) (0 : Int32) kb T3_.heap n0 sz old Sa Sh Sl V_b g_b) hZ (hw _ (List.mem_of_getElem? (i := 79) rfl)) (hw _ (List.mem_of_getElem? (i := 57) rfl)) (by decide) (by decide)) (g := (mkF m 20 #[.val (.ref a), .val (.int (1 : Int32)), .val (.int (2 : Int32)), .val (.ref b), .val (.int (1 : Int32))] [(.int c1), (.int (1 : Int32)), (.ref b)])) rfl (by rw [hml]; rfl) (argsL := [(.ref b), (.int (1 : Int32)), (.int c1)]) (rest := []) (lenOf pd__28_5bBII_29V rfl) rfl (by show 2 * 0 + _ ≤ _; exact Nat.le_of_eq rfl) (hb hby d_jdk_52_method_14_20) (fun _ _ => ⟨rfl, rfl, (by decide : 1 + 0 ≤ _), (by decide : 4 + 0 ≤ _)⟩)
  dsimp only [Pt.U, Pt.locs, Pt.cells, Pt.slots] at X5_ l5_ y5_ z5_ st5_ hQ5_
  subst l5_ y5_ z5_
  obtain ⟨rfl, N5_q, K5_, V_b⟩ := hQ5_
  have N5_ := Fr.app N3_ N5_q
  refine Runs.st (st5_) ?_
  replace X5_ := wider X5_ (c' := 1) (s' := 4) (by decide) (by decide)
  replace old := old.keep K5_ (allS g_b all0)
  replace V_a := V_a.keep K5_ (ninS ne_a_b nin0)
  replace sz := Nat.le_trans sz K5_.1
  replace K := K.trans K5_ (allS (Or.inr sz_b) all0)
  show Runs p.tables e below _ (T5_.setTop (mkF m 23 #[.val (.ref a), .val (.int (1 : Int32)), .val (.int (2 : Int32)), .val (.ref b), .val (.int (1 : Int32))] []))
  refine Runs.st (fun t' k' => XS.iinc X5_.here hx rfl (hb hby d_jdk_52_method_14_23) rfl (l' := #[.val (.ref a), .val (.int ((1 : Int32) + (1 : Int32))), .val (.int (2 : Int32)), .val (.ref b), .val (.int (1 : Int32))]) rfl k') ?_
  refine Runs.st (fun t' k' => XS.iinc X5_.here hx rfl (hb hby d_jdk_52_method_14_26) rfl (l' := #[.val (.ref a), .val (.int ((1 : Int32) + (1 : Int32))), .val (.int (2 : Int32)), .val (.ref b), .val (.int ((1 : Int32) + (1 : Int32)))]) rfl k') ?_
  show Runs p.tables e below _ (T5_.setTop (mkF m 29 #[.val (.ref a), .val (.int ((1 : Int32) + (1 : Int32))), .val (.int (2 : Int32)), .val (.ref b), .val (.int ((1 : Int32) + (1 : Int32)))] []))
  rw [show ((1 : Int32) + (1 : Int32)) = (2 : Int32) from rfl]
  show Runs p.tables e below _ (T5_.setTop (mkF m 29 #[.val (.ref a), .val (.int (2 : Int32)), .val (.int (2 : Int32)), .val (.ref b), .val (.int (2 : Int32))] []))
  refine Runs.st (fun t' k' => XS.goto X5_.here hx rfl (pc0 := 29) (pc' := 8) rfl (hb hby d_jdk_52_method_14_29) (by decide) (by decide) k') ?_
  refine Runs.st (fun t' k' => XS.iload X5_.here hx rfl (hb hby d_jdk_52_method_14_8) rfl k') ?_
  refine Runs.st (fun t' k' => XS.iloadN X5_.here hx rfl (hb hby d_jdk_52_method_14_10) rfl k') ?_
  show Runs p.tables e below _ (T5_.setTop (mkF m 11 #[.val (.ref a), .val (.int (2 : Int32)), .val (.int (2 : Int32)), .val (.ref b), .val (.int (2 : Int32))] [(.int (2 : Int32)), (.int (2 : Int32))]))
  refine Runs.st (fun t' k' => XS.icmpYes X5_.here hx rfl (pc0 := 11) (pc' := 32) rfl (hb hby d_jdk_52_method_14_11) rfl (flt (by decide)).2.1 (by decide) (by decide) k') ?_
  show Runs p.tables e below _ (T5_.setTop (mkF m 32 #[.val (.ref a), .val (.int (2 : Int32)), .val (.int (2 : Int32)), .val (.ref b), .val (.int (2 : Int32))] []))
  refine Runs.st (fun t' k' => XS.aloadN X5_.here hx rfl (hb hby d_jdk_52_method_14_32) rfl rfl k') ?_
  refine Runs.ret X5_ hlk (v := (some (.ref b))) (fun h => by rw [hret] at h; cases h) (by decide) (by decide) ?_ (fun fs hr => retOut X5_ hx hret rfl (Or.inr (Or.inr (Or.inr (Or.inr ⟨rfl, rfl, rfl⟩)))) (hb hby d_jdk_52_method_14_33) hr)
  exact ⟨b, kb, rfl, N5_, K, sz_b, V_b⟩
def Q_rmCU2 (Z : State) (b : Addr) (k2 : ClassId) (vs : List Value) (h0 : Heap) (n0 : Nat) : Option Value → Heap → List Loc → Prop := (fun v h L => v = some (.int (1 : Int32)) ∧ Fr n0 L ∧ h = h0)
set_option maxRecDepth 65536 in
set_option maxHeartbeats 40000000 in
theorem rmCU2 (l : Launch) (Z : State) (a0 : Array Value) (hw : ∀ d ∈ tables_1, d.before a0 Z = true) (ws : List Jvm.Cond) (b : Addr) (k2 : ClassId) (vs : List Value) (h0 : Heap) (n0 : Nat) (Z0 : n0 ≤ h0.size) (V_b : Arv Z h0 b k2 .byte (4 : Int32) vs (.int (0 : Int32))) :
    MetFree l (⟨"java/lang/StringUTF16", "coderFromArrayLen", "([BI)B"⟩ : MethodName) (head1 (Jvm.Cond.code (⟨"java/lang/StringUTF16", "coderFromArrayLen", "([BI)B"⟩ : MethodName) jdk_52_method_15_code 2 (some .byte) :: ws) ({ frames := 0, cells := 0, slots := 0, locals := 0 } : Room)) (fun ar_ U => ar_ = #[(.ref b), (.int (2 : Int32))] ∧ Z.Warmed39 U.vm ∧ U.heap = h0) (fun _ _ _ _ _ => True) (fun _ U o U' => Phi U (Q_rmCU2 Z b k2 vs h0 n0) ({ frames := 0, cells := 0, slots := 0, locals := 0 } : Room).cells ({ frames := 0, cells := 0, slots := 0, locals := 0 } : Room).slots o U') := by
  refine MetFree.of_bodySF (plainFor_of_name pn_java_lang_StringUTF16) hisR ?_
  intro p e s m args below meth c s₁ Bd hml0 hP hK
  obtain ⟨rfl, hZ, hh⟩ := hP
  have hx := Bd.exec
  have hby := Bd.bytes
  have hlk := Bd.notSynchronized
  have hml : c.maxLocals = 2 := hml0
  have hown : s.vm.findClass "java/lang/StringUTF16" = some m.cls := findClass_of_methodNamed Bd.named
  have hown0 := hown
  have hnm := (name_of_methodNamed Bd.named Bd.method).1
  have hret := Bd.returns
  have X0 : Stand p l e ({ frames := 0, cells := 0, slots := 0, locals := 0 } : Room) s m #[(.ref b), (.int (2 : Int32))] below meth c s₁ [] 0 0 := Stand.of_body Bd
  have e0 : s₁.heap = h0 := by rw [← hh, Bd.state]; rfl
  have N0 := Fr.nil n0
  have sz := Z0
  have K := Keep.refl h0 []
  show Runs p.tables e below (Phi s (Q_rmCU2 Z b k2 vs h0 n0) ({ frames := 0, cells := 0, slots := 0, locals := 0 } : Room).cells ({ frames := 0, cells := 0, slots := 0, locals := 0 } : Room).slots) _
  refine Runs.st (fun t' k' => castTop (ef_jdk_52_method_15_RI m b (2 : Int32) ) k') ?_
  show Runs p.tables e below _ (s₁.setTop (mkF m 0 #[.val (.ref b), .val (.int (2 : Int32))] []))
  refine Runs.st (fun t' k' => XS.iloadN X0.here hx rfl (hb hby d_jdk_52_method_15_0) rfl k') ?_
  refine Runs.st (fun t' k' => XS.aloadN X0.here hx rfl (hb hby d_jdk_52_method_15_1) rfl rfl k') ?_
  obtain ⟨cl1_, Ar1_, -, S1_, M1_, -, -⟩ := id V_b
  refine Runs.st (X0.arraylength hx (by rw [e0]; exact Ar1_.1) (State.isArrayOf_alike hZ.alike Ar1_.2.1) (g := (mkF m 2 #[.val (.ref b), .val (.int (2 : Int32))] [(.ref b), (.int (2 : Int32))])) rfl rfl (hb hby d_jdk_52_method_15_2)) ?_
  rw [len_of S1_ M1_]
  show Runs p.tables e below _ (s₁.setTop (mkF m 3 #[.val (.ref b), .val (.int (2 : Int32))] [(.int (4 : Int32)), (.int (2 : Int32))]))
  refine Runs.st (fun t' k' => XS.isub X0.here hx rfl (hb hby d_jdk_52_method_15_3) rfl k') ?_
  refine Runs.st (fun t' k' => XS.bipush X0.here hx rfl (hb hby d_jdk_52_method_15_4) k') ?_
  refine Runs.st (fun t' k' => XS.iushr X0.here hx rfl (hb hby d_jdk_52_method_15_6) rfl k') ?_
  refine Runs.st (fun t' k' => XS.i2b X0.here hx rfl (hb hby d_jdk_52_method_15_7) rfl k') ?_
  refine Runs.ret X0 hlk (v := (some (.int (nar .byte (((((2 : Int32) - (4 : Int32)).toUInt32 >>> ((31 : Int32) &&& 31).toUInt32).toInt32).toInt8.toInt32))))) (fun h => by rw [hret] at h; cases h) (by decide) (by decide) ?_ (fun fs hr => retN X0 hx (t := .byte) hret (by simp) (hb hby d_jdk_52_method_15_8) hr)
  try rw [e0]
  exact ⟨congrArg (fun z => some (Value.int z)) (by decide), N0, rfl⟩
def Q_rmCV2_0 (Z : State) (a : Addr) (b : Addr) (c0 c1 : Int32) (k1 k2 : ClassId) (h0 : Heap) (n0 : Nat) : Option Value → Heap → List Loc → Prop := (fun v h L => v = some (.int (0 : Int32)) ∧ Fr n0 L ∧ Keep h0 h [b])
set_option maxRecDepth 65536 in
set_option maxHeartbeats 40000000 in
theorem rmCV2_0 (l : Launch) (Z : State) (a0 : Array Value) (hw : ∀ d ∈ tables_1, d.before a0 Z = true) (ws : List Jvm.Cond) (a : Addr) (b : Addr) (c0 c1 : Int32) (k1 k2 : ClassId) (h0 : Heap) (n0 : Nat) (Z0 : n0 ≤ h0.size) (V_a : Arv Z h0 a k1 .char (2 : Int32) [(.int c0), (.int c1)] (.int (0 : Int32))) (V_b : Arv Z h0 b k2 .byte (2 : Int32) [(.int (0 : Int32)), (.int (0 : Int32))] (.int (0 : Int32))) (ne_a_b : a ≠ b) (g_b : n0 ≤ b)  (u0 : (255 : Int32) < c0) :
    MetFree l (⟨"java/lang/StringUTF16", "compress", "([CI[BII)I"⟩ : MethodName) (head1 (Jvm.Cond.code (⟨"java/lang/StringUTF16", "compress", "([CI[BII)I"⟩ : MethodName) jdk_52_method_21_code 7 (some .int) :: ws) ({ frames := 0, cells := 0, slots := 0, locals := 0 } : Room)) (fun ar_ U => ar_ = #[(.ref a), (.int (0 : Int32)), (.ref b), (.int (0 : Int32)), (.int (2 : Int32))] ∧ Z.Warmed39 U.vm ∧ U.heap = h0) (fun _ _ _ _ _ => True) (fun _ U o U' => Phi U (Q_rmCV2_0 Z a b c0 c1 k1 k2 h0 n0) ({ frames := 0, cells := 0, slots := 0, locals := 0 } : Room).cells ({ frames := 0, cells := 0, slots := 0, locals := 0 } : Room).slots o U') := by
  refine MetFree.of_bodySF (plainFor_of_name pn_java_lang_StringUTF16) hisR ?_
  intro p e s m args below meth c s₁ Bd hml0 hP hK
  obtain ⟨rfl, hZ, hh⟩ := hP
  have hx := Bd.exec
  have hby := Bd.bytes
  have hlk := Bd.notSynchronized
  have hml : c.maxLocals = 7 := hml0
  have hown : s.vm.findClass "java/lang/StringUTF16" = some m.cls := findClass_of_methodNamed Bd.named
  have hown0 := hown
  have hnm := (name_of_methodNamed Bd.named Bd.method).1
  have hret := Bd.returns
  have X0 : Stand p l e ({ frames := 0, cells := 0, slots := 0, locals := 0 } : Room) s m #[(.ref a), (.int (0 : Int32)), (.ref b), (.int (0 : Int32)), (.int (2 : Int32))] below meth c s₁ [] 0 0 := Stand.of_body Bd
  have e0 : s₁.heap = h0 := by rw [← hh, Bd.state]; rfl
  have N0 := Fr.nil n0
  have sz := Z0
  have K := Keep.refl h0 [b]
  show Runs p.tables e below (Phi s (Q_rmCV2_0 Z a b c0 c1 k1 k2 h0 n0) ({ frames := 0, cells := 0, slots := 0, locals := 0 } : Room).cells ({ frames := 0, cells := 0, slots := 0, locals := 0 } : Room).slots) _
  refine Runs.st (fun t' k' => castTop (ef_jdk_52_method_21_RIRII m a (0 : Int32) b (0 : Int32) (2 : Int32) ) k') ?_
  show Runs p.tables e below _ (s₁.setTop (mkF m 0 #[.val (.ref a), .val (.int (0 : Int32)), .val (.ref b), .val (.int (0 : Int32)), .val (.int (2 : Int32)), .unset, .unset] []))
  refine Runs.st (fun t' k' => XS.iconst X0.here hx rfl (hb hby d_jdk_52_method_21_0) k') ?_
  refine Runs.st (fun t' k' => XS.istore X0.here hx rfl (hb hby d_jdk_52_method_21_1) rfl (l' := #[.val (.ref a), .val (.int (0 : Int32)), .val (.ref b), .val (.int (0 : Int32)), .val (.int (2 : Int32)), .val (.int (0 : Int32)), .unset]) rfl k') ?_
  refine Runs.st (fun t' k' => XS.iload X0.here hx rfl (hb hby d_jdk_52_method_21_3) rfl k') ?_
  refine Runs.st (fun t' k' => XS.iload X0.here hx rfl (hb hby d_jdk_52_method_21_5) rfl k') ?_
  refine Runs.st (fun t' k' => XS.icmpNo X0.here hx rfl (hb hby d_jdk_52_method_21_7) rfl (tlt (by decide)).2.1 k') ?_
  show Runs p.tables e below _ (s₁.setTop (mkF m 10 #[.val (.ref a), .val (.int (0 : Int32)), .val (.ref b), .val (.int (0 : Int32)), .val (.int (2 : Int32)), .val (.int (0 : Int32)), .unset] []))
  refine Runs.st (fun t' k' => XS.aloadN X0.here hx rfl (hb hby d_jdk_52_method_21_10) rfl rfl k') ?_
  refine Runs.st (fun t' k' => XS.iloadN X0.here hx rfl (hb hby d_jdk_52_method_21_11) rfl k') ?_
  obtain ⟨cl1_, Ar1_, -, S1_, M1_, Ha1_, -⟩ := id V_a
  have hin1_ : ¬ ((0 : Int32) < 0 ∨ cl1_.slots.size ≤ ((0 : Int32)).toNatClampNeg) := inb_of S1_ ⟨by decide, by decide⟩
  refine Runs.st (X0.caload hx (j := (0 : Int32)) (v := (.int c0)) (by rw [e0]; exact Ar1_.1) (State.isArrayOf_alike hZ.alike Ar1_.2.1) Ar1_.2.2 hin1_ (Ha1_.at hin1_ rfl) (g := (mkF m 12 #[.val (.ref a), .val (.int (0 : Int32)), .val (.ref b), .val (.int (0 : Int32)), .val (.int (2 : Int32)), .val (.int (0 : Int32)), .unset] [(.int (0 : Int32)), (.ref a)])) rfl rfl (hb hby d_jdk_52_method_21_12)) ?_
  show Runs p.tables e below _ (s₁.setTop (mkF m 13 #[.val (.ref a), .val (.int (0 : Int32)), .val (.ref b), .val (.int (0 : Int32)), .val (.int (2 : Int32)), .val (.int (0 : Int32)), .unset] [(.int c0)]))
  refine Runs.st (fun t' k' => XS.istore X0.here hx rfl (hb hby d_jdk_52_method_21_13) rfl (l' := #[.val (.ref a), .val (.int (0 : Int32)), .val (.ref b), .val (.int (0 : Int32)), .val (.int (2 : Int32)), .val (.int (0 : Int32)), .val (.int c0)]) rfl k') ?_
  refine Runs.st (fun t' k' => XS.iload X0.here hx rfl (hb hby d_jdk_52_method_21_15) rfl k') ?_
  refine Runs.st (fun t' k' => XS.sipush X0.here hx rfl (hb hby d_jdk_52_method_21_17) k') ?_
  refine Runs.st (fun t' k' => XS.icmpNo X0.here hx rfl (hb hby d_jdk_52_method_21_20) rfl (tlt u0).2.2.2 k') ?_
  show Runs p.tables e below _ (s₁.setTop (mkF m 23 #[.val (.ref a), .val (.int (0 : Int32)), .val (.ref b), .val (.int (0 : Int32)), .val (.int (2 : Int32)), .val (.int (0 : Int32)), .val (.int c0)] []))
  refine Runs.st (fun t' k' => XS.iload X0.here hx rfl (hb hby d_jdk_52_method_21_23) rfl k') ?_
  refine Runs.ret X0 hlk (v := (some (.int (0 : Int32)))) (fun h => by rw [hret] at h; cases h) (by decide) (by decide) ?_ (fun fs hr => retI X0 hx hret (hb hby d_jdk_52_method_21_25) hr)
  try rw [e0]
  exact ⟨rfl, N0, K⟩
def Q_rmGC2_0 (Z : State) (b : Addr) (w0 w1 w2 w3 : Int32) (k : ClassId) (r : Int32) (h0 : Heap) (n0 : Nat) : Option Value → Heap → List Loc → Prop := (fun v h L => v = some (.int r) ∧ Fr n0 L ∧ h = h0)
set_option maxRecDepth 65536 in
set_option maxHeartbeats 40000000 in
theorem rmGC2_0 (l : Launch) (Z : State) (a0 : Array Value) (hw : ∀ d ∈ tables_1, d.before a0 Z = true) (ws : List Jvm.Cond) (b : Addr) (w0 w1 w2 w3 : Int32) (k : ClassId) (r : Int32) (h0 : Heap) (n0 : Nat) (Z0 : n0 ≤ h0.size) (old : Old Z n0 h0) (Sa : Sta Z Z.heap "java/lang/StringUTF16" "$assertionsDisabled" "Z" (.int (1 : Int32))) (Sh : Sta Z Z.heap "java/lang/StringUTF16" "HI_BYTE_SHIFT" "I" (.int (0 : Int32))) (Sl : Sta Z Z.heap "java/lang/StringUTF16" "LO_BYTE_SHIFT" "I" (.int (8 : Int32))) (V_b : Arv Z h0 b k .byte (4 : Int32) [(.int w0), (.int w1), (.int w2), (.int w3)] (.int (0 : Int32))) (hr_ : r = nar .char ((((w0 &&& (255 : Int32)) <<< ((0 : Int32) &&& 31)) ||| ((w1 &&& (255 : Int32)) <<< ((8 : Int32) &&& 31))).toUInt32.toUInt16.toUInt32.toInt32)) :
    MetFree l (⟨"java/lang/StringUTF16", "getChar", "([BI)C"⟩ : MethodName) (head1 (Jvm.Cond.code (⟨"java/lang/StringUTF16", "getChar", "([BI)C"⟩ : MethodName) jdk_52_method_5_code 2 (some .char) :: ws) ({ frames := 0, cells := 0, slots := 0, locals := 0 } : Room)) (fun ar_ U => ar_ = #[(.ref b), (.int (0 : Int32))] ∧ Z.Warmed39 U.vm ∧ U.heap = h0) (fun _ _ _ _ _ => True) (fun _ U o U' => Phi U (Q_rmGC2_0 Z b w0 w1 w2 w3 k r h0 n0) ({ frames := 0, cells := 0, slots := 0, locals := 0 } : Room).cells ({ frames := 0, cells := 0, slots := 0, locals := 0 } : Room).slots o U') := by
  refine MetFree.of_bodySF (plainFor_of_name pn_java_lang_StringUTF16) hisR ?_
  intro p e s m args below meth c s₁ Bd hml0 hP hK
  obtain ⟨rfl, hZ, hh⟩ := hP
  have hx := Bd.exec
  have hby := Bd.bytes
  have hlk := Bd.notSynchronized
  have hml : c.maxLocals = 2 := hml0
  have hown : s.vm.findClass "java/lang/StringUTF16" = some m.cls := findClass_of_methodNamed Bd.named
  have hown0 := hown
  have hnm := (name_of_methodNamed Bd.named Bd.method).1
  have hret := Bd.returns
  have X0 : Stand p l e ({ frames := 0, cells := 0, slots := 0, locals := 0 } : Room) s m #[(.ref b), (.int (0 : Int32))] below meth c s₁ [] 0 0 := Stand.of_body Bd
  have e0 : s₁.heap = h0 := by rw [← hh, Bd.state]; rfl
  have N0 := Fr.nil n0
  have sz := Z0
  have K := Keep.refl h0 []
  show Runs p.tables e below (Phi s (Q_rmGC2_0 Z b w0 w1 w2 w3 k r h0 n0) ({ frames := 0, cells := 0, slots := 0, locals := 0 } : Room).cells ({ frames := 0, cells := 0, slots := 0, locals := 0 } : Room).slots) _
  refine Runs.st (fun t' k' => castTop (ef_jdk_52_method_5_RI m b (0 : Int32) ) k') ?_
  show Runs p.tables e below _ (s₁.setTop (mkF m 0 #[.val (.ref b), .val (.int (0 : Int32))] []))
  obtain ⟨T1_, X1_, e1_, st1_⟩ := getS2 X0 hx hZ hown (host := "") (Or.inl (hw _ (List.mem_of_getElem? (i := 80) rfl))) Via.refl e0 (Sa.ext old.2) (g := (mkF m 0 #[.val (.ref b), .val (.int (0 : Int32))] [])) rfl (hb hby d_jdk_52_method_5_0)
  refine Runs.st (st1_) ?_
  show Runs p.tables e below _ (T1_.setTop (mkF m 3 #[.val (.ref b), .val (.int (0 : Int32))] [(.int (1 : Int32))]))
  refine Runs.st (fun t' k' => XS.ifYes X1_.here hx rfl (pc0 := 3) (pc' := 28) rfl (hb hby d_jdk_52_method_5_3) rfl ((if0 _ _).trans (feq (by decide)).2) (by decide) (by decide) k') ?_
  show Runs p.tables e below _ (T1_.setTop (mkF m 28 #[.val (.ref b), .val (.int (0 : Int32))] []))
  refine Runs.st (fun t' k' => XS.iloadN X1_.here hx rfl (hb hby d_jdk_52_method_5_28) rfl k') ?_
  refine Runs.st (fun t' k' => XS.iconst X1_.here hx rfl (hb hby d_jdk_52_method_5_29) k') ?_
  refine Runs.st (fun t' k' => XS.ishl X1_.here hx rfl (hb hby d_jdk_52_method_5_30) rfl k') ?_
  show Runs p.tables e below _ (T1_.setTop (mkF m 31 #[.val (.ref b), .val (.int (0 : Int32))] [(.int ((0 : Int32) <<< ((1 : Int32) &&& 31)))]))
  rw [show ((0 : Int32) <<< ((1 : Int32) &&& 31)) = (0 : Int32) from rfl]
  show Runs p.tables e below _ (T1_.setTop (mkF m 31 #[.val (.ref b), .val (.int (0 : Int32))] [(.int (0 : Int32))]))
  refine Runs.st (fun t' k' => XS.istoreN X1_.here hx rfl (hb hby d_jdk_52_method_5_31) rfl (l' := #[.val (.ref b), .val (.int (0 : Int32))]) rfl k') ?_
  refine Runs.st (fun t' k' => XS.aloadN X1_.here hx rfl (hb hby d_jdk_52_method_5_32) rfl rfl k') ?_
  show Runs p.tables e below _ (T1_.setTop (mkF m 33 #[.val (.ref b), .val (.int (0 : Int32))] [(.ref b)]))
  refine Runs.st (fun t' k' => XS.iloadN X1_.here hx rfl (hb hby d_jdk_52_method_5_33) rfl k') ?_
  refine Runs.st (fun t' k' => XS.iinc X1_.here hx rfl (hb hby d_jdk_52_method_5_34) rfl (l' := #[.val (.ref b), .val (.int ((0 : Int32) + (1 : Int32)))]) rfl k') ?_
  show Runs p.tables e below _ (T1_.setTop (mkF m 37 #[.val (.ref b), .val (.int ((0 : Int32) + (1 : Int32)))] [(.int (0 : Int32)), (.ref b)]))
  rw [show ((0 : Int32) + (1 : Int32)) = (1 : Int32) from rfl]
  show Runs p.tables e below _ (T1_.setTop (mkF m 37 #[.val (.ref b), .val (.int (1 : Int32))] [(.int (0 : Int32)), (.ref b)]))
  obtain ⟨cl2_, Ar2_, -, S2_, M2_, Ha2_, -⟩ := id V_b
  have hin2_ : ¬ ((0 : Int32) < 0 ∨ cl2_.slots.size ≤ ((0 : Int32)).toNatClampNeg) := inb_of S2_ ⟨by decide, by decide⟩
  refine Runs.st (X1_.baloadBytes hx (j := (0 : Int32)) (v := (.int w0)) (by rw [e1_]; exact Ar2_.1) (State.isArrayOf_alike hZ.alike Ar2_.2.1) Ar2_.2.2 hin2_ (Ha2_.at hin2_ rfl) (g := (mkF m 37 #[.val (.ref b), .val (.int (1 : Int32))] [(.int (0 : Int32)), (.ref b)])) rfl rfl (hb hby d_jdk_52_method_5_37)) ?_
  show Runs p.tables e below _ (T1_.setTop (mkF m 38 #[.val (.ref b), .val (.int (1 : Int32))] [(.int w0)]))
  refine Runs.st (fun t' k' => XS.sipush X1_.here hx rfl (hb hby d_jdk_52_method_5_38) k') ?_
  refine Runs.st (fun t' k' => XS.iand X1_.here hx rfl (hb hby d_jdk_52_method_5_41) rfl k') ?_
  obtain ⟨T3_, X3_, e3_, st3_⟩ := getS2 X1_ hx hZ hown (host := "") (Or.inl (hw _ (List.mem_of_getElem? (i := 81) rfl))) Via.refl e1_ (Sh.ext old.2) (g := (mkF m 42 #[.val (.ref b), .val (.int (1 : Int32))] [(.int (w0 &&& (255 : Int32)))])) rfl (hb hby d_jdk_52_method_5_42)
  refine Runs.st (st3_) ?_
  show Runs p.tables e below _ (T3_.setTop (mkF m 45 #[.val (.ref b), .val (.int (1 : Int32))] [(.int (0 : Int32)), (.int (w0 &&& (255 : Int32)))]))
  refine Runs.st (fun t' k' => XS.ishl X3_.here hx rfl (hb hby d_jdk_52_method_5_45) rfl k') ?_
  refine Runs.st (fun t' k' => XS.aloadN X3_.here hx rfl (hb hby d_jdk_52_method_5_46) rfl rfl k') ?_
  refine Runs.st (fun t' k' => XS.iloadN X3_.here hx rfl (hb hby d_jdk_52_method_5_47) rfl k') ?_
  obtain ⟨cl4_, Ar4_, -, S4_, M4_, Ha4_, -⟩ := id V_b
  have hin4_ : ¬ ((1 : Int32) < 0 ∨ cl4_.slots.size ≤ ((1 : Int32)).toNatClampNeg) := inb_of S4_ ⟨by decide, by decide⟩
  refine Runs.st (X3_.baloadBytes hx (j := (1 : Int32)) (v := (.int w1)) (by rw [e3_]; exact Ar4_.1) (State.isArrayOf_alike hZ.alike Ar4_.2.1) Ar4_.2.2 hin4_ (Ha4_.at hin4_ rfl) (g := (mkF m 48 #[.val (.ref b), .val (.int (1 : Int32))] [(.int (1 : Int32)), (.ref b), (.int ((w0 &&& (255 : Int32)) <<< ((0 : Int32) &&& 31)))])) rfl rfl (hb hby d_jdk_52_method_5_48)) ?_
  show Runs p.tables e below _ (T3_.setTop (mkF m 49 #[.val (.ref b), .val (.int (1 : Int32))] [(.int w1), (.int ((w0 &&& (255 : Int32)) <<< ((0 : Int32) &&& 31)))]))
  refine Runs.st (fun t' k' => XS.sipush X3_.here hx rfl (hb hby d_jdk_52_method_5_49) k') ?_
  refine Runs.st (fun t' k' => XS.iand X3_.here hx rfl (hb hby d_jdk_52_method_5_52) rfl k') ?_
  obtain ⟨T5_, X5_, e5_, st5_⟩ := getS2 X3_ hx hZ hown (host := "") (Or.inl (hw _ (List.mem_of_getElem? (i := 82) rfl))) Via.refl e3_ (Sl.ext old.2) (g := (mkF m 53 #[.val (.ref b), .val (.int (1 : Int32))] [(.int (w1 &&& (255 : Int32))), (.int ((w0 &&& (255 : Int32)) <<< ((0 : Int32) &&& 31)))])) rfl (hb hby d_jdk_52_method_5_53)
  refine Runs.st (st5_) ?_
  show Runs p.tables e below _ (T5_.setTop (mkF m 56 #[.val (.ref b), .val (.int (1 : Int32))] [(.int (8 : Int32)), (.int (w1 &&& (255 : Int32))), (.int ((w0 &&& (255 : Int32)) <<< ((0 : Int32) &&& 31)))]))
  refine Runs.st (fun t' k' => XS.ishl X5_.here hx rfl (hb hby d_jdk_52_method_5_56) rfl k') ?_
  refine Runs.st (fun t' k' => XS.ior X5_.here hx rfl (hb hby d_jdk_52_method_5_57) rfl k') ?_
  refine Runs.st (fun t' k' => XS.i2c X5_.here hx rfl (hb hby d_jdk_52_method_5_58) rfl k') ?_
  refine Runs.ret X5_ hlk (v := (some (.int (nar .char ((((w0 &&& (255 : Int32)) <<< ((0 : Int32) &&& 31)) ||| ((w1 &&& (255 : Int32)) <<< ((8 : Int32) &&& 31))).toUInt32.toUInt16.toUInt32.toInt32))))) (fun h => by rw [hret] at h; cases h) (by decide) (by decide) ?_ (fun fs hr => retN X5_ hx (t := .char) hret (by simp) (hb hby d_jdk_52_method_5_59) hr)
  try rw [e5_]
  exact ⟨congrArg (fun z => some (Value.int z)) hr_.symm, N0, rfl⟩
def Q_rmCW2_0 (Z : State) (a : Addr) (c0 c1 : Int32) (k1 : ClassId) (h0 : Heap) (n0 : Nat) : Option Value → Heap → List Loc → Prop := (fun v h L => ∃ b k2, v = some (.ref b) ∧ Fr n0 L ∧ Keep h0 h [] ∧ h0.size ≤ b ∧ Arv Z h b k2 .byte (4 : Int32) [(.int (nar .byte ((c0 >>> ((0 : Int32) &&& 31)).toInt8.toInt32))), (.int (nar .byte ((c0 >>> ((8 : Int32) &&& 31)).toInt8.toInt32))), (.int (nar .byte ((c1 >>> ((0 : Int32) &&& 31)).toInt8.toInt32))), (.int (nar .byte ((c1 >>> ((8 : Int32) &&& 31)).toInt8.toInt32)))] (.int (0 : Int32)))
set_option maxRecDepth 65536 in
set_option maxHeartbeats 40000000 in
theorem rmCW2_0 (l : Launch) (Z : State) (a0 : Array Value) (hw : ∀ d ∈ tables_1, d.before a0 Z = true) (ws : List Jvm.Cond) (a : Addr) (c0 c1 : Int32) (k1 : ClassId) (h0 : Heap) (n0 : Nat) (Z0 : n0 ≤ h0.size) (old : Old Z n0 h0) (Sa : Sta Z Z.heap "java/lang/StringUTF16" "$assertionsDisabled" "Z" (.int (1 : Int32))) (Sh : Sta Z Z.heap "java/lang/StringUTF16" "HI_BYTE_SHIFT" "I" (.int (0 : Int32))) (Sl : Sta Z Z.heap "java/lang/StringUTF16" "LO_BYTE_SHIFT" "I" (.int (8 : Int32))) (V_a : Arv Z h0 a k1 .char (2 : Int32) [(.int c0), (.int c1)] (.int (0 : Int32)))  (u0 : (255 : Int32) < c0) (rg : 0 ≤ c0.toInt ∧ c0.toInt ≤ 65535) :
    MetFree l (⟨"java/lang/StringUTF16", "compress", "([CII)[B"⟩ : MethodName) (head1 (Jvm.Cond.code (⟨"java/lang/StringUTF16", "compress", "([CII)[B"⟩ : MethodName) jdk_52_method_16_code 6 (some (.array .byte)) :: ws) ({ frames := 3, cells := 2, slots := 6, locals := 41 } : Room)) (fun ar_ U => ar_ = #[(.ref a), (.int (0 : Int32)), (.int (2 : Int32))] ∧ Z.Warmed39 U.vm ∧ U.heap = h0) (fun _ _ _ _ _ => True) (fun _ U o U' => Phi U (Q_rmCW2_0 Z a c0 c1 k1 h0 n0) ({ frames := 3, cells := 2, slots := 6, locals := 41 } : Room).cells ({ frames := 3, cells := 2, slots := 6, locals := 41 } : Room).slots o U') := by
  refine MetFree.of_bodySF (plainFor_of_name pn_java_lang_StringUTF16) hisR ?_
  intro p e s m args below meth c s₁ Bd hml0 hP hK
  obtain ⟨rfl, hZ, hh⟩ := hP
  have hx := Bd.exec
  have hby := Bd.bytes
  have hlk := Bd.notSynchronized
  have hml : c.maxLocals = 6 := hml0
  have hown : s.vm.findClass "java/lang/StringUTF16" = some m.cls := findClass_of_methodNamed Bd.named
  have hown0 := hown
  have hnm := (name_of_methodNamed Bd.named Bd.method).1
  have hret := Bd.returns
  have X0 : Stand p l e ({ frames := 3, cells := 2, slots := 6, locals := 41 } : Room) s m #[(.ref a), (.int (0 : Int32)), (.int (2 : Int32))] below meth c s₁ [] 0 0 := Stand.of_body Bd
  have e0 : s₁.heap = h0 := by rw [← hh, Bd.state]; rfl
  have N0 := Fr.nil n0
  have sz := Z0
  have K := Keep.refl h0 []
  show Runs p.tables e below (Phi s (Q_rmCW2_0 Z a c0 c1 k1 h0 n0) ({ frames := 3, cells := 2, slots := 6, locals := 41 } : Room).cells ({ frames := 3, cells := 2, slots := 6, locals := 41 } : Room).slots) _
  refine Runs.st (fun t' k' => castTop (ef_jdk_52_method_16_RII m a (0 : Int32) (2 : Int32) ) k') ?_
  show Runs p.tables e below _ (s₁.setTop (mkF m 0 #[.val (.ref a), .val (.int (0 : Int32)), .val (.int (2 : Int32)), .unset, .unset, .unset] []))
  refine Runs.st (fun t' k' => XS.iloadN X0.here hx rfl (hb hby d_jdk_52_method_16_0) rfl k') ?_
  obtain ⟨T1_, h1_, k1_, X1_, e1_, E1_, A1_, st1_⟩ := newP X0 hx hZ (hw _ (List.mem_of_getElem? (i := 20) rfl)) e0 (g := (mkF m 1 #[.val (.ref a), .val (.int (0 : Int32)), .val (.int (2 : Int32)), .unset, .unset, .unset] [(.int (2 : Int32))])) rfl (hb hby d_jdk_52_method_16_1) rfl (by decide) (cap := 2) (by decide) (by decide) (by decide) (by decide)
  refine Runs.st (st1_) ?_
  obtain ⟨d, g1_⟩ : ∃ z, z = h0.size := ⟨_, rfl⟩
  rw [← g1_] at A1_
  try rw [← g1_]
  have g_d : n0 ≤ d := Nat.le_trans sz (Nat.le_of_eq g1_.symm)
  have sz_d : h0.size ≤ d := Nat.le_trans K.1 (Nat.le_of_eq g1_.symm)
  have ne_a_d : a ≠ d := Nat.ne_of_lt (Nat.lt_of_lt_of_le V_a.lt (Nat.le_of_eq g1_.symm))
  replace old := old.ext E1_
  replace V_a := V_a.ext E1_
  replace sz := Nat.le_trans sz E1_.1
  replace K := K.ext E1_
  have V_d : Arv Z h1_ d k1_ .byte (2 : Int32) [(.int (0 : Int32)), (.int (0 : Int32))] (.int (0 : Int32)) := (Arv.new A1_ (by decide)).pad (pad_rep [] (.int (0 : Int32)) 2)
  show Runs p.tables e below _ (T1_.setTop (mkF m 3 #[.val (.ref a), .val (.int (0 : Int32)), .val (.int (2 : Int32)), .unset, .unset, .unset] [(.ref d)]))
  refine Runs.st (fun t' k' => XS.astoreN X1_.here hx rfl (hb hby d_jdk_52_method_16_3) rfl rfl (l' := #[.val (.ref a), .val (.int (0 : Int32)), .val (.int (2 : Int32)), .val (.ref d), .unset, .unset]) rfl k') ?_
  refine Runs.st (fun t' k' => XS.aloadN X1_.here hx rfl (hb hby d_jdk_52_method_16_4) rfl rfl k') ?_
  refine Runs.st (fun t' k' => XS.iloadN X1_.here hx rfl (hb hby d_jdk_52_method_16_5) rfl k') ?_
  refine Runs.st (fun t' k' => XS.aloadN X1_.here hx rfl (hb hby d_jdk_52_method_16_6) rfl rfl k') ?_
  refine Runs.st (fun t' k' => XS.iconst X1_.here hx rfl (hb hby d_jdk_52_method_16_7) k') ?_
  show Runs p.tables e below _ (T1_.setTop (mkF m 8 #[.val (.ref a), .val (.int (0 : Int32)), .val (.int (2 : Int32)), .val (.ref d), .unset, .unset] [(.int (0 : Int32)), (.ref d), (.int (0 : Int32)), (.ref a)]))
  refine Runs.st (fun t' k' => XS.iloadN X1_.here hx rfl (hb hby d_jdk_52_method_16_8) rfl k') ?_
  obtain ⟨_, _, ⟨T2_, L2_, k2_, n2_⟩, -, X2_, ⟨Lc2_, hQ2_, l2_, y2_, z2_⟩, st2_⟩ := Jvm.LawKit.callS X1_ hx (y := (⟨"java/lang/StringUTF16", "compress", "([CI[BII)I"⟩ : MethodName)) hown (mvT hZ (hw _ (List.mem_of_getElem? (i := 59) rfl))) (mvT hZ (hw _ (List.mem_of_getElem? (i := 60) rfl))) (mvT hZ (hw _ (List.mem_of_getElem? (i := 57) rfl))) (mvT hZ (hw _ (List.mem_of_getElem? (i := 61) rfl))) (by decide) (backOf (W := 0) (rmCV2_0 l Z a0 hw [] a d c0 c1 k1 _ h1_ n0 sz V_a V_d ne_a_d g_d u0) hZ (hw _ (List.mem_of_getElem? (i := 61) rfl)) (hw _ (List.mem_of_getElem? (i := 57) rfl)) (by decide) (by decide)) (g := (mkF m 9 #[.val (.ref a), .val (.int (0 : Int32)), .val (.int (2 : Int32)), .val (.ref d), .unset, .unset] [(.int (2 : Int32)), (.int (0 : Int32)), (.ref d), (.int (0 : Int32)), (.ref a)])) rfl (by rw [hml]; rfl) (argsL := [(.ref a), (.int (0 : Int32)), (.ref d), (.int (0 : Int32)), (.int (2 : Int32))]) (rest := []) (lenOf pd__28_5bCI_5bBII_29I rfl) rfl (by show 2 * 0 + _ ≤ _; exact Nat.le_of_eq rfl) (hb hby d_jdk_52_method_16_9) (fun _ _ => ⟨rfl, e1_, (by decide : 1 + 0 ≤ _), (by decide : 2 + 0 ≤ _)⟩)
  dsimp only [Pt.U, Pt.locs, Pt.cells, Pt.slots] at X2_ l2_ y2_ z2_ st2_ hQ2_
  subst l2_ y2_ z2_
  obtain ⟨rfl, N2_q, K2_⟩ := hQ2_
  have N2_ := Fr.app N0 N2_q
  refine Runs.st (st2_) ?_
  replace X2_ := wider X2_ (c' := 1) (s' := 2) (by decide) (by decide)
  replace old := old.keep K2_ (allS g_d all0)
  replace V_a := V_a.keep K2_ (ninS ne_a_d nin0)
  replace sz := Nat.le_trans sz K2_.1
  replace K := K.trans K2_ (allS (Or.inr sz_d) all0)
  show Runs p.tables e below _ (T2_.setTop (mkF m 12 #[.val (.ref a), .val (.int (0 : Int32)), .val (.int (2 : Int32)), .val (.ref d), .unset, .unset] [(.int (0 : Int32))]))
  refine Runs.st (fun t' k' => XS.istore X2_.here hx rfl (hb hby d_jdk_52_method_16_12) rfl (l' := #[.val (.ref a), .val (.int (0 : Int32)), .val (.int (2 : Int32)), .val (.ref d), .val (.int (0 : Int32)), .unset]) rfl k') ?_
  refine Runs.st (fun t' k' => XS.iload X2_.here hx rfl (hb hby d_jdk_52_method_16_14) rfl k') ?_
  refine Runs.st (fun t' k' => XS.iloadN X2_.here hx rfl (hb hby d_jdk_52_method_16_16) rfl k') ?_
  refine Runs.st (fun t' k' => XS.icmpNo X2_.here hx rfl (hb hby d_jdk_52_method_16_17) rfl (feq (by decide)).1 k') ?_
  show Runs p.tables e below _ (T2_.setTop (mkF m 20 #[.val (.ref a), .val (.int (0 : Int32)), .val (.int (2 : Int32)), .val (.ref d), .val (.int (0 : Int32)), .unset] []))
  refine Runs.st (fun t' k' => XS.aloadN X2_.here hx rfl (hb hby d_jdk_52_method_16_20) rfl rfl k') ?_
  refine Runs.st (fun t' k' => XS.iloadN X2_.here hx rfl (hb hby d_jdk_52_method_16_21) rfl k') ?_
  refine Runs.st (fun t' k' => XS.iloadN X2_.here hx rfl (hb hby d_jdk_52_method_16_22) rfl k') ?_
  have kz3_ := K.1
  have gz3_ := sz
  have lt3__a := V_a.lt
  obtain ⟨_, _, ⟨T3_, L3_, k3_, n3_⟩, -, X3_, ⟨Lc3_, hQ3_, l3_, y3_, z3_⟩, st3_⟩ := Jvm.LawKit.callS X2_ hx (y := (⟨"java/lang/StringUTF16", "toBytes", "([CII)[B"⟩ : MethodName)) hown (mvT hZ (hw _ (List.mem_of_getElem? (i := 67) rfl))) (mvT hZ (hw _ (List.mem_of_getElem? (i := 68) rfl))) (mvT hZ (hw _ (List.mem_of_getElem? (i := 57) rfl))) (mvT hZ (hw _ (List.mem_of_getElem? (i := 69) rfl))) (by decide) (backOf (W := 0) (rmTU2 l Z a0 hw [] a c0 c1 k1 T2_.heap n0 sz old Sa Sh Sl V_a) hZ (hw _ (List.mem_of_getElem? (i := 69) rfl)) (hw _ (List.mem_of_getElem? (i := 57) rfl)) (by decide) (by decide)) (g := (mkF m 23 #[.val (.ref a), .val (.int (0 : Int32)), .val (.int (2 : Int32)), .val (.ref d), .val (.int (0 : Int32)), .unset] [(.int (2 : Int32)), (.int (0 : Int32)), (.ref a)])) rfl (by rw [hml]; rfl) (argsL := [(.ref a), (.int (0 : Int32)), (.int (2 : Int32))]) (rest := []) (lenOf pd__28_5bCII_29_5bB rfl) rfl (by show 2 * 0 + _ ≤ _; exact Nat.le_of_eq rfl) (hb hby d_jdk_52_method_16_23) (fun _ _ => ⟨rfl, rfl, (by decide : 1 + 1 ≤ _), (by decide : 2 + 4 ≤ _)⟩)
  dsimp only [Pt.U, Pt.locs, Pt.cells, Pt.slots] at X3_ l3_ y3_ z3_ st3_ hQ3_
  subst l3_ y3_ z3_
  obtain ⟨b, kb, rfl, N3_q, K3_, szb, V_b⟩ := hQ3_
  have N3_ := Fr.app N2_ N3_q
  refine Runs.st (st3_) ?_
  replace X3_ := wider X3_ (c' := 2) (s' := 6) (by decide) (by decide)
  replace old := old.keep K3_ all0
  replace V_a := V_a.keep K3_ nin0
  replace sz := Nat.le_trans sz K3_.1
  replace K := K.trans K3_ all0
  have sz_b : h0.size ≤ b := Nat.le_trans kz3_ szb
  have g_b : n0 ≤ b := Nat.le_trans gz3_ szb
  have ne_a_b : a ≠ b := Nat.ne_of_lt (Nat.lt_of_lt_of_le lt3__a szb)
  show Runs p.tables e below _ (T3_.setTop (mkF m 26 #[.val (.ref a), .val (.int (0 : Int32)), .val (.int (2 : Int32)), .val (.ref d), .val (.int (0 : Int32)), .unset] [(.ref b)]))
  refine Runs.st (fun t' k' => XS.astore X3_.here hx rfl (hb hby d_jdk_52_method_16_26) rfl rfl (l' := #[.val (.ref a), .val (.int (0 : Int32)), .val (.int (2 : Int32)), .val (.ref d), .val (.int (0 : Int32)), .val (.ref b)]) rfl k') ?_
  refine Runs.st (fun t' k' => XS.aload X3_.here hx rfl (hb hby d_jdk_52_method_16_28) rfl rfl k') ?_
  refine Runs.st (fun t' k' => XS.iload X3_.here hx rfl (hb hby d_jdk_52_method_16_30) rfl k') ?_
  obtain ⟨_, _, ⟨T4_, L4_, k4_, n4_⟩, -, X4_, ⟨Lc4_, hQ4_, l4_, y4_, z4_⟩, st4_⟩ := Jvm.LawKit.callS X3_ hx (y := (⟨"java/lang/StringUTF16", "getChar", "([BI)C"⟩ : MethodName)) hown (mvT hZ (hw _ (List.mem_of_getElem? (i := 83) rfl))) (mvT hZ (hw _ (List.mem_of_getElem? (i := 84) rfl))) (mvT hZ (hw _ (List.mem_of_getElem? (i := 57) rfl))) (mvT hZ (hw _ (List.mem_of_getElem? (i := 85) rfl))) (by decide) (backOf (W := 0) (rmGC2_0 l Z a0 hw [] b (nar .byte ((c0 >>> ((0 : Int32) &&& 31)).toInt8.toInt32)) (nar .byte ((c0 >>> ((8 : Int32) &&& 31)).toInt8.toInt32)) (nar .byte ((c1 >>> ((0 : Int32) &&& 31)).toInt8.toInt32)) (nar .byte ((c1 >>> ((8 : Int32) &&& 31)).toInt8.toInt32)) kb c0 T3_.heap n0 sz old Sa Sh Sl V_b (own_gc _ rg)) hZ (hw _ (List.mem_of_getElem? (i := 85) rfl)) (hw _ (List.mem_of_getElem? (i := 57) rfl)) (by decide) (by decide)) (g := (mkF m 32 #[.val (.ref a), .val (.int (0 : Int32)), .val (.int (2 : Int32)), .val (.ref d), .val (.int (0 : Int32)), .val (.ref b)] [(.int (0 : Int32)), (.ref b)])) rfl (by rw [hml]; rfl) (argsL := [(.ref b), (.int (0 : Int32))]) (rest := []) (lenOf pd__28_5bBI_29C rfl) rfl (by show 2 * 0 + _ ≤ _; exact Nat.le_of_eq rfl) (hb hby d_jdk_52_method_16_32) (fun _ _ => ⟨rfl, rfl, (by decide : 2 + 0 ≤ _), (by decide : 6 + 0 ≤ _)⟩)
  dsimp only [Pt.U, Pt.locs, Pt.cells, Pt.slots] at X4_ l4_ y4_ z4_ st4_ hQ4_
  subst l4_ y4_ z4_
  obtain ⟨rfl, N4_q, e4_⟩ := hQ4_
  have N4_ := Fr.app N3_ N4_q
  refine Runs.st (st4_) ?_
  replace X4_ := wider X4_ (c' := 2) (s' := 6) (by decide) (by decide)
  show Runs p.tables e below _ (T4_.setTop (mkF m 35 #[.val (.ref a), .val (.int (0 : Int32)), .val (.int (2 : Int32)), .val (.ref d), .val (.int (0 : Int32)), .val (.ref b)] [(.int c0)]))
  refine Runs.st (fun t' k' => XS.sipush X4_.here hx rfl (hb hby d_jdk_52_method_16_35) k') ?_
  refine Runs.st (fun t' k' => XS.icmpYes X4_.here hx rfl (pc0 := 38) (pc' := 54) rfl (hb hby d_jdk_52_method_16_38) rfl (tlt u0).2.2.1 (by decide) (by decide) k') ?_
  show Runs p.tables e below _ (T4_.setTop (mkF m 54 #[.val (.ref a), .val (.int (0 : Int32)), .val (.int (2 : Int32)), .val (.ref d), .val (.int (0 : Int32)), .val (.ref b)] []))
  refine Runs.st (fun t' k' => XS.aload X4_.here hx rfl (hb hby d_jdk_52_method_16_54) rfl rfl k') ?_
  refine Runs.ret X4_ hlk (v := (some (.ref b))) (fun h => by rw [hret] at h; cases h) (by decide) (by decide) ?_ (fun fs hr => retOut X4_ hx hret rfl (Or.inr (Or.inr (Or.inr (Or.inr ⟨rfl, rfl, rfl⟩)))) (hb hby d_jdk_52_method_16_56) hr)
  try rw [e4_]
  exact ⟨b, kb, rfl, N4_, K, sz_b, V_b⟩
def Q_rmIV2_0 (Z : State) (a : Addr) (d : Addr) (c0 c1 : Int32) (k1 : ClassId) (zc : Int32) (h0 : Heap) (n0 : Nat) : Option Value → Heap → List Loc → Prop := (fun v h L => v = none ∧ Fr n0 L ∧ Keep h0 h [a] ∧ Exa Z h a "java/lang/String" ∧ Fld Z h a "java/lang/String" "coder" "B" (.int (1 : Int32)) ∧ ∃ b k2, h0.size ≤ b ∧ Fld Z h a "java/lang/String" "value" "[B" (.ref b) ∧ Arv Z h b k2 .byte (4 : Int32) [(.int (nar .byte ((c0 >>> ((0 : Int32) &&& 31)).toInt8.toInt32))), (.int (nar .byte ((c0 >>> ((8 : Int32) &&& 31)).toInt8.toInt32))), (.int (nar .byte ((c1 >>> ((0 : Int32) &&& 31)).toInt8.toInt32))), (.int (nar .byte ((c1 >>> ((8 : Int32) &&& 31)).toInt8.toInt32)))] (.int (0 : Int32)))
set_option maxRecDepth 65536 in
set_option maxHeartbeats 40000000 in
theorem rmIV2_0 (l : Launch) (Z : State) (a0 : Array Value) (hw : ∀ d ∈ tables_1, d.before a0 Z = true) (ws : List Jvm.Cond) (a : Addr) (d : Addr) (c0 c1 : Int32) (k1 : ClassId) (zc : Int32) (h0 : Heap) (n0 : Nat) (Z0 : n0 ≤ h0.size) (old : Old Z n0 h0) (Sa : Sta Z Z.heap "java/lang/StringUTF16" "$assertionsDisabled" "Z" (.int (1 : Int32))) (Sh : Sta Z Z.heap "java/lang/StringUTF16" "HI_BYTE_SHIFT" "I" (.int (0 : Int32))) (Sl : Sta Z Z.heap "java/lang/StringUTF16" "LO_BYTE_SHIFT" "I" (.int (8 : Int32))) (E_a : Exa Z h0 a "java/lang/String") (F_v : Fld Z h0 a "java/lang/String" "value" "[B" .null) (F_c : Fld Z h0 a "java/lang/String" "coder" "B" (.int (0 : Int32))) (g_a : n0 ≤ a) (V_d : Arv Z h0 d k1 .char (2 : Int32) [(.int c0), (.int c1)] (.int (0 : Int32))) (Sc : Sta Z Z.heap "java/lang/String" "COMPACT_STRINGS" "Z" (.int zc)) (hzc : ¬ zc = 0)  (u0 : (255 : Int32) < c0) (rg : 0 ≤ c0.toInt ∧ c0.toInt ≤ 65535) :
    MetFree l (⟨"java/lang/String", "<init>", "([CIILjava/lang/Void;)V"⟩ : MethodName) (head1 (Jvm.Cond.code (⟨"java/lang/String", "<init>", "([CIILjava/lang/Void;)V"⟩ : MethodName) jdk_42_method_149_code 6 none :: ws) ({ frames := 4, cells := 2, slots := 6, locals := 58 } : Room)) (fun ar_ U => ar_ = #[(.ref a), (.ref d), (.int (0 : Int32)), (.int (2 : Int32)), .null] ∧ Z.Warmed39 U.vm ∧ U.heap = h0) (fun _ _ _ _ _ => True) (fun _ U o U' => Phi U (Q_rmIV2_0 Z a d c0 c1 k1 zc h0 n0) ({ frames := 4, cells := 2, slots := 6, locals := 58 } : Room).cells ({ frames := 4, cells := 2, slots := 6, locals := 58 } : Room).slots o U') := by
  refine MetFree.of_bodySF (plainFor_of_name pn_java_lang_String) hisR ?_
  intro p e s m args below meth c s₁ Bd hml0 hP hK
  obtain ⟨rfl, hZ, hh⟩ := hP
  have hx := Bd.exec
  have hby := Bd.bytes
  have hlk := Bd.notSynchronized
  have hml : c.maxLocals = 6 := hml0
  have hown : s.vm.findClass "java/lang/String" = some m.cls := findClass_of_methodNamed Bd.named
  have hown0 := hown
  have hnm := (name_of_methodNamed Bd.named Bd.method).1
  have hret := Bd.returns
  have X0 : Stand p l e ({ frames := 4, cells := 2, slots := 6, locals := 58 } : Room) s m #[(.ref a), (.ref d), (.int (0 : Int32)), (.int (2 : Int32)), .null] below meth c s₁ [] 0 0 := Stand.of_body Bd
  have e0 : s₁.heap = h0 := by rw [← hh, Bd.state]; rfl
  have N0 := Fr.nil n0
  have sz := Z0
  have K := Keep.refl h0 [a]
  show Runs p.tables e below (Phi s (Q_rmIV2_0 Z a d c0 c1 k1 zc h0 n0) ({ frames := 4, cells := 2, slots := 6, locals := 58 } : Room).cells ({ frames := 4, cells := 2, slots := 6, locals := 58 } : Room).slots) _
  refine Runs.st (fun t' k' => castTop (ef_jdk_42_method_149_RRIIN m a d (0 : Int32) (2 : Int32) ) k') ?_
  show Runs p.tables e below _ (s₁.setTop (mkF m 0 #[.val (.ref a), .val (.ref d), .val (.int (0 : Int32)), .val (.int (2 : Int32)), .val .null, .unset] []))
  refine Runs.st (fun t' k' => XS.aloadN X0.here hx rfl (hb hby d_jdk_42_method_149_0) rfl rfl k') ?_
  obtain ⟨T1_, X1_, e1_, st1_⟩ := initO X0 hx hZ hown (hw _ (List.mem_of_getElem? (i := 16) rfl)) (hw _ (List.mem_of_getElem? (i := 17) rfl)) (hw _ (List.mem_of_getElem? (i := 18) rfl)) e0 (g := (mkF m 1 #[.val (.ref a), .val (.ref d), .val (.int (0 : Int32)), .val (.int (2 : Int32)), .val .null, .unset] [(.ref a)])) rfl (by rw [hml]; rfl) rfl (hb hby d_jdk_42_method_149_1) (by decide) (W := 0) (by show 2 * 0 + _ ≤ _; exact Nat.le_of_eq rfl) (by decide)
  refine Runs.st (st1_) ?_
  show Runs p.tables e below _ (T1_.setTop (mkF m 4 #[.val (.ref a), .val (.ref d), .val (.int (0 : Int32)), .val (.int (2 : Int32)), .val .null, .unset] []))
  refine Runs.st (fun t' k' => XS.iloadN X1_.here hx rfl (hb hby d_jdk_42_method_149_4) rfl k') ?_
  refine Runs.st (fun t' k' => XS.ifYes X1_.here hx rfl (pc0 := 5) (pc' := 27) rfl (hb hby d_jdk_42_method_149_5) rfl ((if0 _ _).trans (feq (by decide)).2) (by decide) (by decide) k') ?_
  show Runs p.tables e below _ (T1_.setTop (mkF m 27 #[.val (.ref a), .val (.ref d), .val (.int (0 : Int32)), .val (.int (2 : Int32)), .val .null, .unset] []))
  obtain ⟨T2_, X2_, e2_, st2_⟩ := getS2 X1_ hx hZ hown (host := "") (Or.inl (hw _ (List.mem_of_getElem? (i := 54) rfl))) Via.refl e1_ (Sc.ext old.2) (g := (mkF m 27 #[.val (.ref a), .val (.ref d), .val (.int (0 : Int32)), .val (.int (2 : Int32)), .val .null, .unset] [])) rfl (hb hby d_jdk_42_method_149_27)
  refine Runs.st (st2_) ?_
  show Runs p.tables e below _ (T2_.setTop (mkF m 30 #[.val (.ref a), .val (.ref d), .val (.int (0 : Int32)), .val (.int (2 : Int32)), .val .null, .unset] [(.int zc)]))
  refine Runs.st (fun t' k' => XS.ifNo X2_.here hx rfl (hb hby d_jdk_42_method_149_30) rfl ((if0 _ _).trans (feq hzc).1) k') ?_
  show Runs p.tables e below _ (T2_.setTop (mkF m 33 #[.val (.ref a), .val (.ref d), .val (.int (0 : Int32)), .val (.int (2 : Int32)), .val .null, .unset] []))
  refine Runs.st (fun t' k' => XS.aloadN X2_.here hx rfl (hb hby d_jdk_42_method_149_33) rfl rfl k') ?_
  refine Runs.st (fun t' k' => XS.iloadN X2_.here hx rfl (hb hby d_jdk_42_method_149_34) rfl k') ?_
  refine Runs.st (fun t' k' => XS.iloadN X2_.here hx rfl (hb hby d_jdk_42_method_149_35) rfl k') ?_
  have kz3_ := K.1
  have gz3_ := sz
  have lt3__a := E_a.lt
  have lt3__d := V_d.lt
  obtain ⟨_, _, ⟨T3_, L3_, k3_, n3_⟩, -, X3_, ⟨Lc3_, hQ3_, l3_, y3_, z3_⟩, st3_⟩ := Jvm.LawKit.callS X2_ hx (y := (⟨"java/lang/StringUTF16", "compress", "([CII)[B"⟩ : MethodName)) hown (mvT hZ (hw _ (List.mem_of_getElem? (i := 55) rfl))) (mvT hZ (hw _ (List.mem_of_getElem? (i := 56) rfl))) (mvT hZ (hw _ (List.mem_of_getElem? (i := 57) rfl))) (mvT hZ (hw _ (List.mem_of_getElem? (i := 58) rfl))) (by decide) (backOf (W := 0) (rmCW2_0 l Z a0 hw [] d c0 c1 k1 h0 n0 sz old Sa Sh Sl V_d u0 rg) hZ (hw _ (List.mem_of_getElem? (i := 58) rfl)) (hw _ (List.mem_of_getElem? (i := 57) rfl)) (by decide) (by decide)) (g := (mkF m 36 #[.val (.ref a), .val (.ref d), .val (.int (0 : Int32)), .val (.int (2 : Int32)), .val .null, .unset] [(.int (2 : Int32)), (.int (0 : Int32)), (.ref d)])) rfl (by rw [hml]; rfl) (argsL := [(.ref d), (.int (0 : Int32)), (.int (2 : Int32))]) (rest := []) (lenOf pd__28_5bCII_29_5bB rfl) rfl (by show 2 * 0 + _ ≤ _; exact Nat.le_of_eq rfl) (hb hby d_jdk_42_method_149_36) (fun _ _ => ⟨rfl, e2_, (by decide : 0 + 2 ≤ _), (by decide : 0 + 6 ≤ _)⟩)
  dsimp only [Pt.U, Pt.locs, Pt.cells, Pt.slots] at X3_ l3_ y3_ z3_ st3_ hQ3_
  subst l3_ y3_ z3_
  obtain ⟨b, k2, rfl, N3_q, K3_, szb, V_b⟩ := hQ3_
  have N3_ := Fr.app N0 N3_q
  refine Runs.st (st3_) ?_
  replace X3_ := wider X3_ (c' := 2) (s' := 6) (by decide) (by decide)
  replace old := old.keep K3_ all0
  replace E_a := E_a.keep K3_
  replace F_v := F_v.keep K3_ nin0
  replace F_c := F_c.keep K3_ nin0
  replace V_d := V_d.keep K3_ nin0
  replace sz := Nat.le_trans sz K3_.1
  replace K := K.trans K3_ all0
  have sz_b : h0.size ≤ b := Nat.le_trans kz3_ szb
  have g_b : n0 ≤ b := Nat.le_trans gz3_ szb
  have ne_a_b : a ≠ b := Nat.ne_of_lt (Nat.lt_of_lt_of_le lt3__a szb)
  have ne_d_b : d ≠ b := Nat.ne_of_lt (Nat.lt_of_lt_of_le lt3__d szb)
  show Runs p.tables e below _ (T3_.setTop (mkF m 39 #[.val (.ref a), .val (.ref d), .val (.int (0 : Int32)), .val (.int (2 : Int32)), .val .null, .unset] [(.ref b)]))
  refine Runs.st (fun t' k' => XS.astore X3_.here hx rfl (hb hby d_jdk_42_method_149_39) rfl rfl (l' := #[.val (.ref a), .val (.ref d), .val (.int (0 : Int32)), .val (.int (2 : Int32)), .val .null, .val (.ref b)]) rfl k') ?_
  refine Runs.st (fun t' k' => XS.aloadN X3_.here hx rfl (hb hby d_jdk_42_method_149_41) rfl rfl k') ?_
  refine Runs.st (fun t' k' => XS.aload X3_.here hx rfl (hb hby d_jdk_42_method_149_42) rfl rfl k') ?_
  refine Runs.st (fun t' k' => XS.iloadN X3_.here hx rfl (hb hby d_jdk_42_method_149_44) rfl k') ?_
  obtain ⟨_, _, ⟨T4_, L4_, k4_, n4_⟩, -, X4_, ⟨Lc4_, hQ4_, l4_, y4_, z4_⟩, st4_⟩ := Jvm.LawKit.callS X3_ hx (y := (⟨"java/lang/StringUTF16", "coderFromArrayLen", "([BI)B"⟩ : MethodName)) hown (mvT hZ (hw _ (List.mem_of_getElem? (i := 62) rfl))) (mvT hZ (hw _ (List.mem_of_getElem? (i := 63) rfl))) (mvT hZ (hw _ (List.mem_of_getElem? (i := 57) rfl))) (mvT hZ (hw _ (List.mem_of_getElem? (i := 64) rfl))) (by decide) (backOf (W := 1) (rmCU2 l Z a0 hw [] b k2 _ T3_.heap n0 sz V_b) hZ (hw _ (List.mem_of_getElem? (i := 64) rfl)) (hw _ (List.mem_of_getElem? (i := 57) rfl)) (by decide) (by decide)) (g := (mkF m 45 #[.val (.ref a), .val (.ref d), .val (.int (0 : Int32)), .val (.int (2 : Int32)), .val .null, .val (.ref b)] [(.int (2 : Int32)), (.ref b), (.ref a)])) rfl (by rw [hml]; rfl) (argsL := [(.ref b), (.int (2 : Int32))]) (rest := [(.ref a)]) (lenOf pd__28_5bBI_29B rfl) rfl (by show 2 * 0 + _ ≤ _; exact Nat.le_of_eq rfl) (hb hby d_jdk_42_method_149_45) (fun _ _ => ⟨rfl, rfl, (by decide : 2 + 0 ≤ _), (by decide : 6 + 0 ≤ _)⟩)
  dsimp only [Pt.U, Pt.locs, Pt.cells, Pt.slots] at X4_ l4_ y4_ z4_ st4_ hQ4_
  subst l4_ y4_ z4_
  obtain ⟨rfl, N4_q, e4_⟩ := hQ4_
  have N4_ := Fr.app N3_ N4_q
  refine Runs.st (st4_) ?_
  replace X4_ := wider X4_ (c' := 2) (s' := 6) (by decide) (by decide)
  show Runs p.tables e below _ (T4_.setTop (mkF m 48 #[.val (.ref a), .val (.ref d), .val (.int (0 : Int32)), .val (.int (2 : Int32)), .val .null, .val (.ref b)] [(.int (1 : Int32)), (.ref a)]))
  obtain ⟨T5_, h5_, X5_, e5_, W5_, st5_⟩ := putFN X4_ hx hZ hown (hw _ (List.mem_of_getElem? (i := 26) rfl)) Via.refl e4_ F_c E_a (Or.inr ⟨(hw _ (List.mem_of_getElem? (i := 22) rfl)), rfl, hnm⟩) (hw _ (List.mem_of_getElem? (i := 6) rfl)) (ty := .byte) (v' := .int (1 : Int32)) (by decide) rfl rfl (g := (mkF m 48 #[.val (.ref a), .val (.ref d), .val (.int (0 : Int32)), .val (.int (2 : Int32)), .val .null, .val (.ref b)] [(.int (1 : Int32)), (.ref a)])) rfl rfl (hb hby d_jdk_42_method_149_48)
  refine Runs.st (st5_) ?_
  replace F_c := F_c.same W5_
  replace old := old.wr W5_ g_a
  replace E_a := Jvm.RoadKit.Exa.wr W5_ E_a
  replace F_v := F_v.other W5_ (Or.inr (slot_ne (Or.inr (hw _ (List.mem_of_getElem? (i := 21) rfl))) (Or.inr (hw _ (List.mem_of_getElem? (i := 22) rfl))) (by decide) (t := (.array .byte)) (t' := .byte) (by decide) (by decide)))
  replace V_b := V_b.other W5_ (Ne.symm ne_a_b)
  replace sz := Nat.le_trans sz (Keep.of_wr W5_).1
  have N5_ := Fr.snoc X5_ N4_ g_a
  replace K := K.wr W5_ (Or.inl (List.mem_of_getElem? (i := 0) rfl))
  show Runs p.tables e below _ (T5_.setTop (mkF m 51 #[.val (.ref a), .val (.ref d), .val (.int (0 : Int32)), .val (.int (2 : Int32)), .val .null, .val (.ref b)] []))
  refine Runs.st (fun t' k' => XS.aloadN X5_.here hx rfl (hb hby d_jdk_42_method_149_51) rfl rfl k') ?_
  refine Runs.st (fun t' k' => XS.aload X5_.here hx rfl (hb hby d_jdk_42_method_149_52) rfl rfl k') ?_
  obtain ⟨T6_, h6_, X6_, e6_, W6_, st6_⟩ := putF X5_ hx hZ hown (host := "") (Or.inl (hw _ (List.mem_of_getElem? (i := 25) rfl))) Via.refl e5_ F_v E_a (Or.inr ⟨(hw _ (List.mem_of_getElem? (i := 21) rfl)), rfl, hnm⟩) (hw _ (List.mem_of_getElem? (i := 6) rfl)) (ty := (.array .byte)) (by decide) rfl rfl (g := (mkF m 54 #[.val (.ref a), .val (.ref d), .val (.int (0 : Int32)), .val (.int (2 : Int32)), .val .null, .val (.ref b)] [(.ref b), (.ref a)])) rfl rfl (hb hby d_jdk_42_method_149_54)
  refine Runs.st (st6_) ?_
  replace F_v := F_v.same W6_
  replace old := old.wr W6_ g_a
  replace E_a := Jvm.RoadKit.Exa.wr W6_ E_a
  replace V_b := V_b.other W6_ (Ne.symm ne_a_b)
  replace F_c := F_c.other W6_ (Or.inr (slot_ne (Or.inr (hw _ (List.mem_of_getElem? (i := 22) rfl))) (Or.inr (hw _ (List.mem_of_getElem? (i := 21) rfl))) (by decide) (t := .byte) (t' := (.array .byte)) (by decide) (by decide)))
  replace sz := Nat.le_trans sz (Keep.of_wr W6_).1
  have N6_ := Fr.snoc X6_ N5_ g_a
  replace K := K.wr W6_ (Or.inl (List.mem_of_getElem? (i := 0) rfl))
  show Runs p.tables e below _ (T6_.setTop (mkF m 57 #[.val (.ref a), .val (.ref d), .val (.int (0 : Int32)), .val (.int (2 : Int32)), .val .null, .val (.ref b)] []))
  refine Runs.ret X6_ hlk (v := none) (fun _ => rfl) (by decide) (by decide) ?_ (fun fs hr => X6_.returnOut hx hret (hb hby d_jdk_42_method_149_57) hr)
  try rw [e6_]
  exact ⟨rfl, N6_, K, E_a, F_c, b, k2, sz_b, F_v, V_b⟩
def Q_rmIU2_0 (Z : State) (a : Addr) (d : Addr) (c0 c1 : Int32) (k1 : ClassId) (zc : Int32) (h0 : Heap) (n0 : Nat) : Option Value → Heap → List Loc → Prop := (fun v h L => v = none ∧ Fr n0 L ∧ Keep h0 h [a] ∧ Exa Z h a "java/lang/String" ∧ Fld Z h a "java/lang/String" "coder" "B" (.int (1 : Int32)) ∧ ∃ b k2, h0.size ≤ b ∧ Fld Z h a "java/lang/String" "value" "[B" (.ref b) ∧ Arv Z h b k2 .byte (4 : Int32) [(.int (nar .byte ((c0 >>> ((0 : Int32) &&& 31)).toInt8.toInt32))), (.int (nar .byte ((c0 >>> ((8 : Int32) &&& 31)).toInt8.toInt32))), (.int (nar .byte ((c1 >>> ((0 : Int32) &&& 31)).toInt8.toInt32))), (.int (nar .byte ((c1 >>> ((8 : Int32) &&& 31)).toInt8.toInt32)))] (.int (0 : Int32)))
set_option maxRecDepth 65536 in
set_option maxHeartbeats 40000000 in
theorem rmIU2_0 (l : Launch) (Z : State) (a0 : Array Value) (hw : ∀ d ∈ tables_1, d.before a0 Z = true) (ws : List Jvm.Cond) (a : Addr) (d : Addr) (c0 c1 : Int32) (k1 : ClassId) (zc : Int32) (h0 : Heap) (n0 : Nat) (Z0 : n0 ≤ h0.size) (old : Old Z n0 h0) (Sa : Sta Z Z.heap "java/lang/StringUTF16" "$assertionsDisabled" "Z" (.int (1 : Int32))) (Sh : Sta Z Z.heap "java/lang/StringUTF16" "HI_BYTE_SHIFT" "I" (.int (0 : Int32))) (Sl : Sta Z Z.heap "java/lang/StringUTF16" "LO_BYTE_SHIFT" "I" (.int (8 : Int32))) (E_a : Exa Z h0 a "java/lang/String") (F_v : Fld Z h0 a "java/lang/String" "value" "[B" .null) (F_c : Fld Z h0 a "java/lang/String" "coder" "B" (.int (0 : Int32))) (g_a : n0 ≤ a) (V_d : Arv Z h0 d k1 .char (2 : Int32) [(.int c0), (.int c1)] (.int (0 : Int32))) (Sc : Sta Z Z.heap "java/lang/String" "COMPACT_STRINGS" "Z" (.int zc)) (hzc : ¬ zc = 0)  (u0 : (255 : Int32) < c0) (rg : 0 ≤ c0.toInt ∧ c0.toInt ≤ 65535) :
    MetFree l (⟨"java/lang/String", "<init>", "([C)V"⟩ : MethodName) (head1 (Jvm.Cond.code (⟨"java/lang/String", "<init>", "([C)V"⟩ : MethodName) jdk_42_method_3_code 2 none :: ws) ({ frames := 5, cells := 2, slots := 6, locals := 75 } : Room)) (fun ar_ U => ar_ = #[(.ref a), (.ref d)] ∧ Z.Warmed39 U.vm ∧ U.heap = h0) (fun _ _ _ _ _ => True) (fun _ U o U' => Phi U (Q_rmIU2_0 Z a d c0 c1 k1 zc h0 n0) ({ frames := 5, cells := 2, slots := 6, locals := 75 } : Room).cells ({ frames := 5, cells := 2, slots := 6, locals := 75 } : Room).slots o U') := by
  refine MetFree.of_bodySF (plainFor_of_name pn_java_lang_String) hisR ?_
  intro p e s m args below meth c s₁ Bd hml0 hP hK
  obtain ⟨rfl, hZ, hh⟩ := hP
  have hx := Bd.exec
  have hby := Bd.bytes
  have hlk := Bd.notSynchronized
  have hml : c.maxLocals = 2 := hml0
  have hown : s.vm.findClass "java/lang/String" = some m.cls := findClass_of_methodNamed Bd.named
  have hown0 := hown
  have hnm := (name_of_methodNamed Bd.named Bd.method).1
  have hret := Bd.returns
  have X0 : Stand p l e ({ frames := 5, cells := 2, slots := 6, locals := 75 } : Room) s m #[(.ref a), (.ref d)] below meth c s₁ [] 0 0 := Stand.of_body Bd
  have e0 : s₁.heap = h0 := by rw [← hh, Bd.state]; rfl
  have N0 := Fr.nil n0
  have sz := Z0
  have K := Keep.refl h0 [a]
  show Runs p.tables e below (Phi s (Q_rmIU2_0 Z a d c0 c1 k1 zc h0 n0) ({ frames := 5, cells := 2, slots := 6, locals := 75 } : Room).cells ({ frames := 5, cells := 2, slots := 6, locals := 75 } : Room).slots) _
  refine Runs.st (fun t' k' => castTop (ef_jdk_42_method_3_RR m a d ) k') ?_
  show Runs p.tables e below _ (s₁.setTop (mkF m 0 #[.val (.ref a), .val (.ref d)] []))
  refine Runs.st (fun t' k' => XS.aloadN X0.here hx rfl (hb hby d_jdk_42_method_3_0) rfl rfl k') ?_
  refine Runs.st (fun t' k' => XS.aloadN X0.here hx rfl (hb hby d_jdk_42_method_3_1) rfl rfl k') ?_
  refine Runs.st (fun t' k' => XS.iconst X0.here hx rfl (hb hby d_jdk_42_method_3_2) k') ?_
  refine Runs.st (fun t' k' => XS.aloadN X0.here hx rfl (hb hby d_jdk_42_method_3_3) rfl rfl k') ?_
  obtain ⟨cl1_, Ar1_, -, S1_, M1_, -, -⟩ := id V_d
  refine Runs.st (X0.arraylength hx (by rw [e0]; exact Ar1_.1) (State.isArrayOf_alike hZ.alike Ar1_.2.1) (g := (mkF m 4 #[.val (.ref a), .val (.ref d)] [(.ref d), (.int (0 : Int32)), (.ref d), (.ref a)])) rfl rfl (hb hby d_jdk_42_method_3_4)) ?_
  rw [len_of S1_ M1_]
  show Runs p.tables e below _ (s₁.setTop (mkF m 5 #[.val (.ref a), .val (.ref d)] [(.int (2 : Int32)), (.int (0 : Int32)), (.ref d), (.ref a)]))
  refine Runs.st (fun t' k' => XS.aconstNull X0.here hx rfl (hb hby d_jdk_42_method_3_5) k') ?_
  obtain ⟨_, _, ⟨T2_, L2_, k2_, n2_⟩, -, X2_, ⟨Lc2_, hQ2_, l2_, y2_, z2_⟩, st2_⟩ := X0.specialBack hx (y := (⟨"java/lang/String", "<init>", "([CIILjava/lang/Void;)V"⟩ : MethodName)) rfl hown (mvT hZ (hw _ (List.mem_of_getElem? (i := 12) rfl))) (mvT hZ (hw _ (List.mem_of_getElem? (i := 13) rfl))) (mvT hZ (hw _ (List.mem_of_getElem? (i := 15) rfl))) (by decide) (backOf (W := 0) (rmIV2_0 l Z a0 hw [] a d c0 c1 k1 zc h0 n0 sz old Sa Sh Sl E_a F_v F_c g_a V_d Sc hzc u0 rg) hZ (hw _ (List.mem_of_getElem? (i := 15) rfl)) (hw _ (List.mem_of_getElem? (i := 7) rfl)) (by decide) (by decide)) (g := (mkF m 6 #[.val (.ref a), .val (.ref d)] [.null, (.int (2 : Int32)), (.int (0 : Int32)), (.ref d), (.ref a)])) rfl (by rw [hml]; rfl) (Steps.refl _) (a := a) (argsL := [(.ref d), (.int (0 : Int32)), (.int (2 : Int32)), .null]) (rest := []) (lenOf pd__28_5bCIILjava_2flang_2fVoid_3b_29V rfl) rfl (by show 2 * 0 + _ ≤ _; exact Nat.le_of_eq rfl) (hb hby d_jdk_42_method_3_6) (fun _ _ => ⟨rfl, e0, (by decide : 0 + 2 ≤ _), (by decide : 0 + 6 ≤ _)⟩)
  dsimp only [Pt.U, Pt.locs, Pt.cells, Pt.slots] at X2_ l2_ y2_ z2_ st2_ hQ2_
  subst l2_ y2_ z2_
  obtain ⟨rfl, N2_q, K2_, E_a, F_c, b, k2, szb, F_v, V_b⟩ := hQ2_
  have N2_ := Fr.app N0 N2_q
  refine Runs.tr st2_ ?_
  replace X2_ := wider X2_ (c' := 2) (s' := 6) (by decide) (by decide)
  replace old := old.keep K2_ (allS g_a all0)
  replace sz := Nat.le_trans sz K2_.1
  replace K := K.trans K2_ (allS (Or.inl (List.mem_of_getElem? (i := 0) rfl)) all0)
  show Runs p.tables e below _ (T2_.setTop (mkF m 9 #[.val (.ref a), .val (.ref d)] []))
  refine Runs.ret X2_ hlk (v := none) (fun _ => rfl) (by decide) (by decide) ?_ (fun fs hr => X2_.returnOut hx hret (hb hby d_jdk_42_method_3_9) hr)
  exact ⟨rfl, N2_, K, E_a, F_c, b, k2, szb, F_v, V_b⟩
def Q_rmCV2_1 (Z : State) (a : Addr) (b : Addr) (c0 c1 : Int32) (k1 k2 : ClassId) (h0 : Heap) (n0 : Nat) : Option Value → Heap → List Loc → Prop := (fun v h L => v = some (.int (1 : Int32)) ∧ Fr n0 L ∧ Keep h0 h [b])
set_option maxRecDepth 65536 in
set_option maxHeartbeats 40000000 in
theorem rmCV2_1 (l : Launch) (Z : State) (a0 : Array Value) (hw : ∀ d ∈ tables_1, d.before a0 Z = true) (ws : List Jvm.Cond) (a : Addr) (b : Addr) (c0 c1 : Int32) (k1 k2 : ClassId) (h0 : Heap) (n0 : Nat) (Z0 : n0 ≤ h0.size) (V_a : Arv Z h0 a k1 .char (2 : Int32) [(.int c0), (.int c1)] (.int (0 : Int32))) (V_b : Arv Z h0 b k2 .byte (2 : Int32) [(.int (0 : Int32)), (.int (0 : Int32))] (.int (0 : Int32))) (ne_a_b : a ≠ b) (g_b : n0 ≤ b) (u0 : ¬ ((255 : Int32) < c0)) (u1 : (255 : Int32) < c1) :
    MetFree l (⟨"java/lang/StringUTF16", "compress", "([CI[BII)I"⟩ : MethodName) (head1 (Jvm.Cond.code (⟨"java/lang/StringUTF16", "compress", "([CI[BII)I"⟩ : MethodName) jdk_52_method_21_code 7 (some .int) :: ws) ({ frames := 0, cells := 0, slots := 0, locals := 0 } : Room)) (fun ar_ U => ar_ = #[(.ref a), (.int (0 : Int32)), (.ref b), (.int (0 : Int32)), (.int (2 : Int32))] ∧ Z.Warmed39 U.vm ∧ U.heap = h0) (fun _ _ _ _ _ => True) (fun _ U o U' => Phi U (Q_rmCV2_1 Z a b c0 c1 k1 k2 h0 n0) ({ frames := 0, cells := 0, slots := 0, locals := 0 } : Room).cells ({ frames := 0, cells := 0, slots := 0, locals := 0 } : Room).slots o U') := by
  refine MetFree.of_bodySF (plainFor_of_name pn_java_lang_StringUTF16) hisR ?_
  intro p e s m args below meth c s₁ Bd hml0 hP hK
  obtain ⟨rfl, hZ, hh⟩ := hP
  have hx := Bd.exec
  have hby := Bd.bytes
  have hlk := Bd.notSynchronized
  have hml : c.maxLocals = 7 := hml0
  have hown : s.vm.findClass "java/lang/StringUTF16" = some m.cls := findClass_of_methodNamed Bd.named
  have hown0 := hown
  have hnm := (name_of_methodNamed Bd.named Bd.method).1
  have hret := Bd.returns
  have X0 : Stand p l e ({ frames := 0, cells := 0, slots := 0, locals := 0 } : Room) s m #[(.ref a), (.int (0 : Int32)), (.ref b), (.int (0 : Int32)), (.int (2 : Int32))] below meth c s₁ [] 0 0 := Stand.of_body Bd
  have e0 : s₁.heap = h0 := by rw [← hh, Bd.state]; rfl
  have N0 := Fr.nil n0
  have sz := Z0
  have K := Keep.refl h0 [b]
  show Runs p.tables e below (Phi s (Q_rmCV2_1 Z a b c0 c1 k1 k2 h0 n0) ({ frames := 0, cells := 0, slots := 0, locals := 0 } : Room).cells ({ frames := 0, cells := 0, slots := 0, locals := 0 } : Room).slots) _
  refine Runs.st (fun t' k' => castTop (ef_jdk_52_method_21_RIRII m a (0 : Int32) b (0 : Int32) (2 : Int32) ) k') ?_
  show Runs p.tables e below _ (s₁.setTop (mkF m 0 #[.val (.ref a), .val (.int (0 : Int32)), .val (.ref b), .val (.int (0 : Int32)), .val (.int (2 : Int32)), .unset, .unset] []))
  refine Runs.st (fun t' k' => XS.iconst X0.here hx rfl (hb hby d_jdk_52_method_21_0) k') ?_
  refine Runs.st (fun t' k' => XS.istore X0.here hx rfl (hb hby d_jdk_52_method_21_1) rfl (l' := #[.val (.ref a), .val (.int (0 : Int32)), .val (.ref b), .val (.int (0 : Int32)), .val (.int (2 : Int32)), .val (.int (0 : Int32)), .unset]) rfl k') ?_
  refine Runs.st (fun t' k' => XS.iload X0.here hx rfl (hb hby d_jdk_52_method_21_3) rfl k') ?_
  refine Runs.st (fun t' k' => XS.iload X0.here hx rfl (hb hby d_jdk_52_method_21_5) rfl k') ?_
  refine Runs.st (fun t' k' => XS.icmpNo X0.here hx rfl (hb hby d_jdk_52_method_21_7) rfl (tlt (by decide)).2.1 k') ?_
  show Runs p.tables e below _ (s₁.setTop (mkF m 10 #[.val (.ref a), .val (.int (0 : Int32)), .val (.ref b), .val (.int (0 : Int32)), .val (.int (2 : Int32)), .val (.int (0 : Int32)), .unset] []))
  refine Runs.st (fun t' k' => XS.aloadN X0.here hx rfl (hb hby d_jdk_52_method_21_10) rfl rfl k') ?_
  refine Runs.st (fun t' k' => XS.iloadN X0.here hx rfl (hb hby d_jdk_52_method_21_11) rfl k') ?_
  obtain ⟨cl1_, Ar1_, -, S1_, M1_, Ha1_, -⟩ := id V_a
  have hin1_ : ¬ ((0 : Int32) < 0 ∨ cl1_.slots.size ≤ ((0 : Int32)).toNatClampNeg) := inb_of S1_ ⟨by decide, by decide⟩
  refine Runs.st (X0.caload hx (j := (0 : Int32)) (v := (.int c0)) (by rw [e0]; exact Ar1_.1) (State.isArrayOf_alike hZ.alike Ar1_.2.1) Ar1_.2.2 hin1_ (Ha1_.at hin1_ rfl) (g := (mkF m 12 #[.val (.ref a), .val (.int (0 : Int32)), .val (.ref b), .val (.int (0 : Int32)), .val (.int (2 : Int32)), .val (.int (0 : Int32)), .unset] [(.int (0 : Int32)), (.ref a)])) rfl rfl (hb hby d_jdk_52_method_21_12)) ?_
  show Runs p.tables e below _ (s₁.setTop (mkF m 13 #[.val (.ref a), .val (.int (0 : Int32)), .val (.ref b), .val (.int (0 : Int32)), .val (.int (2 : Int32)), .val (.int (0 : Int32)), .unset] [(.int c0)]))
  refine Runs.st (fun t' k' => XS.istore X0.here hx rfl (hb hby d_jdk_52_method_21_13) rfl (l' := #[.val (.ref a), .val (.int (0 : Int32)), .val (.ref b), .val (.int (0 : Int32)), .val (.int (2 : Int32)), .val (.int (0 : Int32)), .val (.int c0)]) rfl k') ?_
  refine Runs.st (fun t' k' => XS.iload X0.here hx rfl (hb hby d_jdk_52_method_21_15) rfl k') ?_
  refine Runs.st (fun t' k' => XS.sipush X0.here hx rfl (hb hby d_jdk_52_method_21_17) k') ?_
  refine Runs.st (fun t' k' => XS.icmpYes X0.here hx rfl (pc0 := 20) (pc' := 26) rfl (hb hby d_jdk_52_method_21_20) rfl (flt u0).2.2.2 (by decide) (by decide) k') ?_
  show Runs p.tables e below _ (s₁.setTop (mkF m 26 #[.val (.ref a), .val (.int (0 : Int32)), .val (.ref b), .val (.int (0 : Int32)), .val (.int (2 : Int32)), .val (.int (0 : Int32)), .val (.int c0)] []))
  refine Runs.st (fun t' k' => XS.aloadN X0.here hx rfl (hb hby d_jdk_52_method_21_26) rfl rfl k') ?_
  refine Runs.st (fun t' k' => XS.iloadN X0.here hx rfl (hb hby d_jdk_52_method_21_27) rfl k') ?_
  refine Runs.st (fun t' k' => XS.iload X0.here hx rfl (hb hby d_jdk_52_method_21_28) rfl k') ?_
  refine Runs.st (fun t' k' => XS.i2b X0.here hx rfl (hb hby d_jdk_52_method_21_30) rfl k') ?_
  obtain ⟨cl2_, Ar2_, q2_, S2_, M2_, Ha2_, G2_⟩ := V_b
  have hin2_ : ¬ ((0 : Int32) < 0 ∨ cl2_.slots.size ≤ ((0 : Int32)).toNatClampNeg) := inb_of S2_ ⟨by decide, by decide⟩
  obtain ⟨T2_, h2_, X2_, e2_, W2_, st2_⟩ := stB X0 hx hZ e0 Ar2_ (j := (0 : Int32)) hin2_ (g := (mkF m 31 #[.val (.ref a), .val (.int (0 : Int32)), .val (.ref b), .val (.int (0 : Int32)), .val (.int (2 : Int32)), .val (.int (0 : Int32)), .val (.int c0)] [(.int (c0.toInt8.toInt32)), (.int (0 : Int32)), (.ref b)])) rfl rfl (hb hby d_jdk_52_method_21_31)
  refine Runs.st (st2_) ?_
  have V_b := Arv.set Ar2_ q2_ S2_ M2_ Ha2_ G2_ (fits_nar_byte _) W2_ 0 rfl (Nat.le_of_ble_eq_true rfl)
  replace V_a := V_a.other W2_ ne_a_b
  replace sz := Nat.le_trans sz (Keep.of_wr W2_).1
  have N2_ := Fr.snoc X2_ N0 g_b
  replace K := K.wr W2_ (Or.inl (List.mem_of_getElem? (i := 0) rfl))
  show Runs p.tables e below _ (T2_.setTop (mkF m 32 #[.val (.ref a), .val (.int (0 : Int32)), .val (.ref b), .val (.int (0 : Int32)), .val (.int (2 : Int32)), .val (.int (0 : Int32)), .val (.int c0)] []))
  refine Runs.st (fun t' k' => XS.iinc X2_.here hx rfl (hb hby d_jdk_52_method_21_32) rfl (l' := #[.val (.ref a), .val (.int ((0 : Int32) + (1 : Int32))), .val (.ref b), .val (.int (0 : Int32)), .val (.int (2 : Int32)), .val (.int (0 : Int32)), .val (.int c0)]) rfl k') ?_
  refine Runs.st (fun t' k' => XS.iinc X2_.here hx rfl (hb hby d_jdk_52_method_21_35) rfl (l' := #[.val (.ref a), .val (.int ((0 : Int32) + (1 : Int32))), .val (.ref b), .val (.int ((0 : Int32) + (1 : Int32))), .val (.int (2 : Int32)), .val (.int (0 : Int32)), .val (.int c0)]) rfl k') ?_
  refine Runs.st (fun t' k' => XS.iinc X2_.here hx rfl (hb hby d_jdk_52_method_21_38) rfl (l' := #[.val (.ref a), .val (.int ((0 : Int32) + (1 : Int32))), .val (.ref b), .val (.int ((0 : Int32) + (1 : Int32))), .val (.int (2 : Int32)), .val (.int ((0 : Int32) + (1 : Int32))), .val (.int c0)]) rfl k') ?_
  show Runs p.tables e below _ (T2_.setTop (mkF m 41 #[.val (.ref a), .val (.int ((0 : Int32) + (1 : Int32))), .val (.ref b), .val (.int ((0 : Int32) + (1 : Int32))), .val (.int (2 : Int32)), .val (.int ((0 : Int32) + (1 : Int32))), .val (.int c0)] []))
  rw [show ((0 : Int32) + (1 : Int32)) = (1 : Int32) from rfl]
  show Runs p.tables e below _ (T2_.setTop (mkF m 41 #[.val (.ref a), .val (.int (1 : Int32)), .val (.ref b), .val (.int (1 : Int32)), .val (.int (2 : Int32)), .val (.int (1 : Int32)), .val (.int c0)] []))
  refine Runs.st (fun t' k' => XS.goto X2_.here hx rfl (pc0 := 41) (pc' := 3) rfl (hb hby d_jdk_52_method_21_41) (by decide) (by decide) k') ?_
  refine Runs.st (fun t' k' => XS.iload X2_.here hx rfl (hb hby d_jdk_52_method_21_3) rfl k') ?_
  show Runs p.tables e below _ (T2_.setTop (mkF m 5 #[.val (.ref a), .val (.int (1 : Int32)), .val (.ref b), .val (.int (1 : Int32)), .val (.int (2 : Int32)), .val (.int (1 : Int32)), .val (.int c0)] [(.int (1 : Int32))]))
  refine Runs.st (fun t' k' => XS.iload X2_.here hx rfl (hb hby d_jdk_52_method_21_5) rfl k') ?_
  refine Runs.st (fun t' k' => XS.icmpNo X2_.here hx rfl (hb hby d_jdk_52_method_21_7) rfl (tlt (by decide)).2.1 k') ?_
  show Runs p.tables e below _ (T2_.setTop (mkF m 10 #[.val (.ref a), .val (.int (1 : Int32)), .val (.ref b), .val (.int (1 : Int32)), .val (.int (2 : Int32)), .val (.int (1 : Int32)), .val (.int c0)] []))
  refine Runs.st (fun t' k' => XS.aloadN X2_.here hx rfl (hb hby d_jdk_52_method_21_10) rfl rfl k') ?_
  refine Runs.st (fun t' k' => XS.iloadN X2_.here hx rfl (hb hby d_jdk_52_method_21_11) rfl k') ?_
  obtain ⟨cl3_, Ar3_, -, S3_, M3_, Ha3_, -⟩ := id V_a
  have hin3_ : ¬ ((1 : Int32) < 0 ∨ cl3_.slots.size ≤ ((1 : Int32)).toNatClampNeg) := inb_of S3_ ⟨by decide, by decide⟩
  refine Runs.st (X2_.caload hx (j := (1 : Int32)) (v := (.int c1)) (by rw [e2_]; exact Ar3_.1) (State.isArrayOf_alike hZ.alike Ar3_.2.1) Ar3_.2.2 hin3_ (Ha3_.at hin3_ rfl) (g := (mkF m 12 #[.val (.ref a), .val (.int (1 : Int32)), .val (.ref b), .val (.int (1 : Int32)), .val (.int (2 : Int32)), .val (.int (1 : Int32)), .val (.int c0)] [(.int (1 : Int32)), (.ref a)])) rfl rfl (hb hby d_jdk_52_method_21_12)) ?_
  show Runs p.tables e below _ (T2_.setTop (mkF m 13 #[.val (.ref a), .val (.int (1 : Int32)), .val (.ref b), .val (.int (1 : Int32)), .val (.int (2 : Int32)), .val (.int (1 : Int32)), .val (.int c0)] [(.int c1)]))
  refine Runs.st (fun t' k' => XS.istore X2_.here hx rfl (hb hby d_jdk_52_method_21_13) rfl (l' := #[.val (.ref a), .val (.int (1 : Int32)), .val (.ref b), .val (.int (1 : Int32)), .val (.int (2 : Int32)), .val (.int (1 : Int32)), .val (.int c1)]) rfl k') ?_
  refine Runs.st (fun t' k' => XS.iload X2_.here hx rfl (hb hby d_jdk_52_method_21_15) rfl k') ?_
  refine Runs.st (fun t' k' => XS.sipush X2_.here hx rfl (hb hby d_jdk_52_method_21_17) k') ?_
  refine Runs.st (fun t' k' => XS.icmpNo X2_.here hx rfl (hb hby d_jdk_52_method_21_20) rfl (tlt u1).2.2.2 k') ?_
  show Runs p.tables e below _ (T2_.setTop (mkF m 23 #[.val (.ref a), .val (.int (1 : Int32)), .val (.ref b), .val (.int (1 : Int32)), .val (.int (2 : Int32)), .val (.int (1 : Int32)), .val (.int c1)] []))
  refine Runs.st (fun t' k' => XS.iload X2_.here hx rfl (hb hby d_jdk_52_method_21_23) rfl k') ?_
  refine Runs.ret X2_ hlk (v := (some (.int (1 : Int32)))) (fun h => by rw [hret] at h; cases h) (by decide) (by decide) ?_ (fun fs hr => retI X2_ hx hret (hb hby d_jdk_52_method_21_25) hr)
  try rw [e2_]
  exact ⟨rfl, N2_, K⟩
def Q_rmGC2_1 (Z : State) (b : Addr) (w0 w1 w2 w3 : Int32) (k : ClassId) (r : Int32) (h0 : Heap) (n0 : Nat) : Option Value → Heap → List Loc → Prop := (fun v h L => v = some (.int r) ∧ Fr n0 L ∧ h = h0)
set_option maxRecDepth 65536 in
set_option maxHeartbeats 40000000 in
theorem rmGC2_1 (l : Launch) (Z : State) (a0 : Array Value) (hw : ∀ d ∈ tables_1, d.before a0 Z = true) (ws : List Jvm.Cond) (b : Addr) (w0 w1 w2 w3 : Int32) (k : ClassId) (r : Int32) (h0 : Heap) (n0 : Nat) (Z0 : n0 ≤ h0.size) (old : Old Z n0 h0) (Sa : Sta Z Z.heap "java/lang/StringUTF16" "$assertionsDisabled" "Z" (.int (1 : Int32))) (Sh : Sta Z Z.heap "java/lang/StringUTF16" "HI_BYTE_SHIFT" "I" (.int (0 : Int32))) (Sl : Sta Z Z.heap "java/lang/StringUTF16" "LO_BYTE_SHIFT" "I" (.int (8 : Int32))) (V_b : Arv Z h0 b k .byte (4 : Int32) [(.int w0), (.int w1), (.int w2), (.int w3)] (.int (0 : Int32))) (hr_ : r = nar .char ((((w2 &&& (255 : Int32)) <<< ((0 : Int32) &&& 31)) ||| ((w3 &&& (255 : Int32)) <<< ((8 : Int32) &&& 31))).toUInt32.toUInt16.toUInt32.toInt32)) :
    MetFree l (⟨"java/lang/StringUTF16", "getChar", "([BI)C"⟩ : MethodName) (head1 (Jvm.Cond.code (⟨"java/lang/StringUTF16", "getChar", "([BI)C"⟩ : MethodName) jdk_52_method_5_code 2 (some .char) :: ws) ({ frames := 0, cells := 0, slots := 0, locals := 0 } : Room)) (fun ar_ U => ar_ = #[(.ref b), (.int (1 : Int32))] ∧ Z.Warmed39 U.vm ∧ U.heap = h0) (fun _ _ _ _ _ => True) (fun _ U o U' => Phi U (Q_rmGC2_1 Z b w0 w1 w2 w3 k r h0 n0) ({ frames := 0, cells := 0, slots := 0, locals := 0 } : Room).cells ({ frames := 0, cells := 0, slots := 0, locals := 0 } : Room).slots o U') := by
  refine MetFree.of_bodySF (plainFor_of_name pn_java_lang_StringUTF16) hisR ?_
  intro p e s m args below meth c s₁ Bd hml0 hP hK
  obtain ⟨rfl, hZ, hh⟩ := hP
  have hx := Bd.exec
  have hby := Bd.bytes
  have hlk := Bd.notSynchronized
  have hml : c.maxLocals = 2 := hml0
  have hown : s.vm.findClass "java/lang/StringUTF16" = some m.cls := findClass_of_methodNamed Bd.named
  have hown0 := hown
  have hnm := (name_of_methodNamed Bd.named Bd.method).1
  have hret := Bd.returns
  have X0 : Stand p l e ({ frames := 0, cells := 0, slots := 0, locals := 0 } : Room) s m #[(.ref b), (.int (1 : Int32))] below meth c s₁ [] 0 0 := Stand.of_body Bd
  have e0 : s₁.heap = h0 := by rw [← hh, Bd.state]; rfl
  have N0 := Fr.nil n0
  have sz := Z0
  have K := Keep.refl h0 []
  show Runs p.tables e below (Phi s (Q_rmGC2_1 Z b w0 w1 w2 w3 k r h0 n0) ({ frames := 0, cells := 0, slots := 0, locals := 0 } : Room).cells ({ frames := 0, cells := 0, slots := 0, locals := 0 } : Room).slots) _
  refine Runs.st (fun t' k' => castTop (ef_jdk_52_method_5_RI m b (1 : Int32) ) k') ?_
  show Runs p.tables e below _ (s₁.setTop (mkF m 0 #[.val (.ref b), .val (.int (1 : Int32))] []))
  obtain ⟨T1_, X1_, e1_, st1_⟩ := getS2 X0 hx hZ hown (host := "") (Or.inl (hw _ (List.mem_of_getElem? (i := 80) rfl))) Via.refl e0 (Sa.ext old.2) (g := (mkF m 0 #[.val (.ref b), .val (.int (1 : Int32))] [])) rfl (hb hby d_jdk_52_method_5_0)
  refine Runs.st (st1_) ?_
  show Runs p.tables e below _ (T1_.setTop (mkF m 3 #[.val (.ref b), .val (.int (1 : Int32))] [(.int (1 : Int32))]))
  refine Runs.st (fun t' k' => XS.ifYes X1_.here hx rfl (pc0 := 3) (pc' := 28) rfl (hb hby d_jdk_52_method_5_3) rfl ((if0 _ _).trans (feq (by decide)).2) (by decide) (by decide) k') ?_
  show Runs p.tables e below _ (T1_.setTop (mkF m 28 #[.val (.ref b), .val (.int (1 : Int32))] []))
  refine Runs.st (fun t' k' => XS.iloadN X1_.here hx rfl (hb hby d_jdk_52_method_5_28) rfl k') ?_
  refine Runs.st (fun t' k' => XS.iconst X1_.here hx rfl (hb hby d_jdk_52_method_5_29) k') ?_
  refine Runs.st (fun t' k' => XS.ishl X1_.here hx rfl (hb hby d_jdk_52_method_5_30) rfl k') ?_
  show Runs p.tables e below _ (T1_.setTop (mkF m 31 #[.val (.ref b), .val (.int (1 : Int32))] [(.int ((1 : Int32) <<< ((1 : Int32) &&& 31)))]))
  rw [show ((1 : Int32) <<< ((1 : Int32) &&& 31)) = (2 : Int32) from rfl]
  show Runs p.tables e below _ (T1_.setTop (mkF m 31 #[.val (.ref b), .val (.int (1 : Int32))] [(.int (2 : Int32))]))
  refine Runs.st (fun t' k' => XS.istoreN X1_.here hx rfl (hb hby d_jdk_52_method_5_31) rfl (l' := #[.val (.ref b), .val (.int (2 : Int32))]) rfl k') ?_
  refine Runs.st (fun t' k' => XS.aloadN X1_.here hx rfl (hb hby d_jdk_52_method_5_32) rfl rfl k') ?_
  show Runs p.tables e below _ (T1_.setTop (mkF m 33 #[.val (.ref b), .val (.int (2 : Int32))] [(.ref b)]))
  refine Runs.st (fun t' k' => XS.iloadN X1_.here hx rfl (hb hby d_jdk_52_method_5_33) rfl k') ?_
  refine Runs.st (fun t' k' => XS.iinc X1_.here hx rfl (hb hby d_jdk_52_method_5_34) rfl (l' := #[.val (.ref b), .val (.int ((2 : Int32) + (1 : Int32)))]) rfl k') ?_
  show Runs p.tables e below _ (T1_.setTop (mkF m 37 #[.val (.ref b), .val (.int ((2 : Int32) + (1 : Int32)))] [(.int (2 : Int32)), (.ref b)]))
  rw [show ((2 : Int32) + (1 : Int32)) = (3 : Int32) from rfl]
  show Runs p.tables e below _ (T1_.setTop (mkF m 37 #[.val (.ref b), .val (.int (3 : Int32))] [(.int (2 : Int32)), (.ref b)]))
  obtain ⟨cl2_, Ar2_, -, S2_, M2_, Ha2_, -⟩ := id V_b
  have hin2_ : ¬ ((2 : Int32) < 0 ∨ cl2_.slots.size ≤ ((2 : Int32)).toNatClampNeg) := inb_of S2_ ⟨by decide, by decide⟩
  refine Runs.st (X1_.baloadBytes hx (j := (2 : Int32)) (v := (.int w2)) (by rw [e1_]; exact Ar2_.1) (State.isArrayOf_alike hZ.alike Ar2_.2.1) Ar2_.2.2 hin2_ (Ha2_.at hin2_ rfl) (g := (mkF m 37 #[.val (.ref b), .val (.int (3 : Int32))] [(.int (2 : Int32)), (.ref b)])) rfl rfl (hb hby d_jdk_52_method_5_37)) ?_
  show Runs p.tables e below _ (T1_.setTop (mkF m 38 #[.val (.ref b), .val (.int (3 : Int32))] [(.int w2)]))
  refine Runs.st (fun t' k' => XS.sipush X1_.here hx rfl (hb hby d_jdk_52_method_5_38) k') ?_
  refine Runs.st (fun t' k' => XS.iand X1_.here hx rfl (hb hby d_jdk_52_method_5_41) rfl k') ?_
  obtain ⟨T3_, X3_, e3_, st3_⟩ := getS2 X1_ hx hZ hown (host := "") (Or.inl (hw _ (List.mem_of_getElem? (i := 81) rfl))) Via.refl e1_ (Sh.ext old.2) (g := (mkF m 42 #[.val (.ref b), .val (.int (3 : Int32))] [(.int (w2 &&& (255 : Int32)))])) rfl (hb hby d_jdk_52_method_5_42)
  refine Runs.st (st3_) ?_
  show Runs p.tables e below _ (T3_.setTop (mkF m 45 #[.val (.ref b), .val (.int (3 : Int32))] [(.int (0 : Int32)), (.int (w2 &&& (255 : Int32)))]))
  refine Runs.st (fun t' k' => XS.ishl X3_.here hx rfl (hb hby d_jdk_52_method_5_45) rfl k') ?_
  refine Runs.st (fun t' k' => XS.aloadN X3_.here hx rfl (hb hby d_jdk_52_method_5_46) rfl rfl k') ?_
  refine Runs.st (fun t' k' => XS.iloadN X3_.here hx rfl (hb hby d_jdk_52_method_5_47) rfl k') ?_
  obtain ⟨cl4_, Ar4_, -, S4_, M4_, Ha4_, -⟩ := id V_b
  have hin4_ : ¬ ((3 : Int32) < 0 ∨ cl4_.slots.size ≤ ((3 : Int32)).toNatClampNeg) := inb_of S4_ ⟨by decide, by decide⟩
  refine Runs.st (X3_.baloadBytes hx (j := (3 : Int32)) (v := (.int w3)) (by rw [e3_]; exact Ar4_.1) (State.isArrayOf_alike hZ.alike Ar4_.2.1) Ar4_.2.2 hin4_ (Ha4_.at hin4_ rfl) (g := (mkF m 48 #[.val (.ref b), .val (.int (3 : Int32))] [(.int (3 : Int32)), (.ref b), (.int ((w2 &&& (255 : Int32)) <<< ((0 : Int32) &&& 31)))])) rfl rfl (hb hby d_jdk_52_method_5_48)) ?_
  show Runs p.tables e below _ (T3_.setTop (mkF m 49 #[.val (.ref b), .val (.int (3 : Int32))] [(.int w3), (.int ((w2 &&& (255 : Int32)) <<< ((0 : Int32) &&& 31)))]))
  refine Runs.st (fun t' k' => XS.sipush X3_.here hx rfl (hb hby d_jdk_52_method_5_49) k') ?_
  refine Runs.st (fun t' k' => XS.iand X3_.here hx rfl (hb hby d_jdk_52_method_5_52) rfl k') ?_
  obtain ⟨T5_, X5_, e5_, st5_⟩ := getS2 X3_ hx hZ hown (host := "") (Or.inl (hw _ (List.mem_of_getElem? (i := 82) rfl))) Via.refl e3_ (Sl.ext old.2) (g := (mkF m 53 #[.val (.ref b), .val (.int (3 : Int32))] [(.int (w3 &&& (255 : Int32))), (.int ((w2 &&& (255 : Int32)) <<< ((0 : Int32) &&& 31)))])) rfl (hb hby d_jdk_52_method_5_53)
  refine Runs.st (st5_) ?_
  show Runs p.tables e below _ (T5_.setTop (mkF m 56 #[.val (.ref b), .val (.int (3 : Int32))] [(.int (8 : Int32)), (.int (w3 &&& (255 : Int32))), (.int ((w2 &&& (255 : Int32)) <<< ((0 : Int32) &&& 31)))]))
  refine Runs.st (fun t' k' => XS.ishl X5_.here hx rfl (hb hby d_jdk_52_method_5_56) rfl k') ?_
  refine Runs.st (fun t' k' => XS.ior X5_.here hx rfl (hb hby d_jdk_52_method_5_57) rfl k') ?_
  refine Runs.st (fun t' k' => XS.i2c X5_.here hx rfl (hb hby d_jdk_52_method_5_58) rfl k') ?_
  refine Runs.ret X5_ hlk (v := (some (.int (nar .char ((((w2 &&& (255 : Int32)) <<< ((0 : Int32) &&& 31)) ||| ((w3 &&& (255 : Int32)) <<< ((8 : Int32) &&& 31))).toUInt32.toUInt16.toUInt32.toInt32))))) (fun h => by rw [hret] at h; cases h) (by decide) (by decide) ?_ (fun fs hr => retN X5_ hx (t := .char) hret (by simp) (hb hby d_jdk_52_method_5_59) hr)
  try rw [e5_]
  exact ⟨congrArg (fun z => some (Value.int z)) hr_.symm, N0, rfl⟩
def Q_rmCW2_1 (Z : State) (a : Addr) (c0 c1 : Int32) (k1 : ClassId) (h0 : Heap) (n0 : Nat) : Option Value → Heap → List Loc → Prop := (fun v h L => ∃ b k2, v = some (.ref b) ∧ Fr n0 L ∧ Keep h0 h [] ∧ h0.size ≤ b ∧ Arv Z h b k2 .byte (4 : Int32) [(.int (nar .byte ((c0 >>> ((0 : Int32) &&& 31)).toInt8.toInt32))), (.int (nar .byte ((c0 >>> ((8 : Int32) &&& 31)).toInt8.toInt32))), (.int (nar .byte ((c1 >>> ((0 : Int32) &&& 31)).toInt8.toInt32))), (.int (nar .byte ((c1 >>> ((8 : Int32) &&& 31)).toInt8.toInt32)))] (.int (0 : Int32)))
set_option maxRecDepth 65536 in
set_option maxHeartbeats 40000000 in
theorem rmCW2_1 (l : Launch) (Z : State) (a0 : Array Value) (hw : ∀ d ∈ tables_1, d.before a0 Z = true) (ws : List Jvm.Cond) (a : Addr) (c0 c1 : Int32) (k1 : ClassId) (h0 : Heap) (n0 : Nat) (Z0 : n0 ≤ h0.size) (old : Old Z n0 h0) (Sa : Sta Z Z.heap "java/lang/StringUTF16" "$assertionsDisabled" "Z" (.int (1 : Int32))) (Sh : Sta Z Z.heap "java/lang/StringUTF16" "HI_BYTE_SHIFT" "I" (.int (0 : Int32))) (Sl : Sta Z Z.heap "java/lang/StringUTF16" "LO_BYTE_SHIFT" "I" (.int (8 : Int32))) (V_a : Arv Z h0 a k1 .char (2 : Int32) [(.int c0), (.int c1)] (.int (0 : Int32))) (u0 : ¬ ((255 : Int32) < c0)) (u1 : (255 : Int32) < c1) (rg : 0 ≤ c1.toInt ∧ c1.toInt ≤ 65535) :
    MetFree l (⟨"java/lang/StringUTF16", "compress", "([CII)[B"⟩ : MethodName) (head1 (Jvm.Cond.code (⟨"java/lang/StringUTF16", "compress", "([CII)[B"⟩ : MethodName) jdk_52_method_16_code 6 (some (.array .byte)) :: ws) ({ frames := 3, cells := 2, slots := 6, locals := 41 } : Room)) (fun ar_ U => ar_ = #[(.ref a), (.int (0 : Int32)), (.int (2 : Int32))] ∧ Z.Warmed39 U.vm ∧ U.heap = h0) (fun _ _ _ _ _ => True) (fun _ U o U' => Phi U (Q_rmCW2_1 Z a c0 c1 k1 h0 n0) ({ frames := 3, cells := 2, slots := 6, locals := 41 } : Room).cells ({ frames := 3, cells := 2, slots := 6, locals := 41 } : Room).slots o U') := by
  refine MetFree.of_bodySF (plainFor_of_name pn_java_lang_StringUTF16) hisR ?_
  intro p e s m args below meth c s₁ Bd hml0 hP hK
  obtain ⟨rfl, hZ, hh⟩ := hP
  have hx := Bd.exec
  have hby := Bd.bytes
  have hlk := Bd.notSynchronized
  have hml : c.maxLocals = 6 := hml0
  have hown : s.vm.findClass "java/lang/StringUTF16" = some m.cls := findClass_of_methodNamed Bd.named
  have hown0 := hown
  have hnm := (name_of_methodNamed Bd.named Bd.method).1
  have hret := Bd.returns
  have X0 : Stand p l e ({ frames := 3, cells := 2, slots := 6, locals := 41 } : Room) s m #[(.ref a), (.int (0 : Int32)), (.int (2 : Int32))] below meth c s₁ [] 0 0 := Stand.of_body Bd
  have e0 : s₁.heap = h0 := by rw [← hh, Bd.state]; rfl
  have N0 := Fr.nil n0
  have sz := Z0
  have K := Keep.refl h0 []
  show Runs p.tables e below (Phi s (Q_rmCW2_1 Z a c0 c1 k1 h0 n0) ({ frames := 3, cells := 2, slots := 6, locals := 41 } : Room).cells ({ frames := 3, cells := 2, slots := 6, locals := 41 } : Room).slots) _
  refine Runs.st (fun t' k' => castTop (ef_jdk_52_method_16_RII m a (0 : Int32) (2 : Int32) ) k') ?_
  show Runs p.tables e below _ (s₁.setTop (mkF m 0 #[.val (.ref a), .val (.int (0 : Int32)), .val (.int (2 : Int32)), .unset, .unset, .unset] []))
  refine Runs.st (fun t' k' => XS.iloadN X0.here hx rfl (hb hby d_jdk_52_method_16_0) rfl k') ?_
  obtain ⟨T1_, h1_, k1_, X1_, e1_, E1_, A1_, st1_⟩ := newP X0 hx hZ (hw _ (List.mem_of_getElem? (i := 20) rfl)) e0 (g := (mkF m 1 #[.val (.ref a), .val (.int (0 : Int32)), .val (.int (2 : Int32)), .unset, .unset, .unset] [(.int (2 : Int32))])) rfl (hb hby d_jdk_52_method_16_1) rfl (by decide) (cap := 2) (by decide) (by decide) (by decide) (by decide)
  refine Runs.st (st1_) ?_
  obtain ⟨d, g1_⟩ : ∃ z, z = h0.size := ⟨_, rfl⟩
  rw [← g1_] at A1_
  try rw [← g1_]
  have g_d : n0 ≤ d := Nat.le_trans sz (Nat.le_of_eq g1_.symm)
  have sz_d : h0.size ≤ d := Nat.le_trans K.1 (Nat.le_of_eq g1_.symm)
  have ne_a_d : a ≠ d := Nat.ne_of_lt (Nat.lt_of_lt_of_le V_a.lt (Nat.le_of_eq g1_.symm))
  replace old := old.ext E1_
  replace V_a := V_a.ext E1_
  replace sz := Nat.le_trans sz E1_.1
  replace K := K.ext E1_
  have V_d : Arv Z h1_ d k1_ .byte (2 : Int32) [(.int (0 : Int32)), (.int (0 : Int32))] (.int (0 : Int32)) := (Arv.new A1_ (by decide)).pad (pad_rep [] (.int (0 : Int32)) 2)
  show Runs p.tables e below _ (T1_.setTop (mkF m 3 #[.val (.ref a), .val (.int (0 : Int32)), .val (.int (2 : Int32)), .unset, .unset, .unset] [(.ref d)]))
  refine Runs.st (fun t' k' => XS.astoreN X1_.here hx rfl (hb hby d_jdk_52_method_16_3) rfl rfl (l' := #[.val (.ref a), .val (.int (0 : Int32)), .val (.int (2 : Int32)), .val (.ref d), .unset, .unset]) rfl k') ?_
  refine Runs.st (fun t' k' => XS.aloadN X1_.here hx rfl (hb hby d_jdk_52_method_16_4) rfl rfl k') ?_
  refine Runs.st (fun t' k' => XS.iloadN X1_.here hx rfl (hb hby d_jdk_52_method_16_5) rfl k') ?_
  refine Runs.st (fun t' k' => XS.aloadN X1_.here hx rfl (hb hby d_jdk_52_method_16_6) rfl rfl k') ?_
  refine Runs.st (fun t' k' => XS.iconst X1_.here hx rfl (hb hby d_jdk_52_method_16_7) k') ?_
  show Runs p.tables e below _ (T1_.setTop (mkF m 8 #[.val (.ref a), .val (.int (0 : Int32)), .val (.int (2 : Int32)), .val (.ref d), .unset, .unset] [(.int (0 : Int32)), (.ref d), (.int (0 : Int32)), (.ref a)]))
  refine Runs.st (fun t' k' => XS.iloadN X1_.here hx rfl (hb hby d_jdk_52_method_16_8) rfl k') ?_
  obtain ⟨_, _, ⟨T2_, L2_, k2_, n2_⟩, -, X2_, ⟨Lc2_, hQ2_, l2_, y2_, z2_⟩, st2_⟩ := Jvm.LawKit.callS X1_ hx (y := (⟨"java/lang/StringUTF16", "compress", "([CI[BII)I"⟩ : MethodName)) hown (mvT hZ (hw _ (List.mem_of_getElem? (i := 59) rfl))) (mvT hZ (hw _ (List.mem_of_getElem? (i := 60) rfl))) (mvT hZ (hw _ (List.mem_of_getElem? (i := 57) rfl))) (mvT hZ (hw _ (List.mem_of_getElem? (i := 61) rfl))) (by decide) (backOf (W := 0) (rmCV2_1 l Z a0 hw [] a d c0 c1 k1 _ h1_ n0 sz V_a V_d ne_a_d g_d u0 u1) hZ (hw _ (List.mem_of_getElem? (i := 61) rfl)) (hw _ (List.mem_of_getElem? (i := 57) rfl)) (by decide) (by decide)) (g := (mkF m 9 #[.val (.ref a), .val (.int (0 : Int32)), .val (.int (2 : Int32)), .val (.ref d), .unset, .unset] [(.int (2 : Int32)), (.int (0 : Int32)), (.ref d), (.int (0 : Int32)), (.ref a)])) rfl (by rw [hml]; rfl) (argsL := [(.ref a), (.int (0 : Int32)), (.ref d), (.int (0 : Int32)), (.int (2 : Int32))]) (rest := []) (lenOf pd__28_5bCI_5bBII_29I rfl) rfl (by show 2 * 0 + _ ≤ _; exact Nat.le_of_eq rfl) (hb hby d_jdk_52_method_16_9) (fun _ _ => ⟨rfl, e1_, (by decide : 1 + 0 ≤ _), (by decide : 2 + 0 ≤ _)⟩)
  dsimp only [Pt.U, Pt.locs, Pt.cells, Pt.slots] at X2_ l2_ y2_ z2_ st2_ hQ2_
  subst l2_ y2_ z2_
  obtain ⟨rfl, N2_q, K2_⟩ := hQ2_
  have N2_ := Fr.app N0 N2_q
  refine Runs.st (st2_) ?_
  replace X2_ := wider X2_ (c' := 1) (s' := 2) (by decide) (by decide)
  replace old := old.keep K2_ (allS g_d all0)
  replace V_a := V_a.keep K2_ (ninS ne_a_d nin0)
  replace sz := Nat.le_trans sz K2_.1
  replace K := K.trans K2_ (allS (Or.inr sz_d) all0)
  show Runs p.tables e below _ (T2_.setTop (mkF m 12 #[.val (.ref a), .val (.int (0 : Int32)), .val (.int (2 : Int32)), .val (.ref d), .unset, .unset] [(.int (1 : Int32))]))
  refine Runs.st (fun t' k' => XS.istore X2_.here hx rfl (hb hby d_jdk_52_method_16_12) rfl (l' := #[.val (.ref a), .val (.int (0 : Int32)), .val (.int (2 : Int32)), .val (.ref d), .val (.int (1 : Int32)), .unset]) rfl k') ?_
  refine Runs.st (fun t' k' => XS.iload X2_.here hx rfl (hb hby d_jdk_52_method_16_14) rfl k') ?_
  refine Runs.st (fun t' k' => XS.iloadN X2_.here hx rfl (hb hby d_jdk_52_method_16_16) rfl k') ?_
  refine Runs.st (fun t' k' => XS.icmpNo X2_.here hx rfl (hb hby d_jdk_52_method_16_17) rfl (feq (by decide)).1 k') ?_
  show Runs p.tables e below _ (T2_.setTop (mkF m 20 #[.val (.ref a), .val (.int (0 : Int32)), .val (.int (2 : Int32)), .val (.ref d), .val (.int (1 : Int32)), .unset] []))
  refine Runs.st (fun t' k' => XS.aloadN X2_.here hx rfl (hb hby d_jdk_52_method_16_20) rfl rfl k') ?_
  refine Runs.st (fun t' k' => XS.iloadN X2_.here hx rfl (hb hby d_jdk_52_method_16_21) rfl k') ?_
  refine Runs.st (fun t' k' => XS.iloadN X2_.here hx rfl (hb hby d_jdk_52_method_16_22) rfl k') ?_
  have kz3_ := K.1
  have gz3_ := sz
  have lt3__a := V_a.lt
  obtain ⟨_, _, ⟨T3_, L3_, k3_, n3_⟩, -, X3_, ⟨Lc3_, hQ3_, l3_, y3_, z3_⟩, st3_⟩ := Jvm.LawKit.callS X2_ hx (y := (⟨"java/lang/StringUTF16", "toBytes", "([CII)[B"⟩ : MethodName)) hown (mvT hZ (hw _ (List.mem_of_getElem? (i := 67) rfl))) (mvT hZ (hw _ (List.mem_of_getElem? (i := 68) rfl))) (mvT hZ (hw _ (List.mem_of_getElem? (i := 57) rfl))) (mvT hZ (hw _ (List.mem_of_getElem? (i := 69) rfl))) (by decide) (backOf (W := 0) (rmTU2 l Z a0 hw [] a c0 c1 k1 T2_.heap n0 sz old Sa Sh Sl V_a) hZ (hw _ (List.mem_of_getElem? (i := 69) rfl)) (hw _ (List.mem_of_getElem? (i := 57) rfl)) (by decide) (by decide)) (g := (mkF m 23 #[.val (.ref a), .val (.int (0 : Int32)), .val (.int (2 : Int32)), .val (.ref d), .val (.int (1 : Int32)), .unset] [(.int (2 : Int32)), (.int (0 : Int32)), (.ref a)])) rfl (by rw [hml]; rfl) (argsL := [(.ref a), (.int (0 : Int32)), (.int (2 : Int32))]) (rest := []) (lenOf pd__28_5bCII_29_5bB rfl) rfl (by show 2 * 0 + _ ≤ _; exact Nat.le_of_eq rfl) (hb hby d_jdk_52_method_16_23) (fun _ _ => ⟨rfl, rfl, (by decide : 1 + 1 ≤ _), (by decide : 2 + 4 ≤ _)⟩)
  dsimp only [Pt.U, Pt.locs, Pt.cells, Pt.slots] at X3_ l3_ y3_ z3_ st3_ hQ3_
  subst l3_ y3_ z3_
  obtain ⟨b, kb, rfl, N3_q, K3_, szb, V_b⟩ := hQ3_
  have N3_ := Fr.app N2_ N3_q
  refine Runs.st (st3_) ?_
  replace X3_ := wider X3_ (c' := 2) (s' := 6) (by decide) (by decide)
  replace old := old.keep K3_ all0
  replace V_a := V_a.keep K3_ nin0
  replace sz := Nat.le_trans sz K3_.1
  replace K := K.trans K3_ all0
  have sz_b : h0.size ≤ b := Nat.le_trans kz3_ szb
  have g_b : n0 ≤ b := Nat.le_trans gz3_ szb
  have ne_a_b : a ≠ b := Nat.ne_of_lt (Nat.lt_of_lt_of_le lt3__a szb)
  show Runs p.tables e below _ (T3_.setTop (mkF m 26 #[.val (.ref a), .val (.int (0 : Int32)), .val (.int (2 : Int32)), .val (.ref d), .val (.int (1 : Int32)), .unset] [(.ref b)]))
  refine Runs.st (fun t' k' => XS.astore X3_.here hx rfl (hb hby d_jdk_52_method_16_26) rfl rfl (l' := #[.val (.ref a), .val (.int (0 : Int32)), .val (.int (2 : Int32)), .val (.ref d), .val (.int (1 : Int32)), .val (.ref b)]) rfl k') ?_
  refine Runs.st (fun t' k' => XS.aload X3_.here hx rfl (hb hby d_jdk_52_method_16_28) rfl rfl k') ?_
  refine Runs.st (fun t' k' => XS.iload X3_.here hx rfl (hb hby d_jdk_52_method_16_30) rfl k') ?_
  obtain ⟨_, _, ⟨T4_, L4_, k4_, n4_⟩, -, X4_, ⟨Lc4_, hQ4_, l4_, y4_, z4_⟩, st4_⟩ := Jvm.LawKit.callS X3_ hx (y := (⟨"java/lang/StringUTF16", "getChar", "([BI)C"⟩ : MethodName)) hown (mvT hZ (hw _ (List.mem_of_getElem? (i := 83) rfl))) (mvT hZ (hw _ (List.mem_of_getElem? (i := 84) rfl))) (mvT hZ (hw _ (List.mem_of_getElem? (i := 57) rfl))) (mvT hZ (hw _ (List.mem_of_getElem? (i := 85) rfl))) (by decide) (backOf (W := 0) (rmGC2_1 l Z a0 hw [] b (nar .byte ((c0 >>> ((0 : Int32) &&& 31)).toInt8.toInt32)) (nar .byte ((c0 >>> ((8 : Int32) &&& 31)).toInt8.toInt32)) (nar .byte ((c1 >>> ((0 : Int32) &&& 31)).toInt8.toInt32)) (nar .byte ((c1 >>> ((8 : Int32) &&& 31)).toInt8.toInt32)) kb c1 T3_.heap n0 sz old Sa Sh Sl V_b (own_gc _ rg)) hZ (hw _ (List.mem_of_getElem? (i := 85) rfl)) (hw _ (List.mem_of_getElem? (i := 57) rfl)) (by decide) (by decide)) (g := (mkF m 32 #[.val (.ref a), .val (.int (0 : Int32)), .val (.int (2 : Int32)), .val (.ref d), .val (.int (1 : Int32)), .val (.ref b)] [(.int (1 : Int32)), (.ref b)])) rfl (by rw [hml]; rfl) (argsL := [(.ref b), (.int (1 : Int32))]) (rest := []) (lenOf pd__28_5bBI_29C rfl) rfl (by show 2 * 0 + _ ≤ _; exact Nat.le_of_eq rfl) (hb hby d_jdk_52_method_16_32) (fun _ _ => ⟨rfl, rfl, (by decide : 2 + 0 ≤ _), (by decide : 6 + 0 ≤ _)⟩)
  dsimp only [Pt.U, Pt.locs, Pt.cells, Pt.slots] at X4_ l4_ y4_ z4_ st4_ hQ4_
  subst l4_ y4_ z4_
  obtain ⟨rfl, N4_q, e4_⟩ := hQ4_
  have N4_ := Fr.app N3_ N4_q
  refine Runs.st (st4_) ?_
  replace X4_ := wider X4_ (c' := 2) (s' := 6) (by decide) (by decide)
  show Runs p.tables e below _ (T4_.setTop (mkF m 35 #[.val (.ref a), .val (.int (0 : Int32)), .val (.int (2 : Int32)), .val (.ref d), .val (.int (1 : Int32)), .val (.ref b)] [(.int c1)]))
  refine Runs.st (fun t' k' => XS.sipush X4_.here hx rfl (hb hby d_jdk_52_method_16_35) k') ?_
  refine Runs.st (fun t' k' => XS.icmpYes X4_.here hx rfl (pc0 := 38) (pc' := 54) rfl (hb hby d_jdk_52_method_16_38) rfl (tlt u1).2.2.1 (by decide) (by decide) k') ?_
  show Runs p.tables e below _ (T4_.setTop (mkF m 54 #[.val (.ref a), .val (.int (0 : Int32)), .val (.int (2 : Int32)), .val (.ref d), .val (.int (1 : Int32)), .val (.ref b)] []))
  refine Runs.st (fun t' k' => XS.aload X4_.here hx rfl (hb hby d_jdk_52_method_16_54) rfl rfl k') ?_
  refine Runs.ret X4_ hlk (v := (some (.ref b))) (fun h => by rw [hret] at h; cases h) (by decide) (by decide) ?_ (fun fs hr => retOut X4_ hx hret rfl (Or.inr (Or.inr (Or.inr (Or.inr ⟨rfl, rfl, rfl⟩)))) (hb hby d_jdk_52_method_16_56) hr)
  try rw [e4_]
  exact ⟨b, kb, rfl, N4_, K, sz_b, V_b⟩
def Q_rmIV2_1 (Z : State) (a : Addr) (d : Addr) (c0 c1 : Int32) (k1 : ClassId) (zc : Int32) (h0 : Heap) (n0 : Nat) : Option Value → Heap → List Loc → Prop := (fun v h L => v = none ∧ Fr n0 L ∧ Keep h0 h [a] ∧ Exa Z h a "java/lang/String" ∧ Fld Z h a "java/lang/String" "coder" "B" (.int (1 : Int32)) ∧ ∃ b k2, h0.size ≤ b ∧ Fld Z h a "java/lang/String" "value" "[B" (.ref b) ∧ Arv Z h b k2 .byte (4 : Int32) [(.int (nar .byte ((c0 >>> ((0 : Int32) &&& 31)).toInt8.toInt32))), (.int (nar .byte ((c0 >>> ((8 : Int32) &&& 31)).toInt8.toInt32))), (.int (nar .byte ((c1 >>> ((0 : Int32) &&& 31)).toInt8.toInt32))), (.int (nar .byte ((c1 >>> ((8 : Int32) &&& 31)).toInt8.toInt32)))] (.int (0 : Int32)))
set_option maxRecDepth 65536 in
set_option maxHeartbeats 40000000 in
theorem rmIV2_1 (l : Launch) (Z : State) (a0 : Array Value) (hw : ∀ d ∈ tables_1, d.before a0 Z = true) (ws : List Jvm.Cond) (a : Addr) (d : Addr) (c0 c1 : Int32) (k1 : ClassId) (zc : Int32) (h0 : Heap) (n0 : Nat) (Z0 : n0 ≤ h0.size) (old : Old Z n0 h0) (Sa : Sta Z Z.heap "java/lang/StringUTF16" "$assertionsDisabled" "Z" (.int (1 : Int32))) (Sh : Sta Z Z.heap "java/lang/StringUTF16" "HI_BYTE_SHIFT" "I" (.int (0 : Int32))) (Sl : Sta Z Z.heap "java/lang/StringUTF16" "LO_BYTE_SHIFT" "I" (.int (8 : Int32))) (E_a : Exa Z h0 a "java/lang/String") (F_v : Fld Z h0 a "java/lang/String" "value" "[B" .null) (F_c : Fld Z h0 a "java/lang/String" "coder" "B" (.int (0 : Int32))) (g_a : n0 ≤ a) (V_d : Arv Z h0 d k1 .char (2 : Int32) [(.int c0), (.int c1)] (.int (0 : Int32))) (Sc : Sta Z Z.heap "java/lang/String" "COMPACT_STRINGS" "Z" (.int zc)) (hzc : ¬ zc = 0) (u0 : ¬ ((255 : Int32) < c0)) (u1 : (255 : Int32) < c1) (rg : 0 ≤ c1.toInt ∧ c1.toInt ≤ 65535) :
    MetFree l (⟨"java/lang/String", "<init>", "([CIILjava/lang/Void;)V"⟩ : MethodName) (head1 (Jvm.Cond.code (⟨"java/lang/String", "<init>", "([CIILjava/lang/Void;)V"⟩ : MethodName) jdk_42_method_149_code 6 none :: ws) ({ frames := 4, cells := 2, slots := 6, locals := 58 } : Room)) (fun ar_ U => ar_ = #[(.ref a), (.ref d), (.int (0 : Int32)), (.int (2 : Int32)), .null] ∧ Z.Warmed39 U.vm ∧ U.heap = h0) (fun _ _ _ _ _ => True) (fun _ U o U' => Phi U (Q_rmIV2_1 Z a d c0 c1 k1 zc h0 n0) ({ frames := 4, cells := 2, slots := 6, locals := 58 } : Room).cells ({ frames := 4, cells := 2, slots := 6, locals := 58 } : Room).slots o U') := by
  refine MetFree.of_bodySF (plainFor_of_name pn_java_lang_String) hisR ?_
  intro p e s m args below meth c s₁ Bd hml0 hP hK
  obtain ⟨rfl, hZ, hh⟩ := hP
  have hx := Bd.exec
  have hby := Bd.bytes
  have hlk := Bd.notSynchronized
  have hml : c.maxLocals = 6 := hml0
  have hown : s.vm.findClass "java/lang/String" = some m.cls := findClass_of_methodNamed Bd.named
  have hown0 := hown
  have hnm := (name_of_methodNamed Bd.named Bd.method).1
  have hret := Bd.returns
  have X0 : Stand p l e ({ frames := 4, cells := 2, slots := 6, locals := 58 } : Room) s m #[(.ref a), (.ref d), (.int (0 : Int32)), (.int (2 : Int32)), .null] below meth c s₁ [] 0 0 := Stand.of_body Bd
  have e0 : s₁.heap = h0 := by rw [← hh, Bd.state]; rfl
  have N0 := Fr.nil n0
  have sz := Z0
  have K := Keep.refl h0 [a]
  show Runs p.tables e below (Phi s (Q_rmIV2_1 Z a d c0 c1 k1 zc h0 n0) ({ frames := 4, cells := 2, slots := 6, locals := 58 } : Room).cells ({ frames := 4, cells := 2, slots := 6, locals := 58 } : Room).slots) _
  refine Runs.st (fun t' k' => castTop (ef_jdk_42_method_149_RRIIN m a d (0 : Int32) (2 : Int32) ) k') ?_
  show Runs p.tables e below _ (s₁.setTop (mkF m 0 #[.val (.ref a), .val (.ref d), .val (.int (0 : Int32)), .val (.int (2 : Int32)), .val .null, .unset] []))
  refine Runs.st (fun t' k' => XS.aloadN X0.here hx rfl (hb hby d_jdk_42_method_149_0) rfl rfl k') ?_
  obtain ⟨T1_, X1_, e1_, st1_⟩ := initO X0 hx hZ hown (hw _ (List.mem_of_getElem? (i := 16) rfl)) (hw _ (List.mem_of_getElem? (i := 17) rfl)) (hw _ (List.mem_of_getElem? (i := 18) rfl)) e0 (g := (mkF m 1 #[.val (.ref a), .val (.ref d), .val (.int (0 : Int32)), .val (.int (2 : Int32)), .val .null, .unset] [(.ref a)])) rfl (by rw [hml]; rfl) rfl (hb hby d_jdk_42_method_149_1) (by decide) (W := 0) (by show 2 * 0 + _ ≤ _; exact Nat.le_of_eq rfl) (by decide)
  refine Runs.st (st1_) ?_
  show Runs p.tables e below _ (T1_.setTop (mkF m 4 #[.val (.ref a), .val (.ref d), .val (.int (0 : Int32)), .val (.int (2 : Int32)), .val .null, .unset] []))
  refine Runs.st (fun t' k' => XS.iloadN X1_.here hx rfl (hb hby d_jdk_42_method_149_4) rfl k') ?_
  refine Runs.st (fun t' k' => XS.ifYes X1_.here hx rfl (pc0 := 5) (pc' := 27) rfl (hb hby d_jdk_42_method_149_5) rfl ((if0 _ _).trans (feq (by decide)).2) (by decide) (by decide) k') ?_
  show Runs p.tables e below _ (T1_.setTop (mkF m 27 #[.val (.ref a), .val (.ref d), .val (.int (0 : Int32)), .val (.int (2 : Int32)), .val .null, .unset] []))
  obtain ⟨T2_, X2_, e2_, st2_⟩ := getS2 X1_ hx hZ hown (host := "") (Or.inl (hw _ (List.mem_of_getElem? (i := 54) rfl))) Via.refl e1_ (Sc.ext old.2) (g := (mkF m 27 #[.val (.ref a), .val (.ref d), .val (.int (0 : Int32)), .val (.int (2 : Int32)), .val .null, .unset] [])) rfl (hb hby d_jdk_42_method_149_27)
  refine Runs.st (st2_) ?_
  show Runs p.tables e below _ (T2_.setTop (mkF m 30 #[.val (.ref a), .val (.ref d), .val (.int (0 : Int32)), .val (.int (2 : Int32)), .val .null, .unset] [(.int zc)]))
  refine Runs.st (fun t' k' => XS.ifNo X2_.here hx rfl (hb hby d_jdk_42_method_149_30) rfl ((if0 _ _).trans (feq hzc).1) k') ?_
  show Runs p.tables e below _ (T2_.setTop (mkF m 33 #[.val (.ref a), .val (.ref d), .val (.int (0 : Int32)), .val (.int (2 : Int32)), .val .null, .unset] []))
  refine Runs.st (fun t' k' => XS.aloadN X2_.here hx rfl (hb hby d_jdk_42_method_149_33) rfl rfl k') ?_
  refine Runs.st (fun t' k' => XS.iloadN X2_.here hx rfl (hb hby d_jdk_42_method_149_34) rfl k') ?_
  refine Runs.st (fun t' k' => XS.iloadN X2_.here hx rfl (hb hby d_jdk_42_method_149_35) rfl k') ?_
  have kz3_ := K.1
  have gz3_ := sz
  have lt3__a := E_a.lt
  have lt3__d := V_d.lt
  obtain ⟨_, _, ⟨T3_, L3_, k3_, n3_⟩, -, X3_, ⟨Lc3_, hQ3_, l3_, y3_, z3_⟩, st3_⟩ := Jvm.LawKit.callS X2_ hx (y := (⟨"java/lang/StringUTF16", "compress", "([CII)[B"⟩ : MethodName)) hown (mvT hZ (hw _ (List.mem_of_getElem? (i := 55) rfl))) (mvT hZ (hw _ (List.mem_of_getElem? (i := 56) rfl))) (mvT hZ (hw _ (List.mem_of_getElem? (i := 57) rfl))) (mvT hZ (hw _ (List.mem_of_getElem? (i := 58) rfl))) (by decide) (backOf (W := 0) (rmCW2_1 l Z a0 hw [] d c0 c1 k1 h0 n0 sz old Sa Sh Sl V_d u0 u1 rg) hZ (hw _ (List.mem_of_getElem? (i := 58) rfl)) (hw _ (List.mem_of_getElem? (i := 57) rfl)) (by decide) (by decide)) (g := (mkF m 36 #[.val (.ref a), .val (.ref d), .val (.int (0 : Int32)), .val (.int (2 : Int32)), .val .null, .unset] [(.int (2 : Int32)), (.int (0 : Int32)), (.ref d)])) rfl (by rw [hml]; rfl) (argsL := [(.ref d), (.int (0 : Int32)), (.int (2 : Int32))]) (rest := []) (lenOf pd__28_5bCII_29_5bB rfl) rfl (by show 2 * 0 + _ ≤ _; exact Nat.le_of_eq rfl) (hb hby d_jdk_42_method_149_36) (fun _ _ => ⟨rfl, e2_, (by decide : 0 + 2 ≤ _), (by decide : 0 + 6 ≤ _)⟩)
  dsimp only [Pt.U, Pt.locs, Pt.cells, Pt.slots] at X3_ l3_ y3_ z3_ st3_ hQ3_
  subst l3_ y3_ z3_
  obtain ⟨b, k2, rfl, N3_q, K3_, szb, V_b⟩ := hQ3_
  have N3_ := Fr.app N0 N3_q
  refine Runs.st (st3_) ?_
  replace X3_ := wider X3_ (c' := 2) (s' := 6) (by decide) (by decide)
  replace old := old.keep K3_ all0
  replace E_a := E_a.keep K3_
  replace F_v := F_v.keep K3_ nin0
  replace F_c := F_c.keep K3_ nin0
  replace V_d := V_d.keep K3_ nin0
  replace sz := Nat.le_trans sz K3_.1
  replace K := K.trans K3_ all0
  have sz_b : h0.size ≤ b := Nat.le_trans kz3_ szb
  have g_b : n0 ≤ b := Nat.le_trans gz3_ szb
  have ne_a_b : a ≠ b := Nat.ne_of_lt (Nat.lt_of_lt_of_le lt3__a szb)
  have ne_d_b : d ≠ b := Nat.ne_of_lt (Nat.lt_of_lt_of_le lt3__d szb)
  show Runs p.tables e below _ (T3_.setTop (mkF m 39 #[.val (.ref a), .val (.ref d), .val (.int (0 : Int32)), .val (.int (2 : Int32)), .val .null, .unset] [(.ref b)]))
  refine Runs.st (fun t' k' => XS.astore X3_.here hx rfl (hb hby d_jdk_42_method_149_39) rfl rfl (l' := #[.val (.ref a), .val (.ref d), .val (.int (0 : Int32)), .val (.int (2 : Int32)), .val .null, .val (.ref b)]) rfl k') ?_
  refine Runs.st (fun t' k' => XS.aloadN X3_.here hx rfl (hb hby d_jdk_42_method_149_41) rfl rfl k') ?_
  refine Runs.st (fun t' k' => XS.aload X3_.here hx rfl (hb hby d_jdk_42_method_149_42) rfl rfl k') ?_
  refine Runs.st (fun t' k' => XS.iloadN X3_.here hx rfl (hb hby d_jdk_42_method_149_44) rfl k') ?_
  obtain ⟨_, _, ⟨T4_, L4_, k4_, n4_⟩, -, X4_, ⟨Lc4_, hQ4_, l4_, y4_, z4_⟩, st4_⟩ := Jvm.LawKit.callS X3_ hx (y := (⟨"java/lang/StringUTF16", "coderFromArrayLen", "([BI)B"⟩ : MethodName)) hown (mvT hZ (hw _ (List.mem_of_getElem? (i := 62) rfl))) (mvT hZ (hw _ (List.mem_of_getElem? (i := 63) rfl))) (mvT hZ (hw _ (List.mem_of_getElem? (i := 57) rfl))) (mvT hZ (hw _ (List.mem_of_getElem? (i := 64) rfl))) (by decide) (backOf (W := 1) (rmCU2 l Z a0 hw [] b k2 _ T3_.heap n0 sz V_b) hZ (hw _ (List.mem_of_getElem? (i := 64) rfl)) (hw _ (List.mem_of_getElem? (i := 57) rfl)) (by decide) (by decide)) (g := (mkF m 45 #[.val (.ref a), .val (.ref d), .val (.int (0 : Int32)), .val (.int (2 : Int32)), .val .null, .val (.ref b)] [(.int (2 : Int32)), (.ref b), (.ref a)])) rfl (by rw [hml]; rfl) (argsL := [(.ref b), (.int (2 : Int32))]) (rest := [(.ref a)]) (lenOf pd__28_5bBI_29B rfl) rfl (by show 2 * 0 + _ ≤ _; exact Nat.le_of_eq rfl) (hb hby d_jdk_42_method_149_45) (fun _ _ => ⟨rfl, rfl, (by decide : 2 + 0 ≤ _), (by decide : 6 + 0 ≤ _)⟩)
  dsimp only [Pt.U, Pt.locs, Pt.cells, Pt.slots] at X4_ l4_ y4_ z4_ st4_ hQ4_
  subst l4_ y4_ z4_
  obtain ⟨rfl, N4_q, e4_⟩ := hQ4_
  have N4_ := Fr.app N3_ N4_q
  refine Runs.st (st4_) ?_
  replace X4_ := wider X4_ (c' := 2) (s' := 6) (by decide) (by decide)
  show Runs p.tables e below _ (T4_.setTop (mkF m 48 #[.val (.ref a), .val (.ref d), .val (.int (0 : Int32)), .val (.int (2 : Int32)), .val .null, .val (.ref b)] [(.int (1 : Int32)), (.ref a)]))
  obtain ⟨T5_, h5_, X5_, e5_, W5_, st5_⟩ := putFN X4_ hx hZ hown (hw _ (List.mem_of_getElem? (i := 26) rfl)) Via.refl e4_ F_c E_a (Or.inr ⟨(hw _ (List.mem_of_getElem? (i := 22) rfl)), rfl, hnm⟩) (hw _ (List.mem_of_getElem? (i := 6) rfl)) (ty := .byte) (v' := .int (1 : Int32)) (by decide) rfl rfl (g := (mkF m 48 #[.val (.ref a), .val (.ref d), .val (.int (0 : Int32)), .val (.int (2 : Int32)), .val .null, .val (.ref b)] [(.int (1 : Int32)), (.ref a)])) rfl rfl (hb hby d_jdk_42_method_149_48)
  refine Runs.st (st5_) ?_
  replace F_c := F_c.same W5_
  replace old := old.wr W5_ g_a
  replace E_a := Jvm.RoadKit.Exa.wr W5_ E_a
  replace F_v := F_v.other W5_ (Or.inr (slot_ne (Or.inr (hw _ (List.mem_of_getElem? (i := 21) rfl))) (Or.inr (hw _ (List.mem_of_getElem? (i := 22) rfl))) (by decide) (t := (.array .byte)) (t' := .byte) (by decide) (by decide)))
  replace V_b := V_b.other W5_ (Ne.symm ne_a_b)
  replace sz := Nat.le_trans sz (Keep.of_wr W5_).1
  have N5_ := Fr.snoc X5_ N4_ g_a
  replace K := K.wr W5_ (Or.inl (List.mem_of_getElem? (i := 0) rfl))
  show Runs p.tables e below _ (T5_.setTop (mkF m 51 #[.val (.ref a), .val (.ref d), .val (.int (0 : Int32)), .val (.int (2 : Int32)), .val .null, .val (.ref b)] []))
  refine Runs.st (fun t' k' => XS.aloadN X5_.here hx rfl (hb hby d_jdk_42_method_149_51) rfl rfl k') ?_
  refine Runs.st (fun t' k' => XS.aload X5_.here hx rfl (hb hby d_jdk_42_method_149_52) rfl rfl k') ?_
  obtain ⟨T6_, h6_, X6_, e6_, W6_, st6_⟩ := putF X5_ hx hZ hown (host := "") (Or.inl (hw _ (List.mem_of_getElem? (i := 25) rfl))) Via.refl e5_ F_v E_a (Or.inr ⟨(hw _ (List.mem_of_getElem? (i := 21) rfl)), rfl, hnm⟩) (hw _ (List.mem_of_getElem? (i := 6) rfl)) (ty := (.array .byte)) (by decide) rfl rfl (g := (mkF m 54 #[.val (.ref a), .val (.ref d), .val (.int (0 : Int32)), .val (.int (2 : Int32)), .val .null, .val (.ref b)] [(.ref b), (.ref a)])) rfl rfl (hb hby d_jdk_42_method_149_54)
  refine Runs.st (st6_) ?_
  replace F_v := F_v.same W6_
  replace old := old.wr W6_ g_a
  replace E_a := Jvm.RoadKit.Exa.wr W6_ E_a
  replace V_b := V_b.other W6_ (Ne.symm ne_a_b)
  replace F_c := F_c.other W6_ (Or.inr (slot_ne (Or.inr (hw _ (List.mem_of_getElem? (i := 22) rfl))) (Or.inr (hw _ (List.mem_of_getElem? (i := 21) rfl))) (by decide) (t := .byte) (t' := (.array .byte)) (by decide) (by decide)))
  replace sz := Nat.le_trans sz (Keep.of_wr W6_).1
  have N6_ := Fr.snoc X6_ N5_ g_a
  replace K := K.wr W6_ (Or.inl (List.mem_of_getElem? (i := 0) rfl))
  show Runs p.tables e below _ (T6_.setTop (mkF m 57 #[.val (.ref a), .val (.ref d), .val (.int (0 : Int32)), .val (.int (2 : Int32)), .val .null, .val (.ref b)] []))
  refine Runs.ret X6_ hlk (v := none) (fun _ => rfl) (by decide) (by decide) ?_ (fun fs hr => X6_.returnOut hx hret (hb hby d_jdk_42_method_149_57) hr)
  try rw [e6_]
  exact ⟨rfl, N6_, K, E_a, F_c, b, k2, sz_b, F_v, V_b⟩
def Q_rmIU2_1 (Z : State) (a : Addr) (d : Addr) (c0 c1 : Int32) (k1 : ClassId) (zc : Int32) (h0 : Heap) (n0 : Nat) : Option Value → Heap → List Loc → Prop := (fun v h L => v = none ∧ Fr n0 L ∧ Keep h0 h [a] ∧ Exa Z h a "java/lang/String" ∧ Fld Z h a "java/lang/String" "coder" "B" (.int (1 : Int32)) ∧ ∃ b k2, h0.size ≤ b ∧ Fld Z h a "java/lang/String" "value" "[B" (.ref b) ∧ Arv Z h b k2 .byte (4 : Int32) [(.int (nar .byte ((c0 >>> ((0 : Int32) &&& 31)).toInt8.toInt32))), (.int (nar .byte ((c0 >>> ((8 : Int32) &&& 31)).toInt8.toInt32))), (.int (nar .byte ((c1 >>> ((0 : Int32) &&& 31)).toInt8.toInt32))), (.int (nar .byte ((c1 >>> ((8 : Int32) &&& 31)).toInt8.toInt32)))] (.int (0 : Int32)))
set_option maxRecDepth 65536 in
set_option maxHeartbeats 40000000 in
theorem rmIU2_1 (l : Launch) (Z : State) (a0 : Array Value) (hw : ∀ d ∈ tables_1, d.before a0 Z = true) (ws : List Jvm.Cond) (a : Addr) (d : Addr) (c0 c1 : Int32) (k1 : ClassId) (zc : Int32) (h0 : Heap) (n0 : Nat) (Z0 : n0 ≤ h0.size) (old : Old Z n0 h0) (Sa : Sta Z Z.heap "java/lang/StringUTF16" "$assertionsDisabled" "Z" (.int (1 : Int32))) (Sh : Sta Z Z.heap "java/lang/StringUTF16" "HI_BYTE_SHIFT" "I" (.int (0 : Int32))) (Sl : Sta Z Z.heap "java/lang/StringUTF16" "LO_BYTE_SHIFT" "I" (.int (8 : Int32))) (E_a : Exa Z h0 a "java/lang/String") (F_v : Fld Z h0 a "java/lang/String" "value" "[B" .null) (F_c : Fld Z h0 a "java/lang/String" "coder" "B" (.int (0 : Int32))) (g_a : n0 ≤ a) (V_d : Arv Z h0 d k1 .char (2 : Int32) [(.int c0), (.int c1)] (.int (0 : Int32))) (Sc : Sta Z Z.heap "java/lang/String" "COMPACT_STRINGS" "Z" (.int zc)) (hzc : ¬ zc = 0) (u0 : ¬ ((255 : Int32) < c0)) (u1 : (255 : Int32) < c1) (rg : 0 ≤ c1.toInt ∧ c1.toInt ≤ 65535) :
    MetFree l (⟨"java/lang/String", "<init>", "([C)V"⟩ : MethodName) (head1 (Jvm.Cond.code (⟨"java/lang/String", "<init>", "([C)V"⟩ : MethodName) jdk_42_method_3_code 2 none :: ws) ({ frames := 5, cells := 2, slots := 6, locals := 75 } : Room)) (fun ar_ U => ar_ = #[(.ref a), (.ref d)] ∧ Z.Warmed39 U.vm ∧ U.heap = h0) (fun _ _ _ _ _ => True) (fun _ U o U' => Phi U (Q_rmIU2_1 Z a d c0 c1 k1 zc h0 n0) ({ frames := 5, cells := 2, slots := 6, locals := 75 } : Room).cells ({ frames := 5, cells := 2, slots := 6, locals := 75 } : Room).slots o U') := by
  refine MetFree.of_bodySF (plainFor_of_name pn_java_lang_String) hisR ?_
  intro p e s m args below meth c s₁ Bd hml0 hP hK
  obtain ⟨rfl, hZ, hh⟩ := hP
  have hx := Bd.exec
  have hby := Bd.bytes
  have hlk := Bd.notSynchronized
  have hml : c.maxLocals = 2 := hml0
  have hown : s.vm.findClass "java/lang/String" = some m.cls := findClass_of_methodNamed Bd.named
  have hown0 := hown
  have hnm := (name_of_methodNamed Bd.named Bd.method).1
  have hret := Bd.returns
  have X0 : Stand p l e ({ frames := 5, cells := 2, slots := 6, locals := 75 } : Room) s m #[(.ref a), (.ref d)] below meth c s₁ [] 0 0 := Stand.of_body Bd
  have e0 : s₁.heap = h0 := by rw [← hh, Bd.state]; rfl
  have N0 := Fr.nil n0
  have sz := Z0
  have K := Keep.refl h0 [a]
  show Runs p.tables e below (Phi s (Q_rmIU2_1 Z a d c0 c1 k1 zc h0 n0) ({ frames := 5, cells := 2, slots := 6, locals := 75 } : Room).cells ({ frames := 5, cells := 2, slots := 6, locals := 75 } : Room).slots) _
  refine Runs.st (fun t' k' => castTop (ef_jdk_42_method_3_RR m a d ) k') ?_
  show Runs p.tables e below _ (s₁.setTop (mkF m 0 #[.val (.ref a), .val (.ref d)] []))
  refine Runs.st (fun t' k' => XS.aloadN X0.here hx rfl (hb hby d_jdk_42_method_3_0) rfl rfl k') ?_
  refine Runs.st (fun t' k' => XS.aloadN X0.here hx rfl (hb hby d_jdk_42_method_3_1) rfl rfl k') ?_
  refine Runs.st (fun t' k' => XS.iconst X0.here hx rfl (hb hby d_jdk_42_method_3_2) k') ?_
  refine Runs.st (fun t' k' => XS.aloadN X0.here hx rfl (hb hby d_jdk_42_method_3_3) rfl rfl k') ?_
  obtain ⟨cl1_, Ar1_, -, S1_, M1_, -, -⟩ := id V_d
  refine Runs.st (X0.arraylength hx (by rw [e0]; exact Ar1_.1) (State.isArrayOf_alike hZ.alike Ar1_.2.1) (g := (mkF m 4 #[.val (.ref a), .val (.ref d)] [(.ref d), (.int (0 : Int32)), (.ref d), (.ref a)])) rfl rfl (hb hby d_jdk_42_method_3_4)) ?_
  rw [len_of S1_ M1_]
  show Runs p.tables e below _ (s₁.setTop (mkF m 5 #[.val (.ref a), .val (.ref d)] [(.int (2 : Int32)), (.int (0 : Int32)), (.ref d), (.ref a)]))
  refine Runs.st (fun t' k' => XS.aconstNull X0.here hx rfl (hb hby d_jdk_42_method_3_5) k') ?_
  obtain ⟨_, _, ⟨T2_, L2_, k2_, n2_⟩, -, X2_, ⟨Lc2_, hQ2_, l2_, y2_, z2_⟩, st2_⟩ := X0.specialBack hx (y := (⟨"java/lang/String", "<init>", "([CIILjava/lang/Void;)V"⟩ : MethodName)) rfl hown (mvT hZ (hw _ (List.mem_of_getElem? (i := 12) rfl))) (mvT hZ (hw _ (List.mem_of_getElem? (i := 13) rfl))) (mvT hZ (hw _ (List.mem_of_getElem? (i := 15) rfl))) (by decide) (backOf (W := 0) (rmIV2_1 l Z a0 hw [] a d c0 c1 k1 zc h0 n0 sz old Sa Sh Sl E_a F_v F_c g_a V_d Sc hzc u0 u1 rg) hZ (hw _ (List.mem_of_getElem? (i := 15) rfl)) (hw _ (List.mem_of_getElem? (i := 7) rfl)) (by decide) (by decide)) (g := (mkF m 6 #[.val (.ref a), .val (.ref d)] [.null, (.int (2 : Int32)), (.int (0 : Int32)), (.ref d), (.ref a)])) rfl (by rw [hml]; rfl) (Steps.refl _) (a := a) (argsL := [(.ref d), (.int (0 : Int32)), (.int (2 : Int32)), .null]) (rest := []) (lenOf pd__28_5bCIILjava_2flang_2fVoid_3b_29V rfl) rfl (by show 2 * 0 + _ ≤ _; exact Nat.le_of_eq rfl) (hb hby d_jdk_42_method_3_6) (fun _ _ => ⟨rfl, e0, (by decide : 0 + 2 ≤ _), (by decide : 0 + 6 ≤ _)⟩)
  dsimp only [Pt.U, Pt.locs, Pt.cells, Pt.slots] at X2_ l2_ y2_ z2_ st2_ hQ2_
  subst l2_ y2_ z2_
  obtain ⟨rfl, N2_q, K2_, E_a, F_c, b, k2, szb, F_v, V_b⟩ := hQ2_
  have N2_ := Fr.app N0 N2_q
  refine Runs.tr st2_ ?_
  replace X2_ := wider X2_ (c' := 2) (s' := 6) (by decide) (by decide)
  replace old := old.keep K2_ (allS g_a all0)
  replace sz := Nat.le_trans sz K2_.1
  replace K := K.trans K2_ (allS (Or.inl (List.mem_of_getElem? (i := 0) rfl)) all0)
  show Runs p.tables e below _ (T2_.setTop (mkF m 9 #[.val (.ref a), .val (.ref d)] []))
  refine Runs.ret X2_ hlk (v := none) (fun _ => rfl) (by decide) (by decide) ?_ (fun fs hr => X2_.returnOut hx hret (hb hby d_jdk_42_method_3_9) hr)
  exact ⟨rfl, N2_, K, E_a, F_c, b, k2, szb, F_v, V_b⟩
def Q_rmLG (Z : State) (b : Addr) (d : Addr) (k1 k2 : ClassId) (nx ny : Int32) (xs ys : List Int32) (r : Int32) (h0 : Heap) (n0 : Nat) : Option Value → Heap → List Loc → Prop := (fun v h L => v = some (.int r) ∧ Fr n0 L ∧ h = h0)
theorem pn_java_lang_StringLatin1 : plainName "java/lang/StringLatin1" = true := by first | (simp [plainName, overriddenIn]; done) | decide +kernel
theorem ef_jdk_43_method_13_RR (m : MethodId) (x0 : Addr) (x1 : Addr)  : entryFrame m #[(.ref x0), (.ref x1)] 3 = mkF m 0 #[.val (.ref x0), .val (.ref x1), .unset] [] := by first | (simp [entryFrame, mkF, argsToLocals, Value.category]; done) | rfl
theorem d_jdk_43_method_13_0 : decode jdk_43_method_13_code 0 = .ok (.aload_n 0, 1) := by decide +kernel
theorem d_jdk_43_method_13_1 : decode jdk_43_method_13_code 1 = .ok (.arraylength, 1) := by decide +kernel
theorem d_jdk_43_method_13_2 : decode jdk_43_method_13_code 2 = .ok (.aload_n 1, 1) := by decide +kernel
theorem d_jdk_43_method_13_3 : decode jdk_43_method_13_code 3 = .ok (.arraylength, 1) := by decide +kernel
theorem d_jdk_43_method_13_4 : decode jdk_43_method_13_code 4 = .ok (.if_icmp .ne 30, 3) := by decide +kernel
theorem d_jdk_43_method_13_7 : decode jdk_43_method_13_code 7 = .ok (.iconst 0, 1) := by decide +kernel
theorem d_jdk_43_method_13_8 : decode jdk_43_method_13_code 8 = .ok (.istore_n 2, 1) := by decide +kernel
theorem d_jdk_43_method_13_9 : decode jdk_43_method_13_code 9 = .ok (.iload_n 2, 1) := by decide +kernel
theorem d_jdk_43_method_13_10 : decode jdk_43_method_13_code 10 = .ok (.aload_n 0, 1) := by decide +kernel
theorem d_jdk_43_method_13_11 : decode jdk_43_method_13_code 11 = .ok (.arraylength, 1) := by decide +kernel
theorem d_jdk_43_method_13_12 : decode jdk_43_method_13_code 12 = .ok (.if_icmp .ge 20, 3) := by decide +kernel
theorem d_jdk_43_method_13_32 : decode jdk_43_method_13_code 32 = .ok (.iconst 1, 1) := by decide +kernel
theorem d_jdk_43_method_13_33 : decode jdk_43_method_13_code 33 = .ok (.ireturn, 1) := by decide +kernel
theorem d_jdk_43_method_13_15 : decode jdk_43_method_13_code 15 = .ok (.aload_n 0, 1) := by decide +kernel
theorem d_jdk_43_method_13_16 : decode jdk_43_method_13_code 16 = .ok (.iload_n 2, 1) := by decide +kernel
theorem d_jdk_43_method_13_17 : decode jdk_43_method_13_code 17 = .ok (.baload, 1) := by decide +kernel
theorem d_jdk_43_method_13_18 : decode jdk_43_method_13_code 18 = .ok (.aload_n 1, 1) := by decide +kernel
theorem d_jdk_43_method_13_19 : decode jdk_43_method_13_code 19 = .ok (.iload_n 2, 1) := by decide +kernel
theorem d_jdk_43_method_13_20 : decode jdk_43_method_13_code 20 = .ok (.baload, 1) := by decide +kernel
theorem d_jdk_43_method_13_21 : decode jdk_43_method_13_code 21 = .ok (.if_icmp .eq 5, 3) := by decide +kernel
theorem d_jdk_43_method_13_26 : decode jdk_43_method_13_code 26 = .ok (.iinc 2 1, 3) := by decide +kernel
theorem d_jdk_43_method_13_29 : decode jdk_43_method_13_code 29 = .ok (.goto (-20), 3) := by decide +kernel
theorem d_jdk_43_method_13_24 : decode jdk_43_method_13_code 24 = .ok (.iconst 0, 1) := by decide +kernel
theorem d_jdk_43_method_13_25 : decode jdk_43_method_13_code 25 = .ok (.ireturn, 1) := by decide +kernel
theorem d_jdk_43_method_13_34 : decode jdk_43_method_13_code 34 = .ok (.iconst 0, 1) := by decide +kernel
theorem d_jdk_43_method_13_35 : decode jdk_43_method_13_code 35 = .ok (.ireturn, 1) := by decide +kernel
set_option maxRecDepth 65536 in
set_option maxHeartbeats 40000000 in
theorem rmLG (l : Launch) (Z : State) (a0 : Array Value) (hw : ∀ d ∈ tables_1, d.before a0 Z = true) (ws : List Jvm.Cond) (b : Addr) (d : Addr) (k1 k2 : ClassId) (nx ny : Int32) (xs ys : List Int32) (r : Int32) (h0 : Heap) (n0 : Nat) (Z0 : n0 ≤ h0.size) (V1 : Arv Z h0 b k1 .byte nx (xs.map Value.int) (.int (0 : Int32))) (V2 : Arv Z h0 d k2 .byte ny (ys.map Value.int) (.int (0 : Int32))) (hnx : nx.toInt = xs.length) (hny : ny.toInt = ys.length) (hr_ : r = own_b (xs = ys)) :
    MetFree l (⟨"java/lang/StringLatin1", "equals", "([B[B)Z"⟩ : MethodName) (head1 (Jvm.Cond.code (⟨"java/lang/StringLatin1", "equals", "([B[B)Z"⟩ : MethodName) jdk_43_method_13_code 3 (some .boolean) :: ws) ({ frames := 0, cells := 0, slots := 0, locals := 0 } : Room)) (fun ar_ U => ar_ = #[(.ref b), (.ref d)] ∧ Z.Warmed39 U.vm ∧ U.heap = h0) (fun _ _ _ _ _ => True) (fun _ U o U' => Phi U (Q_rmLG Z b d k1 k2 nx ny xs ys r h0 n0) ({ frames := 0, cells := 0, slots := 0, locals := 0 } : Room).cells ({ frames := 0, cells := 0, slots := 0, locals := 0 } : Room).slots o U') := by
  refine MetFree.of_bodySF (plainFor_of_name pn_java_lang_StringLatin1) hisR ?_
  intro p e s m args below meth c s₁ Bd hml0 hP hK
  obtain ⟨rfl, hZ, hh⟩ := hP
  have hx := Bd.exec
  have hby := Bd.bytes
  have hlk := Bd.notSynchronized
  have hml : c.maxLocals = 3 := hml0
  have hown : s.vm.findClass "java/lang/StringLatin1" = some m.cls := findClass_of_methodNamed Bd.named
  have hown0 := hown
  have hnm := (name_of_methodNamed Bd.named Bd.method).1
  have hret := Bd.returns
  have X0 : Stand p l e ({ frames := 0, cells := 0, slots := 0, locals := 0 } : Room) s m #[(.ref b), (.ref d)] below meth c s₁ [] 0 0 := Stand.of_body Bd
  have e0 : s₁.heap = h0 := by rw [← hh, Bd.state]; rfl
  have N0 := Fr.nil n0
  have sz := Z0
  have K := Keep.refl h0 []
  show Runs p.tables e below (Phi s (Q_rmLG Z b d k1 k2 nx ny xs ys r h0 n0) ({ frames := 0, cells := 0, slots := 0, locals := 0 } : Room).cells ({ frames := 0, cells := 0, slots := 0, locals := 0 } : Room).slots) _
  refine Runs.st (fun t' k' => castTop (ef_jdk_43_method_13_RR m b d ) k') ?_
  show Runs p.tables e below _ (s₁.setTop (mkF m 0 #[.val (.ref b), .val (.ref d), .unset] []))
  refine Runs.st (fun t' k' => XS.aloadN X0.here hx rfl (hb hby d_jdk_43_method_13_0) rfl rfl k') ?_
  obtain ⟨cl1_, Ar1_, -, S1_, M1_, -, -⟩ := id V1
  refine Runs.st (X0.arraylength hx (by rw [e0]; exact Ar1_.1) (State.isArrayOf_alike hZ.alike Ar1_.2.1) (g := (mkF m 1 #[.val (.ref b), .val (.ref d), .unset] [(.ref b)])) rfl rfl (hb hby d_jdk_43_method_13_1)) ?_
  rw [len_of S1_ M1_]
  show Runs p.tables e below _ (s₁.setTop (mkF m 2 #[.val (.ref b), .val (.ref d), .unset] [(.int nx)]))
  refine Runs.st (fun t' k' => XS.aloadN X0.here hx rfl (hb hby d_jdk_43_method_13_2) rfl rfl k') ?_
  obtain ⟨cl2_, Ar2_, -, S2_, M2_, -, -⟩ := id V2
  refine Runs.st (X0.arraylength hx (by rw [e0]; exact Ar2_.1) (State.isArrayOf_alike hZ.alike Ar2_.2.1) (g := (mkF m 3 #[.val (.ref b), .val (.ref d), .unset] [(.ref d), (.int nx)])) rfl rfl (hb hby d_jdk_43_method_13_3)) ?_
  rw [len_of S2_ M2_]
  show Runs p.tables e below _ (s₁.setTop (mkF m 4 #[.val (.ref b), .val (.ref d), .unset] [(.int ny), (.int nx)]))
  by_cases c4 : nx = ny
  · skip
    refine Runs.st (fun t' k' => XS.icmpNo X0.here hx rfl (hb hby d_jdk_43_method_13_4) rfl (teq c4).2 k') ?_
    show Runs p.tables e below _ (s₁.setTop (mkF m 7 #[.val (.ref b), .val (.ref d), .unset] []))
    rw [← c4] at V2 hny
    have hl : xs.length = ys.length := by omega
    refine Runs.st (fun t' k' => XS.iconst X0.here hx rfl (hb hby d_jdk_43_method_13_7) k') ?_
    refine Runs.st (fun t' k' => XS.istoreN X0.here hx rfl (hb hby d_jdk_43_method_13_8) rfl (l' := #[.val (.ref b), .val (.ref d), .val (.int (0 : Int32))]) rfl k') ?_
    have loop : ∀ (k i : Nat) (iv : Int32), iv.toInt = (i : Int) → i + k = xs.length → (∀ j, j < i → xs.getD j 0 = ys.getD j 0) → Runs p.tables e below (Phi s (Q_rmLG Z b d k1 k2 nx ny xs ys r h0 n0) ({ frames := 0, cells := 0, slots := 0, locals := 0 } : Room).cells ({ frames := 0, cells := 0, slots := 0, locals := 0 } : Room).slots) (s₁.setTop (mkF m 9 #[.val (.ref b), .val (.ref d), .val (.int iv)] [])) := by
      intro k
      have hb32 := rng32 nx
      induction k with
      | zero =>
        intro i iv h1 h2 h3
        show Runs p.tables e below _ (s₁.setTop (mkF m 9 #[.val (.ref b), .val (.ref d), .val (.int iv)] []))
        refine Runs.st (fun t' k' => XS.iloadN X0.here hx rfl (hb hby d_jdk_43_method_13_9) rfl k') ?_
        refine Runs.st (fun t' k' => XS.aloadN X0.here hx rfl (hb hby d_jdk_43_method_13_10) rfl rfl k') ?_
        obtain ⟨cl3_, Ar3_, -, S3_, M3_, -, -⟩ := id V1
        refine Runs.st (X0.arraylength hx (by rw [e0]; exact Ar3_.1) (State.isArrayOf_alike hZ.alike Ar3_.2.1) (g := (mkF m 11 #[.val (.ref b), .val (.ref d), .val (.int iv)] [(.ref b), (.int iv)])) rfl rfl (hb hby d_jdk_43_method_13_11)) ?_
        rw [len_of S3_ M3_]
        show Runs p.tables e below _ (s₁.setTop (mkF m 12 #[.val (.ref b), .val (.ref d), .val (.int iv)] [(.int nx), (.int iv)]))
        refine Runs.st (fun t' k' => XS.icmpYes X0.here hx rfl (pc0 := 12) (pc' := 32) rfl (hb hby d_jdk_43_method_13_12) rfl (flt (fun q => by have q' := Int32.lt_iff_toInt_lt.mp q; omega)).2.1 (by decide) (by decide) k') ?_
        show Runs p.tables e below _ (s₁.setTop (mkF m 32 #[.val (.ref b), .val (.ref d), .val (.int iv)] []))
        refine Runs.st (fun t' k' => XS.iconst X0.here hx rfl (hb hby d_jdk_43_method_13_32) k') ?_
        refine Runs.ret X0 hlk (v := (some (.int (1 : Int32)))) (fun h => by rw [hret] at h; cases h) (by decide) (by decide) ?_ (fun fs hr => retN X0 hx (t := .boolean) hret (by simp) (hb hby d_jdk_43_method_13_33) hr)
        try rw [e0]
        exact ⟨congrArg (fun z => some (Value.int z)) (Eq.trans (own_b_pos (own_ext xs ys hl fun j hj => h3 j (by omega))).symm hr_.symm), N0, rfl⟩
      | succ k ih =>
        intro i iv h1 h2 h3
        have q1 : ¬ iv < 0 := fun q => by have q' := Int32.lt_iff_toInt_lt.mp q; change _ < (0 : Int) at q'; omega
        have q2 : iv < nx := Int32.lt_iff_toInt_lt.mpr (by omega)
        show Runs p.tables e below _ (s₁.setTop (mkF m 9 #[.val (.ref b), .val (.ref d), .val (.int iv)] []))
        refine Runs.st (fun t' k' => XS.iloadN X0.here hx rfl (hb hby d_jdk_43_method_13_9) rfl k') ?_
        refine Runs.st (fun t' k' => XS.aloadN X0.here hx rfl (hb hby d_jdk_43_method_13_10) rfl rfl k') ?_
        obtain ⟨cl4_, Ar4_, -, S4_, M4_, -, -⟩ := id V1
        refine Runs.st (X0.arraylength hx (by rw [e0]; exact Ar4_.1) (State.isArrayOf_alike hZ.alike Ar4_.2.1) (g := (mkF m 11 #[.val (.ref b), .val (.ref d), .val (.int iv)] [(.ref b), (.int iv)])) rfl rfl (hb hby d_jdk_43_method_13_11)) ?_
        rw [len_of S4_ M4_]
        show Runs p.tables e below _ (s₁.setTop (mkF m 12 #[.val (.ref b), .val (.ref d), .val (.int iv)] [(.int nx), (.int iv)]))
        refine Runs.st (fun t' k' => XS.icmpNo X0.here hx rfl (hb hby d_jdk_43_method_13_12) rfl (tlt q2).2.1 k') ?_
        show Runs p.tables e below _ (s₁.setTop (mkF m 15 #[.val (.ref b), .val (.ref d), .val (.int iv)] []))
        refine Runs.st (fun t' k' => XS.aloadN X0.here hx rfl (hb hby d_jdk_43_method_13_15) rfl rfl k') ?_
        refine Runs.st (fun t' k' => XS.iloadN X0.here hx rfl (hb hby d_jdk_43_method_13_16) rfl k') ?_
        obtain ⟨cl5_, Ar5_, -, S5_, M5_, Ha5_, -⟩ := id V1
        have hin5_ : ¬ (iv < 0 ∨ cl5_.slots.size ≤ (iv).toNatClampNeg) := inb_of S5_ ⟨q1, q2⟩
        refine Runs.st (X0.baloadBytes hx (j := iv) (v := (.int (xs.getD i 0))) (by rw [e0]; exact Ar5_.1) (State.isArrayOf_alike hZ.alike Ar5_.2.1) Ar5_.2.2 hin5_ (Ha5_.at hin5_ (own_getD xs i iv h1)) (g := (mkF m 17 #[.val (.ref b), .val (.ref d), .val (.int iv)] [(.int iv), (.ref b)])) rfl rfl (hb hby d_jdk_43_method_13_17)) ?_
        show Runs p.tables e below _ (s₁.setTop (mkF m 18 #[.val (.ref b), .val (.ref d), .val (.int iv)] [(.int (xs.getD i 0))]))
        refine Runs.st (fun t' k' => XS.aloadN X0.here hx rfl (hb hby d_jdk_43_method_13_18) rfl rfl k') ?_
        refine Runs.st (fun t' k' => XS.iloadN X0.here hx rfl (hb hby d_jdk_43_method_13_19) rfl k') ?_
        obtain ⟨cl6_, Ar6_, -, S6_, M6_, Ha6_, -⟩ := id V2
        have hin6_ : ¬ (iv < 0 ∨ cl6_.slots.size ≤ (iv).toNatClampNeg) := inb_of S6_ ⟨q1, q2⟩
        refine Runs.st (X0.baloadBytes hx (j := iv) (v := (.int (ys.getD i 0))) (by rw [e0]; exact Ar6_.1) (State.isArrayOf_alike hZ.alike Ar6_.2.1) Ar6_.2.2 hin6_ (Ha6_.at hin6_ (own_getD ys i iv h1)) (g := (mkF m 20 #[.val (.ref b), .val (.ref d), .val (.int iv)] [(.int iv), (.ref d), (.int (xs.getD i 0))])) rfl rfl (hb hby d_jdk_43_method_13_20)) ?_
        show Runs p.tables e below _ (s₁.setTop (mkF m 21 #[.val (.ref b), .val (.ref d), .val (.int iv)] [(.int (ys.getD i 0)), (.int (xs.getD i 0))]))
        by_cases c21 : (xs.getD i 0) = (ys.getD i 0)
        · skip
          refine Runs.st (fun t' k' => XS.icmpYes X0.here hx rfl (pc0 := 21) (pc' := 26) rfl (hb hby d_jdk_43_method_13_21) rfl (teq c21).1 (by decide) (by decide) k') ?_
          show Runs p.tables e below _ (s₁.setTop (mkF m 26 #[.val (.ref b), .val (.ref d), .val (.int iv)] []))
          refine Runs.st (fun t' k' => XS.iinc X0.here hx rfl (hb hby d_jdk_43_method_13_26) rfl (l' := #[.val (.ref b), .val (.ref d), .val (.int (iv + (1 : Int32)))]) rfl k') ?_
          refine Runs.st (fun t' k' => XS.goto X0.here hx rfl (pc0 := 29) (pc' := 9) rfl (hb hby d_jdk_43_method_13_29) (by decide) (by decide) k') ?_
          exact ih (i + 1) _ (own_succ iv i h1 (by omega)) (by omega) (fun j hj => by rcases Nat.lt_or_ge j i with q | q; exact h3 j q; rw [show j = i by omega]; exact c21)
        · skip
          refine Runs.st (fun t' k' => XS.icmpNo X0.here hx rfl (hb hby d_jdk_43_method_13_21) rfl (feq c21).1 k') ?_
          show Runs p.tables e below _ (s₁.setTop (mkF m 24 #[.val (.ref b), .val (.ref d), .val (.int iv)] []))
          refine Runs.st (fun t' k' => XS.iconst X0.here hx rfl (hb hby d_jdk_43_method_13_24) k') ?_
          refine Runs.ret X0 hlk (v := (some (.int (0 : Int32)))) (fun h => by rw [hret] at h; cases h) (by decide) (by decide) ?_ (fun fs hr => retN X0 hx (t := .boolean) hret (by simp) (hb hby d_jdk_43_method_13_25) hr)
          try rw [e0]
          exact ⟨congrArg (fun z => some (Value.int z)) (Eq.trans (own_b_neg fun q => c21 (by rw [q])).symm hr_.symm), N0, rfl⟩
    exact loop xs.length 0 _ rfl (by omega) (fun j hj => absurd hj (Nat.not_lt_zero j))
  · skip
    refine Runs.st (fun t' k' => XS.icmpYes X0.here hx rfl (pc0 := 4) (pc' := 34) rfl (hb hby d_jdk_43_method_13_4) rfl (feq c4).2 (by decide) (by decide) k') ?_
    show Runs p.tables e below _ (s₁.setTop (mkF m 34 #[.val (.ref b), .val (.ref d), .unset] []))
    refine Runs.st (fun t' k' => XS.iconst X0.here hx rfl (hb hby d_jdk_43_method_13_34) k') ?_
    refine Runs.ret X0 hlk (v := (some (.int (0 : Int32)))) (fun h => by rw [hret] at h; cases h) (by decide) (by decide) ?_ (fun fs hr => retN X0 hx (t := .boolean) hret (by simp) (hb hby d_jdk_43_method_13_35) hr)
    try rw [e0]
    exact ⟨congrArg (fun z => some (Value.int z)) (Eq.trans (own_b_neg fun q => c4 (Int32.toInt_inj.mp (by rw [hnx, hny, q]))).symm hr_.symm), N0, rfl⟩
def Q_rmSG (Z : State) (a : Addr) (oo : Addr) (zc : Int32) (b d : Addr) (k1 k2 : ClassId) (co cp nx ny : Int32) (xs ys : List Int32) (r : Int32) (h0 : Heap) (n0 : Nat) : Option Value → Heap → List Loc → Prop := (fun v h L => v = some (.int r) ∧ Fr n0 L ∧ h = h0)
theorem ef_jdk_42_method_66_RR (m : MethodId) (x0 : Addr) (x1 : Addr)  : entryFrame m #[(.ref x0), (.ref x1)] 3 = mkF m 0 #[.val (.ref x0), .val (.ref x1), .unset] [] := by first | (simp [entryFrame, mkF, argsToLocals, Value.category]; done) | rfl
theorem d_jdk_42_method_66_0 : decode jdk_42_method_66_code 0 = .ok (.aload_n 0, 1) := by decide +kernel
theorem d_jdk_42_method_66_1 : decode jdk_42_method_66_code 1 = .ok (.aload_n 1, 1) := by decide +kernel
theorem d_jdk_42_method_66_2 : decode jdk_42_method_66_code 2 = .ok (.if_acmp .ne 5, 3) := by decide +kernel
theorem d_jdk_42_method_66_5 : decode jdk_42_method_66_code 5 = .ok (.iconst 1, 1) := by decide +kernel
theorem d_jdk_42_method_66_6 : decode jdk_42_method_66_code 6 = .ok (.ireturn, 1) := by decide +kernel
theorem d_jdk_42_method_66_7 : decode jdk_42_method_66_code 7 = .ok (.aload_n 1, 1) := by decide +kernel
theorem d_jdk_42_method_66_8 : decode jdk_42_method_66_code 8 = .ok (.instanceof 10, 3) := by decide +kernel
theorem d_jdk_42_method_66_11 : decode jdk_42_method_66_code 11 = .ok (.ifCond .eq 43, 3) := by decide +kernel
theorem d_jdk_42_method_66_14 : decode jdk_42_method_66_code 14 = .ok (.aload_n 1, 1) := by decide +kernel
theorem d_jdk_42_method_66_15 : decode jdk_42_method_66_code 15 = .ok (.checkcast 10, 3) := by decide +kernel
theorem d_jdk_42_method_66_18 : decode jdk_42_method_66_code 18 = .ok (.astore_n 2, 1) := by decide +kernel
theorem d_jdk_42_method_66_19 : decode jdk_42_method_66_code 19 = .ok (.getstatic 38, 3) := by decide +kernel
theorem d_jdk_42_method_66_22 : decode jdk_42_method_66_code 22 = .ok (.ifCond .eq 14, 3) := by decide +kernel
theorem d_jdk_42_method_66_25 : decode jdk_42_method_66_code 25 = .ok (.aload_n 0, 1) := by decide +kernel
theorem d_jdk_42_method_66_26 : decode jdk_42_method_66_code 26 = .ok (.getfield 15, 3) := by decide +kernel
theorem d_jdk_42_method_66_29 : decode jdk_42_method_66_code 29 = .ok (.aload_n 2, 1) := by decide +kernel
theorem d_jdk_42_method_66_30 : decode jdk_42_method_66_code 30 = .ok (.getfield 15, 3) := by decide +kernel
theorem d_jdk_42_method_66_33 : decode jdk_42_method_66_code 33 = .ok (.if_icmp .ne 21, 3) := by decide +kernel
theorem d_jdk_42_method_66_36 : decode jdk_42_method_66_code 36 = .ok (.aload_n 0, 1) := by decide +kernel
theorem d_jdk_42_method_66_37 : decode jdk_42_method_66_code 37 = .ok (.getfield 9, 3) := by decide +kernel
theorem d_jdk_42_method_66_40 : decode jdk_42_method_66_code 40 = .ok (.aload_n 2, 1) := by decide +kernel
theorem d_jdk_42_method_66_41 : decode jdk_42_method_66_code 41 = .ok (.getfield 9, 3) := by decide +kernel
theorem pd__28_5bB_5bB_29Z : parseMethodDescriptor "([B[B)Z" = some ⟨[(.array .byte), (.array .byte)], some .boolean⟩ := by decide +kernel
theorem d_jdk_42_method_66_44 : decode jdk_42_method_66_code 44 = .ok (.invokestatic 541, 3) := by decide +kernel
theorem d_jdk_42_method_66_47 : decode jdk_42_method_66_code 47 = .ok (.ifCond .eq 7, 3) := by decide +kernel
theorem d_jdk_42_method_66_54 : decode jdk_42_method_66_code 54 = .ok (.iconst 0, 1) := by decide +kernel
theorem d_jdk_42_method_66_55 : decode jdk_42_method_66_code 55 = .ok (.ireturn, 1) := by decide +kernel
theorem d_jdk_42_method_66_50 : decode jdk_42_method_66_code 50 = .ok (.iconst 1, 1) := by decide +kernel
theorem d_jdk_42_method_66_51 : decode jdk_42_method_66_code 51 = .ok (.goto 4, 3) := by decide +kernel
set_option maxRecDepth 65536 in
set_option maxHeartbeats 40000000 in
theorem rmSG (l : Launch) (Z : State) (a0 : Array Value) (hw : ∀ d ∈ tables_1, d.before a0 Z = true) (ws : List Jvm.Cond) (a : Addr) (oo : Addr) (zc : Int32) (b d : Addr) (k1 k2 : ClassId) (co cp nx ny : Int32) (xs ys : List Int32) (r : Int32) (h0 : Heap) (n0 : Nat) (Z0 : n0 ≤ h0.size) (hsame : a = oo → co = cp ∧ xs = ys) (Sc : Sta Z h0 "java/lang/String" "COMPACT_STRINGS" "Z" (.int zc)) (hzc : ¬ zc = 0) (Ea : Exa Z h0 a "java/lang/String") (Ca : Fld Z h0 a "java/lang/String" "coder" "B" (.int co)) (Va : Fld Z h0 a "java/lang/String" "value" "[B" (.ref b)) (Eo : Exa Z h0 oo "java/lang/String") (Co : Fld Z h0 oo "java/lang/String" "coder" "B" (.int cp)) (Vo : Fld Z h0 oo "java/lang/String" "value" "[B" (.ref d)) (V1 : Arv Z h0 b k1 .byte nx (xs.map Value.int) (.int (0 : Int32))) (V2 : Arv Z h0 d k2 .byte ny (ys.map Value.int) (.int (0 : Int32))) (hnx : nx.toInt = xs.length) (hny : ny.toInt = ys.length) (hr_ : r = own_b (co = cp ∧ xs = ys)) :
    MetFree l (⟨"java/lang/String", "equals", "(Ljava/lang/Object;)Z"⟩ : MethodName) (head1 (Jvm.Cond.code (⟨"java/lang/String", "equals", "(Ljava/lang/Object;)Z"⟩ : MethodName) jdk_42_method_66_code 3 (some .boolean) :: ws) ({ frames := 1, cells := 0, slots := 0, locals := 14 } : Room)) (fun ar_ U => ar_ = #[(.ref a), (.ref oo)] ∧ Z.Warmed39 U.vm ∧ U.heap = h0) (fun _ _ _ _ _ => True) (fun _ U o U' => Phi U (Q_rmSG Z a oo zc b d k1 k2 co cp nx ny xs ys r h0 n0) ({ frames := 1, cells := 0, slots := 0, locals := 14 } : Room).cells ({ frames := 1, cells := 0, slots := 0, locals := 14 } : Room).slots o U') := by
  refine MetFree.of_bodySF (plainFor_of_name pn_java_lang_String) hisR ?_
  intro p e s m args below meth c s₁ Bd hml0 hP hK
  obtain ⟨rfl, hZ, hh⟩ := hP
  have hx := Bd.exec
  have hby := Bd.bytes
  have hlk := Bd.notSynchronized
  have hml : c.maxLocals = 3 := hml0
  have hown : s.vm.findClass "java/lang/String" = some m.cls := findClass_of_methodNamed Bd.named
  have hown0 := hown
  have hnm := (name_of_methodNamed Bd.named Bd.method).1
  have hret := Bd.returns
  have X0 : Stand p l e ({ frames := 1, cells := 0, slots := 0, locals := 14 } : Room) s m #[(.ref a), (.ref oo)] below meth c s₁ [] 0 0 := Stand.of_body Bd
  have e0 : s₁.heap = h0 := by rw [← hh, Bd.state]; rfl
  have N0 := Fr.nil n0
  have sz := Z0
  have K := Keep.refl h0 []
  show Runs p.tables e below (Phi s (Q_rmSG Z a oo zc b d k1 k2 co cp nx ny xs ys r h0 n0) ({ frames := 1, cells := 0, slots := 0, locals := 14 } : Room).cells ({ frames := 1, cells := 0, slots := 0, locals := 14 } : Room).slots) _
  refine Runs.st (fun t' k' => castTop (ef_jdk_42_method_66_RR m a oo ) k') ?_
  show Runs p.tables e below _ (s₁.setTop (mkF m 0 #[.val (.ref a), .val (.ref oo), .unset] []))
  refine Runs.st (fun t' k' => XS.aloadN X0.here hx rfl (hb hby d_jdk_42_method_66_0) rfl rfl k') ?_
  refine Runs.st (fun t' k' => XS.aloadN X0.here hx rfl (hb hby d_jdk_42_method_66_1) rfl rfl k') ?_
  by_cases q1 : a = oo
  · skip
    refine Runs.st (fun t' k' => Jvm.RoadKit.acmp (g := (mkF m 2 #[.val (.ref a), .val (.ref oo), .unset] [(.ref oo), (.ref a)])) X0 hx rfl rfl rfl (pc0 := 2) (pc' := 5) (same := true) rfl (hb hby d_jdk_42_method_66_2) rfl (decide_eq_true (congrArg Value.ref q1)) (by decide) (by decide) k') ?_
    show Runs p.tables e below _ (s₁.setTop (mkF m 5 #[.val (.ref a), .val (.ref oo), .unset] []))
    refine Runs.st (fun t' k' => XS.iconst X0.here hx rfl (hb hby d_jdk_42_method_66_5) k') ?_
    refine Runs.ret X0 hlk (v := (some (.int (1 : Int32)))) (fun h => by rw [hret] at h; cases h) (by decide) (by decide) ?_ (fun fs hr => retN X0 hx (t := .boolean) hret (by simp) (hb hby d_jdk_42_method_66_6) hr)
    try rw [e0]
    exact ⟨congrArg (fun z => some (Value.int z)) (Eq.trans (own_b_pos (hsame q1)).symm hr_.symm), N0, rfl⟩
  · skip
    refine Runs.st (fun t' k' => Jvm.RoadKit.acmp (g := (mkF m 2 #[.val (.ref a), .val (.ref oo), .unset] [(.ref oo), (.ref a)])) X0 hx rfl rfl rfl (pc0 := 2) (pc' := 7) (same := false) rfl (hb hby d_jdk_42_method_66_2) rfl (decide_eq_false fun q => q1 (Value.ref.inj q)) (by decide) (by decide) k') ?_
    show Runs p.tables e below _ (s₁.setTop (mkF m 7 #[.val (.ref a), .val (.ref oo), .unset] []))
    refine Runs.st (fun t' k' => XS.aloadN X0.here hx rfl (hb hby d_jdk_42_method_66_7) rfl rfl k') ?_
    obtain ⟨T1_, X1_, e1_, st1_⟩ := instY X0 hx hZ hown (hw _ (List.mem_of_getElem? (i := 86) rfl)) e0 (Ins.self Eo) (g := (mkF m 8 #[.val (.ref a), .val (.ref oo), .unset] [(.ref oo)])) rfl rfl (hb hby d_jdk_42_method_66_8)
    refine Runs.st (st1_) ?_
    show Runs p.tables e below _ (T1_.setTop (mkF m 11 #[.val (.ref a), .val (.ref oo), .unset] [(.int (1 : Int32))]))
    refine Runs.st (fun t' k' => XS.ifNo X1_.here hx rfl (hb hby d_jdk_42_method_66_11) rfl ((if0 _ _).trans (feq (by decide)).1) k') ?_
    show Runs p.tables e below _ (T1_.setTop (mkF m 14 #[.val (.ref a), .val (.ref oo), .unset] []))
    refine Runs.st (fun t' k' => XS.aloadN X1_.here hx rfl (hb hby d_jdk_42_method_66_14) rfl rfl k') ?_
    obtain ⟨T2_, X2_, e2_, st2_⟩ := castY X1_ hx hZ hown (hw _ (List.mem_of_getElem? (i := 86) rfl)) e1_ (Ins.self Eo) (g := (mkF m 15 #[.val (.ref a), .val (.ref oo), .unset] [(.ref oo)])) rfl rfl (hb hby d_jdk_42_method_66_15)
    refine Runs.st (st2_) ?_
    show Runs p.tables e below _ (T2_.setTop (mkF m 18 #[.val (.ref a), .val (.ref oo), .unset] [(.ref oo)]))
    refine Runs.st (fun t' k' => XS.astoreN X2_.here hx rfl (hb hby d_jdk_42_method_66_18) rfl rfl (l' := #[.val (.ref a), .val (.ref oo), .val (.ref oo)]) rfl k') ?_
    obtain ⟨T3_, X3_, e3_, st3_⟩ := getS2 X2_ hx hZ hown (host := "") (Or.inl (hw _ (List.mem_of_getElem? (i := 54) rfl))) Via.refl e2_ Sc (g := (mkF m 19 #[.val (.ref a), .val (.ref oo), .val (.ref oo)] [])) rfl (hb hby d_jdk_42_method_66_19)
    refine Runs.st (st3_) ?_
    show Runs p.tables e below _ (T3_.setTop (mkF m 22 #[.val (.ref a), .val (.ref oo), .val (.ref oo)] [(.int zc)]))
    refine Runs.st (fun t' k' => XS.ifNo X3_.here hx rfl (hb hby d_jdk_42_method_66_22) rfl ((if0 _ _).trans (feq hzc).1) k') ?_
    show Runs p.tables e below _ (T3_.setTop (mkF m 25 #[.val (.ref a), .val (.ref oo), .val (.ref oo)] []))
    refine Runs.st (fun t' k' => XS.aloadN X3_.here hx rfl (hb hby d_jdk_42_method_66_25) rfl rfl k') ?_
    obtain ⟨T4_, X4_, e4_, st4_⟩ := getF X3_ hx hZ hown (host := "") (Or.inl (hw _ (List.mem_of_getElem? (i := 26) rfl))) Via.refl e3_ Ca (g := (mkF m 26 #[.val (.ref a), .val (.ref oo), .val (.ref oo)] [(.ref a)])) rfl rfl (hb hby d_jdk_42_method_66_26)
    refine Runs.st (st4_) ?_
    show Runs p.tables e below _ (T4_.setTop (mkF m 29 #[.val (.ref a), .val (.ref oo), .val (.ref oo)] [(.int co)]))
    refine Runs.st (fun t' k' => XS.aloadN X4_.here hx rfl (hb hby d_jdk_42_method_66_29) rfl rfl k') ?_
    obtain ⟨T5_, X5_, e5_, st5_⟩ := getF X4_ hx hZ hown (host := "") (Or.inl (hw _ (List.mem_of_getElem? (i := 26) rfl))) Via.refl e4_ Co (g := (mkF m 30 #[.val (.ref a), .val (.ref oo), .val (.ref oo)] [(.ref oo), (.int co)])) rfl rfl (hb hby d_jdk_42_method_66_30)
    refine Runs.st (st5_) ?_
    show Runs p.tables e below _ (T5_.setTop (mkF m 33 #[.val (.ref a), .val (.ref oo), .val (.ref oo)] [(.int cp), (.int co)]))
    by_cases c33 : co = cp
    · skip
      refine Runs.st (fun t' k' => XS.icmpNo X5_.here hx rfl (hb hby d_jdk_42_method_66_33) rfl (teq c33).2 k') ?_
      show Runs p.tables e below _ (T5_.setTop (mkF m 36 #[.val (.ref a), .val (.ref oo), .val (.ref oo)] []))
      refine Runs.st (fun t' k' => XS.aloadN X5_.here hx rfl (hb hby d_jdk_42_method_66_36) rfl rfl k') ?_
      obtain ⟨T6_, X6_, e6_, st6_⟩ := getF X5_ hx hZ hown (host := "") (Or.inl (hw _ (List.mem_of_getElem? (i := 25) rfl))) Via.refl e5_ Va (g := (mkF m 37 #[.val (.ref a), .val (.ref oo), .val (.ref oo)] [(.ref a)])) rfl rfl (hb hby d_jdk_42_method_66_37)
      refine Runs.st (st6_) ?_
      show Runs p.tables e below _ (T6_.setTop (mkF m 40 #[.val (.ref a), .val (.ref oo), .val (.ref oo)] [(.ref b)]))
      refine Runs.st (fun t' k' => XS.aloadN X6_.here hx rfl (hb hby d_jdk_42_method_66_40) rfl rfl k') ?_
      obtain ⟨T7_, X7_, e7_, st7_⟩ := getF X6_ hx hZ hown (host := "") (Or.inl (hw _ (List.mem_of_getElem? (i := 25) rfl))) Via.refl e6_ Vo (g := (mkF m 41 #[.val (.ref a), .val (.ref oo), .val (.ref oo)] [(.ref oo), (.ref b)])) rfl rfl (hb hby d_jdk_42_method_66_41)
      refine Runs.st (st7_) ?_
      show Runs p.tables e below _ (T7_.setTop (mkF m 44 #[.val (.ref a), .val (.ref oo), .val (.ref oo)] [(.ref d), (.ref b)]))
      obtain ⟨r2, hr2⟩ : ∃ z : Int32, z = own_b (xs = ys) := ⟨_, rfl⟩
      obtain ⟨_, _, ⟨T8_, L8_, k8_, n8_⟩, -, X8_, ⟨Lc8_, hQ8_, l8_, y8_, z8_⟩, st8_⟩ := Jvm.LawKit.callS X7_ hx (y := (⟨"java/lang/StringLatin1", "equals", "([B[B)Z"⟩ : MethodName)) hown (mvT hZ (hw _ (List.mem_of_getElem? (i := 87) rfl))) (mvT hZ (hw _ (List.mem_of_getElem? (i := 88) rfl))) (mvT hZ (hw _ (List.mem_of_getElem? (i := 89) rfl))) (mvT hZ (hw _ (List.mem_of_getElem? (i := 90) rfl))) (by decide) (backOf (W := 0) (rmLG l Z a0 hw [] b d k1 k2 nx ny xs ys r2 h0 n0 sz V1 V2 hnx hny hr2) hZ (hw _ (List.mem_of_getElem? (i := 90) rfl)) (hw _ (List.mem_of_getElem? (i := 89) rfl)) (by decide) (by decide)) (g := (mkF m 44 #[.val (.ref a), .val (.ref oo), .val (.ref oo)] [(.ref d), (.ref b)])) rfl (by rw [hml]; rfl) (argsL := [(.ref b), (.ref d)]) (rest := []) (lenOf pd__28_5bB_5bB_29Z rfl) rfl (by show 2 * 0 + _ ≤ _; exact Nat.le_of_eq rfl) (hb hby d_jdk_42_method_66_44) (fun _ _ => ⟨rfl, e7_, (by decide : 0 + 0 ≤ _), (by decide : 0 + 0 ≤ _)⟩)
      dsimp only [Pt.U, Pt.locs, Pt.cells, Pt.slots] at X8_ l8_ y8_ z8_ st8_ hQ8_
      subst l8_ y8_ z8_
      obtain ⟨rfl, N8_q, e8_⟩ := hQ8_
      have N8_ := Fr.app N0 N8_q
      refine Runs.st (st8_) ?_
      replace X8_ := wider X8_ (c' := 0) (s' := 0) (by decide) (by decide)
      show Runs p.tables e below _ (T8_.setTop (mkF m 47 #[.val (.ref a), .val (.ref oo), .val (.ref oo)] [(.int r2)]))
      by_cases c47 : r2 = (0 : Int32)
      · skip
        refine Runs.st (fun t' k' => XS.ifYes X8_.here hx rfl (pc0 := 47) (pc' := 54) rfl (hb hby d_jdk_42_method_66_47) rfl ((if0 _ _).trans (teq c47).1) (by decide) (by decide) k') ?_
        show Runs p.tables e below _ (T8_.setTop (mkF m 54 #[.val (.ref a), .val (.ref oo), .val (.ref oo)] []))
        refine Runs.st (fun t' k' => XS.iconst X8_.here hx rfl (hb hby d_jdk_42_method_66_54) k') ?_
        refine Runs.ret X8_ hlk (v := (some (.int (0 : Int32)))) (fun h => by rw [hret] at h; cases h) (by decide) (by decide) ?_ (fun fs hr => retN X8_ hx (t := .boolean) hret (by simp) (hb hby d_jdk_42_method_66_55) hr)
        try rw [e8_]
        exact ⟨congrArg (fun z => some (Value.int z)) (Eq.trans (own_b_neg fun q => own_b_eq (hr2 ▸ c47) q.2).symm hr_.symm), N8_, rfl⟩
      · skip
        refine Runs.st (fun t' k' => XS.ifNo X8_.here hx rfl (hb hby d_jdk_42_method_66_47) rfl ((if0 _ _).trans (feq c47).1) k') ?_
        show Runs p.tables e below _ (T8_.setTop (mkF m 50 #[.val (.ref a), .val (.ref oo), .val (.ref oo)] []))
        refine Runs.st (fun t' k' => XS.iconst X8_.here hx rfl (hb hby d_jdk_42_method_66_50) k') ?_
        refine Runs.st (fun t' k' => XS.goto X8_.here hx rfl (pc0 := 51) (pc' := 55) rfl (hb hby d_jdk_42_method_66_51) (by decide) (by decide) k') ?_
        refine Runs.ret X8_ hlk (v := (some (.int (1 : Int32)))) (fun h => by rw [hret] at h; cases h) (by decide) (by decide) ?_ (fun fs hr => retN X8_ hx (t := .boolean) hret (by simp) (hb hby d_jdk_42_method_66_55) hr)
        try rw [e8_]
        exact ⟨congrArg (fun z => some (Value.int z)) (Eq.trans (own_b_pos ⟨c33, own_b_ne (hr2 ▸ c47)⟩).symm hr_.symm), N8_, rfl⟩
    · skip
      refine Runs.st (fun t' k' => XS.icmpYes X5_.here hx rfl (pc0 := 33) (pc' := 54) rfl (hb hby d_jdk_42_method_66_33) rfl (feq c33).2 (by decide) (by decide) k') ?_
      show Runs p.tables e below _ (T5_.setTop (mkF m 54 #[.val (.ref a), .val (.ref oo), .val (.ref oo)] []))
      refine Runs.st (fun t' k' => XS.iconst X5_.here hx rfl (hb hby d_jdk_42_method_66_54) k') ?_
      refine Runs.ret X5_ hlk (v := (some (.int (0 : Int32)))) (fun h => by rw [hret] at h; cases h) (by decide) (by decide) ?_ (fun fs hr => retN X5_ hx (t := .boolean) hret (by simp) (hb hby d_jdk_42_method_66_55) hr)
      try rw [e5_]
      exact ⟨congrArg (fun z => some (Value.int z)) (Eq.trans (own_b_neg fun q => c33 q.1).symm hr_.symm), N0, rfl⟩
def Q_rmMk (Z : State) (n : Int32) (cx : Int32) (dx : Int32) (zc : Int32) (h0 : Heap) (n0 : Nat) : Option Value → Heap → List Loc → Prop := (fun v h L => ∃ a b kb co nx xs, v = some (.ref a) ∧ Fr n0 L ∧ Keep h0 h [] ∧ h0.size ≤ a ∧ Exa Z h a "java/lang/String" ∧ Fld Z h a "java/lang/String" "coder" "B" (.int co) ∧ Fld Z h a "java/lang/String" "value" "[B" (.ref b) ∧ Arv Z h b kb .byte nx (xs.map Value.int) (.int (0 : Int32)) ∧ nx.toInt = (xs.length : Int) ∧ own_enc n cx dx co xs)
theorem pn_com_example_frozen_stream_frozenstream_repository_ContributionOrderEqualsPinLaw : plainName "com/example/frozen_stream/frozenstream/repository/ContributionOrderEqualsPinLaw" = true := by first | (simp [plainName, overriddenIn]; done) | decide +kernel
theorem ef_method_2_III (m : MethodId) (x0 : Int32) (x1 : Int32) (x2 : Int32)  : entryFrame m #[(.int x0), (.int x1), (.int x2)] 3 = mkF m 0 #[.val (.int x0), .val (.int x1), .val (.int x2)] [] := by first | (simp [entryFrame, mkF, argsToLocals, Value.category]; done) | rfl
theorem d_method_2_0 : decode method_2_code 0 = .ok (.iload_n 0, 1) := by decide +kernel
theorem d_method_2_1 : decode method_2_code 1 = .ok (.ifCond .ne 14, 3) := by decide +kernel
theorem d_method_2_4 : decode method_2_code 4 = .ok (.new 7, 3) := by decide +kernel
theorem d_method_2_7 : decode method_2_code 7 = .ok (.dup, 1) := by decide +kernel
theorem d_method_2_8 : decode method_2_code 8 = .ok (.iconst 0, 1) := by decide +kernel
theorem d_method_2_9 : decode method_2_code 9 = .ok (.newarray .char, 2) := by decide +kernel
theorem pd__28_5bC_29V : parseMethodDescriptor "([C)V" = some ⟨[(.array .char)], none⟩ := by decide +kernel
theorem d_method_2_11 : decode method_2_code 11 = .ok (.invokespecial 9, 3) := by decide +kernel
theorem d_method_2_14 : decode method_2_code 14 = .ok (.areturn, 1) := by decide +kernel
theorem d_method_2_15 : decode method_2_code 15 = .ok (.iload_n 0, 1) := by decide +kernel
theorem d_method_2_16 : decode method_2_code 16 = .ok (.iconst 1, 1) := by decide +kernel
theorem d_method_2_17 : decode method_2_code 17 = .ok (.if_icmp .ne 18, 3) := by decide +kernel
theorem d_method_2_20 : decode method_2_code 20 = .ok (.new 7, 3) := by decide +kernel
theorem d_method_2_23 : decode method_2_code 23 = .ok (.dup, 1) := by decide +kernel
theorem d_method_2_24 : decode method_2_code 24 = .ok (.iconst 1, 1) := by decide +kernel
theorem d_method_2_25 : decode method_2_code 25 = .ok (.newarray .char, 2) := by decide +kernel
theorem d_method_2_27 : decode method_2_code 27 = .ok (.dup, 1) := by decide +kernel
theorem d_method_2_28 : decode method_2_code 28 = .ok (.iconst 0, 1) := by decide +kernel
theorem d_method_2_29 : decode method_2_code 29 = .ok (.iload_n 1, 1) := by decide +kernel
theorem d_method_2_30 : decode method_2_code 30 = .ok (.castore, 1) := by decide +kernel
theorem d_method_2_31 : decode method_2_code 31 = .ok (.invokespecial 9, 3) := by decide +kernel
theorem d_method_2_34 : decode method_2_code 34 = .ok (.areturn, 1) := by decide +kernel
theorem d_method_2_35 : decode method_2_code 35 = .ok (.new 7, 3) := by decide +kernel
theorem d_method_2_38 : decode method_2_code 38 = .ok (.dup, 1) := by decide +kernel
theorem d_method_2_39 : decode method_2_code 39 = .ok (.iconst 2, 1) := by decide +kernel
theorem d_method_2_40 : decode method_2_code 40 = .ok (.newarray .char, 2) := by decide +kernel
theorem d_method_2_42 : decode method_2_code 42 = .ok (.dup, 1) := by decide +kernel
theorem d_method_2_43 : decode method_2_code 43 = .ok (.iconst 0, 1) := by decide +kernel
theorem d_method_2_44 : decode method_2_code 44 = .ok (.iload_n 1, 1) := by decide +kernel
theorem d_method_2_45 : decode method_2_code 45 = .ok (.castore, 1) := by decide +kernel
theorem d_method_2_46 : decode method_2_code 46 = .ok (.dup, 1) := by decide +kernel
theorem d_method_2_47 : decode method_2_code 47 = .ok (.iconst 1, 1) := by decide +kernel
theorem d_method_2_48 : decode method_2_code 48 = .ok (.iload_n 2, 1) := by decide +kernel
theorem d_method_2_49 : decode method_2_code 49 = .ok (.castore, 1) := by decide +kernel
theorem d_method_2_50 : decode method_2_code 50 = .ok (.invokespecial 9, 3) := by decide +kernel
theorem d_method_2_53 : decode method_2_code 53 = .ok (.areturn, 1) := by decide +kernel
set_option maxRecDepth 65536 in
set_option maxHeartbeats 40000000 in
theorem rmMk (l : Launch) (Z : State) (a0 : Array Value) (hw : ∀ d ∈ tables_1, d.before a0 Z = true) (ws : List Jvm.Cond) (n : Int32) (cx : Int32) (dx : Int32) (zc : Int32) (h0 : Heap) (n0 : Nat) (Z0 : n0 ≤ h0.size) (old : Old Z n0 h0) (Sa : Sta Z Z.heap "java/lang/StringUTF16" "$assertionsDisabled" "Z" (.int (1 : Int32))) (Sh : Sta Z Z.heap "java/lang/StringUTF16" "HI_BYTE_SHIFT" "I" (.int (0 : Int32))) (Sl : Sta Z Z.heap "java/lang/StringUTF16" "LO_BYTE_SHIFT" "I" (.int (8 : Int32))) (Sc : Sta Z Z.heap "java/lang/String" "COMPACT_STRINGS" "Z" (.int zc)) (hzc : ¬ zc = 0) (hEL : EW Z a0 [("java/lang/String", 7)]) (hn : n = 0 ∨ n = 1 ∨ n = 2) (rc : 0 ≤ cx.toInt ∧ cx.toInt ≤ 65535) (rd : 0 ≤ dx.toInt ∧ dx.toInt ≤ 65535) :
    MetFree l (⟨"com/example/frozen_stream/frozenstream/repository/ContributionOrderEqualsPinLaw", "mk", "(ICC)Ljava/lang/String;"⟩ : MethodName) (head1 (Jvm.Cond.code (⟨"com/example/frozen_stream/frozenstream/repository/ContributionOrderEqualsPinLaw", "mk", "(ICC)Ljava/lang/String;"⟩ : MethodName) method_2_code 3 (some (.object "java/lang/String")) :: ws) ({ frames := 6, cells := 4, slots := 12, locals := 89 } : Room)) (fun ar_ U => ar_ = #[(.int n), (.int cx), (.int dx)] ∧ Z.Warmed39 U.vm ∧ U.heap = h0 ∧ CHv Z [("java/lang/String", 7)] U.vm h0) (fun _ _ _ _ _ => True) (fun _ U o U' => PhiH Z [("java/lang/String", 7)] U (Q_rmMk Z n cx dx zc h0 n0) ({ frames := 6, cells := 4, slots := 12, locals := 89 } : Room).cells ({ frames := 6, cells := 4, slots := 12, locals := 89 } : Room).slots o U') := by
  refine MetFree.of_bodySF (plainFor_of_name pn_com_example_frozen_stream_frozenstream_repository_ContributionOrderEqualsPinLaw) hisR ?_
  intro p e s m args below meth c s₁ Bd hml0 hP hK
  obtain ⟨rfl, hZ, hh, HC0⟩ := hP
  have HR := CHr.refl HC0
  have hS : s.Since s.vm h0.size := (State.WarmedH.refl s).since _
  have hk := Nat.le_refl h0.size
  have hZ0 := hZ
  have hx := Bd.exec
  have hby := Bd.bytes
  have hlk := Bd.notSynchronized
  have hml : c.maxLocals = 3 := hml0
  have hown : s.vm.findClass "com/example/frozen_stream/frozenstream/repository/ContributionOrderEqualsPinLaw" = some m.cls := findClass_of_methodNamed Bd.named
  have hown0 := hown
  have hnm := (name_of_methodNamed Bd.named Bd.method).1
  have hret := Bd.returns
  have X0 : Stand p l e ({ frames := 6, cells := 4, slots := 12, locals := 89 } : Room) s m #[(.int n), (.int cx), (.int dx)] below meth c s₁ [] 0 0 := Stand.of_body Bd
  have e0 : s₁.heap = h0 := by rw [← hh, Bd.state]; rfl
  have N0 := Fr.nil n0
  have sz := Z0
  have K := Keep.refl h0 []
  show Runs p.tables e below (PhiH Z [("java/lang/String", 7)] s (Q_rmMk Z n cx dx zc h0 n0) ({ frames := 6, cells := 4, slots := 12, locals := 89 } : Room).cells ({ frames := 6, cells := 4, slots := 12, locals := 89 } : Room).slots) _
  refine Runs.st (fun t' k' => castTop (ef_method_2_III m n cx dx ) k') ?_
  show Runs p.tables e below _ (s₁.setTop (mkF m 0 #[.val (.int n), .val (.int cx), .val (.int dx)] []))
  rcases hn with hn | hn | hn
  · skip
    refine Runs.st (fun t' k' => XS.iloadN X0.here hx rfl (hb hby d_method_2_0) rfl k') ?_
    refine Runs.st (fun t' k' => XS.ifNo X0.here hx rfl (hb hby d_method_2_1) rfl ((if0 _ _).trans (teq hn).2) k') ?_
    show Runs p.tables e below _ (s₁.setTop (mkF m 4 #[.val (.int n), .val (.int cx), .val (.int dx)] []))
    obtain ⟨T1_, h1_, X1_, e1_, E1_, A1_, D1_, -, st1_⟩ := newO X0 hx hZ hown (hw _ (List.mem_of_getElem? (i := 5) rfl)) (hw _ (List.mem_of_getElem? (i := 6) rfl)) (hw _ (List.mem_of_getElem? (i := 7) rfl)) e0 (g := (mkF m 4 #[.val (.int n), .val (.int cx), .val (.int dx)] [])) rfl (hb hby d_method_2_4) (by decide) (by decide)
    refine Runs.st (st1_) ?_
    obtain ⟨a, g1_⟩ : ∃ z, z = h0.size := ⟨_, rfl⟩
    rw [← g1_] at A1_ D1_
    try rw [← g1_]
    have g_a : n0 ≤ a := Nat.le_trans sz (Nat.le_of_eq g1_.symm)
    have sz_a : h0.size ≤ a := Nat.le_trans K.1 (Nat.le_of_eq g1_.symm)
    have Sf_a := Safe.new (Z := Z) (EL := [("java/lang/String", 7)]) (vm := s.vm) (h := h0) (Nat.le_of_eq g1_.symm)
    replace old := old.ext E1_
    replace sz := Nat.le_trans sz E1_.1
    replace K := K.ext E1_
    replace hk := Nat.le_trans hk E1_.1
    replace Sf_a := Sf_a.ext E1_ HR.1
    replace HR := HR.trans (CHr.ext E1_ HR.1)
    have E_a := A1_
    have F_a_value : Fld Z h1_ a "java/lang/String" "value" "[B" .null := D1_ (Or.inr (hw _ (List.mem_of_getElem? (i := 21) rfl))) (ty := (.array .byte)) (by decide)
    have F_a_coder : Fld Z h1_ a "java/lang/String" "coder" "B" (.int (0 : Int32)) := D1_ (Or.inr (hw _ (List.mem_of_getElem? (i := 22) rfl))) (ty := .byte) (by decide)
    show Runs p.tables e below _ (T1_.setTop (mkF m 7 #[.val (.int n), .val (.int cx), .val (.int dx)] [(.ref a)]))
    refine Runs.st (fun t' k' => XS.dup X1_.here hx rfl (hb hby d_method_2_7) rfl rfl k') ?_
    refine Runs.st (fun t' k' => XS.iconst X1_.here hx rfl (hb hby d_method_2_8) k') ?_
    obtain ⟨T2_, h2_, k2_, X2_, e2_, E2_, A2_, st2_⟩ := newP X1_ hx hZ (hw _ (List.mem_of_getElem? (i := 8) rfl)) e1_ (g := (mkF m 9 #[.val (.int n), .val (.int cx), .val (.int dx)] [(.int (0 : Int32)), (.ref a), (.ref a)])) rfl (hb hby d_method_2_9) rfl (by decide) (cap := 0) (by decide) (by decide) (by decide) (by decide)
    refine Runs.st (st2_) ?_
    obtain ⟨dd, g2_⟩ : ∃ z, z = h1_.size := ⟨_, rfl⟩
    rw [← g2_] at A2_
    try rw [← g2_]
    have g_dd : n0 ≤ dd := Nat.le_trans sz (Nat.le_of_eq g2_.symm)
    have sz_dd : h0.size ≤ dd := Nat.le_trans K.1 (Nat.le_of_eq g2_.symm)
    have ne_a_dd : a ≠ dd := Nat.ne_of_lt (Nat.lt_of_lt_of_le E_a.lt (Nat.le_of_eq g2_.symm))
    have Sf_dd := Safe.new (Z := Z) (EL := [("java/lang/String", 7)]) (vm := s.vm) (h := h1_) (Nat.le_of_eq g2_.symm)
    replace old := old.ext E2_
    replace E_a := E_a.ext E2_
    replace F_a_value := F_a_value.ext E2_
    replace F_a_coder := F_a_coder.ext E2_
    replace sz := Nat.le_trans sz E2_.1
    replace K := K.ext E2_
    replace hk := Nat.le_trans hk E2_.1
    replace Sf_a := Sf_a.ext E2_ HR.1
    replace Sf_dd := Sf_dd.ext E2_ HR.1
    replace HR := HR.trans (CHr.ext E2_ HR.1)
    have V_dd : Arv Z h2_ dd k2_ .char (0 : Int32) [] (.int (0 : Int32)) := (Arv.new A2_ (by decide)).pad (pad_rep [] (.int (0 : Int32)) 0)
    show Runs p.tables e below _ (T2_.setTop (mkF m 11 #[.val (.int n), .val (.int cx), .val (.int dx)] [(.ref dd), (.ref a), (.ref a)]))
    obtain ⟨_, _, ⟨T3_, L3_, k3_, n3_⟩, -, X3_, hS3_, hg3_, ⟨Lc3_, hQ3_, l3_, y3_, z3_, HR3_⟩, st3_⟩ := (show Stand p l e ({ frames := 6, cells := 4, slots := 12, locals := 89 } : Room) (s.setVm s.vm) m _ below meth c _ _ _ _ from X2_).specialBackS hx (y := (⟨"java/lang/String", "<init>", "([C)V"⟩ : MethodName)) rfl hown (mvT hZ (hw _ (List.mem_of_getElem? (i := 9) rfl))) (mvT hZ (hw _ (List.mem_of_getElem? (i := 10) rfl))) (mvT hZ (hw _ (List.mem_of_getElem? (i := 11) rfl))) (by decide) (backOfSH (W := 1) (rmIE l Z a0 hw [] a dd _ h2_ n0 sz E_a F_a_value F_a_coder g_a hEL V_dd) hZ (hw _ (List.mem_of_getElem? (i := 11) rfl)) (hw _ (List.mem_of_getElem? (i := 7) rfl)) (by decide) (by decide) hEL HR.1) (g := (mkF m 11 #[.val (.int n), .val (.int cx), .val (.int dx)] [(.ref dd), (.ref a), (.ref a)])) rfl (by rw [hml]; rfl) (Steps.refl _) (a := a) (argsL := [(.ref dd)]) (rest := [(.ref a)]) (lenOf pd__28_5bC_29V rfl) rfl (by show 2 * 0 + _ ≤ _; exact Nat.le_of_eq rfl) (hb hby d_method_2_11) (fun _ _ => ⟨rfl, e2_, (by decide : 2 + 2 ≤ _), (by decide : 4 + 4 ≤ _)⟩)
    dsimp only [Pt.U] at hS3_ hg3_
    dsimp only [Pt.U] at HR3_
    replace Sf_a := HR3_.safe E_a.lt Sf_a
    replace Sf_dd := HR3_.safe V_dd.lt Sf_dd
    replace HR := HR.trans HR3_
    dsimp only [Pt.U, Pt.locs, Pt.cells, Pt.slots] at X3_ l3_ y3_ z3_ st3_ hQ3_
    subst l3_ y3_ z3_
    obtain ⟨rfl, N3_q, K3_, E_a, F_co, b, kb, F_va, V_b⟩ := hQ3_
    have N3_ := Fr.app N0 N3_q
    replace hS := foldS (vm0 := s.vm) (T := T2_) hS (by rw [e2_]; exact hk) hS3_ hg3_
    have hk := Nat.le_refl T3_.heap.size
    replace hZ : Z.Warmed39 (s.setVm T3_.vm).vm := State.Warmed39.trans (t := s) hZ0 hS.1
    replace hown : (s.setVm T3_.vm).vm.findClass "com/example/frozen_stream/frozenstream/repository/ContributionOrderEqualsPinLaw" = some m.cls := by rw [show (s.setVm T3_.vm).vm = T3_.vm from rfl, hS.1.alike.findClass]; exact hown0
    refine Runs.tr st3_ ?_
    replace X3_ := wider X3_ (c' := 4) (s' := 8) (by decide) (by decide)
    replace old := old.keep K3_ (allS g_a all0)
    replace V_dd := V_dd.keep K3_ (ninS (Ne.symm ne_a_dd) nin0)
    replace sz := Nat.le_trans sz K3_.1
    replace K := K.trans K3_ (allS (Or.inr sz_a) all0)
    show Runs p.tables e below _ (T3_.setTop (mkF m 14 #[.val (.int n), .val (.int cx), .val (.int dx)] [(.ref a)]))
    refine Runs.retH (s := s) (vm₁ := T3_.vm) X3_ hS hk hlk (v := (some (.ref a))) (fun h => by rw [hret] at h; cases h) (by decide) (by decide) ?_ (by rw [hh]; exact HR.trans (CHv.at (show Stand p l e ({ frames := 6, cells := 4, slots := 12, locals := 89 } : Room) (s.setVm T3_.vm) m _ below meth c _ _ _ _ from X3_) hZ hEL HR.1)) (fun fs hr => retOut X3_ hx hret rfl (Or.inr (Or.inr (Or.inr (Or.inr ⟨rfl, rfl, rfl⟩)))) (hb hby d_method_2_14) hr)
    exact ⟨a, b, _, (0 : Int32), (0 : Int32), [], rfl, N3_, K, sz_a, E_a, F_co, F_va, V_b, rfl, Or.inl ⟨hn, rfl, rfl⟩⟩
  · skip
    refine Runs.st (fun t' k' => XS.iloadN X0.here hx rfl (hb hby d_method_2_0) rfl k') ?_
    refine Runs.st (fun t' k' => XS.ifYes X0.here hx rfl (pc0 := 1) (pc' := 15) rfl (hb hby d_method_2_1) rfl ((if0 _ _).trans (feq (by rw [hn]; decide)).2) (by decide) (by decide) k') ?_
    show Runs p.tables e below _ (s₁.setTop (mkF m 15 #[.val (.int n), .val (.int cx), .val (.int dx)] []))
    refine Runs.st (fun t' k' => XS.iloadN X0.here hx rfl (hb hby d_method_2_15) rfl k') ?_
    refine Runs.st (fun t' k' => XS.iconst X0.here hx rfl (hb hby d_method_2_16) k') ?_
    refine Runs.st (fun t' k' => XS.icmpNo X0.here hx rfl (hb hby d_method_2_17) rfl (teq hn).2 k') ?_
    show Runs p.tables e below _ (s₁.setTop (mkF m 20 #[.val (.int n), .val (.int cx), .val (.int dx)] []))
    obtain ⟨T4_, h4_, X4_, e4_, E4_, A4_, D4_, -, st4_⟩ := newO X0 hx hZ hown (hw _ (List.mem_of_getElem? (i := 5) rfl)) (hw _ (List.mem_of_getElem? (i := 6) rfl)) (hw _ (List.mem_of_getElem? (i := 7) rfl)) e0 (g := (mkF m 20 #[.val (.int n), .val (.int cx), .val (.int dx)] [])) rfl (hb hby d_method_2_20) (by decide) (by decide)
    refine Runs.st (st4_) ?_
    obtain ⟨a, g4_⟩ : ∃ z, z = h0.size := ⟨_, rfl⟩
    rw [← g4_] at A4_ D4_
    try rw [← g4_]
    have g_a : n0 ≤ a := Nat.le_trans sz (Nat.le_of_eq g4_.symm)
    have sz_a : h0.size ≤ a := Nat.le_trans K.1 (Nat.le_of_eq g4_.symm)
    have Sf_a := Safe.new (Z := Z) (EL := [("java/lang/String", 7)]) (vm := s.vm) (h := h0) (Nat.le_of_eq g4_.symm)
    replace old := old.ext E4_
    replace sz := Nat.le_trans sz E4_.1
    replace K := K.ext E4_
    replace hk := Nat.le_trans hk E4_.1
    replace Sf_a := Sf_a.ext E4_ HR.1
    replace HR := HR.trans (CHr.ext E4_ HR.1)
    have E_a := A4_
    have F_a_value : Fld Z h4_ a "java/lang/String" "value" "[B" .null := D4_ (Or.inr (hw _ (List.mem_of_getElem? (i := 21) rfl))) (ty := (.array .byte)) (by decide)
    have F_a_coder : Fld Z h4_ a "java/lang/String" "coder" "B" (.int (0 : Int32)) := D4_ (Or.inr (hw _ (List.mem_of_getElem? (i := 22) rfl))) (ty := .byte) (by decide)
    show Runs p.tables e below _ (T4_.setTop (mkF m 23 #[.val (.int n), .val (.int cx), .val (.int dx)] [(.ref a)]))
    refine Runs.st (fun t' k' => XS.dup X4_.here hx rfl (hb hby d_method_2_23) rfl rfl k') ?_
    refine Runs.st (fun t' k' => XS.iconst X4_.here hx rfl (hb hby d_method_2_24) k') ?_
    obtain ⟨T5_, h5_, k5_, X5_, e5_, E5_, A5_, st5_⟩ := newP X4_ hx hZ (hw _ (List.mem_of_getElem? (i := 8) rfl)) e4_ (g := (mkF m 25 #[.val (.int n), .val (.int cx), .val (.int dx)] [(.int (1 : Int32)), (.ref a), (.ref a)])) rfl (hb hby d_method_2_25) rfl (by decide) (cap := 1) (by decide) (by decide) (by decide) (by decide)
    refine Runs.st (st5_) ?_
    obtain ⟨dd, g5_⟩ : ∃ z, z = h4_.size := ⟨_, rfl⟩
    rw [← g5_] at A5_
    try rw [← g5_]
    have g_dd : n0 ≤ dd := Nat.le_trans sz (Nat.le_of_eq g5_.symm)
    have sz_dd : h0.size ≤ dd := Nat.le_trans K.1 (Nat.le_of_eq g5_.symm)
    have ne_a_dd : a ≠ dd := Nat.ne_of_lt (Nat.lt_of_lt_of_le E_a.lt (Nat.le_of_eq g5_.symm))
    have Sf_dd := Safe.new (Z := Z) (EL := [("java/lang/String", 7)]) (vm := s.vm) (h := h4_) (Nat.le_of_eq g5_.symm)
    replace old := old.ext E5_
    replace E_a := E_a.ext E5_
    replace F_a_value := F_a_value.ext E5_
    replace F_a_coder := F_a_coder.ext E5_
    replace sz := Nat.le_trans sz E5_.1
    replace K := K.ext E5_
    replace hk := Nat.le_trans hk E5_.1
    replace Sf_a := Sf_a.ext E5_ HR.1
    replace Sf_dd := Sf_dd.ext E5_ HR.1
    replace HR := HR.trans (CHr.ext E5_ HR.1)
    have V_dd : Arv Z h5_ dd k5_ .char (1 : Int32) [(.int (0 : Int32))] (.int (0 : Int32)) := (Arv.new A5_ (by decide)).pad (pad_rep [] (.int (0 : Int32)) 1)
    show Runs p.tables e below _ (T5_.setTop (mkF m 27 #[.val (.int n), .val (.int cx), .val (.int dx)] [(.ref dd), (.ref a), (.ref a)]))
    refine Runs.st (fun t' k' => XS.dup X5_.here hx rfl (hb hby d_method_2_27) rfl rfl k') ?_
    refine Runs.st (fun t' k' => XS.iconst X5_.here hx rfl (hb hby d_method_2_28) k') ?_
    refine Runs.st (fun t' k' => XS.iloadN X5_.here hx rfl (hb hby d_method_2_29) rfl k') ?_
    obtain ⟨cl6_, Ar6_, q6_, S6_, M6_, Ha6_, G6_⟩ := V_dd
    have hin6_ : ¬ ((0 : Int32) < 0 ∨ cl6_.slots.size ≤ ((0 : Int32)).toNatClampNeg) := inb_of S6_ ⟨by decide, by decide⟩
    obtain ⟨T6_, h6_, X6_, e6_, W6_, st6_⟩ := stC X5_ hx hZ e5_ Ar6_ (j := (0 : Int32)) hin6_ (g := (mkF m 30 #[.val (.int n), .val (.int cx), .val (.int dx)] [(.int cx), (.int (0 : Int32)), (.ref dd), (.ref dd), (.ref a), (.ref a)])) rfl rfl (hb hby d_method_2_30)
    refine Runs.st (st6_) ?_
    have V_dd := Arv.set Ar6_ q6_ S6_ M6_ Ha6_ G6_ (fits_nar_char _) W6_ 0 rfl (Nat.le_of_ble_eq_true rfl)
    replace old := old.wr W6_ g_dd
    replace E_a := Jvm.RoadKit.Exa.wr W6_ E_a
    replace F_a_value := F_a_value.other W6_ (Or.inl ne_a_dd)
    replace F_a_coder := F_a_coder.other W6_ (Or.inl ne_a_dd)
    replace sz := Nat.le_trans sz (Keep.of_wr W6_).1
    replace hk := Nat.le_trans hk (Keep.of_wr W6_).1
    have Sg_a := Safe.wr W6_ Sf_dd HR.1 Sf_a
    have Sg_dd := Safe.wr W6_ Sf_dd HR.1 Sf_dd
    replace HR := HR.trans (CHr.wr W6_ Sf_dd HR.1)
    have Sf_a := Sg_a
    have Sf_dd := Sg_dd
    have N6_ := Fr.snoc X6_ N0 g_dd
    replace K := K.wr W6_ (Or.inr sz_dd)
    show Runs p.tables e below _ (T6_.setTop (mkF m 31 #[.val (.int n), .val (.int cx), .val (.int dx)] [(.ref dd), (.ref a), (.ref a)]))
    rw [own_nc cx rc] at V_dd
    by_cases u : (255 : Int32) < cx
    · skip
      obtain ⟨_, _, ⟨T7_, L7_, k7_, n7_⟩, -, X7_, ⟨Lc7_, hQ7_, l7_, y7_, z7_⟩, st7_⟩ := X6_.specialBack hx (y := (⟨"java/lang/String", "<init>", "([C)V"⟩ : MethodName)) rfl hown (mvT hZ (hw _ (List.mem_of_getElem? (i := 9) rfl))) (mvT hZ (hw _ (List.mem_of_getElem? (i := 10) rfl))) (mvT hZ (hw _ (List.mem_of_getElem? (i := 11) rfl))) (by decide) (backOf (W := 1) (rmIU1_0 l Z a0 hw [] a dd cx _ zc h6_ n0 sz old Sa Sh Sl E_a F_a_value F_a_coder g_a V_dd Sc hzc u rc) hZ (hw _ (List.mem_of_getElem? (i := 11) rfl)) (hw _ (List.mem_of_getElem? (i := 7) rfl)) (by decide) (by decide)) (g := (mkF m 31 #[.val (.int n), .val (.int cx), .val (.int dx)] [(.ref dd), (.ref a), (.ref a)])) rfl (by rw [hml]; rfl) (Steps.refl _) (a := a) (argsL := [(.ref dd)]) (rest := [(.ref a)]) (lenOf pd__28_5bC_29V rfl) rfl (by show 2 * 0 + _ ≤ _; exact Nat.le_of_eq rfl) (hb hby d_method_2_31) (fun _ _ => ⟨rfl, e6_, (by decide : 2 + 2 ≤ _), (by decide : 5 + 3 ≤ _)⟩)
      dsimp only [Pt.U, Pt.locs, Pt.cells, Pt.slots] at X7_ l7_ y7_ z7_ st7_ hQ7_
      subst l7_ y7_ z7_
      obtain ⟨rfl, N7_q, K7_, E_a, F_co, b, kb, szb, F_va, V_b⟩ := hQ7_
      have N7_ := Fr.app N6_ N7_q
      refine Runs.tr st7_ ?_
      replace X7_ := wider X7_ (c' := 4) (s' := 8) (by decide) (by decide)
      replace old := old.keep K7_ (allS g_a all0)
      replace V_dd := V_dd.keep K7_ (ninS (Ne.symm ne_a_dd) nin0)
      replace sz := Nat.le_trans sz K7_.1
      replace hk := Nat.le_trans hk K7_.1
      replace K := K.trans K7_ (allS (Or.inr sz_a) all0)
      have Sg_a := Safe.keep K7_ (allS Sf_a all0) HR.1 Sf_a
      have Sg_dd := Safe.keep K7_ (allS Sf_a all0) HR.1 Sf_dd
      replace HR := HR.trans (CHr.keep K7_ (allS Sf_a all0) HR.1)
      have Sf_a := Sg_a
      have Sf_dd := Sg_dd
      show Runs p.tables e below _ (T7_.setTop (mkF m 34 #[.val (.int n), .val (.int cx), .val (.int dx)] [(.ref a)]))
      refine Runs.retH (s := s) (vm₁ := s.vm) X7_ hS hk hlk (v := (some (.ref a))) (fun h => by rw [hret] at h; cases h) (by decide) (by decide) ?_ (by rw [hh]; exact HR.trans (CHv.at (show Stand p l e ({ frames := 6, cells := 4, slots := 12, locals := 89 } : Room) (s.setVm s.vm) m _ below meth c _ _ _ _ from X7_) hZ hEL HR.1)) (fun fs hr => retOut X7_ hx hret rfl (Or.inr (Or.inr (Or.inr (Or.inr ⟨rfl, rfl, rfl⟩)))) (hb hby d_method_2_34) hr)
      exact ⟨a, b, _, (1 : Int32), (2 : Int32), [(nar .byte ((cx >>> ((0 : Int32) &&& 31)).toInt8.toInt32)), (nar .byte ((cx >>> ((8 : Int32) &&& 31)).toInt8.toInt32))], rfl, N7_, K, sz_a, E_a, F_co, F_va, V_b, rfl, Or.inr (Or.inr (Or.inl ⟨hn, u, rfl, rfl⟩))⟩
    · skip
      obtain ⟨_, _, ⟨T8_, L8_, k8_, n8_⟩, -, X8_, ⟨Lc8_, hQ8_, l8_, y8_, z8_⟩, st8_⟩ := X6_.specialBack hx (y := (⟨"java/lang/String", "<init>", "([C)V"⟩ : MethodName)) rfl hown (mvT hZ (hw _ (List.mem_of_getElem? (i := 9) rfl))) (mvT hZ (hw _ (List.mem_of_getElem? (i := 10) rfl))) (mvT hZ (hw _ (List.mem_of_getElem? (i := 11) rfl))) (by decide) (backOf (W := 1) (rmIC1 l Z a0 hw [] a dd cx _ zc h6_ n0 sz E_a F_a_value F_a_coder g_a V_dd (Sc.ext old.2) hzc u) hZ (hw _ (List.mem_of_getElem? (i := 11) rfl)) (hw _ (List.mem_of_getElem? (i := 7) rfl)) (by decide) (by decide)) (g := (mkF m 31 #[.val (.int n), .val (.int cx), .val (.int dx)] [(.ref dd), (.ref a), (.ref a)])) rfl (by rw [hml]; rfl) (Steps.refl _) (a := a) (argsL := [(.ref dd)]) (rest := [(.ref a)]) (lenOf pd__28_5bC_29V rfl) rfl (by show 2 * 0 + _ ≤ _; exact Nat.le_of_eq rfl) (hb hby d_method_2_31) (fun _ _ => ⟨rfl, e6_, (by decide : 2 + 1 ≤ _), (by decide : 5 + 1 ≤ _)⟩)
      dsimp only [Pt.U, Pt.locs, Pt.cells, Pt.slots] at X8_ l8_ y8_ z8_ st8_ hQ8_
      subst l8_ y8_ z8_
      obtain ⟨rfl, N8_q, K8_, E_a, F_co, b, kb, szb, F_va, V_b⟩ := hQ8_
      have N8_ := Fr.app N6_ N8_q
      refine Runs.tr st8_ ?_
      replace X8_ := wider X8_ (c' := 3) (s' := 6) (by decide) (by decide)
      replace old := old.keep K8_ (allS g_a all0)
      replace V_dd := V_dd.keep K8_ (ninS (Ne.symm ne_a_dd) nin0)
      replace sz := Nat.le_trans sz K8_.1
      replace hk := Nat.le_trans hk K8_.1
      replace K := K.trans K8_ (allS (Or.inr sz_a) all0)
      have Sg_a := Safe.keep K8_ (allS Sf_a all0) HR.1 Sf_a
      have Sg_dd := Safe.keep K8_ (allS Sf_a all0) HR.1 Sf_dd
      replace HR := HR.trans (CHr.keep K8_ (allS Sf_a all0) HR.1)
      have Sf_a := Sg_a
      have Sf_dd := Sg_dd
      show Runs p.tables e below _ (T8_.setTop (mkF m 34 #[.val (.int n), .val (.int cx), .val (.int dx)] [(.ref a)]))
      refine Runs.retH (s := s) (vm₁ := s.vm) X8_ hS hk hlk (v := (some (.ref a))) (fun h => by rw [hret] at h; cases h) (by decide) (by decide) ?_ (by rw [hh]; exact HR.trans (CHv.at (show Stand p l e ({ frames := 6, cells := 4, slots := 12, locals := 89 } : Room) (s.setVm s.vm) m _ below meth c _ _ _ _ from X8_) hZ hEL HR.1)) (fun fs hr => retOut X8_ hx hret rfl (Or.inr (Or.inr (Or.inr (Or.inr ⟨rfl, rfl, rfl⟩)))) (hb hby d_method_2_34) hr)
      exact ⟨a, b, _, (0 : Int32), (1 : Int32), [(nar .byte (cx.toInt8.toInt32))], rfl, N8_, K, sz_a, E_a, F_co, F_va, V_b, rfl, Or.inr (Or.inl ⟨hn, u, rfl, rfl⟩)⟩
  · skip
    refine Runs.st (fun t' k' => XS.iloadN X0.here hx rfl (hb hby d_method_2_0) rfl k') ?_
    refine Runs.st (fun t' k' => XS.ifYes X0.here hx rfl (pc0 := 1) (pc' := 15) rfl (hb hby d_method_2_1) rfl ((if0 _ _).trans (feq (by rw [hn]; decide)).2) (by decide) (by decide) k') ?_
    show Runs p.tables e below _ (s₁.setTop (mkF m 15 #[.val (.int n), .val (.int cx), .val (.int dx)] []))
    refine Runs.st (fun t' k' => XS.iloadN X0.here hx rfl (hb hby d_method_2_15) rfl k') ?_
    refine Runs.st (fun t' k' => XS.iconst X0.here hx rfl (hb hby d_method_2_16) k') ?_
    refine Runs.st (fun t' k' => XS.icmpYes X0.here hx rfl (pc0 := 17) (pc' := 35) rfl (hb hby d_method_2_17) rfl (feq (by rw [hn]; decide)).2 (by decide) (by decide) k') ?_
    show Runs p.tables e below _ (s₁.setTop (mkF m 35 #[.val (.int n), .val (.int cx), .val (.int dx)] []))
    obtain ⟨T9_, h9_, X9_, e9_, E9_, A9_, D9_, -, st9_⟩ := newO X0 hx hZ hown (hw _ (List.mem_of_getElem? (i := 5) rfl)) (hw _ (List.mem_of_getElem? (i := 6) rfl)) (hw _ (List.mem_of_getElem? (i := 7) rfl)) e0 (g := (mkF m 35 #[.val (.int n), .val (.int cx), .val (.int dx)] [])) rfl (hb hby d_method_2_35) (by decide) (by decide)
    refine Runs.st (st9_) ?_
    obtain ⟨a, g9_⟩ : ∃ z, z = h0.size := ⟨_, rfl⟩
    rw [← g9_] at A9_ D9_
    try rw [← g9_]
    have g_a : n0 ≤ a := Nat.le_trans sz (Nat.le_of_eq g9_.symm)
    have sz_a : h0.size ≤ a := Nat.le_trans K.1 (Nat.le_of_eq g9_.symm)
    have Sf_a := Safe.new (Z := Z) (EL := [("java/lang/String", 7)]) (vm := s.vm) (h := h0) (Nat.le_of_eq g9_.symm)
    replace old := old.ext E9_
    replace sz := Nat.le_trans sz E9_.1
    replace K := K.ext E9_
    replace hk := Nat.le_trans hk E9_.1
    replace Sf_a := Sf_a.ext E9_ HR.1
    replace HR := HR.trans (CHr.ext E9_ HR.1)
    have E_a := A9_
    have F_a_value : Fld Z h9_ a "java/lang/String" "value" "[B" .null := D9_ (Or.inr (hw _ (List.mem_of_getElem? (i := 21) rfl))) (ty := (.array .byte)) (by decide)
    have F_a_coder : Fld Z h9_ a "java/lang/String" "coder" "B" (.int (0 : Int32)) := D9_ (Or.inr (hw _ (List.mem_of_getElem? (i := 22) rfl))) (ty := .byte) (by decide)
    show Runs p.tables e below _ (T9_.setTop (mkF m 38 #[.val (.int n), .val (.int cx), .val (.int dx)] [(.ref a)]))
    refine Runs.st (fun t' k' => XS.dup X9_.here hx rfl (hb hby d_method_2_38) rfl rfl k') ?_
    refine Runs.st (fun t' k' => XS.iconst X9_.here hx rfl (hb hby d_method_2_39) k') ?_
    obtain ⟨T10_, h10_, k10_, X10_, e10_, E10_, A10_, st10_⟩ := newP X9_ hx hZ (hw _ (List.mem_of_getElem? (i := 8) rfl)) e9_ (g := (mkF m 40 #[.val (.int n), .val (.int cx), .val (.int dx)] [(.int (2 : Int32)), (.ref a), (.ref a)])) rfl (hb hby d_method_2_40) rfl (by decide) (cap := 2) (by decide) (by decide) (by decide) (by decide)
    refine Runs.st (st10_) ?_
    obtain ⟨dd, g10_⟩ : ∃ z, z = h9_.size := ⟨_, rfl⟩
    rw [← g10_] at A10_
    try rw [← g10_]
    have g_dd : n0 ≤ dd := Nat.le_trans sz (Nat.le_of_eq g10_.symm)
    have sz_dd : h0.size ≤ dd := Nat.le_trans K.1 (Nat.le_of_eq g10_.symm)
    have ne_a_dd : a ≠ dd := Nat.ne_of_lt (Nat.lt_of_lt_of_le E_a.lt (Nat.le_of_eq g10_.symm))
    have Sf_dd := Safe.new (Z := Z) (EL := [("java/lang/String", 7)]) (vm := s.vm) (h := h9_) (Nat.le_of_eq g10_.symm)
    replace old := old.ext E10_
    replace E_a := E_a.ext E10_
    replace F_a_value := F_a_value.ext E10_
    replace F_a_coder := F_a_coder.ext E10_
    replace sz := Nat.le_trans sz E10_.1
    replace K := K.ext E10_
    replace hk := Nat.le_trans hk E10_.1
    replace Sf_a := Sf_a.ext E10_ HR.1
    replace Sf_dd := Sf_dd.ext E10_ HR.1
    replace HR := HR.trans (CHr.ext E10_ HR.1)
    have V_dd : Arv Z h10_ dd k10_ .char (2 : Int32) [(.int (0 : Int32)), (.int (0 : Int32))] (.int (0 : Int32)) := (Arv.new A10_ (by decide)).pad (pad_rep [] (.int (0 : Int32)) 2)
    show Runs p.tables e below _ (T10_.setTop (mkF m 42 #[.val (.int n), .val (.int cx), .val (.int dx)] [(.ref dd), (.ref a), (.ref a)]))
    refine Runs.st (fun t' k' => XS.dup X10_.here hx rfl (hb hby d_method_2_42) rfl rfl k') ?_
    refine Runs.st (fun t' k' => XS.iconst X10_.here hx rfl (hb hby d_method_2_43) k') ?_
    refine Runs.st (fun t' k' => XS.iloadN X10_.here hx rfl (hb hby d_method_2_44) rfl k') ?_
    obtain ⟨cl11_, Ar11_, q11_, S11_, M11_, Ha11_, G11_⟩ := V_dd
    have hin11_ : ¬ ((0 : Int32) < 0 ∨ cl11_.slots.size ≤ ((0 : Int32)).toNatClampNeg) := inb_of S11_ ⟨by decide, by decide⟩
    obtain ⟨T11_, h11_, X11_, e11_, W11_, st11_⟩ := stC X10_ hx hZ e10_ Ar11_ (j := (0 : Int32)) hin11_ (g := (mkF m 45 #[.val (.int n), .val (.int cx), .val (.int dx)] [(.int cx), (.int (0 : Int32)), (.ref dd), (.ref dd), (.ref a), (.ref a)])) rfl rfl (hb hby d_method_2_45)
    refine Runs.st (st11_) ?_
    have V_dd := Arv.set Ar11_ q11_ S11_ M11_ Ha11_ G11_ (fits_nar_char _) W11_ 0 rfl (Nat.le_of_ble_eq_true rfl)
    replace old := old.wr W11_ g_dd
    replace E_a := Jvm.RoadKit.Exa.wr W11_ E_a
    replace F_a_value := F_a_value.other W11_ (Or.inl ne_a_dd)
    replace F_a_coder := F_a_coder.other W11_ (Or.inl ne_a_dd)
    replace sz := Nat.le_trans sz (Keep.of_wr W11_).1
    replace hk := Nat.le_trans hk (Keep.of_wr W11_).1
    have Sg_a := Safe.wr W11_ Sf_dd HR.1 Sf_a
    have Sg_dd := Safe.wr W11_ Sf_dd HR.1 Sf_dd
    replace HR := HR.trans (CHr.wr W11_ Sf_dd HR.1)
    have Sf_a := Sg_a
    have Sf_dd := Sg_dd
    have N11_ := Fr.snoc X11_ N0 g_dd
    replace K := K.wr W11_ (Or.inr sz_dd)
    show Runs p.tables e below _ (T11_.setTop (mkF m 46 #[.val (.int n), .val (.int cx), .val (.int dx)] [(.ref dd), (.ref a), (.ref a)]))
    refine Runs.st (fun t' k' => XS.dup X11_.here hx rfl (hb hby d_method_2_46) rfl rfl k') ?_
    refine Runs.st (fun t' k' => XS.iconst X11_.here hx rfl (hb hby d_method_2_47) k') ?_
    refine Runs.st (fun t' k' => XS.iloadN X11_.here hx rfl (hb hby d_method_2_48) rfl k') ?_
    obtain ⟨cl12_, Ar12_, q12_, S12_, M12_, Ha12_, G12_⟩ := V_dd
    have hin12_ : ¬ ((1 : Int32) < 0 ∨ cl12_.slots.size ≤ ((1 : Int32)).toNatClampNeg) := inb_of S12_ ⟨by decide, by decide⟩
    obtain ⟨T12_, h12_, X12_, e12_, W12_, st12_⟩ := stC X11_ hx hZ e11_ Ar12_ (j := (1 : Int32)) hin12_ (g := (mkF m 49 #[.val (.int n), .val (.int cx), .val (.int dx)] [(.int dx), (.int (1 : Int32)), (.ref dd), (.ref dd), (.ref a), (.ref a)])) rfl rfl (hb hby d_method_2_49)
    refine Runs.st (st12_) ?_
    have V_dd := Arv.set Ar12_ q12_ S12_ M12_ Ha12_ G12_ (fits_nar_char _) W12_ 1 rfl (Nat.le_of_ble_eq_true rfl)
    replace old := old.wr W12_ g_dd
    replace E_a := Jvm.RoadKit.Exa.wr W12_ E_a
    replace F_a_value := F_a_value.other W12_ (Or.inl ne_a_dd)
    replace F_a_coder := F_a_coder.other W12_ (Or.inl ne_a_dd)
    replace sz := Nat.le_trans sz (Keep.of_wr W12_).1
    replace hk := Nat.le_trans hk (Keep.of_wr W12_).1
    have Sg_a := Safe.wr W12_ Sf_dd HR.1 Sf_a
    have Sg_dd := Safe.wr W12_ Sf_dd HR.1 Sf_dd
    replace HR := HR.trans (CHr.wr W12_ Sf_dd HR.1)
    have Sf_a := Sg_a
    have Sf_dd := Sg_dd
    have N12_ := Fr.snoc X12_ N11_ g_dd
    replace K := K.wr W12_ (Or.inr sz_dd)
    show Runs p.tables e below _ (T12_.setTop (mkF m 50 #[.val (.int n), .val (.int cx), .val (.int dx)] [(.ref dd), (.ref a), (.ref a)]))
    rw [own_nc cx rc, own_nc dx rd] at V_dd
    by_cases u : (255 : Int32) < cx
    · skip
      obtain ⟨_, _, ⟨T13_, L13_, k13_, n13_⟩, -, X13_, ⟨Lc13_, hQ13_, l13_, y13_, z13_⟩, st13_⟩ := X12_.specialBack hx (y := (⟨"java/lang/String", "<init>", "([C)V"⟩ : MethodName)) rfl hown (mvT hZ (hw _ (List.mem_of_getElem? (i := 9) rfl))) (mvT hZ (hw _ (List.mem_of_getElem? (i := 10) rfl))) (mvT hZ (hw _ (List.mem_of_getElem? (i := 11) rfl))) (by decide) (backOf (W := 1) (rmIU2_0 l Z a0 hw [] a dd cx dx _ zc h12_ n0 sz old Sa Sh Sl E_a F_a_value F_a_coder g_a V_dd Sc hzc u rc) hZ (hw _ (List.mem_of_getElem? (i := 11) rfl)) (hw _ (List.mem_of_getElem? (i := 7) rfl)) (by decide) (by decide)) (g := (mkF m 50 #[.val (.int n), .val (.int cx), .val (.int dx)] [(.ref dd), (.ref a), (.ref a)])) rfl (by rw [hml]; rfl) (Steps.refl _) (a := a) (argsL := [(.ref dd)]) (rest := [(.ref a)]) (lenOf pd__28_5bC_29V rfl) rfl (by show 2 * 0 + _ ≤ _; exact Nat.le_of_eq rfl) (hb hby d_method_2_50) (fun _ _ => ⟨rfl, e12_, (by decide : 2 + 2 ≤ _), (by decide : 6 + 6 ≤ _)⟩)
      dsimp only [Pt.U, Pt.locs, Pt.cells, Pt.slots] at X13_ l13_ y13_ z13_ st13_ hQ13_
      subst l13_ y13_ z13_
      obtain ⟨rfl, N13_q, K13_, E_a, F_co, b, kb, szb, F_va, V_b⟩ := hQ13_
      have N13_ := Fr.app N12_ N13_q
      refine Runs.tr st13_ ?_
      replace X13_ := wider X13_ (c' := 4) (s' := 12) (by decide) (by decide)
      replace old := old.keep K13_ (allS g_a all0)
      replace V_dd := V_dd.keep K13_ (ninS (Ne.symm ne_a_dd) nin0)
      replace sz := Nat.le_trans sz K13_.1
      replace hk := Nat.le_trans hk K13_.1
      replace K := K.trans K13_ (allS (Or.inr sz_a) all0)
      have Sg_a := Safe.keep K13_ (allS Sf_a all0) HR.1 Sf_a
      have Sg_dd := Safe.keep K13_ (allS Sf_a all0) HR.1 Sf_dd
      replace HR := HR.trans (CHr.keep K13_ (allS Sf_a all0) HR.1)
      have Sf_a := Sg_a
      have Sf_dd := Sg_dd
      show Runs p.tables e below _ (T13_.setTop (mkF m 53 #[.val (.int n), .val (.int cx), .val (.int dx)] [(.ref a)]))
      refine Runs.retH (s := s) (vm₁ := s.vm) X13_ hS hk hlk (v := (some (.ref a))) (fun h => by rw [hret] at h; cases h) (by decide) (by decide) ?_ (by rw [hh]; exact HR.trans (CHv.at (show Stand p l e ({ frames := 6, cells := 4, slots := 12, locals := 89 } : Room) (s.setVm s.vm) m _ below meth c _ _ _ _ from X13_) hZ hEL HR.1)) (fun fs hr => retOut X13_ hx hret rfl (Or.inr (Or.inr (Or.inr (Or.inr ⟨rfl, rfl, rfl⟩)))) (hb hby d_method_2_53) hr)
      exact ⟨a, b, _, (1 : Int32), (4 : Int32), [(nar .byte ((cx >>> ((0 : Int32) &&& 31)).toInt8.toInt32)), (nar .byte ((cx >>> ((8 : Int32) &&& 31)).toInt8.toInt32)), (nar .byte ((dx >>> ((0 : Int32) &&& 31)).toInt8.toInt32)), (nar .byte ((dx >>> ((8 : Int32) &&& 31)).toInt8.toInt32))], rfl, N13_, K, sz_a, E_a, F_co, F_va, V_b, rfl, Or.inr (Or.inr (Or.inr (Or.inr ⟨hn, Or.inl u, rfl, rfl⟩)))⟩
    · skip
      by_cases u1 : (255 : Int32) < dx
      · skip
        obtain ⟨_, _, ⟨T14_, L14_, k14_, n14_⟩, -, X14_, ⟨Lc14_, hQ14_, l14_, y14_, z14_⟩, st14_⟩ := X12_.specialBack hx (y := (⟨"java/lang/String", "<init>", "([C)V"⟩ : MethodName)) rfl hown (mvT hZ (hw _ (List.mem_of_getElem? (i := 9) rfl))) (mvT hZ (hw _ (List.mem_of_getElem? (i := 10) rfl))) (mvT hZ (hw _ (List.mem_of_getElem? (i := 11) rfl))) (by decide) (backOf (W := 1) (rmIU2_1 l Z a0 hw [] a dd cx dx _ zc h12_ n0 sz old Sa Sh Sl E_a F_a_value F_a_coder g_a V_dd Sc hzc u u1 rd) hZ (hw _ (List.mem_of_getElem? (i := 11) rfl)) (hw _ (List.mem_of_getElem? (i := 7) rfl)) (by decide) (by decide)) (g := (mkF m 50 #[.val (.int n), .val (.int cx), .val (.int dx)] [(.ref dd), (.ref a), (.ref a)])) rfl (by rw [hml]; rfl) (Steps.refl _) (a := a) (argsL := [(.ref dd)]) (rest := [(.ref a)]) (lenOf pd__28_5bC_29V rfl) rfl (by show 2 * 0 + _ ≤ _; exact Nat.le_of_eq rfl) (hb hby d_method_2_50) (fun _ _ => ⟨rfl, e12_, (by decide : 2 + 2 ≤ _), (by decide : 6 + 6 ≤ _)⟩)
        dsimp only [Pt.U, Pt.locs, Pt.cells, Pt.slots] at X14_ l14_ y14_ z14_ st14_ hQ14_
        subst l14_ y14_ z14_
        obtain ⟨rfl, N14_q, K14_, E_a, F_co, b, kb, szb, F_va, V_b⟩ := hQ14_
        have N14_ := Fr.app N12_ N14_q
        refine Runs.tr st14_ ?_
        replace X14_ := wider X14_ (c' := 4) (s' := 12) (by decide) (by decide)
        replace old := old.keep K14_ (allS g_a all0)
        replace V_dd := V_dd.keep K14_ (ninS (Ne.symm ne_a_dd) nin0)
        replace sz := Nat.le_trans sz K14_.1
        replace hk := Nat.le_trans hk K14_.1
        replace K := K.trans K14_ (allS (Or.inr sz_a) all0)
        have Sg_a := Safe.keep K14_ (allS Sf_a all0) HR.1 Sf_a
        have Sg_dd := Safe.keep K14_ (allS Sf_a all0) HR.1 Sf_dd
        replace HR := HR.trans (CHr.keep K14_ (allS Sf_a all0) HR.1)
        have Sf_a := Sg_a
        have Sf_dd := Sg_dd
        show Runs p.tables e below _ (T14_.setTop (mkF m 53 #[.val (.int n), .val (.int cx), .val (.int dx)] [(.ref a)]))
        refine Runs.retH (s := s) (vm₁ := s.vm) X14_ hS hk hlk (v := (some (.ref a))) (fun h => by rw [hret] at h; cases h) (by decide) (by decide) ?_ (by rw [hh]; exact HR.trans (CHv.at (show Stand p l e ({ frames := 6, cells := 4, slots := 12, locals := 89 } : Room) (s.setVm s.vm) m _ below meth c _ _ _ _ from X14_) hZ hEL HR.1)) (fun fs hr => retOut X14_ hx hret rfl (Or.inr (Or.inr (Or.inr (Or.inr ⟨rfl, rfl, rfl⟩)))) (hb hby d_method_2_53) hr)
        exact ⟨a, b, _, (1 : Int32), (4 : Int32), [(nar .byte ((cx >>> ((0 : Int32) &&& 31)).toInt8.toInt32)), (nar .byte ((cx >>> ((8 : Int32) &&& 31)).toInt8.toInt32)), (nar .byte ((dx >>> ((0 : Int32) &&& 31)).toInt8.toInt32)), (nar .byte ((dx >>> ((8 : Int32) &&& 31)).toInt8.toInt32))], rfl, N14_, K, sz_a, E_a, F_co, F_va, V_b, rfl, Or.inr (Or.inr (Or.inr (Or.inr ⟨hn, Or.inr u1, rfl, rfl⟩)))⟩
      · skip
        obtain ⟨_, _, ⟨T15_, L15_, k15_, n15_⟩, -, X15_, ⟨Lc15_, hQ15_, l15_, y15_, z15_⟩, st15_⟩ := X12_.specialBack hx (y := (⟨"java/lang/String", "<init>", "([C)V"⟩ : MethodName)) rfl hown (mvT hZ (hw _ (List.mem_of_getElem? (i := 9) rfl))) (mvT hZ (hw _ (List.mem_of_getElem? (i := 10) rfl))) (mvT hZ (hw _ (List.mem_of_getElem? (i := 11) rfl))) (by decide) (backOf (W := 1) (rmIC2 l Z a0 hw [] a dd cx dx _ zc h12_ n0 sz E_a F_a_value F_a_coder g_a V_dd (Sc.ext old.2) hzc u u1) hZ (hw _ (List.mem_of_getElem? (i := 11) rfl)) (hw _ (List.mem_of_getElem? (i := 7) rfl)) (by decide) (by decide)) (g := (mkF m 50 #[.val (.int n), .val (.int cx), .val (.int dx)] [(.ref dd), (.ref a), (.ref a)])) rfl (by rw [hml]; rfl) (Steps.refl _) (a := a) (argsL := [(.ref dd)]) (rest := [(.ref a)]) (lenOf pd__28_5bC_29V rfl) rfl (by show 2 * 0 + _ ≤ _; exact Nat.le_of_eq rfl) (hb hby d_method_2_50) (fun _ _ => ⟨rfl, e12_, (by decide : 2 + 1 ≤ _), (by decide : 6 + 2 ≤ _)⟩)
        dsimp only [Pt.U, Pt.locs, Pt.cells, Pt.slots] at X15_ l15_ y15_ z15_ st15_ hQ15_
        subst l15_ y15_ z15_
        obtain ⟨rfl, N15_q, K15_, E_a, F_co, b, kb, szb, F_va, V_b⟩ := hQ15_
        have N15_ := Fr.app N12_ N15_q
        refine Runs.tr st15_ ?_
        replace X15_ := wider X15_ (c' := 3) (s' := 8) (by decide) (by decide)
        replace old := old.keep K15_ (allS g_a all0)
        replace V_dd := V_dd.keep K15_ (ninS (Ne.symm ne_a_dd) nin0)
        replace sz := Nat.le_trans sz K15_.1
        replace hk := Nat.le_trans hk K15_.1
        replace K := K.trans K15_ (allS (Or.inr sz_a) all0)
        have Sg_a := Safe.keep K15_ (allS Sf_a all0) HR.1 Sf_a
        have Sg_dd := Safe.keep K15_ (allS Sf_a all0) HR.1 Sf_dd
        replace HR := HR.trans (CHr.keep K15_ (allS Sf_a all0) HR.1)
        have Sf_a := Sg_a
        have Sf_dd := Sg_dd
        show Runs p.tables e below _ (T15_.setTop (mkF m 53 #[.val (.int n), .val (.int cx), .val (.int dx)] [(.ref a)]))
        refine Runs.retH (s := s) (vm₁ := s.vm) X15_ hS hk hlk (v := (some (.ref a))) (fun h => by rw [hret] at h; cases h) (by decide) (by decide) ?_ (by rw [hh]; exact HR.trans (CHv.at (show Stand p l e ({ frames := 6, cells := 4, slots := 12, locals := 89 } : Room) (s.setVm s.vm) m _ below meth c _ _ _ _ from X15_) hZ hEL HR.1)) (fun fs hr => retOut X15_ hx hret rfl (Or.inr (Or.inr (Or.inr (Or.inr ⟨rfl, rfl, rfl⟩)))) (hb hby d_method_2_53) hr)
        exact ⟨a, b, _, (0 : Int32), (2 : Int32), [(nar .byte (cx.toInt8.toInt32)), (nar .byte (dx.toInt8.toInt32))], rfl, N15_, K, sz_a, E_a, F_co, F_va, V_b, rfl, Or.inr (Or.inr (Or.inr (Or.inl ⟨hn, ⟨u, u1⟩, rfl, rfl⟩)))⟩
def Q_rmReq (Z : State) (a : Addr) (d : Addr)  (h0 : Heap) (n0 : Nat) : Option Value → Heap → List Loc → Prop := (fun v h L => v = some (.ref a) ∧ Fr n0 L ∧ h = h0)
theorem pn_java_util_Objects : plainName "java/util/Objects" = true := by first | (simp [plainName, overriddenIn]; done) | decide +kernel
theorem ef_jdk_31_method_11_RR (m : MethodId) (x0 : Addr) (x1 : Addr)  : entryFrame m #[(.ref x0), (.ref x1)] 2 = mkF m 0 #[.val (.ref x0), .val (.ref x1)] [] := by first | (simp [entryFrame, mkF, argsToLocals, Value.category]; done) | rfl
theorem d_jdk_31_method_11_0 : decode jdk_31_method_11_code 0 = .ok (.aload_n 0, 1) := by decide +kernel
theorem d_jdk_31_method_11_1 : decode jdk_31_method_11_code 1 = .ok (.ifnonnull 12, 3) := by decide +kernel
theorem d_jdk_31_method_11_13 : decode jdk_31_method_11_code 13 = .ok (.aload_n 0, 1) := by decide +kernel
theorem d_jdk_31_method_11_14 : decode jdk_31_method_11_code 14 = .ok (.areturn, 1) := by decide +kernel
set_option maxRecDepth 65536 in
set_option maxHeartbeats 40000000 in
theorem rmReq (l : Launch) (Z : State) (a0 : Array Value) (hw : ∀ d ∈ tables_1, d.before a0 Z = true) (ws : List Jvm.Cond) (a : Addr) (d : Addr)  (h0 : Heap) (n0 : Nat) (Z0 : n0 ≤ h0.size)  :
    MetFree l (⟨"java/util/Objects", "requireNonNull", "(Ljava/lang/Object;Ljava/lang/String;)Ljava/lang/Object;"⟩ : MethodName) (head1 (Jvm.Cond.code (⟨"java/util/Objects", "requireNonNull", "(Ljava/lang/Object;Ljava/lang/String;)Ljava/lang/Object;"⟩ : MethodName) jdk_31_method_11_code 2 (some (.object "java/lang/Object")) :: ws) ({ frames := 0, cells := 0, slots := 0, locals := 0 } : Room)) (fun ar_ U => ar_ = #[(.ref a), (.ref d)] ∧ Z.Warmed39 U.vm ∧ U.heap = h0) (fun _ _ _ _ _ => True) (fun _ U o U' => Phi U (Q_rmReq Z a d h0 n0) ({ frames := 0, cells := 0, slots := 0, locals := 0 } : Room).cells ({ frames := 0, cells := 0, slots := 0, locals := 0 } : Room).slots o U') := by
  refine MetFree.of_bodySF (plainFor_of_name pn_java_util_Objects) hisR ?_
  intro p e s m args below meth c s₁ Bd hml0 hP hK
  obtain ⟨rfl, hZ, hh⟩ := hP
  have hx := Bd.exec
  have hby := Bd.bytes
  have hlk := Bd.notSynchronized
  have hml : c.maxLocals = 2 := hml0
  have hown : s.vm.findClass "java/util/Objects" = some m.cls := findClass_of_methodNamed Bd.named
  have hown0 := hown
  have hnm := (name_of_methodNamed Bd.named Bd.method).1
  have hret := Bd.returns
  have X0 : Stand p l e ({ frames := 0, cells := 0, slots := 0, locals := 0 } : Room) s m #[(.ref a), (.ref d)] below meth c s₁ [] 0 0 := Stand.of_body Bd
  have e0 : s₁.heap = h0 := by rw [← hh, Bd.state]; rfl
  have N0 := Fr.nil n0
  have sz := Z0
  have K := Keep.refl h0 []
  show Runs p.tables e below (Phi s (Q_rmReq Z a d h0 n0) ({ frames := 0, cells := 0, slots := 0, locals := 0 } : Room).cells ({ frames := 0, cells := 0, slots := 0, locals := 0 } : Room).slots) _
  refine Runs.st (fun t' k' => castTop (ef_jdk_31_method_11_RR m a d ) k') ?_
  show Runs p.tables e below _ (s₁.setTop (mkF m 0 #[.val (.ref a), .val (.ref d)] []))
  refine Runs.st (fun t' k' => XS.aloadN X0.here hx rfl (hb hby d_jdk_31_method_11_0) rfl rfl k') ?_
  refine Runs.st (fun t' k' => XS.ifnonnullYes X0.here hx rfl (pc0 := 1) (pc' := 13) rfl (hb hby d_jdk_31_method_11_1) rfl (by decide) (by decide) k') ?_
  show Runs p.tables e below _ (s₁.setTop (mkF m 13 #[.val (.ref a), .val (.ref d)] []))
  refine Runs.st (fun t' k' => XS.aloadN X0.here hx rfl (hb hby d_jdk_31_method_11_13) rfl rfl k') ?_
  refine Runs.ret X0 hlk (v := (some (.ref a))) (fun h => by rw [hret] at h; cases h) (by decide) (by decide) ?_ (fun fs hr => retOut X0 hx hret rfl (Or.inr (Or.inr (Or.inr (Or.inr ⟨rfl, rfl, rfl⟩)))) (hb hby d_jdk_31_method_11_14) hr)
  try rw [e0]
  exact ⟨rfl, N0, rfl⟩
def Q_rmCO (Z : State) (a : Addr) (sr : Addr)  (h0 : Heap) (n0 : Nat) : Option Value → Heap → List Loc → Prop := (fun v h L => v = none ∧ Fr n0 L ∧ Keep h0 h [a] ∧ Exa Z h a "com/example/frozen_stream/frozenstream/repository/ContributionOrder" ∧ Fld Z h a "com/example/frozen_stream/frozenstream/repository/ContributionOrder" "value" "Ljava/lang/String;" (.ref sr))
theorem pn_com_example_frozen_stream_frozenstream_repository_ContributionOrder : plainName "com/example/frozen_stream/frozenstream/repository/ContributionOrder" = true := by first | (simp [plainName, overriddenIn]; done) | decide +kernel
theorem ef_prog_11_method_1_RR (m : MethodId) (x0 : Addr) (x1 : Addr)  : entryFrame m #[(.ref x0), (.ref x1)] 2 = mkF m 0 #[.val (.ref x0), .val (.ref x1)] [] := by first | (simp [entryFrame, mkF, argsToLocals, Value.category]; done) | rfl
theorem d_prog_11_method_1_0 : decode prog_11_method_1_code 0 = .ok (.aload_n 0, 1) := by decide +kernel
theorem d_prog_11_method_1_1 : decode prog_11_method_1_code 1 = .ok (.invokespecial 1, 3) := by decide +kernel
theorem d_prog_11_method_1_4 : decode prog_11_method_1_code 4 = .ok (.aload_n 0, 1) := by decide +kernel
theorem d_prog_11_method_1_5 : decode prog_11_method_1_code 5 = .ok (.aload_n 1, 1) := by decide +kernel
theorem d_prog_11_method_1_6 : decode prog_11_method_1_code 6 = .ok (.ldc 7, 2) := by decide +kernel
theorem pd__28Ljava_2flang_2fObject_3bLjava_2flang_2fString_3b_29Ljava_2flang_2fObject_3b : parseMethodDescriptor "(Ljava/lang/Object;Ljava/lang/String;)Ljava/lang/Object;" = some ⟨[(.object "java/lang/Object"), (.object "java/lang/String")], some (.object "java/lang/Object")⟩ := by decide +kernel
theorem d_prog_11_method_1_8 : decode prog_11_method_1_code 8 = .ok (.invokestatic 9, 3) := by decide +kernel
theorem d_prog_11_method_1_11 : decode prog_11_method_1_code 11 = .ok (.checkcast 15, 3) := by decide +kernel
theorem d_prog_11_method_1_14 : decode prog_11_method_1_code 14 = .ok (.putfield 17, 3) := by decide +kernel
theorem d_prog_11_method_1_17 : decode prog_11_method_1_code 17 = .ok (.return_, 1) := by decide +kernel
set_option maxRecDepth 65536 in
set_option maxHeartbeats 40000000 in
theorem rmCO (l : Launch) (Z : State) (a0 : Array Value) (hw : ∀ d ∈ tables_1, d.before a0 Z = true) (ws : List Jvm.Cond) (a : Addr) (sr : Addr)  (h0 : Heap) (n0 : Nat) (Z0 : n0 ≤ h0.size) (E_a : Exa Z h0 a "com/example/frozen_stream/frozenstream/repository/ContributionOrder") (F_v : Fld Z h0 a "com/example/frozen_stream/frozenstream/repository/ContributionOrder" "value" "Ljava/lang/String;" .null) (g_a : n0 ≤ a) (E_s : Exa Z h0 sr "java/lang/String") :
    MetFree l (⟨"com/example/frozen_stream/frozenstream/repository/ContributionOrder", "<init>", "(Ljava/lang/String;)V"⟩ : MethodName) (head1 (Jvm.Cond.code (⟨"com/example/frozen_stream/frozenstream/repository/ContributionOrder", "<init>", "(Ljava/lang/String;)V"⟩ : MethodName) prog_11_method_1_code 2 none :: ws) ({ frames := 1, cells := 2, slots := 24, locals := 14 } : Room)) (fun ar_ U => ar_ = #[(.ref a), (.ref sr)] ∧ Z.Warmed39 U.vm ∧ U.heap = h0) (fun _ _ _ _ _ => True) (fun _ U o U' => PhiW U (Q_rmCO Z a sr h0 n0) ({ frames := 1, cells := 2, slots := 24, locals := 14 } : Room).cells ({ frames := 1, cells := 2, slots := 24, locals := 14 } : Room).slots o U') := by
  refine MetFree.of_bodySF (plainFor_of_name pn_com_example_frozen_stream_frozenstream_repository_ContributionOrder) hisR ?_
  intro p e s m args below meth c s₁ Bd hml0 hP hK
  obtain ⟨rfl, hZ, hh⟩ := hP
  have hS : s.Since s.vm h0.size := (State.WarmedH.refl s).since _
  have hk := Nat.le_refl h0.size
  have hZ0 := hZ
  have hx := Bd.exec
  have hby := Bd.bytes
  have hlk := Bd.notSynchronized
  have hml : c.maxLocals = 2 := hml0
  have hown : s.vm.findClass "com/example/frozen_stream/frozenstream/repository/ContributionOrder" = some m.cls := findClass_of_methodNamed Bd.named
  have hown0 := hown
  have hnm := (name_of_methodNamed Bd.named Bd.method).1
  have hret := Bd.returns
  have X0 : Stand p l e ({ frames := 1, cells := 2, slots := 24, locals := 14 } : Room) s m #[(.ref a), (.ref sr)] below meth c s₁ [] 0 0 := Stand.of_body Bd
  have e0 : s₁.heap = h0 := by rw [← hh, Bd.state]; rfl
  have N0 := Fr.nil n0
  have sz := Z0
  have K := Keep.refl h0 [a]
  show Runs p.tables e below (PhiW s (Q_rmCO Z a sr h0 n0) ({ frames := 1, cells := 2, slots := 24, locals := 14 } : Room).cells ({ frames := 1, cells := 2, slots := 24, locals := 14 } : Room).slots) _
  refine Runs.st (fun t' k' => castTop (ef_prog_11_method_1_RR m a sr ) k') ?_
  show Runs p.tables e below _ (s₁.setTop (mkF m 0 #[.val (.ref a), .val (.ref sr)] []))
  refine Runs.st (fun t' k' => XS.aloadN X0.here hx rfl (hb hby d_prog_11_method_1_0) rfl rfl k') ?_
  obtain ⟨T1_, X1_, e1_, st1_⟩ := initO X0 hx hZ hown (hw _ (List.mem_of_getElem? (i := 33) rfl)) (hw _ (List.mem_of_getElem? (i := 17) rfl)) (hw _ (List.mem_of_getElem? (i := 18) rfl)) e0 (g := (mkF m 1 #[.val (.ref a), .val (.ref sr)] [(.ref a)])) rfl (by rw [hml]; rfl) rfl (hb hby d_prog_11_method_1_1) (by decide) (W := 0) (by show 2 * 0 + _ ≤ _; exact Nat.le_of_eq rfl) (by decide)
  refine Runs.st (st1_) ?_
  show Runs p.tables e below _ (T1_.setTop (mkF m 4 #[.val (.ref a), .val (.ref sr)] []))
  refine Runs.st (fun t' k' => XS.aloadN X1_.here hx rfl (hb hby d_prog_11_method_1_4) rfl rfl k') ?_
  refine Runs.st (fun t' k' => XS.aloadN X1_.here hx rfl (hb hby d_prog_11_method_1_5) rfl rfl k') ?_
  have wS2_ : ∀ a ∈ Bundle.stringAtoms, a.before a0 Z = true := by
    intro a ha
    simp only [Bundle.stringAtoms, Bundle.sN, List.mem_cons, List.not_mem_nil, or_false] at ha
    rcases ha with rfl | rfl | rfl | rfl | rfl | rfl | rfl
    · exact (hw _ (List.mem_of_getElem? (i := 7) rfl))
    · exact (hw _ (List.mem_of_getElem? (i := 6) rfl))
    · exact (hw _ (List.mem_of_getElem? (i := 20) rfl))
    · exact (hw _ (List.mem_of_getElem? (i := 21) rfl))
    · exact (hw _ (List.mem_of_getElem? (i := 22) rfl))
    · exact (hw _ (List.mem_of_getElem? (i := 23) rfl))
    · exact (hw _ (List.mem_of_getElem? (i := 24) rfl))
  obtain ⟨lt, T2_, h2_, j2_, X2_, e2_, E2_, hS2_, hk2_, hZ2_, hown2_, st2_⟩ := ldcS (s := s) (vm0 := s.vm) (X := (show Stand p l e ({ frames := 1, cells := 2, slots := 24, locals := 14 } : Room) (s.setVm s.vm) m _ below meth c _ _ _ _ from X1_)) hx hZ hown (hw _ (List.mem_of_getElem? (i := 34) rfl)) wS2_ e1_ hS hk (g := (mkF m 6 #[.val (.ref a), .val (.ref sr)] [(.ref sr), (.ref a)])) rfl (hb hby d_prog_11_method_1_6) (n := 20) (by decide) (by decide) (by decide) (by decide)
  refine Runs.st st2_ ?_
  replace E_a := E_a.ext E2_
  replace F_v := F_v.ext E2_
  replace E_s := E_s.ext E2_
  replace sz := Nat.le_trans sz E2_.1
  replace K := K.ext E2_
  replace hk := Nat.le_trans hk E2_.1
  have hS := hS2_
  have hk := hk2_
  have hZ := hZ2_
  have hown := hown2_
  show Runs p.tables e below _ (T2_.setTop (mkF m 8 #[.val (.ref a), .val (.ref sr)] [(.ref lt), (.ref sr), (.ref a)]))
  obtain ⟨_, _, ⟨T3_, L3_, k3_, n3_⟩, -, X3_, ⟨Lc3_, hQ3_, l3_, y3_, z3_⟩, st3_⟩ := Jvm.LawKit.callS X2_ hx (y := (⟨"java/util/Objects", "requireNonNull", "(Ljava/lang/Object;Ljava/lang/String;)Ljava/lang/Object;"⟩ : MethodName)) hown (mvT hZ (hw _ (List.mem_of_getElem? (i := 35) rfl))) (mvT hZ (hw _ (List.mem_of_getElem? (i := 36) rfl))) (mvT hZ (hw _ (List.mem_of_getElem? (i := 37) rfl))) (mvT hZ (hw _ (List.mem_of_getElem? (i := 38) rfl))) (by decide) (backOf (W := 1) (rmReq l Z a0 hw [] sr lt h2_ n0 sz) hZ (hw _ (List.mem_of_getElem? (i := 38) rfl)) (hw _ (List.mem_of_getElem? (i := 37) rfl)) (by decide) (by decide)) (g := (mkF m 8 #[.val (.ref a), .val (.ref sr)] [(.ref lt), (.ref sr), (.ref a)])) rfl (by rw [hml]; rfl) (argsL := [(.ref sr), (.ref lt)]) (rest := [(.ref a)]) (lenOf pd__28Ljava_2flang_2fObject_3bLjava_2flang_2fString_3b_29Ljava_2flang_2fObject_3b rfl) rfl (by show 2 * 0 + _ ≤ _; exact Nat.le_of_eq rfl) (hb hby d_prog_11_method_1_8) (fun _ _ => ⟨rfl, e2_, (by decide : 2 + 0 ≤ _), (by decide : 24 + 0 ≤ _)⟩)
  dsimp only [Pt.U, Pt.locs, Pt.cells, Pt.slots] at X3_ l3_ y3_ z3_ st3_ hQ3_
  subst l3_ y3_ z3_
  obtain ⟨rfl, N3_q, e3_⟩ := hQ3_
  have N3_ := Fr.app N0 N3_q
  refine Runs.st (st3_) ?_
  replace X3_ := wider X3_ (c' := 2) (s' := 24) (by decide) (by decide)
  show Runs p.tables e below _ (T3_.setTop (mkF m 11 #[.val (.ref a), .val (.ref sr)] [(.ref sr), (.ref a)]))
  obtain ⟨T4_, X4_, e4_, st4_⟩ := castY X3_ hx hZ hown (hw _ (List.mem_of_getElem? (i := 39) rfl)) e3_ (Ins.self E_s) (g := (mkF m 11 #[.val (.ref a), .val (.ref sr)] [(.ref sr), (.ref a)])) rfl rfl (hb hby d_prog_11_method_1_11)
  refine Runs.st (st4_) ?_
  show Runs p.tables e below _ (T4_.setTop (mkF m 14 #[.val (.ref a), .val (.ref sr)] [(.ref sr), (.ref a)]))
  obtain ⟨T5_, h5_, X5_, e5_, W5_, st5_⟩ := putF X4_ hx hZ hown (host := "") (Or.inl (hw _ (List.mem_of_getElem? (i := 40) rfl))) Via.refl e4_ F_v E_a (Or.inr ⟨(hw _ (List.mem_of_getElem? (i := 41) rfl)), rfl, hnm⟩) (hw _ (List.mem_of_getElem? (i := 28) rfl)) (ty := (.object "java/lang/String")) (by decide) rfl rfl (g := (mkF m 14 #[.val (.ref a), .val (.ref sr)] [(.ref sr), (.ref a)])) rfl rfl (hb hby d_prog_11_method_1_14)
  refine Runs.st (st5_) ?_
  replace F_v := F_v.same W5_
  replace E_a := Jvm.RoadKit.Exa.wr W5_ E_a
  replace E_s := Jvm.RoadKit.Exa.wr W5_ E_s
  replace sz := Nat.le_trans sz (Keep.of_wr W5_).1
  replace hk := Nat.le_trans hk (Keep.of_wr W5_).1
  have N5_ := Fr.snoc X5_ N3_ g_a
  replace K := K.wr W5_ (Or.inl (List.mem_of_getElem? (i := 0) rfl))
  show Runs p.tables e below _ (T5_.setTop (mkF m 17 #[.val (.ref a), .val (.ref sr)] []))
  refine Runs.retW (s := s) (vm₁ := T2_.vm) X5_ hS (by rw [e5_]; exact hk) hlk (v := none) (fun _ => rfl) (by decide) (by decide) ?_ (fun fs hr => X5_.returnOut hx hret (hb hby d_prog_11_method_1_17) hr)
  try rw [e5_]
  exact ⟨rfl, N5_, K, E_a, F_v⟩
def Q_rmCE (Z : State) (a : Addr) (oo : Addr) (sa sb : Addr) (zc : Int32) (b d : Addr) (k1 k2 : ClassId) (co cp nx ny : Int32) (xs ys : List Int32) (r : Int32) (h0 : Heap) (n0 : Nat) : Option Value → Heap → List Loc → Prop := (fun v h L => v = some (.int r) ∧ Fr n0 L ∧ h = h0)
theorem ef_prog_11_method_4_RR (m : MethodId) (x0 : Addr) (x1 : Addr)  : entryFrame m #[(.ref x0), (.ref x1)] 3 = mkF m 0 #[.val (.ref x0), .val (.ref x1), .unset] [] := by first | (simp [entryFrame, mkF, argsToLocals, Value.category]; done) | rfl
theorem d_prog_11_method_4_0 : decode prog_11_method_4_code 0 = .ok (.aload_n 1, 1) := by decide +kernel
theorem d_prog_11_method_4_1 : decode prog_11_method_4_code 1 = .ok (.instanceof 18, 3) := by decide +kernel
theorem d_prog_11_method_4_4 : decode prog_11_method_4_code 4 = .ok (.ifCond .eq 26, 3) := by decide +kernel
theorem d_prog_11_method_4_7 : decode prog_11_method_4_code 7 = .ok (.aload_n 1, 1) := by decide +kernel
theorem d_prog_11_method_4_8 : decode prog_11_method_4_code 8 = .ok (.checkcast 18, 3) := by decide +kernel
theorem d_prog_11_method_4_11 : decode prog_11_method_4_code 11 = .ok (.astore_n 2, 1) := by decide +kernel
theorem d_prog_11_method_4_12 : decode prog_11_method_4_code 12 = .ok (.aload_n 0, 1) := by decide +kernel
theorem d_prog_11_method_4_13 : decode prog_11_method_4_code 13 = .ok (.getfield 17, 3) := by decide +kernel
theorem d_prog_11_method_4_16 : decode prog_11_method_4_code 16 = .ok (.aload_n 2, 1) := by decide +kernel
theorem d_prog_11_method_4_17 : decode prog_11_method_4_code 17 = .ok (.getfield 17, 3) := by decide +kernel
theorem pd__28Ljava_2flang_2fObject_3b_29Z : parseMethodDescriptor "(Ljava/lang/Object;)Z" = some ⟨[(.object "java/lang/Object")], some .boolean⟩ := by decide +kernel
theorem d_prog_11_method_4_20 : decode prog_11_method_4_code 20 = .ok (.invokevirtual 41, 3) := by decide +kernel
theorem d_prog_11_method_4_23 : decode prog_11_method_4_code 23 = .ok (.ifCond .eq 7, 3) := by decide +kernel
theorem d_prog_11_method_4_30 : decode prog_11_method_4_code 30 = .ok (.iconst 0, 1) := by decide +kernel
theorem d_prog_11_method_4_31 : decode prog_11_method_4_code 31 = .ok (.ireturn, 1) := by decide +kernel
theorem d_prog_11_method_4_26 : decode prog_11_method_4_code 26 = .ok (.iconst 1, 1) := by decide +kernel
theorem d_prog_11_method_4_27 : decode prog_11_method_4_code 27 = .ok (.goto 4, 3) := by decide +kernel
set_option maxRecDepth 65536 in
set_option maxHeartbeats 40000000 in
theorem rmCE (l : Launch) (Z : State) (a0 : Array Value) (hw : ∀ d ∈ tables_1, d.before a0 Z = true) (ws : List Jvm.Cond) (a : Addr) (oo : Addr) (sa sb : Addr) (zc : Int32) (b d : Addr) (k1 k2 : ClassId) (co cp nx ny : Int32) (xs ys : List Int32) (r : Int32) (h0 : Heap) (n0 : Nat) (Z0 : n0 ≤ h0.size) (F_a : Fld Z h0 a "com/example/frozen_stream/frozenstream/repository/ContributionOrder" "value" "Ljava/lang/String;" (.ref sa)) (E_o : Exa Z h0 oo "com/example/frozen_stream/frozenstream/repository/ContributionOrder") (F_o : Fld Z h0 oo "com/example/frozen_stream/frozenstream/repository/ContributionOrder" "value" "Ljava/lang/String;" (.ref sb)) (hsame : sa = sb → co = cp ∧ xs = ys) (Sc : Sta Z h0 "java/lang/String" "COMPACT_STRINGS" "Z" (.int zc)) (hzc : ¬ zc = 0) (Ea : Exa Z h0 sa "java/lang/String") (Ca : Fld Z h0 sa "java/lang/String" "coder" "B" (.int co)) (Va : Fld Z h0 sa "java/lang/String" "value" "[B" (.ref b)) (Eo : Exa Z h0 sb "java/lang/String") (Cq : Fld Z h0 sb "java/lang/String" "coder" "B" (.int cp)) (Vo : Fld Z h0 sb "java/lang/String" "value" "[B" (.ref d)) (V1 : Arv Z h0 b k1 .byte nx (xs.map Value.int) (.int (0 : Int32))) (V2 : Arv Z h0 d k2 .byte ny (ys.map Value.int) (.int (0 : Int32))) (hnx : nx.toInt = xs.length) (hny : ny.toInt = ys.length) (hr_ : r = own_b (co = cp ∧ xs = ys)) :
    MetFree l (⟨"com/example/frozen_stream/frozenstream/repository/ContributionOrder", "equals", "(Ljava/lang/Object;)Z"⟩ : MethodName) (head1 (Jvm.Cond.code (⟨"com/example/frozen_stream/frozenstream/repository/ContributionOrder", "equals", "(Ljava/lang/Object;)Z"⟩ : MethodName) prog_11_method_4_code 3 (some .boolean) :: ws) ({ frames := 2, cells := 0, slots := 0, locals := 28 } : Room)) (fun ar_ U => ar_ = #[(.ref a), (.ref oo)] ∧ Z.Warmed39 U.vm ∧ U.heap = h0) (fun _ _ _ _ _ => True) (fun _ U o U' => Phi U (Q_rmCE Z a oo sa sb zc b d k1 k2 co cp nx ny xs ys r h0 n0) ({ frames := 2, cells := 0, slots := 0, locals := 28 } : Room).cells ({ frames := 2, cells := 0, slots := 0, locals := 28 } : Room).slots o U') := by
  refine MetFree.of_bodySF (plainFor_of_name pn_com_example_frozen_stream_frozenstream_repository_ContributionOrder) hisR ?_
  intro p e s m args below meth c s₁ Bd hml0 hP hK
  obtain ⟨rfl, hZ, hh⟩ := hP
  have hx := Bd.exec
  have hby := Bd.bytes
  have hlk := Bd.notSynchronized
  have hml : c.maxLocals = 3 := hml0
  have hown : s.vm.findClass "com/example/frozen_stream/frozenstream/repository/ContributionOrder" = some m.cls := findClass_of_methodNamed Bd.named
  have hown0 := hown
  have hnm := (name_of_methodNamed Bd.named Bd.method).1
  have hret := Bd.returns
  have X0 : Stand p l e ({ frames := 2, cells := 0, slots := 0, locals := 28 } : Room) s m #[(.ref a), (.ref oo)] below meth c s₁ [] 0 0 := Stand.of_body Bd
  have e0 : s₁.heap = h0 := by rw [← hh, Bd.state]; rfl
  have N0 := Fr.nil n0
  have sz := Z0
  have K := Keep.refl h0 []
  show Runs p.tables e below (Phi s (Q_rmCE Z a oo sa sb zc b d k1 k2 co cp nx ny xs ys r h0 n0) ({ frames := 2, cells := 0, slots := 0, locals := 28 } : Room).cells ({ frames := 2, cells := 0, slots := 0, locals := 28 } : Room).slots) _
  refine Runs.st (fun t' k' => castTop (ef_prog_11_method_4_RR m a oo ) k') ?_
  show Runs p.tables e below _ (s₁.setTop (mkF m 0 #[.val (.ref a), .val (.ref oo), .unset] []))
  refine Runs.st (fun t' k' => XS.aloadN X0.here hx rfl (hb hby d_prog_11_method_4_0) rfl rfl k') ?_
  obtain ⟨T1_, X1_, e1_, st1_⟩ := instY X0 hx hZ hown (hw _ (List.mem_of_getElem? (i := 47) rfl)) e0 (Ins.self E_o) (g := (mkF m 1 #[.val (.ref a), .val (.ref oo), .unset] [(.ref oo)])) rfl rfl (hb hby d_prog_11_method_4_1)
  refine Runs.st (st1_) ?_
  show Runs p.tables e below _ (T1_.setTop (mkF m 4 #[.val (.ref a), .val (.ref oo), .unset] [(.int (1 : Int32))]))
  refine Runs.st (fun t' k' => XS.ifNo X1_.here hx rfl (hb hby d_prog_11_method_4_4) rfl ((if0 _ _).trans (feq (by decide)).1) k') ?_
  show Runs p.tables e below _ (T1_.setTop (mkF m 7 #[.val (.ref a), .val (.ref oo), .unset] []))
  refine Runs.st (fun t' k' => XS.aloadN X1_.here hx rfl (hb hby d_prog_11_method_4_7) rfl rfl k') ?_
  obtain ⟨T2_, X2_, e2_, st2_⟩ := castY X1_ hx hZ hown (hw _ (List.mem_of_getElem? (i := 47) rfl)) e1_ (Ins.self E_o) (g := (mkF m 8 #[.val (.ref a), .val (.ref oo), .unset] [(.ref oo)])) rfl rfl (hb hby d_prog_11_method_4_8)
  refine Runs.st (st2_) ?_
  show Runs p.tables e below _ (T2_.setTop (mkF m 11 #[.val (.ref a), .val (.ref oo), .unset] [(.ref oo)]))
  refine Runs.st (fun t' k' => XS.astoreN X2_.here hx rfl (hb hby d_prog_11_method_4_11) rfl rfl (l' := #[.val (.ref a), .val (.ref oo), .val (.ref oo)]) rfl k') ?_
  refine Runs.st (fun t' k' => XS.aloadN X2_.here hx rfl (hb hby d_prog_11_method_4_12) rfl rfl k') ?_
  obtain ⟨T3_, X3_, e3_, st3_⟩ := getF X2_ hx hZ hown (host := "") (Or.inl (hw _ (List.mem_of_getElem? (i := 40) rfl))) Via.refl e2_ F_a (g := (mkF m 13 #[.val (.ref a), .val (.ref oo), .val (.ref oo)] [(.ref a)])) rfl rfl (hb hby d_prog_11_method_4_13)
  refine Runs.st (st3_) ?_
  show Runs p.tables e below _ (T3_.setTop (mkF m 16 #[.val (.ref a), .val (.ref oo), .val (.ref oo)] [(.ref sa)]))
  refine Runs.st (fun t' k' => XS.aloadN X3_.here hx rfl (hb hby d_prog_11_method_4_16) rfl rfl k') ?_
  obtain ⟨T4_, X4_, e4_, st4_⟩ := getF X3_ hx hZ hown (host := "") (Or.inl (hw _ (List.mem_of_getElem? (i := 40) rfl))) Via.refl e3_ F_o (g := (mkF m 17 #[.val (.ref a), .val (.ref oo), .val (.ref oo)] [(.ref oo), (.ref sa)])) rfl rfl (hb hby d_prog_11_method_4_17)
  refine Runs.st (st4_) ?_
  show Runs p.tables e below _ (T4_.setTop (mkF m 20 #[.val (.ref a), .val (.ref oo), .val (.ref oo)] [(.ref sb), (.ref sa)]))
  obtain ⟨cq5_, kq5_, q5_a, q5_b, q5_c⟩ := isOf hZ e4_ Ea
  obtain ⟨_, _, ⟨T5_, L5_, k5_, n5_⟩, -, X5_, ⟨Lc5_, hQ5_, l5_, y5_, z5_⟩, st5_⟩ := X4_.virtualBack hx (y := (⟨"java/lang/String", "equals", "(Ljava/lang/Object;)Z"⟩ : MethodName)) (z := (⟨"java/lang/String", "equals", "(Ljava/lang/Object;)Z"⟩ : MethodName)) hown (mvT hZ (hw _ (List.mem_of_getElem? (i := 49) rfl))) (mvT hZ (hw _ (List.mem_of_getElem? (i := 50) rfl))) (notFace_of_selects (args := #[]) (mvT hZ (hw _ (List.mem_of_getElem? (i := 52) rfl)))) (mvT hZ (hw _ (List.mem_of_getElem? (i := 52) rfl))) (mvT hZ (hw _ (List.mem_of_getElem? (i := 51) rfl))) (by decide) (backOf (W := 0) (rmSG l Z a0 hw [] sa sb zc b d k1 k2 co cp nx ny xs ys r h0 n0 sz hsame Sc hzc Ea Ca Va Eo Cq Vo V1 V2 hnx hny hr_) hZ (hw _ (List.mem_of_getElem? (i := 53) rfl)) (hw _ (List.mem_of_getElem? (i := 7) rfl)) (by decide) (by decide)) q5_a q5_c (g := (mkF m 20 #[.val (.ref a), .val (.ref oo), .val (.ref oo)] [(.ref sb), (.ref sa)])) rfl (by rw [hml]; rfl) (Steps.refl _) (argsL := [(.ref sb)]) (rest := []) (lenOf pd__28Ljava_2flang_2fObject_3b_29Z rfl) rfl (by show 2 * 0 + _ ≤ _; exact Nat.le_of_eq rfl) (hb hby d_prog_11_method_4_20) (fun _ _ => ⟨rfl, e4_, (by decide : 0 + 0 ≤ _), (by decide : 0 + 0 ≤ _)⟩)
  dsimp only [Pt.U, Pt.locs, Pt.cells, Pt.slots] at X5_ l5_ y5_ z5_ st5_ hQ5_
  subst l5_ y5_ z5_
  obtain ⟨rfl, N5_q, e5_⟩ := hQ5_
  have N5_ := Fr.app N0 N5_q
  refine Runs.tr st5_ ?_
  replace X5_ := wider X5_ (c' := 0) (s' := 0) (by decide) (by decide)
  show Runs p.tables e below _ (T5_.setTop (mkF m 23 #[.val (.ref a), .val (.ref oo), .val (.ref oo)] [(.int r)]))
  by_cases c23 : r = (0 : Int32)
  · skip
    refine Runs.st (fun t' k' => XS.ifYes X5_.here hx rfl (pc0 := 23) (pc' := 30) rfl (hb hby d_prog_11_method_4_23) rfl ((if0 _ _).trans (teq c23).1) (by decide) (by decide) k') ?_
    show Runs p.tables e below _ (T5_.setTop (mkF m 30 #[.val (.ref a), .val (.ref oo), .val (.ref oo)] []))
    refine Runs.st (fun t' k' => XS.iconst X5_.here hx rfl (hb hby d_prog_11_method_4_30) k') ?_
    refine Runs.ret X5_ hlk (v := (some (.int (0 : Int32)))) (fun h => by rw [hret] at h; cases h) (by decide) (by decide) ?_ (fun fs hr => retN X5_ hx (t := .boolean) hret (by simp) (hb hby d_prog_11_method_4_31) hr)
    try rw [e5_]
    exact ⟨congrArg (fun z => some (Value.int z)) c23.symm, N5_, rfl⟩
  · skip
    refine Runs.st (fun t' k' => XS.ifNo X5_.here hx rfl (hb hby d_prog_11_method_4_23) rfl ((if0 _ _).trans (feq c23).1) k') ?_
    show Runs p.tables e below _ (T5_.setTop (mkF m 26 #[.val (.ref a), .val (.ref oo), .val (.ref oo)] []))
    refine Runs.st (fun t' k' => XS.iconst X5_.here hx rfl (hb hby d_prog_11_method_4_26) k') ?_
    refine Runs.st (fun t' k' => XS.goto X5_.here hx rfl (pc0 := 27) (pc' := 31) rfl (hb hby d_prog_11_method_4_27) (by decide) (by decide) k') ?_
    refine Runs.ret X5_ hlk (v := (some (.int (1 : Int32)))) (fun h => by rw [hret] at h; cases h) (by decide) (by decide) ?_ (fun fs hr => retN X5_ hx (t := .boolean) hret (by simp) (hb hby d_prog_11_method_4_31) hr)
    try rw [e5_]
    exact ⟨congrArg (fun z => some (Value.int z)) ((hr_.trans (own_b_pos (own_b_ne (hr_ ▸ c23)))).symm), N5_, rfl⟩
def Q_rmCS (Z : State) (a : Addr) (oo : Addr)  (h0 : Heap) (n0 : Nat) : Option Value → Heap → List Loc → Prop := (fun v h L => v = some (.int (0 : Int32)) ∧ Fr n0 L ∧ h = h0)
set_option maxRecDepth 65536 in
set_option maxHeartbeats 40000000 in
theorem rmCS (l : Launch) (Z : State) (a0 : Array Value) (hw : ∀ d ∈ tables_1, d.before a0 Z = true) (ws : List Jvm.Cond) (a : Addr) (oo : Addr)  (h0 : Heap) (n0 : Nat) (Z0 : n0 ≤ h0.size) (E_o : Exa Z h0 oo "java/lang/String") :
    MetFree l (⟨"com/example/frozen_stream/frozenstream/repository/ContributionOrder", "equals", "(Ljava/lang/Object;)Z"⟩ : MethodName) (head1 (Jvm.Cond.code (⟨"com/example/frozen_stream/frozenstream/repository/ContributionOrder", "equals", "(Ljava/lang/Object;)Z"⟩ : MethodName) prog_11_method_4_code 3 (some .boolean) :: ws) ({ frames := 0, cells := 0, slots := 0, locals := 0 } : Room)) (fun ar_ U => ar_ = #[(.ref a), (.ref oo)] ∧ Z.Warmed39 U.vm ∧ U.heap = h0) (fun _ _ _ _ _ => True) (fun _ U o U' => Phi U (Q_rmCS Z a oo h0 n0) ({ frames := 0, cells := 0, slots := 0, locals := 0 } : Room).cells ({ frames := 0, cells := 0, slots := 0, locals := 0 } : Room).slots o U') := by
  refine MetFree.of_bodySF (plainFor_of_name pn_com_example_frozen_stream_frozenstream_repository_ContributionOrder) hisR ?_
  intro p e s m args below meth c s₁ Bd hml0 hP hK
  obtain ⟨rfl, hZ, hh⟩ := hP
  have hx := Bd.exec
  have hby := Bd.bytes
  have hlk := Bd.notSynchronized
  have hml : c.maxLocals = 3 := hml0
  have hown : s.vm.findClass "com/example/frozen_stream/frozenstream/repository/ContributionOrder" = some m.cls := findClass_of_methodNamed Bd.named
  have hown0 := hown
  have hnm := (name_of_methodNamed Bd.named Bd.method).1
  have hret := Bd.returns
  have X0 : Stand p l e ({ frames := 0, cells := 0, slots := 0, locals := 0 } : Room) s m #[(.ref a), (.ref oo)] below meth c s₁ [] 0 0 := Stand.of_body Bd
  have e0 : s₁.heap = h0 := by rw [← hh, Bd.state]; rfl
  have N0 := Fr.nil n0
  have sz := Z0
  have K := Keep.refl h0 []
  show Runs p.tables e below (Phi s (Q_rmCS Z a oo h0 n0) ({ frames := 0, cells := 0, slots := 0, locals := 0 } : Room).cells ({ frames := 0, cells := 0, slots := 0, locals := 0 } : Room).slots) _
  refine Runs.st (fun t' k' => castTop (ef_prog_11_method_4_RR m a oo ) k') ?_
  show Runs p.tables e below _ (s₁.setTop (mkF m 0 #[.val (.ref a), .val (.ref oo), .unset] []))
  refine Runs.st (fun t' k' => XS.aloadN X0.here hx rfl (hb hby d_prog_11_method_4_0) rfl rfl k') ?_
  obtain ⟨T1_, X1_, e1_, st1_⟩ := instNo X0 hx hZ hown (hw _ (List.mem_of_getElem? (i := 47) rfl)) e0 E_o (own_nsub (hw _ (List.mem_of_getElem? (i := 65) rfl)) (hw _ (List.mem_of_getElem? (i := 66) rfl)) (hw _ (List.mem_of_getElem? (i := 28) rfl)) (by decide) (by decide)) (g := (mkF m 1 #[.val (.ref a), .val (.ref oo), .unset] [(.ref oo)])) rfl rfl (hb hby d_prog_11_method_4_1)
  refine Runs.st (st1_) ?_
  show Runs p.tables e below _ (T1_.setTop (mkF m 4 #[.val (.ref a), .val (.ref oo), .unset] [(.int (0 : Int32))]))
  refine Runs.st (fun t' k' => XS.ifYes X1_.here hx rfl (pc0 := 4) (pc' := 30) rfl (hb hby d_prog_11_method_4_4) rfl ((if0 _ _).trans (teq rfl).1) (by decide) (by decide) k') ?_
  show Runs p.tables e below _ (T1_.setTop (mkF m 30 #[.val (.ref a), .val (.ref oo), .unset] []))
  refine Runs.st (fun t' k' => XS.iconst X1_.here hx rfl (hb hby d_prog_11_method_4_30) k') ?_
  refine Runs.ret X1_ hlk (v := (some (.int (0 : Int32)))) (fun h => by rw [hret] at h; cases h) (by decide) (by decide) ?_ (fun fs hr => retN X1_ hx (t := .boolean) hret (by simp) (hb hby d_prog_11_method_4_31) hr)
  try rw [e1_]
  exact ⟨rfl, N0, rfl⟩
def Q_rmCN (Z : State) (a : Addr)  (h0 : Heap) (n0 : Nat) : Option Value → Heap → List Loc → Prop := (fun v h L => v = some (.int (0 : Int32)) ∧ Fr n0 L ∧ h = h0)
theorem ef_prog_11_method_4_RN (m : MethodId) (x0 : Addr)  : entryFrame m #[(.ref x0), .null] 3 = mkF m 0 #[.val (.ref x0), .val .null, .unset] [] := by first | (simp [entryFrame, mkF, argsToLocals, Value.category]; done) | rfl
set_option maxRecDepth 65536 in
set_option maxHeartbeats 40000000 in
theorem rmCN (l : Launch) (Z : State) (a0 : Array Value) (hw : ∀ d ∈ tables_1, d.before a0 Z = true) (ws : List Jvm.Cond) (a : Addr)  (h0 : Heap) (n0 : Nat) (Z0 : n0 ≤ h0.size)  :
    MetFree l (⟨"com/example/frozen_stream/frozenstream/repository/ContributionOrder", "equals", "(Ljava/lang/Object;)Z"⟩ : MethodName) (head1 (Jvm.Cond.code (⟨"com/example/frozen_stream/frozenstream/repository/ContributionOrder", "equals", "(Ljava/lang/Object;)Z"⟩ : MethodName) prog_11_method_4_code 3 (some .boolean) :: ws) ({ frames := 0, cells := 0, slots := 0, locals := 0 } : Room)) (fun ar_ U => ar_ = #[(.ref a), .null] ∧ Z.Warmed39 U.vm ∧ U.heap = h0) (fun _ _ _ _ _ => True) (fun _ U o U' => Phi U (Q_rmCN Z a h0 n0) ({ frames := 0, cells := 0, slots := 0, locals := 0 } : Room).cells ({ frames := 0, cells := 0, slots := 0, locals := 0 } : Room).slots o U') := by
  refine MetFree.of_bodySF (plainFor_of_name pn_com_example_frozen_stream_frozenstream_repository_ContributionOrder) hisR ?_
  intro p e s m args below meth c s₁ Bd hml0 hP hK
  obtain ⟨rfl, hZ, hh⟩ := hP
  have hx := Bd.exec
  have hby := Bd.bytes
  have hlk := Bd.notSynchronized
  have hml : c.maxLocals = 3 := hml0
  have hown : s.vm.findClass "com/example/frozen_stream/frozenstream/repository/ContributionOrder" = some m.cls := findClass_of_methodNamed Bd.named
  have hown0 := hown
  have hnm := (name_of_methodNamed Bd.named Bd.method).1
  have hret := Bd.returns
  have X0 : Stand p l e ({ frames := 0, cells := 0, slots := 0, locals := 0 } : Room) s m #[(.ref a), .null] below meth c s₁ [] 0 0 := Stand.of_body Bd
  have e0 : s₁.heap = h0 := by rw [← hh, Bd.state]; rfl
  have N0 := Fr.nil n0
  have sz := Z0
  have K := Keep.refl h0 []
  show Runs p.tables e below (Phi s (Q_rmCN Z a h0 n0) ({ frames := 0, cells := 0, slots := 0, locals := 0 } : Room).cells ({ frames := 0, cells := 0, slots := 0, locals := 0 } : Room).slots) _
  refine Runs.st (fun t' k' => castTop (ef_prog_11_method_4_RN m a ) k') ?_
  show Runs p.tables e below _ (s₁.setTop (mkF m 0 #[.val (.ref a), .val .null, .unset] []))
  refine Runs.st (fun t' k' => XS.aloadN X0.here hx rfl (hb hby d_prog_11_method_4_0) rfl rfl k') ?_
  refine Runs.st (X0.instanceofNull hx (g := (mkF m 1 #[.val (.ref a), .val .null, .unset] [.null])) rfl rfl (hb hby d_prog_11_method_4_1)) ?_
  show Runs p.tables e below _ (s₁.setTop (mkF m 4 #[.val (.ref a), .val .null, .unset] [(.int (0 : Int32))]))
  refine Runs.st (fun t' k' => XS.ifYes X0.here hx rfl (pc0 := 4) (pc' := 30) rfl (hb hby d_prog_11_method_4_4) rfl ((if0 _ _).trans (teq rfl).1) (by decide) (by decide) k') ?_
  show Runs p.tables e below _ (s₁.setTop (mkF m 30 #[.val (.ref a), .val .null, .unset] []))
  refine Runs.st (fun t' k' => XS.iconst X0.here hx rfl (hb hby d_prog_11_method_4_30) k') ?_
  refine Runs.ret X0 hlk (v := (some (.int (0 : Int32)))) (fun h => by rw [hret] at h; cases h) (by decide) (by decide) ?_ (fun fs hr => retN X0 hx (t := .boolean) hret (by simp) (hb hby d_prog_11_method_4_31) hr)
  try rw [e0]
  exact ⟨rfl, N0, rfl⟩
theorem pd__28ICC_29Ljava_2flang_2fString_3b : parseMethodDescriptor "(ICC)Ljava/lang/String;" = some ⟨[.int, .char, .char], some (.object "java/lang/String")⟩ := by decide +kernel
theorem pd__28Ljava_2flang_2fString_3b_29V : parseMethodDescriptor "(Ljava/lang/String;)V" = some ⟨[(.object "java/lang/String")], none⟩ := by decide +kernel
set_option maxRecDepth 65536 in
set_option maxHeartbeats 40000000 in
theorem seg57 {p : Program} {l : Launch} {e : Env} {s : State} {m : MethodId} {args : Array Value} {below : List Frame} {meth : Method} {c : Code} {T0 : State} {locs : List Loc} {Z : State} {a0 : Array Value} {h0 hq : Heap} {n0 : Nat} {vm0 : Vm} {k0 : Nat} (i0 i1 i2 i3 i4 i5 ca cb da db mi zc : Int32)
    (X0 : Stand p l e room_1 (s.setVm vm0) m args below meth c T0 locs 0 0) (hx : p.tables.exec = Jvm.exec) (hw : ∀ d ∈ tables_1, d.before a0 Z = true) (hby : c.code = code) (hml : c.maxLocals = 19) (hlk : meth.locks = false) (hret : meth.sig.returnType = ret) (e0 : T0.heap = hq) (N0 : Fr n0 locs) (sz : n0 ≤ hq.size) (K : Keep h0 hq []) (hZ : Z.Warmed39 (s.setVm vm0).vm) (hown : (s.setVm vm0).vm.findClass "com/example/frozen_stream/frozenstream/repository/ContributionOrderEqualsPinLaw" = some m.cls) (hS : s.Since vm0 k0) (hk : k0 ≤ hq.size) (hZ0 : Z.Warmed39 s.vm) (hown0 : s.vm.findClass "com/example/frozen_stream/frozenstream/repository/ContributionOrderEqualsPinLaw" = some m.cls) (old : Old Z n0 hq) (Sa : Sta Z Z.heap "java/lang/StringUTF16" "$assertionsDisabled" "Z" (.int (1 : Int32))) (Sh : Sta Z Z.heap "java/lang/StringUTF16" "HI_BYTE_SHIFT" "I" (.int (0 : Int32))) (Sl : Sta Z Z.heap "java/lang/StringUTF16" "LO_BYTE_SHIFT" "I" (.int (8 : Int32))) (Sc : Sta Z Z.heap "java/lang/String" "COMPACT_STRINGS" "Z" (.int zc)) (hzc : ¬ zc = 0) (hEL : EW Z a0 [("java/lang/String", 7)]) (hCq : CHv Z [("java/lang/String", 7)] vm0 hq) (rca : 0 ≤ ca.toInt ∧ ca.toInt ≤ 65535) (rcb : 0 ≤ cb.toInt ∧ cb.toInt ≤ 65535) (rda : 0 ≤ da.toInt ∧ da.toInt ≤ 65535) (rdb : 0 ≤ db.toInt ∧ db.toInt ≤ 65535) :
    Runs p.tables e below (PhiW s (fun v h L => v = some (.int 1) ∧ Fr n0 L) room_1.cells room_1.slots) (T0.setTop (mkF m 57 #[.val (.int i0), .val (.int i1), .val (.int i2), .val (.int i3), .val (.int i4), .val (.int i5), .val (.int ca), .val (.int cb), .val (.int da), .val (.int db), .val (.int mi), .unset, .unset, .unset, .unset, .unset, .unset, .unset, .unset] [])) := by
  show Runs p.tables e below _ (T0.setTop (mkF m 57 #[.val (.int i0), .val (.int i1), .val (.int i2), .val (.int i3), .val (.int i4), .val (.int i5), .val (.int ca), .val (.int cb), .val (.int da), .val (.int db), .val (.int mi), .unset, .unset, .unset, .unset, .unset, .unset, .unset, .unset] []))
  refine Runs.st (fun t' k' => XS.iload X0.here hx rfl (hb hby at_57) rfl k') ?_
  refine Runs.st (fun t' k' => XS.sipush X0.here hx rfl (hb hby at_59) k') ?_
  refine Runs.st (fun t' k' => XS.iand X0.here hx rfl (hb hby at_62) rfl k') ?_
  refine Runs.st (fun t' k' => XS.iconst X0.here hx rfl (hb hby at_63) k') ?_
  refine Runs.st (fun t' k' => iremM X0 hx rfl (hb hby at_64) rfl (by decide) k') ?_
  show Runs p.tables e below _ (T0.setTop (mkF m 65 #[.val (.int i0), .val (.int i1), .val (.int i2), .val (.int i3), .val (.int i4), .val (.int i5), .val (.int ca), .val (.int cb), .val (.int da), .val (.int db), .val (.int mi), .unset, .unset, .unset, .unset, .unset, .unset, .unset, .unset] [(.int ((i4 &&& (255 : Int32)) % (3 : Int32)))]))
  show Runs p.tables e below _ (T0.setTop (mkF m 65 #[.val (.int i0), .val (.int i1), .val (.int i2), .val (.int i3), .val (.int i4), .val (.int i5), .val (.int ca), .val (.int cb), .val (.int da), .val (.int db), .val (.int mi), .unset, .unset, .unset, .unset, .unset, .unset, .unset, .unset] [(.int ((i4 &&& (255 : Int32)) % (3 : Int32)))]))
  obtain ⟨la, ela⟩ : ∃ z : Int32, z = ((i4 &&& (255 : Int32)) % (3 : Int32)) := ⟨_, rfl⟩
  rw [← ela]
  show Runs p.tables e below _ (T0.setTop (mkF m 65 #[.val (.int i0), .val (.int i1), .val (.int i2), .val (.int i3), .val (.int i4), .val (.int i5), .val (.int ca), .val (.int cb), .val (.int da), .val (.int db), .val (.int mi), .unset, .unset, .unset, .unset, .unset, .unset, .unset, .unset] [(.int la)]))
  have hla : la = 0 ∨ la = 1 ∨ la = 2 := by
    have a : (i4 &&& (255 : Int32)).toInt = i4.toInt % 2 ^ 8 := Jvm.Kit.i32_mask _ 255 (k := 8) (by decide) (by decide)
    have b := (c_irem (i4 &&& (255 : Int32)) (3 : Int32) 3 rfl).1 (by omega)
    rw [← Int32.toInt_inj, ← Int32.toInt_inj, ← Int32.toInt_inj, ela, b]
    change _ = (0 : Int) ∨ _ = (1 : Int) ∨ _ = (2 : Int)
    omega
  refine Runs.st (fun t' k' => XS.istore X0.here hx rfl (hb hby at_65) rfl (l' := #[.val (.int i0), .val (.int i1), .val (.int i2), .val (.int i3), .val (.int i4), .val (.int i5), .val (.int ca), .val (.int cb), .val (.int da), .val (.int db), .val (.int mi), .val (.int la), .unset, .unset, .unset, .unset, .unset, .unset, .unset]) rfl k') ?_
  refine Runs.st (fun t' k' => XS.iload X0.here hx rfl (hb hby at_67) rfl k') ?_
  refine Runs.st (fun t' k' => XS.bipush X0.here hx rfl (hb hby at_69) k') ?_
  refine Runs.st (fun t' k' => XS.iushr X0.here hx rfl (hb hby at_71) rfl k') ?_
  refine Runs.st (fun t' k' => XS.sipush X0.here hx rfl (hb hby at_72) k') ?_
  show Runs p.tables e below _ (T0.setTop (mkF m 75 #[.val (.int i0), .val (.int i1), .val (.int i2), .val (.int i3), .val (.int i4), .val (.int i5), .val (.int ca), .val (.int cb), .val (.int da), .val (.int db), .val (.int mi), .val (.int la), .unset, .unset, .unset, .unset, .unset, .unset, .unset] [(.int (255 : Int32)), (.int ((i4.toUInt32 >>> ((8 : Int32) &&& 31).toUInt32).toInt32))]))
  refine Runs.st (fun t' k' => XS.iand X0.here hx rfl (hb hby at_75) rfl k') ?_
  refine Runs.st (fun t' k' => XS.iconst X0.here hx rfl (hb hby at_76) k') ?_
  refine Runs.st (fun t' k' => iremM X0 hx rfl (hb hby at_77) rfl (by decide) k') ?_
  show Runs p.tables e below _ (T0.setTop (mkF m 78 #[.val (.int i0), .val (.int i1), .val (.int i2), .val (.int i3), .val (.int i4), .val (.int i5), .val (.int ca), .val (.int cb), .val (.int da), .val (.int db), .val (.int mi), .val (.int la), .unset, .unset, .unset, .unset, .unset, .unset, .unset] [(.int ((((i4.toUInt32 >>> ((8 : Int32) &&& 31).toUInt32).toInt32) &&& (255 : Int32)) % (3 : Int32)))]))
  obtain ⟨lb, elb⟩ : ∃ z : Int32, z = ((((i4.toUInt32 >>> ((8 : Int32) &&& 31).toUInt32).toInt32) &&& (255 : Int32)) % (3 : Int32)) := ⟨_, rfl⟩
  rw [← elb]
  show Runs p.tables e below _ (T0.setTop (mkF m 78 #[.val (.int i0), .val (.int i1), .val (.int i2), .val (.int i3), .val (.int i4), .val (.int i5), .val (.int ca), .val (.int cb), .val (.int da), .val (.int db), .val (.int mi), .val (.int la), .unset, .unset, .unset, .unset, .unset, .unset, .unset] [(.int lb)]))
  have hlb : lb = 0 ∨ lb = 1 ∨ lb = 2 := by
    have a : (((i4.toUInt32 >>> ((8 : Int32) &&& 31).toUInt32).toInt32) &&& (255 : Int32)).toInt = ((i4.toUInt32 >>> ((8 : Int32) &&& 31).toUInt32).toInt32).toInt % 2 ^ 8 := Jvm.Kit.i32_mask _ 255 (k := 8) (by decide) (by decide)
    have b := (c_irem (((i4.toUInt32 >>> ((8 : Int32) &&& 31).toUInt32).toInt32) &&& (255 : Int32)) (3 : Int32) 3 rfl).1 (by omega)
    rw [← Int32.toInt_inj, ← Int32.toInt_inj, ← Int32.toInt_inj, elb, b]
    change _ = (0 : Int) ∨ _ = (1 : Int) ∨ _ = (2 : Int)
    omega
  refine Runs.st (fun t' k' => XS.istore X0.here hx rfl (hb hby at_78) rfl (l' := #[.val (.int i0), .val (.int i1), .val (.int i2), .val (.int i3), .val (.int i4), .val (.int i5), .val (.int ca), .val (.int cb), .val (.int da), .val (.int db), .val (.int mi), .val (.int la), .val (.int lb), .unset, .unset, .unset, .unset, .unset, .unset]) rfl k') ?_
  refine Runs.st (fun t' k' => XS.iload X0.here hx rfl (hb hby at_80) rfl k') ?_
  show Runs p.tables e below _ (T0.setTop (mkF m 82 #[.val (.int i0), .val (.int i1), .val (.int i2), .val (.int i3), .val (.int i4), .val (.int i5), .val (.int ca), .val (.int cb), .val (.int da), .val (.int db), .val (.int mi), .val (.int la), .val (.int lb), .unset, .unset, .unset, .unset, .unset, .unset] [(.int la)]))
  refine Runs.st (fun t' k' => XS.iload X0.here hx rfl (hb hby at_82) rfl k') ?_
  refine Runs.st (fun t' k' => XS.iload X0.here hx rfl (hb hby at_84) rfl k') ?_
  have kz1_ := K.1
  have gz1_ := sz
  obtain ⟨_, _, ⟨T1_, L1_, k1_, n1_⟩, -, X1_, hS1_, hg1_, ⟨Lc1_, hQ1_, l1_, y1_, z1_, HR1_⟩, st1_⟩ := callSS (show Stand p l e room_1 (s.setVm vm0) m _ below meth c _ _ _ _ from X0) hx (y := (⟨"com/example/frozen_stream/frozenstream/repository/ContributionOrderEqualsPinLaw", "mk", "(ICC)Ljava/lang/String;"⟩ : MethodName)) hown (mvT hZ (hw _ (List.mem_of_getElem? (i := 1) rfl))) (mvT hZ (hw _ (List.mem_of_getElem? (i := 2) rfl))) (mvT hZ (hw _ (List.mem_of_getElem? (i := 3) rfl))) (mvT hZ (hw _ (List.mem_of_getElem? (i := 4) rfl))) (by decide) (backOfSH (W := 0) (rmMk l Z a0 hw [] la ca cb zc hq n0 sz old Sa Sh Sl Sc hzc hEL hla rca rcb) hZ (hw _ (List.mem_of_getElem? (i := 4) rfl)) (hw _ (List.mem_of_getElem? (i := 3) rfl)) (by decide) (by decide) hEL hCq) (g := (mkF m 86 #[.val (.int i0), .val (.int i1), .val (.int i2), .val (.int i3), .val (.int i4), .val (.int i5), .val (.int ca), .val (.int cb), .val (.int da), .val (.int db), .val (.int mi), .val (.int la), .val (.int lb), .unset, .unset, .unset, .unset, .unset, .unset] [(.int cb), (.int ca), (.int la)])) rfl (by rw [hml]; rfl) (argsL := [(.int la), (.int ca), (.int cb)]) (rest := []) (lenOf pd__28ICC_29Ljava_2flang_2fString_3b rfl) rfl (by show 2 * 0 + _ ≤ _; exact Nat.le_of_eq rfl) (hb hby at_86) (fun _ _ => ⟨rfl, e0, (by decide : 0 + 4 ≤ _), (by decide : 0 + 12 ≤ _)⟩)
  dsimp only [Pt.U] at hS1_ hg1_
  dsimp only [Pt.U] at HR1_
  dsimp only [Pt.U, Pt.locs, Pt.cells, Pt.slots] at X1_ l1_ y1_ z1_ st1_ hQ1_
  subst l1_ y1_ z1_
  obtain ⟨sa, vsa, ksa, cosa, nxsa, xssa, rfl, N1_q, K1_, sz1_, E_sa, F_cosa, F_vsa, V_sa, hnsa, ensa⟩ := hQ1_
  have N1_ := Fr.app N0 N1_q
  replace hS := foldS (vm0 := vm0) (T := T0) hS (by rw [e0]; exact hk) hS1_ hg1_
  have hk := Nat.le_refl T1_.heap.size
  replace hZ : Z.Warmed39 (s.setVm T1_.vm).vm := State.Warmed39.trans (t := s) hZ0 hS.1
  replace hown : (s.setVm T1_.vm).vm.findClass "com/example/frozen_stream/frozenstream/repository/ContributionOrderEqualsPinLaw" = some m.cls := by rw [show (s.setVm T1_.vm).vm = T1_.vm from rfl, hS.1.alike.findClass]; exact hown0
  refine Runs.tr st1_ ?_
  replace X1_ := wider X1_ (c' := 4) (s' := 12) (by decide) (by decide)
  replace old := old.keep K1_ all0
  replace sz := Nat.le_trans sz K1_.1
  replace K := K.trans K1_ all0
  have sz_sa : h0.size ≤ sa := Nat.le_trans kz1_ sz1_
  have g_sa : n0 ≤ sa := Nat.le_trans gz1_ sz1_
  show Runs p.tables e below _ (T1_.setTop (mkF m 89 #[.val (.int i0), .val (.int i1), .val (.int i2), .val (.int i3), .val (.int i4), .val (.int i5), .val (.int ca), .val (.int cb), .val (.int da), .val (.int db), .val (.int mi), .val (.int la), .val (.int lb), .unset, .unset, .unset, .unset, .unset, .unset] [(.ref sa)]))
  refine Runs.st (fun t' k' => XS.astore X1_.here hx rfl (hb hby at_89) rfl rfl (l' := #[.val (.int i0), .val (.int i1), .val (.int i2), .val (.int i3), .val (.int i4), .val (.int i5), .val (.int ca), .val (.int cb), .val (.int da), .val (.int db), .val (.int mi), .val (.int la), .val (.int lb), .val (.ref sa), .unset, .unset, .unset, .unset, .unset]) rfl k') ?_
  refine Runs.st (fun t' k' => XS.iload X1_.here hx rfl (hb hby at_91) rfl k') ?_
  refine Runs.st (fun t' k' => XS.iload X1_.here hx rfl (hb hby at_93) rfl k') ?_
  refine Runs.st (fun t' k' => XS.iload X1_.here hx rfl (hb hby at_95) rfl k') ?_
  have kz2_ := K.1
  have gz2_ := sz
  have lt2__sa := E_sa.lt
  have lt2__vsa := V_sa.lt
  obtain ⟨_, _, ⟨T2_, L2_, k2_, n2_⟩, -, X2_, hS2_, hg2_, ⟨Lc2_, hQ2_, l2_, y2_, z2_, HR2_⟩, st2_⟩ := callSS (show Stand p l e room_1 (s.setVm T1_.vm) m _ below meth c _ _ _ _ from X1_) hx (y := (⟨"com/example/frozen_stream/frozenstream/repository/ContributionOrderEqualsPinLaw", "mk", "(ICC)Ljava/lang/String;"⟩ : MethodName)) hown (mvT hZ (hw _ (List.mem_of_getElem? (i := 1) rfl))) (mvT hZ (hw _ (List.mem_of_getElem? (i := 2) rfl))) (mvT hZ (hw _ (List.mem_of_getElem? (i := 3) rfl))) (mvT hZ (hw _ (List.mem_of_getElem? (i := 4) rfl))) (by decide) (backOfSH (W := 0) (rmMk l Z a0 hw [] lb da db zc T1_.heap n0 sz old Sa Sh Sl Sc hzc hEL hlb rda rdb) hZ (hw _ (List.mem_of_getElem? (i := 4) rfl)) (hw _ (List.mem_of_getElem? (i := 3) rfl)) (by decide) (by decide) hEL HR1_.1) (g := (mkF m 97 #[.val (.int i0), .val (.int i1), .val (.int i2), .val (.int i3), .val (.int i4), .val (.int i5), .val (.int ca), .val (.int cb), .val (.int da), .val (.int db), .val (.int mi), .val (.int la), .val (.int lb), .val (.ref sa), .unset, .unset, .unset, .unset, .unset] [(.int db), (.int da), (.int lb)])) rfl (by rw [hml]; rfl) (argsL := [(.int lb), (.int da), (.int db)]) (rest := []) (lenOf pd__28ICC_29Ljava_2flang_2fString_3b rfl) rfl (by show 2 * 0 + _ ≤ _; exact Nat.le_of_eq rfl) (hb hby at_97) (fun _ _ => ⟨rfl, rfl, (by decide : 4 + 4 ≤ _), (by decide : 12 + 12 ≤ _)⟩)
  dsimp only [Pt.U] at hS2_ hg2_
  dsimp only [Pt.U] at HR2_
  dsimp only [Pt.U, Pt.locs, Pt.cells, Pt.slots] at X2_ l2_ y2_ z2_ st2_ hQ2_
  subst l2_ y2_ z2_
  obtain ⟨sb, vsb, ksb, cosb, nxsb, xssb, rfl, N2_q, K2_, sz2_, E_sb, F_cosb, F_vsb, V_sb, hnsb, ensb⟩ := hQ2_
  have N2_ := Fr.app N1_ N2_q
  replace hS := foldS (vm0 := T1_.vm) (T := T1_) hS hk hS2_ hg2_
  have hk := Nat.le_refl T2_.heap.size
  replace hZ : Z.Warmed39 (s.setVm T2_.vm).vm := State.Warmed39.trans (t := s) hZ0 hS.1
  replace hown : (s.setVm T2_.vm).vm.findClass "com/example/frozen_stream/frozenstream/repository/ContributionOrderEqualsPinLaw" = some m.cls := by rw [show (s.setVm T2_.vm).vm = T2_.vm from rfl, hS.1.alike.findClass]; exact hown0
  refine Runs.tr st2_ ?_
  replace X2_ := wider X2_ (c' := 8) (s' := 24) (by decide) (by decide)
  replace old := old.keep K2_ all0
  replace E_sa := E_sa.keep K2_
  replace F_cosa := F_cosa.keep K2_ nin0
  replace F_vsa := F_vsa.keep K2_ nin0
  replace V_sa := V_sa.keep K2_ nin0
  replace sz := Nat.le_trans sz K2_.1
  replace K := K.trans K2_ all0
  have sz_sb : h0.size ≤ sb := Nat.le_trans kz2_ sz2_
  have g_sb : n0 ≤ sb := Nat.le_trans gz2_ sz2_
  have ne_sa_sb : sa ≠ sb := Nat.ne_of_lt (Nat.lt_of_lt_of_le lt2__sa sz2_)
  have ne_vsa_sb : vsa ≠ sb := Nat.ne_of_lt (Nat.lt_of_lt_of_le lt2__vsa sz2_)
  show Runs p.tables e below _ (T2_.setTop (mkF m 100 #[.val (.int i0), .val (.int i1), .val (.int i2), .val (.int i3), .val (.int i4), .val (.int i5), .val (.int ca), .val (.int cb), .val (.int da), .val (.int db), .val (.int mi), .val (.int la), .val (.int lb), .val (.ref sa), .unset, .unset, .unset, .unset, .unset] [(.ref sb)]))
  refine Runs.st (fun t' k' => XS.astore X2_.here hx rfl (hb hby at_100) rfl rfl (l' := #[.val (.int i0), .val (.int i1), .val (.int i2), .val (.int i3), .val (.int i4), .val (.int i5), .val (.int ca), .val (.int cb), .val (.int da), .val (.int db), .val (.int mi), .val (.int la), .val (.int lb), .val (.ref sa), .val (.ref sb), .unset, .unset, .unset, .unset]) rfl k') ?_
  obtain ⟨T3_, h3_, X3_, e3_, E3_, A3_, D3_, -, st3_⟩ := newO X2_ hx hZ hown (hw _ (List.mem_of_getElem? (i := 27) rfl)) (hw _ (List.mem_of_getElem? (i := 28) rfl)) (hw _ (List.mem_of_getElem? (i := 29) rfl)) rfl (g := (mkF m 102 #[.val (.int i0), .val (.int i1), .val (.int i2), .val (.int i3), .val (.int i4), .val (.int i5), .val (.int ca), .val (.int cb), .val (.int da), .val (.int db), .val (.int mi), .val (.int la), .val (.int lb), .val (.ref sa), .val (.ref sb), .unset, .unset, .unset, .unset] [])) rfl (hb hby at_102) (by decide) (by decide)
  refine Runs.st (st3_) ?_
  obtain ⟨b1, g3_⟩ : ∃ z, z = T2_.heap.size := ⟨_, rfl⟩
  rw [← g3_] at A3_ D3_
  try rw [← g3_]
  have g_b1 : n0 ≤ b1 := Nat.le_trans sz (Nat.le_of_eq g3_.symm)
  have sz_b1 : h0.size ≤ b1 := Nat.le_trans K.1 (Nat.le_of_eq g3_.symm)
  have ne_sa_b1 : sa ≠ b1 := Nat.ne_of_lt (Nat.lt_of_lt_of_le E_sa.lt (Nat.le_of_eq g3_.symm))
  have ne_vsa_b1 : vsa ≠ b1 := Nat.ne_of_lt (Nat.lt_of_lt_of_le V_sa.lt (Nat.le_of_eq g3_.symm))
  have ne_sb_b1 : sb ≠ b1 := Nat.ne_of_lt (Nat.lt_of_lt_of_le E_sb.lt (Nat.le_of_eq g3_.symm))
  have ne_vsb_b1 : vsb ≠ b1 := Nat.ne_of_lt (Nat.lt_of_lt_of_le V_sb.lt (Nat.le_of_eq g3_.symm))
  replace old := old.ext E3_
  replace E_sa := E_sa.ext E3_
  replace F_cosa := F_cosa.ext E3_
  replace F_vsa := F_vsa.ext E3_
  replace V_sa := V_sa.ext E3_
  replace E_sb := E_sb.ext E3_
  replace F_cosb := F_cosb.ext E3_
  replace F_vsb := F_vsb.ext E3_
  replace V_sb := V_sb.ext E3_
  replace sz := Nat.le_trans sz E3_.1
  replace K := K.ext E3_
  replace hk := Nat.le_trans hk E3_.1
  have E_b1 := A3_
  have F_b1_value : Fld Z h3_ b1 "com/example/frozen_stream/frozenstream/repository/ContributionOrder" "value" "Ljava/lang/String;" .null := D3_ (Or.inr (hw _ (List.mem_of_getElem? (i := 41) rfl))) (ty := (.object "java/lang/String")) (by decide)
  show Runs p.tables e below _ (T3_.setTop (mkF m 105 #[.val (.int i0), .val (.int i1), .val (.int i2), .val (.int i3), .val (.int i4), .val (.int i5), .val (.int ca), .val (.int cb), .val (.int da), .val (.int db), .val (.int mi), .val (.int la), .val (.int lb), .val (.ref sa), .val (.ref sb), .unset, .unset, .unset, .unset] [(.ref b1)]))
  refine Runs.st (fun t' k' => XS.dup X3_.here hx rfl (hb hby at_105) rfl rfl k') ?_
  refine Runs.st (fun t' k' => XS.aload X3_.here hx rfl (hb hby at_106) rfl rfl k') ?_
  obtain ⟨_, _, ⟨T4_, L4_, k4_, n4_⟩, -, X4_, hS4_, hg4_, ⟨Lc4_, hQ4_, l4_, y4_, z4_⟩, st4_⟩ := (show Stand p l e room_1 (s.setVm T2_.vm) m _ below meth c _ _ _ _ from X3_).specialBackS hx (y := (⟨"com/example/frozen_stream/frozenstream/repository/ContributionOrder", "<init>", "(Ljava/lang/String;)V"⟩ : MethodName)) rfl hown (mvT hZ (hw _ (List.mem_of_getElem? (i := 30) rfl))) (mvT hZ (hw _ (List.mem_of_getElem? (i := 31) rfl))) (mvT hZ (hw _ (List.mem_of_getElem? (i := 32) rfl))) (by decide) (backOfS (W := 1) (rmCO l Z a0 hw [] b1 sa h3_ n0 sz E_b1 F_b1_value g_b1 E_sa) hZ (hw _ (List.mem_of_getElem? (i := 32) rfl)) (hw _ (List.mem_of_getElem? (i := 29) rfl)) (by decide) (by decide)) (g := (mkF m 108 #[.val (.int i0), .val (.int i1), .val (.int i2), .val (.int i3), .val (.int i4), .val (.int i5), .val (.int ca), .val (.int cb), .val (.int da), .val (.int db), .val (.int mi), .val (.int la), .val (.int lb), .val (.ref sa), .val (.ref sb), .unset, .unset, .unset, .unset] [(.ref sa), (.ref b1), (.ref b1)])) rfl (by rw [hml]; rfl) (Steps.refl _) (a := b1) (argsL := [(.ref sa)]) (rest := [(.ref b1)]) (lenOf pd__28Ljava_2flang_2fString_3b_29V rfl) rfl (by show 2 * 0 + _ ≤ _; exact Nat.le_of_eq rfl) (hb hby at_108) (fun _ _ => ⟨rfl, e3_, (by decide : 9 + 2 ≤ _), (by decide : 25 + 24 ≤ _)⟩)
  dsimp only [Pt.U] at hS4_ hg4_
  dsimp only [Pt.U, Pt.locs, Pt.cells, Pt.slots] at X4_ l4_ y4_ z4_ st4_ hQ4_
  subst l4_ y4_ z4_
  obtain ⟨rfl, N4_q, K4_, E_b1, F_b1_value⟩ := hQ4_
  have N4_ := Fr.app N2_ N4_q
  replace hS := foldS (vm0 := T2_.vm) (T := T3_) hS (by rw [e3_]; exact hk) hS4_ hg4_
  have hk := Nat.le_refl T4_.heap.size
  replace hZ : Z.Warmed39 (s.setVm T4_.vm).vm := State.Warmed39.trans (t := s) hZ0 hS.1
  replace hown : (s.setVm T4_.vm).vm.findClass "com/example/frozen_stream/frozenstream/repository/ContributionOrderEqualsPinLaw" = some m.cls := by rw [show (s.setVm T4_.vm).vm = T4_.vm from rfl, hS.1.alike.findClass]; exact hown0
  refine Runs.tr st4_ ?_
  replace X4_ := wider X4_ (c' := 11) (s' := 49) (by decide) (by decide)
  replace old := old.keep K4_ (allS g_b1 all0)
  replace E_sa := E_sa.keep K4_
  replace F_cosa := F_cosa.keep K4_ (ninS ne_sa_b1 nin0)
  replace F_vsa := F_vsa.keep K4_ (ninS ne_sa_b1 nin0)
  replace V_sa := V_sa.keep K4_ (ninS ne_vsa_b1 nin0)
  replace E_sb := E_sb.keep K4_
  replace F_cosb := F_cosb.keep K4_ (ninS ne_sb_b1 nin0)
  replace F_vsb := F_vsb.keep K4_ (ninS ne_sb_b1 nin0)
  replace V_sb := V_sb.keep K4_ (ninS ne_vsb_b1 nin0)
  replace sz := Nat.le_trans sz K4_.1
  replace K := K.trans K4_ (allS (Or.inr sz_b1) all0)
  show Runs p.tables e below _ (T4_.setTop (mkF m 111 #[.val (.int i0), .val (.int i1), .val (.int i2), .val (.int i3), .val (.int i4), .val (.int i5), .val (.int ca), .val (.int cb), .val (.int da), .val (.int db), .val (.int mi), .val (.int la), .val (.int lb), .val (.ref sa), .val (.ref sb), .unset, .unset, .unset, .unset] [(.ref b1)]))
  refine Runs.st (fun t' k' => XS.astore X4_.here hx rfl (hb hby at_111) rfl rfl (l' := #[.val (.int i0), .val (.int i1), .val (.int i2), .val (.int i3), .val (.int i4), .val (.int i5), .val (.int ca), .val (.int cb), .val (.int da), .val (.int db), .val (.int mi), .val (.int la), .val (.int lb), .val (.ref sa), .val (.ref sb), .val (.ref b1), .unset, .unset, .unset]) rfl k') ?_
  refine Runs.st (fun t' k' => XS.iload X4_.here hx rfl (hb hby at_113) rfl k') ?_
  refine Runs.st (fun t' k' => XS.iconst X4_.here hx rfl (hb hby at_115) k') ?_
  refine Runs.st (fun t' k' => XS.iand X4_.here hx rfl (hb hby at_116) rfl k') ?_
  show Runs p.tables e below _ (T4_.setTop (mkF m 117 #[.val (.int i0), .val (.int i1), .val (.int i2), .val (.int i3), .val (.int i4), .val (.int i5), .val (.int ca), .val (.int cb), .val (.int da), .val (.int db), .val (.int mi), .val (.int la), .val (.int lb), .val (.ref sa), .val (.ref sb), .val (.ref b1), .unset, .unset, .unset] [(.int (i5 &&& (3 : Int32)))]))
  obtain ⟨kd, ekd⟩ : ∃ z : Int32, z = (i5 &&& (3 : Int32)) := ⟨_, rfl⟩
  rw [← ekd]
  show Runs p.tables e below _ (T4_.setTop (mkF m 117 #[.val (.int i0), .val (.int i1), .val (.int i2), .val (.int i3), .val (.int i4), .val (.int i5), .val (.int ca), .val (.int cb), .val (.int da), .val (.int db), .val (.int mi), .val (.int la), .val (.int lb), .val (.ref sa), .val (.ref sb), .val (.ref b1), .unset, .unset, .unset] [(.int kd)]))
  have hkd : kd = 0 ∨ kd = 1 ∨ kd = 2 ∨ kd = 3 := by
    have a : (i5 &&& (3 : Int32)).toInt = i5.toInt % 2 ^ 2 := Jvm.Kit.i32_mask i5 3 (k := 2) (by decide) (by decide)
    rw [← Int32.toInt_inj, ← Int32.toInt_inj, ← Int32.toInt_inj, ← Int32.toInt_inj, ekd, a]
    change _ = (0 : Int) ∨ _ = (1 : Int) ∨ _ = (2 : Int) ∨ _ = (3 : Int)
    omega
  have law := own_law rca rcb rda rdb ensa ensb
  refine Runs.st (fun t' k' => XS.istore X4_.here hx rfl (hb hby at_117) rfl (l' := #[.val (.int i0), .val (.int i1), .val (.int i2), .val (.int i3), .val (.int i4), .val (.int i5), .val (.int ca), .val (.int cb), .val (.int da), .val (.int db), .val (.int mi), .val (.int la), .val (.int lb), .val (.ref sa), .val (.ref sb), .val (.ref b1), .val (.int kd), .unset, .unset]) rfl k') ?_
  show Runs p.tables e below _ (T4_.setTop (mkF m 119 #[.val (.int i0), .val (.int i1), .val (.int i2), .val (.int i3), .val (.int i4), .val (.int i5), .val (.int ca), .val (.int cb), .val (.int da), .val (.int db), .val (.int mi), .val (.int la), .val (.int lb), .val (.ref sa), .val (.ref sb), .val (.ref b1), .val (.int kd), .unset, .unset] []))
  refine Runs.st (fun t' k' => XS.iload X4_.here hx rfl (hb hby at_119) rfl k') ?_
  rcases hkd with hd | hd | hd | hd
  · skip
    refine Runs.st (fun t' k' => XS.ifNo X4_.here hx rfl (hb hby at_121) rfl ((if0 _ _).trans (teq hd).2) k') ?_
    show Runs p.tables e below _ (T4_.setTop (mkF m 124 #[.val (.int i0), .val (.int i1), .val (.int i2), .val (.int i3), .val (.int i4), .val (.int i5), .val (.int ca), .val (.int cb), .val (.int da), .val (.int db), .val (.int mi), .val (.int la), .val (.int lb), .val (.ref sa), .val (.ref sb), .val (.ref b1), .val (.int kd), .unset, .unset] []))
    obtain ⟨T5_, h5_, X5_, e5_, E5_, A5_, D5_, -, st5_⟩ := newO X4_ hx hZ hown (hw _ (List.mem_of_getElem? (i := 27) rfl)) (hw _ (List.mem_of_getElem? (i := 28) rfl)) (hw _ (List.mem_of_getElem? (i := 29) rfl)) rfl (g := (mkF m 124 #[.val (.int i0), .val (.int i1), .val (.int i2), .val (.int i3), .val (.int i4), .val (.int i5), .val (.int ca), .val (.int cb), .val (.int da), .val (.int db), .val (.int mi), .val (.int la), .val (.int lb), .val (.ref sa), .val (.ref sb), .val (.ref b1), .val (.int kd), .unset, .unset] [])) rfl (hb hby at_124) (by decide) (by decide)
    refine Runs.st (st5_) ?_
    obtain ⟨b2, g5_⟩ : ∃ z, z = T4_.heap.size := ⟨_, rfl⟩
    rw [← g5_] at A5_ D5_
    try rw [← g5_]
    have g_b2 : n0 ≤ b2 := Nat.le_trans sz (Nat.le_of_eq g5_.symm)
    have sz_b2 : h0.size ≤ b2 := Nat.le_trans K.1 (Nat.le_of_eq g5_.symm)
    have ne_sa_b2 : sa ≠ b2 := Nat.ne_of_lt (Nat.lt_of_lt_of_le E_sa.lt (Nat.le_of_eq g5_.symm))
    have ne_vsa_b2 : vsa ≠ b2 := Nat.ne_of_lt (Nat.lt_of_lt_of_le V_sa.lt (Nat.le_of_eq g5_.symm))
    have ne_sb_b2 : sb ≠ b2 := Nat.ne_of_lt (Nat.lt_of_lt_of_le E_sb.lt (Nat.le_of_eq g5_.symm))
    have ne_vsb_b2 : vsb ≠ b2 := Nat.ne_of_lt (Nat.lt_of_lt_of_le V_sb.lt (Nat.le_of_eq g5_.symm))
    have ne_b1_b2 : b1 ≠ b2 := Nat.ne_of_lt (Nat.lt_of_lt_of_le E_b1.lt (Nat.le_of_eq g5_.symm))
    replace old := old.ext E5_
    replace E_sa := E_sa.ext E5_
    replace F_cosa := F_cosa.ext E5_
    replace F_vsa := F_vsa.ext E5_
    replace V_sa := V_sa.ext E5_
    replace E_sb := E_sb.ext E5_
    replace F_cosb := F_cosb.ext E5_
    replace F_vsb := F_vsb.ext E5_
    replace V_sb := V_sb.ext E5_
    replace E_b1 := E_b1.ext E5_
    replace F_b1_value := F_b1_value.ext E5_
    replace sz := Nat.le_trans sz E5_.1
    replace K := K.ext E5_
    replace hk := Nat.le_trans hk E5_.1
    have E_b2 := A5_
    have F_b2_value : Fld Z h5_ b2 "com/example/frozen_stream/frozenstream/repository/ContributionOrder" "value" "Ljava/lang/String;" .null := D5_ (Or.inr (hw _ (List.mem_of_getElem? (i := 41) rfl))) (ty := (.object "java/lang/String")) (by decide)
    show Runs p.tables e below _ (T5_.setTop (mkF m 127 #[.val (.int i0), .val (.int i1), .val (.int i2), .val (.int i3), .val (.int i4), .val (.int i5), .val (.int ca), .val (.int cb), .val (.int da), .val (.int db), .val (.int mi), .val (.int la), .val (.int lb), .val (.ref sa), .val (.ref sb), .val (.ref b1), .val (.int kd), .unset, .unset] [(.ref b2)]))
    refine Runs.st (fun t' k' => XS.dup X5_.here hx rfl (hb hby at_127) rfl rfl k') ?_
    refine Runs.st (fun t' k' => XS.aload X5_.here hx rfl (hb hby at_128) rfl rfl k') ?_
    obtain ⟨_, _, ⟨T6_, L6_, k6_, n6_⟩, -, X6_, hS6_, hg6_, ⟨Lc6_, hQ6_, l6_, y6_, z6_⟩, st6_⟩ := (show Stand p l e room_1 (s.setVm T4_.vm) m _ below meth c _ _ _ _ from X5_).specialBackS hx (y := (⟨"com/example/frozen_stream/frozenstream/repository/ContributionOrder", "<init>", "(Ljava/lang/String;)V"⟩ : MethodName)) rfl hown (mvT hZ (hw _ (List.mem_of_getElem? (i := 30) rfl))) (mvT hZ (hw _ (List.mem_of_getElem? (i := 31) rfl))) (mvT hZ (hw _ (List.mem_of_getElem? (i := 32) rfl))) (by decide) (backOfS (W := 1) (rmCO l Z a0 hw [] b2 sb h5_ n0 sz E_b2 F_b2_value g_b2 E_sb) hZ (hw _ (List.mem_of_getElem? (i := 32) rfl)) (hw _ (List.mem_of_getElem? (i := 29) rfl)) (by decide) (by decide)) (g := (mkF m 130 #[.val (.int i0), .val (.int i1), .val (.int i2), .val (.int i3), .val (.int i4), .val (.int i5), .val (.int ca), .val (.int cb), .val (.int da), .val (.int db), .val (.int mi), .val (.int la), .val (.int lb), .val (.ref sa), .val (.ref sb), .val (.ref b1), .val (.int kd), .unset, .unset] [(.ref sb), (.ref b2), (.ref b2)])) rfl (by rw [hml]; rfl) (Steps.refl _) (a := b2) (argsL := [(.ref sb)]) (rest := [(.ref b2)]) (lenOf pd__28Ljava_2flang_2fString_3b_29V rfl) rfl (by show 2 * 0 + _ ≤ _; exact Nat.le_of_eq rfl) (hb hby at_130) (fun _ _ => ⟨rfl, e5_, (by decide : 12 + 2 ≤ _), (by decide : 50 + 24 ≤ _)⟩)
    dsimp only [Pt.U] at hS6_ hg6_
    dsimp only [Pt.U, Pt.locs, Pt.cells, Pt.slots] at X6_ l6_ y6_ z6_ st6_ hQ6_
    subst l6_ y6_ z6_
    obtain ⟨rfl, N6_q, K6_, E_b2, F_b2_value⟩ := hQ6_
    have N6_ := Fr.app N4_ N6_q
    replace hS := foldS (vm0 := T4_.vm) (T := T5_) hS (by rw [e5_]; exact hk) hS6_ hg6_
    have hk := Nat.le_refl T6_.heap.size
    replace hZ : Z.Warmed39 (s.setVm T6_.vm).vm := State.Warmed39.trans (t := s) hZ0 hS.1
    replace hown : (s.setVm T6_.vm).vm.findClass "com/example/frozen_stream/frozenstream/repository/ContributionOrderEqualsPinLaw" = some m.cls := by rw [show (s.setVm T6_.vm).vm = T6_.vm from rfl, hS.1.alike.findClass]; exact hown0
    refine Runs.tr st6_ ?_
    replace X6_ := wider X6_ (c' := 14) (s' := 74) (by decide) (by decide)
    replace old := old.keep K6_ (allS g_b2 all0)
    replace E_sa := E_sa.keep K6_
    replace F_cosa := F_cosa.keep K6_ (ninS ne_sa_b2 nin0)
    replace F_vsa := F_vsa.keep K6_ (ninS ne_sa_b2 nin0)
    replace V_sa := V_sa.keep K6_ (ninS ne_vsa_b2 nin0)
    replace E_sb := E_sb.keep K6_
    replace F_cosb := F_cosb.keep K6_ (ninS ne_sb_b2 nin0)
    replace F_vsb := F_vsb.keep K6_ (ninS ne_sb_b2 nin0)
    replace V_sb := V_sb.keep K6_ (ninS ne_vsb_b2 nin0)
    replace E_b1 := E_b1.keep K6_
    replace F_b1_value := F_b1_value.keep K6_ (ninS ne_b1_b2 nin0)
    replace sz := Nat.le_trans sz K6_.1
    replace K := K.trans K6_ (allS (Or.inr sz_b2) all0)
    show Runs p.tables e below _ (T6_.setTop (mkF m 133 #[.val (.int i0), .val (.int i1), .val (.int i2), .val (.int i3), .val (.int i4), .val (.int i5), .val (.int ca), .val (.int cb), .val (.int da), .val (.int db), .val (.int mi), .val (.int la), .val (.int lb), .val (.ref sa), .val (.ref sb), .val (.ref b1), .val (.int kd), .unset, .unset] [(.ref b2)]))
    refine Runs.st (fun t' k' => XS.astore X6_.here hx rfl (hb hby at_133) rfl rfl (l' := #[.val (.int i0), .val (.int i1), .val (.int i2), .val (.int i3), .val (.int i4), .val (.int i5), .val (.int ca), .val (.int cb), .val (.int da), .val (.int db), .val (.int mi), .val (.int la), .val (.int lb), .val (.ref sa), .val (.ref sb), .val (.ref b1), .val (.int kd), .val (.ref b2), .unset]) rfl k') ?_
    have J216 : ∀ (ex : Int32) (hex : ex = own_b (la = lb ∧ (la < 1 ∨ ca = da) ∧ (la < 2 ∨ cb = db))), Runs p.tables e below (PhiW s (fun v h L => v = some (.int 1) ∧ Fr n0 L) room_1.cells room_1.slots) (T6_.setTop (mkF m 216 #[.val (.int i0), .val (.int i1), .val (.int i2), .val (.int i3), .val (.int i4), .val (.int i5), .val (.int ca), .val (.int cb), .val (.int da), .val (.int db), .val (.int mi), .val (.int la), .val (.int lb), .val (.ref sa), .val (.ref sb), .val (.ref b1), .val (.int kd), .val (.ref b2), .val (.int ex)] [])) := by
      intro ex hex
      show Runs p.tables e below _ (T6_.setTop (mkF m 216 #[.val (.int i0), .val (.int i1), .val (.int i2), .val (.int i3), .val (.int i4), .val (.int i5), .val (.int ca), .val (.int cb), .val (.int da), .val (.int db), .val (.int mi), .val (.int la), .val (.int lb), .val (.ref sa), .val (.ref sb), .val (.ref b1), .val (.int kd), .val (.ref b2), .val (.int ex)] []))
      refine Runs.st (fun t' k' => XS.aload X6_.here hx rfl (hb hby at_216) rfl rfl k') ?_
      refine Runs.st (fun t' k' => XS.aload X6_.here hx rfl (hb hby at_218) rfl rfl k') ?_
      obtain ⟨rr, hrr⟩ : ∃ z : Int32, z = own_b (cosa = cosb ∧ xssa = xssb) := ⟨_, rfl⟩
      obtain ⟨cq7_, kq7_, q7_a, q7_b, q7_c⟩ := isOf hZ rfl E_b1
      obtain ⟨_, _, ⟨T7_, L7_, k7_, n7_⟩, -, X7_, ⟨Lc7_, hQ7_, l7_, y7_, z7_⟩, st7_⟩ := X6_.virtualBack hx (y := (⟨"com/example/frozen_stream/frozenstream/repository/ContributionOrder", "equals", "(Ljava/lang/Object;)Z"⟩ : MethodName)) (z := (⟨"com/example/frozen_stream/frozenstream/repository/ContributionOrder", "equals", "(Ljava/lang/Object;)Z"⟩ : MethodName)) hown (mvT hZ (hw _ (List.mem_of_getElem? (i := 42) rfl))) (mvT hZ (hw _ (List.mem_of_getElem? (i := 43) rfl))) (notFace_of_selects (args := #[]) (mvT hZ (hw _ (List.mem_of_getElem? (i := 45) rfl)))) (mvT hZ (hw _ (List.mem_of_getElem? (i := 45) rfl))) (mvT hZ (hw _ (List.mem_of_getElem? (i := 44) rfl))) (by decide) (backOf (W := 0) (rmCE l Z a0 hw [] b1 b2 sa sb zc vsa vsb _ _ cosa cosb nxsa nxsb xssa xssb rr T6_.heap n0 sz F_b1_value E_b2 F_b2_value (fun q => absurd q ne_sa_sb) (Sc.ext old.2) hzc E_sa F_cosa F_vsa E_sb F_cosb F_vsb V_sa V_sb hnsa hnsb hrr) hZ (hw _ (List.mem_of_getElem? (i := 46) rfl)) (hw _ (List.mem_of_getElem? (i := 29) rfl)) (by decide) (by decide)) q7_a q7_c (g := (mkF m 220 #[.val (.int i0), .val (.int i1), .val (.int i2), .val (.int i3), .val (.int i4), .val (.int i5), .val (.int ca), .val (.int cb), .val (.int da), .val (.int db), .val (.int mi), .val (.int la), .val (.int lb), .val (.ref sa), .val (.ref sb), .val (.ref b1), .val (.int kd), .val (.ref b2), .val (.int ex)] [(.ref b2), (.ref b1)])) rfl (by rw [hml]; rfl) (Steps.refl _) (argsL := [(.ref b2)]) (rest := []) (lenOf pd__28Ljava_2flang_2fObject_3b_29Z rfl) rfl (by show 2 * 0 + _ ≤ _; exact Nat.le_of_eq rfl) (hb hby at_220) (fun _ _ => ⟨rfl, rfl, (by decide : 14 + 0 ≤ _), (by decide : 74 + 0 ≤ _)⟩)
      dsimp only [Pt.U, Pt.locs, Pt.cells, Pt.slots] at X7_ l7_ y7_ z7_ st7_ hQ7_
      subst l7_ y7_ z7_
      obtain ⟨rfl, N7_q, e7_⟩ := hQ7_
      have N7_ := Fr.app N6_ N7_q
      refine Runs.tr st7_ ?_
      replace X7_ := wider X7_ (c' := 14) (s' := 74) (by decide) (by decide)
      show Runs p.tables e below _ (T7_.setTop (mkF m 223 #[.val (.int i0), .val (.int i1), .val (.int i2), .val (.int i3), .val (.int i4), .val (.int i5), .val (.int ca), .val (.int cb), .val (.int da), .val (.int db), .val (.int mi), .val (.int la), .val (.int lb), .val (.ref sa), .val (.ref sb), .val (.ref b1), .val (.int kd), .val (.ref b2), .val (.int ex)] [(.int rr)]))
      refine Runs.st (fun t' k' => XS.iload X7_.here hx rfl (hb hby at_223) rfl k') ?_
      refine Runs.st (fun t' k' => XS.icmpNo X7_.here hx rfl (hb hby at_225) rfl (teq (by rw [hrr, hex]; exact own_b_congr law)).2 k') ?_
      show Runs p.tables e below _ (T7_.setTop (mkF m 228 #[.val (.int i0), .val (.int i1), .val (.int i2), .val (.int i3), .val (.int i4), .val (.int i5), .val (.int ca), .val (.int cb), .val (.int da), .val (.int db), .val (.int mi), .val (.int la), .val (.int lb), .val (.ref sa), .val (.ref sb), .val (.ref b1), .val (.int kd), .val (.ref b2), .val (.int ex)] []))
      refine Runs.st (fun t' k' => XS.iconst X7_.here hx rfl (hb hby at_228) k') ?_
      refine Runs.st (fun t' k' => XS.goto X7_.here hx rfl (pc0 := 229) (pc' := 233) rfl (hb hby at_229) (by decide) (by decide) k') ?_
      refine Runs.retW (s := s) (vm₁ := T6_.vm) X7_ hS (by rw [e7_]; exact hk) hlk (v := (some (.int (1 : Int32)))) (fun h => by rw [hret] at h; cases h) (by decide) (by decide) ?_ (fun fs hr => retN X7_ hx (t := .boolean) hret (by simp) (hb hby at_233) hr)
      try rw [e7_]
      exact ⟨rfl, N7_⟩
    refine Runs.st (fun t' k' => XS.iload X6_.here hx rfl (hb hby at_135) rfl k') ?_
    refine Runs.st (fun t' k' => XS.iload X6_.here hx rfl (hb hby at_137) rfl k') ?_
    by_cases c139 : la = lb
    · skip
      refine Runs.st (fun t' k' => XS.icmpNo X6_.here hx rfl (hb hby at_139) rfl (teq c139).2 k') ?_
      show Runs p.tables e below _ (T6_.setTop (mkF m 142 #[.val (.int i0), .val (.int i1), .val (.int i2), .val (.int i3), .val (.int i4), .val (.int i5), .val (.int ca), .val (.int cb), .val (.int da), .val (.int db), .val (.int mi), .val (.int la), .val (.int lb), .val (.ref sa), .val (.ref sb), .val (.ref b1), .val (.int kd), .val (.ref b2), .unset] []))
      refine Runs.st (fun t' k' => XS.iload X6_.here hx rfl (hb hby at_142) rfl k') ?_
      refine Runs.st (fun t' k' => XS.iconst X6_.here hx rfl (hb hby at_144) k') ?_
      by_cases c145 : la < (1 : Int32)
      · skip
        refine Runs.st (fun t' k' => XS.icmpYes X6_.here hx rfl (pc0 := 145) (pc' := 155) rfl (hb hby at_145) rfl (tlt c145).1 (by decide) (by decide) k') ?_
        show Runs p.tables e below _ (T6_.setTop (mkF m 155 #[.val (.int i0), .val (.int i1), .val (.int i2), .val (.int i3), .val (.int i4), .val (.int i5), .val (.int ca), .val (.int cb), .val (.int da), .val (.int db), .val (.int mi), .val (.int la), .val (.int lb), .val (.ref sa), .val (.ref sb), .val (.ref b1), .val (.int kd), .val (.ref b2), .unset] []))
        refine Runs.st (fun t' k' => XS.iload X6_.here hx rfl (hb hby at_155) rfl k') ?_
        refine Runs.st (fun t' k' => XS.iconst X6_.here hx rfl (hb hby at_157) k') ?_
        by_cases c158 : la < (2 : Int32)
        · skip
          refine Runs.st (fun t' k' => XS.icmpYes X6_.here hx rfl (pc0 := 158) (pc' := 168) rfl (hb hby at_158) rfl (tlt c158).1 (by decide) (by decide) k') ?_
          show Runs p.tables e below _ (T6_.setTop (mkF m 168 #[.val (.int i0), .val (.int i1), .val (.int i2), .val (.int i3), .val (.int i4), .val (.int i5), .val (.int ca), .val (.int cb), .val (.int da), .val (.int db), .val (.int mi), .val (.int la), .val (.int lb), .val (.ref sa), .val (.ref sb), .val (.ref b1), .val (.int kd), .val (.ref b2), .unset] []))
          refine Runs.st (fun t' k' => XS.iconst X6_.here hx rfl (hb hby at_168) k') ?_
          refine Runs.st (fun t' k' => XS.goto X6_.here hx rfl (pc0 := 169) (pc' := 173) rfl (hb hby at_169) (by decide) (by decide) k') ?_
          refine Runs.st (fun t' k' => XS.istore X6_.here hx rfl (hb hby at_173) rfl (l' := #[.val (.int i0), .val (.int i1), .val (.int i2), .val (.int i3), .val (.int i4), .val (.int i5), .val (.int ca), .val (.int cb), .val (.int da), .val (.int db), .val (.int mi), .val (.int la), .val (.int lb), .val (.ref sa), .val (.ref sb), .val (.ref b1), .val (.int kd), .val (.ref b2), .val (.int (1 : Int32))]) rfl k') ?_
          refine Runs.st (fun t' k' => XS.goto X6_.here hx rfl (pc0 := 175) (pc' := 216) rfl (hb hby at_175) (by decide) (by decide) k') ?_
          exact J216 _ (own_b_pos ⟨c139, Or.inl c145, Or.inl c158⟩).symm
        · skip
          refine Runs.st (fun t' k' => XS.icmpNo X6_.here hx rfl (hb hby at_158) rfl (flt c158).1 k') ?_
          show Runs p.tables e below _ (T6_.setTop (mkF m 161 #[.val (.int i0), .val (.int i1), .val (.int i2), .val (.int i3), .val (.int i4), .val (.int i5), .val (.int ca), .val (.int cb), .val (.int da), .val (.int db), .val (.int mi), .val (.int la), .val (.int lb), .val (.ref sa), .val (.ref sb), .val (.ref b1), .val (.int kd), .val (.ref b2), .unset] []))
          refine Runs.st (fun t' k' => XS.iload X6_.here hx rfl (hb hby at_161) rfl k') ?_
          refine Runs.st (fun t' k' => XS.iload X6_.here hx rfl (hb hby at_163) rfl k') ?_
          by_cases c165 : cb = db
          · skip
            refine Runs.st (fun t' k' => XS.icmpNo X6_.here hx rfl (hb hby at_165) rfl (teq c165).2 k') ?_
            show Runs p.tables e below _ (T6_.setTop (mkF m 168 #[.val (.int i0), .val (.int i1), .val (.int i2), .val (.int i3), .val (.int i4), .val (.int i5), .val (.int ca), .val (.int cb), .val (.int da), .val (.int db), .val (.int mi), .val (.int la), .val (.int lb), .val (.ref sa), .val (.ref sb), .val (.ref b1), .val (.int kd), .val (.ref b2), .unset] []))
            refine Runs.st (fun t' k' => XS.iconst X6_.here hx rfl (hb hby at_168) k') ?_
            refine Runs.st (fun t' k' => XS.goto X6_.here hx rfl (pc0 := 169) (pc' := 173) rfl (hb hby at_169) (by decide) (by decide) k') ?_
            refine Runs.st (fun t' k' => XS.istore X6_.here hx rfl (hb hby at_173) rfl (l' := #[.val (.int i0), .val (.int i1), .val (.int i2), .val (.int i3), .val (.int i4), .val (.int i5), .val (.int ca), .val (.int cb), .val (.int da), .val (.int db), .val (.int mi), .val (.int la), .val (.int lb), .val (.ref sa), .val (.ref sb), .val (.ref b1), .val (.int kd), .val (.ref b2), .val (.int (1 : Int32))]) rfl k') ?_
            refine Runs.st (fun t' k' => XS.goto X6_.here hx rfl (pc0 := 175) (pc' := 216) rfl (hb hby at_175) (by decide) (by decide) k') ?_
            exact J216 _ (own_b_pos ⟨c139, Or.inl c145, Or.inr c165⟩).symm
          · skip
            refine Runs.st (fun t' k' => XS.icmpYes X6_.here hx rfl (pc0 := 165) (pc' := 172) rfl (hb hby at_165) rfl (feq c165).2 (by decide) (by decide) k') ?_
            show Runs p.tables e below _ (T6_.setTop (mkF m 172 #[.val (.int i0), .val (.int i1), .val (.int i2), .val (.int i3), .val (.int i4), .val (.int i5), .val (.int ca), .val (.int cb), .val (.int da), .val (.int db), .val (.int mi), .val (.int la), .val (.int lb), .val (.ref sa), .val (.ref sb), .val (.ref b1), .val (.int kd), .val (.ref b2), .unset] []))
            refine Runs.st (fun t' k' => XS.iconst X6_.here hx rfl (hb hby at_172) k') ?_
            refine Runs.st (fun t' k' => XS.istore X6_.here hx rfl (hb hby at_173) rfl (l' := #[.val (.int i0), .val (.int i1), .val (.int i2), .val (.int i3), .val (.int i4), .val (.int i5), .val (.int ca), .val (.int cb), .val (.int da), .val (.int db), .val (.int mi), .val (.int la), .val (.int lb), .val (.ref sa), .val (.ref sb), .val (.ref b1), .val (.int kd), .val (.ref b2), .val (.int (0 : Int32))]) rfl k') ?_
            refine Runs.st (fun t' k' => XS.goto X6_.here hx rfl (pc0 := 175) (pc' := 216) rfl (hb hby at_175) (by decide) (by decide) k') ?_
            exact J216 _ (own_b_neg (fun q => q.2.2.elim c158 c165)).symm
      · skip
        refine Runs.st (fun t' k' => XS.icmpNo X6_.here hx rfl (hb hby at_145) rfl (flt c145).1 k') ?_
        show Runs p.tables e below _ (T6_.setTop (mkF m 148 #[.val (.int i0), .val (.int i1), .val (.int i2), .val (.int i3), .val (.int i4), .val (.int i5), .val (.int ca), .val (.int cb), .val (.int da), .val (.int db), .val (.int mi), .val (.int la), .val (.int lb), .val (.ref sa), .val (.ref sb), .val (.ref b1), .val (.int kd), .val (.ref b2), .unset] []))
        refine Runs.st (fun t' k' => XS.iload X6_.here hx rfl (hb hby at_148) rfl k') ?_
        refine Runs.st (fun t' k' => XS.iload X6_.here hx rfl (hb hby at_150) rfl k') ?_
        by_cases c152 : ca = da
        · skip
          refine Runs.st (fun t' k' => XS.icmpNo X6_.here hx rfl (hb hby at_152) rfl (teq c152).2 k') ?_
          show Runs p.tables e below _ (T6_.setTop (mkF m 155 #[.val (.int i0), .val (.int i1), .val (.int i2), .val (.int i3), .val (.int i4), .val (.int i5), .val (.int ca), .val (.int cb), .val (.int da), .val (.int db), .val (.int mi), .val (.int la), .val (.int lb), .val (.ref sa), .val (.ref sb), .val (.ref b1), .val (.int kd), .val (.ref b2), .unset] []))
          refine Runs.st (fun t' k' => XS.iload X6_.here hx rfl (hb hby at_155) rfl k') ?_
          refine Runs.st (fun t' k' => XS.iconst X6_.here hx rfl (hb hby at_157) k') ?_
          by_cases c158 : la < (2 : Int32)
          · skip
            refine Runs.st (fun t' k' => XS.icmpYes X6_.here hx rfl (pc0 := 158) (pc' := 168) rfl (hb hby at_158) rfl (tlt c158).1 (by decide) (by decide) k') ?_
            show Runs p.tables e below _ (T6_.setTop (mkF m 168 #[.val (.int i0), .val (.int i1), .val (.int i2), .val (.int i3), .val (.int i4), .val (.int i5), .val (.int ca), .val (.int cb), .val (.int da), .val (.int db), .val (.int mi), .val (.int la), .val (.int lb), .val (.ref sa), .val (.ref sb), .val (.ref b1), .val (.int kd), .val (.ref b2), .unset] []))
            refine Runs.st (fun t' k' => XS.iconst X6_.here hx rfl (hb hby at_168) k') ?_
            refine Runs.st (fun t' k' => XS.goto X6_.here hx rfl (pc0 := 169) (pc' := 173) rfl (hb hby at_169) (by decide) (by decide) k') ?_
            refine Runs.st (fun t' k' => XS.istore X6_.here hx rfl (hb hby at_173) rfl (l' := #[.val (.int i0), .val (.int i1), .val (.int i2), .val (.int i3), .val (.int i4), .val (.int i5), .val (.int ca), .val (.int cb), .val (.int da), .val (.int db), .val (.int mi), .val (.int la), .val (.int lb), .val (.ref sa), .val (.ref sb), .val (.ref b1), .val (.int kd), .val (.ref b2), .val (.int (1 : Int32))]) rfl k') ?_
            refine Runs.st (fun t' k' => XS.goto X6_.here hx rfl (pc0 := 175) (pc' := 216) rfl (hb hby at_175) (by decide) (by decide) k') ?_
            exact J216 _ (own_b_pos ⟨c139, Or.inr c152, Or.inl c158⟩).symm
          · skip
            refine Runs.st (fun t' k' => XS.icmpNo X6_.here hx rfl (hb hby at_158) rfl (flt c158).1 k') ?_
            show Runs p.tables e below _ (T6_.setTop (mkF m 161 #[.val (.int i0), .val (.int i1), .val (.int i2), .val (.int i3), .val (.int i4), .val (.int i5), .val (.int ca), .val (.int cb), .val (.int da), .val (.int db), .val (.int mi), .val (.int la), .val (.int lb), .val (.ref sa), .val (.ref sb), .val (.ref b1), .val (.int kd), .val (.ref b2), .unset] []))
            refine Runs.st (fun t' k' => XS.iload X6_.here hx rfl (hb hby at_161) rfl k') ?_
            refine Runs.st (fun t' k' => XS.iload X6_.here hx rfl (hb hby at_163) rfl k') ?_
            by_cases c165 : cb = db
            · skip
              refine Runs.st (fun t' k' => XS.icmpNo X6_.here hx rfl (hb hby at_165) rfl (teq c165).2 k') ?_
              show Runs p.tables e below _ (T6_.setTop (mkF m 168 #[.val (.int i0), .val (.int i1), .val (.int i2), .val (.int i3), .val (.int i4), .val (.int i5), .val (.int ca), .val (.int cb), .val (.int da), .val (.int db), .val (.int mi), .val (.int la), .val (.int lb), .val (.ref sa), .val (.ref sb), .val (.ref b1), .val (.int kd), .val (.ref b2), .unset] []))
              refine Runs.st (fun t' k' => XS.iconst X6_.here hx rfl (hb hby at_168) k') ?_
              refine Runs.st (fun t' k' => XS.goto X6_.here hx rfl (pc0 := 169) (pc' := 173) rfl (hb hby at_169) (by decide) (by decide) k') ?_
              refine Runs.st (fun t' k' => XS.istore X6_.here hx rfl (hb hby at_173) rfl (l' := #[.val (.int i0), .val (.int i1), .val (.int i2), .val (.int i3), .val (.int i4), .val (.int i5), .val (.int ca), .val (.int cb), .val (.int da), .val (.int db), .val (.int mi), .val (.int la), .val (.int lb), .val (.ref sa), .val (.ref sb), .val (.ref b1), .val (.int kd), .val (.ref b2), .val (.int (1 : Int32))]) rfl k') ?_
              refine Runs.st (fun t' k' => XS.goto X6_.here hx rfl (pc0 := 175) (pc' := 216) rfl (hb hby at_175) (by decide) (by decide) k') ?_
              exact J216 _ (own_b_pos ⟨c139, Or.inr c152, Or.inr c165⟩).symm
            · skip
              refine Runs.st (fun t' k' => XS.icmpYes X6_.here hx rfl (pc0 := 165) (pc' := 172) rfl (hb hby at_165) rfl (feq c165).2 (by decide) (by decide) k') ?_
              show Runs p.tables e below _ (T6_.setTop (mkF m 172 #[.val (.int i0), .val (.int i1), .val (.int i2), .val (.int i3), .val (.int i4), .val (.int i5), .val (.int ca), .val (.int cb), .val (.int da), .val (.int db), .val (.int mi), .val (.int la), .val (.int lb), .val (.ref sa), .val (.ref sb), .val (.ref b1), .val (.int kd), .val (.ref b2), .unset] []))
              refine Runs.st (fun t' k' => XS.iconst X6_.here hx rfl (hb hby at_172) k') ?_
              refine Runs.st (fun t' k' => XS.istore X6_.here hx rfl (hb hby at_173) rfl (l' := #[.val (.int i0), .val (.int i1), .val (.int i2), .val (.int i3), .val (.int i4), .val (.int i5), .val (.int ca), .val (.int cb), .val (.int da), .val (.int db), .val (.int mi), .val (.int la), .val (.int lb), .val (.ref sa), .val (.ref sb), .val (.ref b1), .val (.int kd), .val (.ref b2), .val (.int (0 : Int32))]) rfl k') ?_
              refine Runs.st (fun t' k' => XS.goto X6_.here hx rfl (pc0 := 175) (pc' := 216) rfl (hb hby at_175) (by decide) (by decide) k') ?_
              exact J216 _ (own_b_neg (fun q => q.2.2.elim c158 c165)).symm
        · skip
          refine Runs.st (fun t' k' => XS.icmpYes X6_.here hx rfl (pc0 := 152) (pc' := 172) rfl (hb hby at_152) rfl (feq c152).2 (by decide) (by decide) k') ?_
          show Runs p.tables e below _ (T6_.setTop (mkF m 172 #[.val (.int i0), .val (.int i1), .val (.int i2), .val (.int i3), .val (.int i4), .val (.int i5), .val (.int ca), .val (.int cb), .val (.int da), .val (.int db), .val (.int mi), .val (.int la), .val (.int lb), .val (.ref sa), .val (.ref sb), .val (.ref b1), .val (.int kd), .val (.ref b2), .unset] []))
          refine Runs.st (fun t' k' => XS.iconst X6_.here hx rfl (hb hby at_172) k') ?_
          refine Runs.st (fun t' k' => XS.istore X6_.here hx rfl (hb hby at_173) rfl (l' := #[.val (.int i0), .val (.int i1), .val (.int i2), .val (.int i3), .val (.int i4), .val (.int i5), .val (.int ca), .val (.int cb), .val (.int da), .val (.int db), .val (.int mi), .val (.int la), .val (.int lb), .val (.ref sa), .val (.ref sb), .val (.ref b1), .val (.int kd), .val (.ref b2), .val (.int (0 : Int32))]) rfl k') ?_
          refine Runs.st (fun t' k' => XS.goto X6_.here hx rfl (pc0 := 175) (pc' := 216) rfl (hb hby at_175) (by decide) (by decide) k') ?_
          exact J216 _ (own_b_neg (fun q => q.2.1.elim c145 c152)).symm
    · skip
      refine Runs.st (fun t' k' => XS.icmpYes X6_.here hx rfl (pc0 := 139) (pc' := 172) rfl (hb hby at_139) rfl (feq c139).2 (by decide) (by decide) k') ?_
      show Runs p.tables e below _ (T6_.setTop (mkF m 172 #[.val (.int i0), .val (.int i1), .val (.int i2), .val (.int i3), .val (.int i4), .val (.int i5), .val (.int ca), .val (.int cb), .val (.int da), .val (.int db), .val (.int mi), .val (.int la), .val (.int lb), .val (.ref sa), .val (.ref sb), .val (.ref b1), .val (.int kd), .val (.ref b2), .unset] []))
      refine Runs.st (fun t' k' => XS.iconst X6_.here hx rfl (hb hby at_172) k') ?_
      refine Runs.st (fun t' k' => XS.istore X6_.here hx rfl (hb hby at_173) rfl (l' := #[.val (.int i0), .val (.int i1), .val (.int i2), .val (.int i3), .val (.int i4), .val (.int i5), .val (.int ca), .val (.int cb), .val (.int da), .val (.int db), .val (.int mi), .val (.int la), .val (.int lb), .val (.ref sa), .val (.ref sb), .val (.ref b1), .val (.int kd), .val (.ref b2), .val (.int (0 : Int32))]) rfl k') ?_
      refine Runs.st (fun t' k' => XS.goto X6_.here hx rfl (pc0 := 175) (pc' := 216) rfl (hb hby at_175) (by decide) (by decide) k') ?_
      exact J216 _ (own_b_neg (fun q => c139 q.1)).symm
  · skip
    refine Runs.st (fun t' k' => XS.ifYes X4_.here hx rfl (pc0 := 121) (pc' := 178) rfl (hb hby at_121) rfl ((if0 _ _).trans (feq (by rw [hd]; decide)).2) (by decide) (by decide) k') ?_
    show Runs p.tables e below _ (T4_.setTop (mkF m 178 #[.val (.int i0), .val (.int i1), .val (.int i2), .val (.int i3), .val (.int i4), .val (.int i5), .val (.int ca), .val (.int cb), .val (.int da), .val (.int db), .val (.int mi), .val (.int la), .val (.int lb), .val (.ref sa), .val (.ref sb), .val (.ref b1), .val (.int kd), .unset, .unset] []))
    refine Runs.st (fun t' k' => XS.iload X4_.here hx rfl (hb hby at_178) rfl k') ?_
    refine Runs.st (fun t' k' => XS.iconst X4_.here hx rfl (hb hby at_180) k') ?_
    refine Runs.st (fun t' k' => XS.icmpNo X4_.here hx rfl (hb hby at_181) rfl (teq hd).2 k') ?_
    show Runs p.tables e below _ (T4_.setTop (mkF m 184 #[.val (.int i0), .val (.int i1), .val (.int i2), .val (.int i3), .val (.int i4), .val (.int i5), .val (.int ca), .val (.int cb), .val (.int da), .val (.int db), .val (.int mi), .val (.int la), .val (.int lb), .val (.ref sa), .val (.ref sb), .val (.ref b1), .val (.int kd), .unset, .unset] []))
    refine Runs.st (fun t' k' => XS.aload X4_.here hx rfl (hb hby at_184) rfl rfl k') ?_
    refine Runs.st (fun t' k' => XS.astore X4_.here hx rfl (hb hby at_186) rfl rfl (l' := #[.val (.int i0), .val (.int i1), .val (.int i2), .val (.int i3), .val (.int i4), .val (.int i5), .val (.int ca), .val (.int cb), .val (.int da), .val (.int db), .val (.int mi), .val (.int la), .val (.int lb), .val (.ref sa), .val (.ref sb), .val (.ref b1), .val (.int kd), .val (.ref sb), .unset]) rfl k') ?_
    refine Runs.st (fun t' k' => XS.iconst X4_.here hx rfl (hb hby at_188) k') ?_
    refine Runs.st (fun t' k' => XS.istore X4_.here hx rfl (hb hby at_189) rfl (l' := #[.val (.int i0), .val (.int i1), .val (.int i2), .val (.int i3), .val (.int i4), .val (.int i5), .val (.int ca), .val (.int cb), .val (.int da), .val (.int db), .val (.int mi), .val (.int la), .val (.int lb), .val (.ref sa), .val (.ref sb), .val (.ref b1), .val (.int kd), .val (.ref sb), .val (.int (0 : Int32))]) rfl k') ?_
    refine Runs.st (fun t' k' => XS.goto X4_.here hx rfl (pc0 := 191) (pc' := 216) rfl (hb hby at_191) (by decide) (by decide) k') ?_
    show Runs p.tables e below _ (T4_.setTop (mkF m 216 #[.val (.int i0), .val (.int i1), .val (.int i2), .val (.int i3), .val (.int i4), .val (.int i5), .val (.int ca), .val (.int cb), .val (.int da), .val (.int db), .val (.int mi), .val (.int la), .val (.int lb), .val (.ref sa), .val (.ref sb), .val (.ref b1), .val (.int kd), .val (.ref sb), .val (.int (0 : Int32))] []))
    refine Runs.st (fun t' k' => XS.aload X4_.here hx rfl (hb hby at_216) rfl rfl k') ?_
    refine Runs.st (fun t' k' => XS.aload X4_.here hx rfl (hb hby at_218) rfl rfl k') ?_
    obtain ⟨cq8_, kq8_, q8_a, q8_b, q8_c⟩ := isOf hZ rfl E_b1
    obtain ⟨_, _, ⟨T8_, L8_, k8_, n8_⟩, -, X8_, ⟨Lc8_, hQ8_, l8_, y8_, z8_⟩, st8_⟩ := X4_.virtualBack hx (y := (⟨"com/example/frozen_stream/frozenstream/repository/ContributionOrder", "equals", "(Ljava/lang/Object;)Z"⟩ : MethodName)) (z := (⟨"com/example/frozen_stream/frozenstream/repository/ContributionOrder", "equals", "(Ljava/lang/Object;)Z"⟩ : MethodName)) hown (mvT hZ (hw _ (List.mem_of_getElem? (i := 42) rfl))) (mvT hZ (hw _ (List.mem_of_getElem? (i := 43) rfl))) (notFace_of_selects (args := #[]) (mvT hZ (hw _ (List.mem_of_getElem? (i := 45) rfl)))) (mvT hZ (hw _ (List.mem_of_getElem? (i := 45) rfl))) (mvT hZ (hw _ (List.mem_of_getElem? (i := 44) rfl))) (by decide) (backOf (W := 0) (rmCS l Z a0 hw [] b1 sb T4_.heap n0 sz E_sb) hZ (hw _ (List.mem_of_getElem? (i := 46) rfl)) (hw _ (List.mem_of_getElem? (i := 29) rfl)) (by decide) (by decide)) q8_a q8_c (g := (mkF m 220 #[.val (.int i0), .val (.int i1), .val (.int i2), .val (.int i3), .val (.int i4), .val (.int i5), .val (.int ca), .val (.int cb), .val (.int da), .val (.int db), .val (.int mi), .val (.int la), .val (.int lb), .val (.ref sa), .val (.ref sb), .val (.ref b1), .val (.int kd), .val (.ref sb), .val (.int (0 : Int32))] [(.ref sb), (.ref b1)])) rfl (by rw [hml]; rfl) (Steps.refl _) (argsL := [(.ref sb)]) (rest := []) (lenOf pd__28Ljava_2flang_2fObject_3b_29Z rfl) rfl (by show 2 * 0 + _ ≤ _; exact Nat.le_of_eq rfl) (hb hby at_220) (fun _ _ => ⟨rfl, rfl, (by decide : 11 + 0 ≤ _), (by decide : 49 + 0 ≤ _)⟩)
    dsimp only [Pt.U, Pt.locs, Pt.cells, Pt.slots] at X8_ l8_ y8_ z8_ st8_ hQ8_
    subst l8_ y8_ z8_
    obtain ⟨rfl, N8_q, e8_⟩ := hQ8_
    have N8_ := Fr.app N4_ N8_q
    refine Runs.tr st8_ ?_
    replace X8_ := wider X8_ (c' := 11) (s' := 49) (by decide) (by decide)
    show Runs p.tables e below _ (T8_.setTop (mkF m 223 #[.val (.int i0), .val (.int i1), .val (.int i2), .val (.int i3), .val (.int i4), .val (.int i5), .val (.int ca), .val (.int cb), .val (.int da), .val (.int db), .val (.int mi), .val (.int la), .val (.int lb), .val (.ref sa), .val (.ref sb), .val (.ref b1), .val (.int kd), .val (.ref sb), .val (.int (0 : Int32))] [(.int (0 : Int32))]))
    refine Runs.st (fun t' k' => XS.iload X8_.here hx rfl (hb hby at_223) rfl k') ?_
    refine Runs.st (fun t' k' => XS.icmpNo X8_.here hx rfl (hb hby at_225) rfl (teq rfl).2 k') ?_
    show Runs p.tables e below _ (T8_.setTop (mkF m 228 #[.val (.int i0), .val (.int i1), .val (.int i2), .val (.int i3), .val (.int i4), .val (.int i5), .val (.int ca), .val (.int cb), .val (.int da), .val (.int db), .val (.int mi), .val (.int la), .val (.int lb), .val (.ref sa), .val (.ref sb), .val (.ref b1), .val (.int kd), .val (.ref sb), .val (.int (0 : Int32))] []))
    refine Runs.st (fun t' k' => XS.iconst X8_.here hx rfl (hb hby at_228) k') ?_
    refine Runs.st (fun t' k' => XS.goto X8_.here hx rfl (pc0 := 229) (pc' := 233) rfl (hb hby at_229) (by decide) (by decide) k') ?_
    refine Runs.retW (s := s) (vm₁ := T4_.vm) X8_ hS (by rw [e8_]; exact hk) hlk (v := (some (.int (1 : Int32)))) (fun h => by rw [hret] at h; cases h) (by decide) (by decide) ?_ (fun fs hr => retN X8_ hx (t := .boolean) hret (by simp) (hb hby at_233) hr)
    try rw [e8_]
    exact ⟨rfl, N8_⟩
  · skip
    refine Runs.st (fun t' k' => XS.ifYes X4_.here hx rfl (pc0 := 121) (pc' := 178) rfl (hb hby at_121) rfl ((if0 _ _).trans (feq (by rw [hd]; decide)).2) (by decide) (by decide) k') ?_
    show Runs p.tables e below _ (T4_.setTop (mkF m 178 #[.val (.int i0), .val (.int i1), .val (.int i2), .val (.int i3), .val (.int i4), .val (.int i5), .val (.int ca), .val (.int cb), .val (.int da), .val (.int db), .val (.int mi), .val (.int la), .val (.int lb), .val (.ref sa), .val (.ref sb), .val (.ref b1), .val (.int kd), .unset, .unset] []))
    refine Runs.st (fun t' k' => XS.iload X4_.here hx rfl (hb hby at_178) rfl k') ?_
    refine Runs.st (fun t' k' => XS.iconst X4_.here hx rfl (hb hby at_180) k') ?_
    refine Runs.st (fun t' k' => XS.icmpYes X4_.here hx rfl (pc0 := 181) (pc' := 194) rfl (hb hby at_181) rfl (feq (by rw [hd]; decide)).2 (by decide) (by decide) k') ?_
    show Runs p.tables e below _ (T4_.setTop (mkF m 194 #[.val (.int i0), .val (.int i1), .val (.int i2), .val (.int i3), .val (.int i4), .val (.int i5), .val (.int ca), .val (.int cb), .val (.int da), .val (.int db), .val (.int mi), .val (.int la), .val (.int lb), .val (.ref sa), .val (.ref sb), .val (.ref b1), .val (.int kd), .unset, .unset] []))
    refine Runs.st (fun t' k' => XS.iload X4_.here hx rfl (hb hby at_194) rfl k') ?_
    refine Runs.st (fun t' k' => XS.iconst X4_.here hx rfl (hb hby at_196) k') ?_
    refine Runs.st (fun t' k' => XS.icmpNo X4_.here hx rfl (hb hby at_197) rfl (teq hd).2 k') ?_
    show Runs p.tables e below _ (T4_.setTop (mkF m 200 #[.val (.int i0), .val (.int i1), .val (.int i2), .val (.int i3), .val (.int i4), .val (.int i5), .val (.int ca), .val (.int cb), .val (.int da), .val (.int db), .val (.int mi), .val (.int la), .val (.int lb), .val (.ref sa), .val (.ref sb), .val (.ref b1), .val (.int kd), .unset, .unset] []))
    refine Runs.st (fun t' k' => XS.aconstNull X4_.here hx rfl (hb hby at_200) k') ?_
    refine Runs.st (fun t' k' => XS.astore X4_.here hx rfl (hb hby at_201) rfl rfl (l' := #[.val (.int i0), .val (.int i1), .val (.int i2), .val (.int i3), .val (.int i4), .val (.int i5), .val (.int ca), .val (.int cb), .val (.int da), .val (.int db), .val (.int mi), .val (.int la), .val (.int lb), .val (.ref sa), .val (.ref sb), .val (.ref b1), .val (.int kd), .val .null, .unset]) rfl k') ?_
    refine Runs.st (fun t' k' => XS.iconst X4_.here hx rfl (hb hby at_203) k') ?_
    refine Runs.st (fun t' k' => XS.istore X4_.here hx rfl (hb hby at_204) rfl (l' := #[.val (.int i0), .val (.int i1), .val (.int i2), .val (.int i3), .val (.int i4), .val (.int i5), .val (.int ca), .val (.int cb), .val (.int da), .val (.int db), .val (.int mi), .val (.int la), .val (.int lb), .val (.ref sa), .val (.ref sb), .val (.ref b1), .val (.int kd), .val .null, .val (.int (0 : Int32))]) rfl k') ?_
    refine Runs.st (fun t' k' => XS.goto X4_.here hx rfl (pc0 := 206) (pc' := 216) rfl (hb hby at_206) (by decide) (by decide) k') ?_
    show Runs p.tables e below _ (T4_.setTop (mkF m 216 #[.val (.int i0), .val (.int i1), .val (.int i2), .val (.int i3), .val (.int i4), .val (.int i5), .val (.int ca), .val (.int cb), .val (.int da), .val (.int db), .val (.int mi), .val (.int la), .val (.int lb), .val (.ref sa), .val (.ref sb), .val (.ref b1), .val (.int kd), .val .null, .val (.int (0 : Int32))] []))
    refine Runs.st (fun t' k' => XS.aload X4_.here hx rfl (hb hby at_216) rfl rfl k') ?_
    refine Runs.st (fun t' k' => XS.aload X4_.here hx rfl (hb hby at_218) rfl rfl k') ?_
    obtain ⟨cq9_, kq9_, q9_a, q9_b, q9_c⟩ := isOf hZ rfl E_b1
    obtain ⟨_, _, ⟨T9_, L9_, k9_, n9_⟩, -, X9_, ⟨Lc9_, hQ9_, l9_, y9_, z9_⟩, st9_⟩ := X4_.virtualBack hx (y := (⟨"com/example/frozen_stream/frozenstream/repository/ContributionOrder", "equals", "(Ljava/lang/Object;)Z"⟩ : MethodName)) (z := (⟨"com/example/frozen_stream/frozenstream/repository/ContributionOrder", "equals", "(Ljava/lang/Object;)Z"⟩ : MethodName)) hown (mvT hZ (hw _ (List.mem_of_getElem? (i := 42) rfl))) (mvT hZ (hw _ (List.mem_of_getElem? (i := 43) rfl))) (notFace_of_selects (args := #[]) (mvT hZ (hw _ (List.mem_of_getElem? (i := 45) rfl)))) (mvT hZ (hw _ (List.mem_of_getElem? (i := 45) rfl))) (mvT hZ (hw _ (List.mem_of_getElem? (i := 44) rfl))) (by decide) (backOf (W := 0) (rmCN l Z a0 hw [] b1 T4_.heap n0 sz) hZ (hw _ (List.mem_of_getElem? (i := 46) rfl)) (hw _ (List.mem_of_getElem? (i := 29) rfl)) (by decide) (by decide)) q9_a q9_c (g := (mkF m 220 #[.val (.int i0), .val (.int i1), .val (.int i2), .val (.int i3), .val (.int i4), .val (.int i5), .val (.int ca), .val (.int cb), .val (.int da), .val (.int db), .val (.int mi), .val (.int la), .val (.int lb), .val (.ref sa), .val (.ref sb), .val (.ref b1), .val (.int kd), .val .null, .val (.int (0 : Int32))] [.null, (.ref b1)])) rfl (by rw [hml]; rfl) (Steps.refl _) (argsL := [.null]) (rest := []) (lenOf pd__28Ljava_2flang_2fObject_3b_29Z rfl) rfl (by show 2 * 0 + _ ≤ _; exact Nat.le_of_eq rfl) (hb hby at_220) (fun _ _ => ⟨rfl, rfl, (by decide : 11 + 0 ≤ _), (by decide : 49 + 0 ≤ _)⟩)
    dsimp only [Pt.U, Pt.locs, Pt.cells, Pt.slots] at X9_ l9_ y9_ z9_ st9_ hQ9_
    subst l9_ y9_ z9_
    obtain ⟨rfl, N9_q, e9_⟩ := hQ9_
    have N9_ := Fr.app N4_ N9_q
    refine Runs.tr st9_ ?_
    replace X9_ := wider X9_ (c' := 11) (s' := 49) (by decide) (by decide)
    show Runs p.tables e below _ (T9_.setTop (mkF m 223 #[.val (.int i0), .val (.int i1), .val (.int i2), .val (.int i3), .val (.int i4), .val (.int i5), .val (.int ca), .val (.int cb), .val (.int da), .val (.int db), .val (.int mi), .val (.int la), .val (.int lb), .val (.ref sa), .val (.ref sb), .val (.ref b1), .val (.int kd), .val .null, .val (.int (0 : Int32))] [(.int (0 : Int32))]))
    refine Runs.st (fun t' k' => XS.iload X9_.here hx rfl (hb hby at_223) rfl k') ?_
    refine Runs.st (fun t' k' => XS.icmpNo X9_.here hx rfl (hb hby at_225) rfl (teq rfl).2 k') ?_
    show Runs p.tables e below _ (T9_.setTop (mkF m 228 #[.val (.int i0), .val (.int i1), .val (.int i2), .val (.int i3), .val (.int i4), .val (.int i5), .val (.int ca), .val (.int cb), .val (.int da), .val (.int db), .val (.int mi), .val (.int la), .val (.int lb), .val (.ref sa), .val (.ref sb), .val (.ref b1), .val (.int kd), .val .null, .val (.int (0 : Int32))] []))
    refine Runs.st (fun t' k' => XS.iconst X9_.here hx rfl (hb hby at_228) k') ?_
    refine Runs.st (fun t' k' => XS.goto X9_.here hx rfl (pc0 := 229) (pc' := 233) rfl (hb hby at_229) (by decide) (by decide) k') ?_
    refine Runs.retW (s := s) (vm₁ := T4_.vm) X9_ hS (by rw [e9_]; exact hk) hlk (v := (some (.int (1 : Int32)))) (fun h => by rw [hret] at h; cases h) (by decide) (by decide) ?_ (fun fs hr => retN X9_ hx (t := .boolean) hret (by simp) (hb hby at_233) hr)
    try rw [e9_]
    exact ⟨rfl, N9_⟩
  · skip
    refine Runs.st (fun t' k' => XS.ifYes X4_.here hx rfl (pc0 := 121) (pc' := 178) rfl (hb hby at_121) rfl ((if0 _ _).trans (feq (by rw [hd]; decide)).2) (by decide) (by decide) k') ?_
    show Runs p.tables e below _ (T4_.setTop (mkF m 178 #[.val (.int i0), .val (.int i1), .val (.int i2), .val (.int i3), .val (.int i4), .val (.int i5), .val (.int ca), .val (.int cb), .val (.int da), .val (.int db), .val (.int mi), .val (.int la), .val (.int lb), .val (.ref sa), .val (.ref sb), .val (.ref b1), .val (.int kd), .unset, .unset] []))
    refine Runs.st (fun t' k' => XS.iload X4_.here hx rfl (hb hby at_178) rfl k') ?_
    refine Runs.st (fun t' k' => XS.iconst X4_.here hx rfl (hb hby at_180) k') ?_
    refine Runs.st (fun t' k' => XS.icmpYes X4_.here hx rfl (pc0 := 181) (pc' := 194) rfl (hb hby at_181) rfl (feq (by rw [hd]; decide)).2 (by decide) (by decide) k') ?_
    show Runs p.tables e below _ (T4_.setTop (mkF m 194 #[.val (.int i0), .val (.int i1), .val (.int i2), .val (.int i3), .val (.int i4), .val (.int i5), .val (.int ca), .val (.int cb), .val (.int da), .val (.int db), .val (.int mi), .val (.int la), .val (.int lb), .val (.ref sa), .val (.ref sb), .val (.ref b1), .val (.int kd), .unset, .unset] []))
    refine Runs.st (fun t' k' => XS.iload X4_.here hx rfl (hb hby at_194) rfl k') ?_
    refine Runs.st (fun t' k' => XS.iconst X4_.here hx rfl (hb hby at_196) k') ?_
    refine Runs.st (fun t' k' => XS.icmpYes X4_.here hx rfl (pc0 := 197) (pc' := 209) rfl (hb hby at_197) rfl (feq (by rw [hd]; decide)).2 (by decide) (by decide) k') ?_
    show Runs p.tables e below _ (T4_.setTop (mkF m 209 #[.val (.int i0), .val (.int i1), .val (.int i2), .val (.int i3), .val (.int i4), .val (.int i5), .val (.int ca), .val (.int cb), .val (.int da), .val (.int db), .val (.int mi), .val (.int la), .val (.int lb), .val (.ref sa), .val (.ref sb), .val (.ref b1), .val (.int kd), .unset, .unset] []))
    refine Runs.st (fun t' k' => XS.aload X4_.here hx rfl (hb hby at_209) rfl rfl k') ?_
    refine Runs.st (fun t' k' => XS.astore X4_.here hx rfl (hb hby at_211) rfl rfl (l' := #[.val (.int i0), .val (.int i1), .val (.int i2), .val (.int i3), .val (.int i4), .val (.int i5), .val (.int ca), .val (.int cb), .val (.int da), .val (.int db), .val (.int mi), .val (.int la), .val (.int lb), .val (.ref sa), .val (.ref sb), .val (.ref b1), .val (.int kd), .val (.ref b1), .unset]) rfl k') ?_
    refine Runs.st (fun t' k' => XS.iconst X4_.here hx rfl (hb hby at_213) k') ?_
    refine Runs.st (fun t' k' => XS.istore X4_.here hx rfl (hb hby at_214) rfl (l' := #[.val (.int i0), .val (.int i1), .val (.int i2), .val (.int i3), .val (.int i4), .val (.int i5), .val (.int ca), .val (.int cb), .val (.int da), .val (.int db), .val (.int mi), .val (.int la), .val (.int lb), .val (.ref sa), .val (.ref sb), .val (.ref b1), .val (.int kd), .val (.ref b1), .val (.int (1 : Int32))]) rfl k') ?_
    refine Runs.st (fun t' k' => XS.aload X4_.here hx rfl (hb hby at_216) rfl rfl k') ?_
    show Runs p.tables e below _ (T4_.setTop (mkF m 218 #[.val (.int i0), .val (.int i1), .val (.int i2), .val (.int i3), .val (.int i4), .val (.int i5), .val (.int ca), .val (.int cb), .val (.int da), .val (.int db), .val (.int mi), .val (.int la), .val (.int lb), .val (.ref sa), .val (.ref sb), .val (.ref b1), .val (.int kd), .val (.ref b1), .val (.int (1 : Int32))] [(.ref b1)]))
    refine Runs.st (fun t' k' => XS.aload X4_.here hx rfl (hb hby at_218) rfl rfl k') ?_
    obtain ⟨cq10_, kq10_, q10_a, q10_b, q10_c⟩ := isOf hZ rfl E_b1
    obtain ⟨_, _, ⟨T10_, L10_, k10_, n10_⟩, -, X10_, ⟨Lc10_, hQ10_, l10_, y10_, z10_⟩, st10_⟩ := X4_.virtualBack hx (y := (⟨"com/example/frozen_stream/frozenstream/repository/ContributionOrder", "equals", "(Ljava/lang/Object;)Z"⟩ : MethodName)) (z := (⟨"com/example/frozen_stream/frozenstream/repository/ContributionOrder", "equals", "(Ljava/lang/Object;)Z"⟩ : MethodName)) hown (mvT hZ (hw _ (List.mem_of_getElem? (i := 42) rfl))) (mvT hZ (hw _ (List.mem_of_getElem? (i := 43) rfl))) (notFace_of_selects (args := #[]) (mvT hZ (hw _ (List.mem_of_getElem? (i := 45) rfl)))) (mvT hZ (hw _ (List.mem_of_getElem? (i := 45) rfl))) (mvT hZ (hw _ (List.mem_of_getElem? (i := 44) rfl))) (by decide) (backOf (W := 0) (rmCE l Z a0 hw [] b1 b1 sa sa zc vsa vsa _ _ cosa cosa nxsa nxsa xssa xssa (1 : Int32) T4_.heap n0 sz F_b1_value E_b1 F_b1_value (fun _ => ⟨rfl, rfl⟩) (Sc.ext old.2) hzc E_sa F_cosa F_vsa E_sa F_cosa F_vsa V_sa V_sa hnsa hnsa (own_b_pos ⟨rfl, rfl⟩).symm) hZ (hw _ (List.mem_of_getElem? (i := 46) rfl)) (hw _ (List.mem_of_getElem? (i := 29) rfl)) (by decide) (by decide)) q10_a q10_c (g := (mkF m 220 #[.val (.int i0), .val (.int i1), .val (.int i2), .val (.int i3), .val (.int i4), .val (.int i5), .val (.int ca), .val (.int cb), .val (.int da), .val (.int db), .val (.int mi), .val (.int la), .val (.int lb), .val (.ref sa), .val (.ref sb), .val (.ref b1), .val (.int kd), .val (.ref b1), .val (.int (1 : Int32))] [(.ref b1), (.ref b1)])) rfl (by rw [hml]; rfl) (Steps.refl _) (argsL := [(.ref b1)]) (rest := []) (lenOf pd__28Ljava_2flang_2fObject_3b_29Z rfl) rfl (by show 2 * 0 + _ ≤ _; exact Nat.le_of_eq rfl) (hb hby at_220) (fun _ _ => ⟨rfl, rfl, (by decide : 11 + 0 ≤ _), (by decide : 49 + 0 ≤ _)⟩)
    dsimp only [Pt.U, Pt.locs, Pt.cells, Pt.slots] at X10_ l10_ y10_ z10_ st10_ hQ10_
    subst l10_ y10_ z10_
    obtain ⟨rfl, N10_q, e10_⟩ := hQ10_
    have N10_ := Fr.app N4_ N10_q
    refine Runs.tr st10_ ?_
    replace X10_ := wider X10_ (c' := 11) (s' := 49) (by decide) (by decide)
    show Runs p.tables e below _ (T10_.setTop (mkF m 223 #[.val (.int i0), .val (.int i1), .val (.int i2), .val (.int i3), .val (.int i4), .val (.int i5), .val (.int ca), .val (.int cb), .val (.int da), .val (.int db), .val (.int mi), .val (.int la), .val (.int lb), .val (.ref sa), .val (.ref sb), .val (.ref b1), .val (.int kd), .val (.ref b1), .val (.int (1 : Int32))] [(.int (1 : Int32))]))
    refine Runs.st (fun t' k' => XS.iload X10_.here hx rfl (hb hby at_223) rfl k') ?_
    refine Runs.st (fun t' k' => XS.icmpNo X10_.here hx rfl (hb hby at_225) rfl (teq rfl).2 k') ?_
    show Runs p.tables e below _ (T10_.setTop (mkF m 228 #[.val (.int i0), .val (.int i1), .val (.int i2), .val (.int i3), .val (.int i4), .val (.int i5), .val (.int ca), .val (.int cb), .val (.int da), .val (.int db), .val (.int mi), .val (.int la), .val (.int lb), .val (.ref sa), .val (.ref sb), .val (.ref b1), .val (.int kd), .val (.ref b1), .val (.int (1 : Int32))] []))
    refine Runs.st (fun t' k' => XS.iconst X10_.here hx rfl (hb hby at_228) k') ?_
    refine Runs.st (fun t' k' => XS.goto X10_.here hx rfl (pc0 := 229) (pc' := 233) rfl (hb hby at_229) (by decide) (by decide) k') ?_
    refine Runs.retW (s := s) (vm₁ := T4_.vm) X10_ hS (by rw [e10_]; exact hk) hlk (v := (some (.int (1 : Int32)))) (fun h => by rw [hret] at h; cases h) (by decide) (by decide) ?_ (fun fs hr => retN X10_ hx (t := .boolean) hret (by simp) (hb hby at_233) hr)
    try rw [e10_]
    exact ⟨rfl, N10_⟩
theorem ef_0_IIIIII (m : MethodId) (x0 : Int32) (x1 : Int32) (x2 : Int32) (x3 : Int32) (x4 : Int32) (x5 : Int32)  : entryFrame m #[(.int x0), (.int x1), (.int x2), (.int x3), (.int x4), (.int x5)] maxLocals = mkF m 0 #[.val (.int x0), .val (.int x1), .val (.int x2), .val (.int x3), .val (.int x4), .val (.int x5), .unset, .unset, .unset, .unset, .unset, .unset, .unset, .unset, .unset, .unset, .unset, .unset, .unset] [] := by first | (simp [entryFrame, mkF, argsToLocals, Value.category, maxLocals]; done) | rfl
set_option maxRecDepth 65536 in
set_option maxHeartbeats 40000000 in
theorem rm0 (l : Launch) (Z : State) (a0 : Array Value) (hw : ∀ d ∈ tables_1, d.before a0 Z = true) (ws : List Jvm.Cond) (i0 : Int32) (i1 : Int32) (i2 : Int32) (i3 : Int32) (i4 : Int32) (i5 : Int32) (zc : Int32) (h0 : Heap) (n0 : Nat) (Z0 : n0 ≤ h0.size) (old : Old Z n0 h0) (Sa : Sta Z Z.heap "java/lang/StringUTF16" "$assertionsDisabled" "Z" (.int (1 : Int32))) (Sh : Sta Z Z.heap "java/lang/StringUTF16" "HI_BYTE_SHIFT" "I" (.int (0 : Int32))) (Sl : Sta Z Z.heap "java/lang/StringUTF16" "LO_BYTE_SHIFT" "I" (.int (8 : Int32))) (Sc : Sta Z Z.heap "java/lang/String" "COMPACT_STRINGS" "Z" (.int zc)) (hzc : ¬ zc = 0) (hn0 : n0 = h0.size) (hEL : EW Z a0 [("java/lang/String", 7)]) (hC0 : CHv Z [("java/lang/String", 7)] Z.vm Z.heap) :
    MetFree l x (head1 (Jvm.Cond.code x code maxLocals ret :: ws) room_1) (fun ar_ U => ar_ = #[(.int i0), (.int i1), (.int i2), (.int i3), (.int i4), (.int i5)] ∧ U = Z ∧ U.heap = h0) (fun _ _ _ _ _ => True) (fun _ U o U' => PhiW U (fun v h L => v = some (.int 1) ∧ Fr n0 L) room_1.cells room_1.slots o U') := by
  refine MetFree.of_bodySF (plainFor_of_name pn_com_example_frozen_stream_frozenstream_repository_ContributionOrderEqualsPinLaw) hisR ?_
  intro p e s m args below meth c s₁ Bd hml0 hP hK
  obtain ⟨rfl, hsZ, hh⟩ := hP
  have hZ : Z.Warmed39 s.vm := hsZ ▸ State.Warmed39.refl _
  have hkeep : ∀ (b : Addr) (cl : Cell), Z.heap[b]? = some cl → s.heap[b]? = some cl := fun b cl q => by rw [hsZ]; exact q
  have IB0 : IB Z s.vm [] := by rw [hsZ]; exact IB.start
  have hsn : n0 = s.heap.size := hn0.trans (congrArg Array.size hh.symm)
  have hS : s.Since s.vm h0.size := (State.WarmedH.refl s).since _
  have hk := Nat.le_refl h0.size
  have hZ0 := hZ
  have hx := Bd.exec
  have hby := Bd.bytes
  have hlk := Bd.notSynchronized
  have hml : c.maxLocals = 19 := hml0
  have hown : s.vm.findClass "com/example/frozen_stream/frozenstream/repository/ContributionOrderEqualsPinLaw" = some m.cls := findClass_of_methodNamed Bd.named
  have hown0 := hown
  have hnm := (name_of_methodNamed Bd.named Bd.method).1
  have hret := Bd.returns
  have X0 : Stand p l e room_1 s m #[(.int i0), (.int i1), (.int i2), (.int i3), (.int i4), (.int i5)] below meth c s₁ [] 0 0 := Stand.of_body Bd
  have e0 : s₁.heap = h0 := by rw [← hh, Bd.state]; rfl
  have N0 := Fr.nil n0
  have sz := Z0
  have K := Keep.refl h0 []
  show Runs p.tables e below (PhiW s (fun v h L => v = some (.int 1) ∧ Fr n0 L) room_1.cells room_1.slots) _
  refine Runs.st (fun t' k' => castTop (ef_0_IIIIII m i0 i1 i2 i3 i4 i5 ) k') ?_
  show Runs p.tables e below _ (s₁.setTop (mkF m 0 #[.val (.int i0), .val (.int i1), .val (.int i2), .val (.int i3), .val (.int i4), .val (.int i5), .unset, .unset, .unset, .unset, .unset, .unset, .unset, .unset, .unset, .unset, .unset, .unset, .unset] []))
  refine Runs.st (fun t' k' => XS.iloadN X0.here hx rfl (hb hby at_0) rfl k') ?_
  refine Runs.st (fun t' k' => X0.ldcInt hx hown (mvT hZ (hw _ (List.mem_of_getElem? (i := 0) rfl))) (g := (mkF m 1 #[.val (.int i0), .val (.int i1), .val (.int i2), .val (.int i3), .val (.int i4), .val (.int i5), .unset, .unset, .unset, .unset, .unset, .unset, .unset, .unset, .unset, .unset, .unset, .unset, .unset] [(.int i0)])) rfl (hb hby at_1) t' k') ?_
  refine Runs.st (fun t' k' => XS.iand X0.here hx rfl (hb hby at_3) rfl k') ?_
  refine Runs.st (fun t' k' => XS.i2c X0.here hx rfl (hb hby at_4) rfl k') ?_
  show Runs p.tables e below _ (s₁.setTop (mkF m 5 #[.val (.int i0), .val (.int i1), .val (.int i2), .val (.int i3), .val (.int i4), .val (.int i5), .unset, .unset, .unset, .unset, .unset, .unset, .unset, .unset, .unset, .unset, .unset, .unset, .unset] [(.int ((i0 &&& (65535 : Int32)).toUInt32.toUInt16.toUInt32.toInt32))]))
  obtain ⟨ca, eca⟩ : ∃ z : Int32, z = ((i0 &&& (65535 : Int32)).toUInt32.toUInt16.toUInt32.toInt32) := ⟨_, rfl⟩
  rw [← eca]
  show Runs p.tables e below _ (s₁.setTop (mkF m 5 #[.val (.int i0), .val (.int i1), .val (.int i2), .val (.int i3), .val (.int i4), .val (.int i5), .unset, .unset, .unset, .unset, .unset, .unset, .unset, .unset, .unset, .unset, .unset, .unset, .unset] [(.int ca)]))
  have rca : 0 ≤ ca.toInt ∧ ca.toInt ≤ 65535 := eca ▸ own_r16 i0
  refine Runs.st (fun t' k' => XS.istore X0.here hx rfl (hb hby at_5) rfl (l' := #[.val (.int i0), .val (.int i1), .val (.int i2), .val (.int i3), .val (.int i4), .val (.int i5), .val (.int ca), .unset, .unset, .unset, .unset, .unset, .unset, .unset, .unset, .unset, .unset, .unset, .unset]) rfl k') ?_
  show Runs p.tables e below _ (s₁.setTop (mkF m 7 #[.val (.int i0), .val (.int i1), .val (.int i2), .val (.int i3), .val (.int i4), .val (.int i5), .val (.int ca), .unset, .unset, .unset, .unset, .unset, .unset, .unset, .unset, .unset, .unset, .unset, .unset] []))
  refine Runs.st (fun t' k' => XS.iloadN X0.here hx rfl (hb hby at_7) rfl k') ?_
  refine Runs.st (fun t' k' => X0.ldcInt hx hown (mvT hZ (hw _ (List.mem_of_getElem? (i := 0) rfl))) (g := (mkF m 8 #[.val (.int i0), .val (.int i1), .val (.int i2), .val (.int i3), .val (.int i4), .val (.int i5), .val (.int ca), .unset, .unset, .unset, .unset, .unset, .unset, .unset, .unset, .unset, .unset, .unset, .unset] [(.int i1)])) rfl (hb hby at_8) t' k') ?_
  refine Runs.st (fun t' k' => XS.iand X0.here hx rfl (hb hby at_10) rfl k') ?_
  refine Runs.st (fun t' k' => XS.i2c X0.here hx rfl (hb hby at_11) rfl k') ?_
  show Runs p.tables e below _ (s₁.setTop (mkF m 12 #[.val (.int i0), .val (.int i1), .val (.int i2), .val (.int i3), .val (.int i4), .val (.int i5), .val (.int ca), .unset, .unset, .unset, .unset, .unset, .unset, .unset, .unset, .unset, .unset, .unset, .unset] [(.int ((i1 &&& (65535 : Int32)).toUInt32.toUInt16.toUInt32.toInt32))]))
  obtain ⟨cb, ecb⟩ : ∃ z : Int32, z = ((i1 &&& (65535 : Int32)).toUInt32.toUInt16.toUInt32.toInt32) := ⟨_, rfl⟩
  rw [← ecb]
  show Runs p.tables e below _ (s₁.setTop (mkF m 12 #[.val (.int i0), .val (.int i1), .val (.int i2), .val (.int i3), .val (.int i4), .val (.int i5), .val (.int ca), .unset, .unset, .unset, .unset, .unset, .unset, .unset, .unset, .unset, .unset, .unset, .unset] [(.int cb)]))
  have rcb : 0 ≤ cb.toInt ∧ cb.toInt ≤ 65535 := ecb ▸ own_r16 i1
  refine Runs.st (fun t' k' => XS.istore X0.here hx rfl (hb hby at_12) rfl (l' := #[.val (.int i0), .val (.int i1), .val (.int i2), .val (.int i3), .val (.int i4), .val (.int i5), .val (.int ca), .val (.int cb), .unset, .unset, .unset, .unset, .unset, .unset, .unset, .unset, .unset, .unset, .unset]) rfl k') ?_
  show Runs p.tables e below _ (s₁.setTop (mkF m 14 #[.val (.int i0), .val (.int i1), .val (.int i2), .val (.int i3), .val (.int i4), .val (.int i5), .val (.int ca), .val (.int cb), .unset, .unset, .unset, .unset, .unset, .unset, .unset, .unset, .unset, .unset, .unset] []))
  refine Runs.st (fun t' k' => XS.iloadN X0.here hx rfl (hb hby at_14) rfl k') ?_
  refine Runs.st (fun t' k' => X0.ldcInt hx hown (mvT hZ (hw _ (List.mem_of_getElem? (i := 0) rfl))) (g := (mkF m 15 #[.val (.int i0), .val (.int i1), .val (.int i2), .val (.int i3), .val (.int i4), .val (.int i5), .val (.int ca), .val (.int cb), .unset, .unset, .unset, .unset, .unset, .unset, .unset, .unset, .unset, .unset, .unset] [(.int i2)])) rfl (hb hby at_15) t' k') ?_
  refine Runs.st (fun t' k' => XS.iand X0.here hx rfl (hb hby at_17) rfl k') ?_
  refine Runs.st (fun t' k' => XS.i2c X0.here hx rfl (hb hby at_18) rfl k') ?_
  show Runs p.tables e below _ (s₁.setTop (mkF m 19 #[.val (.int i0), .val (.int i1), .val (.int i2), .val (.int i3), .val (.int i4), .val (.int i5), .val (.int ca), .val (.int cb), .unset, .unset, .unset, .unset, .unset, .unset, .unset, .unset, .unset, .unset, .unset] [(.int ((i2 &&& (65535 : Int32)).toUInt32.toUInt16.toUInt32.toInt32))]))
  obtain ⟨da, eda⟩ : ∃ z : Int32, z = ((i2 &&& (65535 : Int32)).toUInt32.toUInt16.toUInt32.toInt32) := ⟨_, rfl⟩
  rw [← eda]
  show Runs p.tables e below _ (s₁.setTop (mkF m 19 #[.val (.int i0), .val (.int i1), .val (.int i2), .val (.int i3), .val (.int i4), .val (.int i5), .val (.int ca), .val (.int cb), .unset, .unset, .unset, .unset, .unset, .unset, .unset, .unset, .unset, .unset, .unset] [(.int da)]))
  have rda : 0 ≤ da.toInt ∧ da.toInt ≤ 65535 := eda ▸ own_r16 i2
  refine Runs.st (fun t' k' => XS.istore X0.here hx rfl (hb hby at_19) rfl (l' := #[.val (.int i0), .val (.int i1), .val (.int i2), .val (.int i3), .val (.int i4), .val (.int i5), .val (.int ca), .val (.int cb), .val (.int da), .unset, .unset, .unset, .unset, .unset, .unset, .unset, .unset, .unset, .unset]) rfl k') ?_
  show Runs p.tables e below _ (s₁.setTop (mkF m 21 #[.val (.int i0), .val (.int i1), .val (.int i2), .val (.int i3), .val (.int i4), .val (.int i5), .val (.int ca), .val (.int cb), .val (.int da), .unset, .unset, .unset, .unset, .unset, .unset, .unset, .unset, .unset, .unset] []))
  refine Runs.st (fun t' k' => XS.iloadN X0.here hx rfl (hb hby at_21) rfl k') ?_
  refine Runs.st (fun t' k' => X0.ldcInt hx hown (mvT hZ (hw _ (List.mem_of_getElem? (i := 0) rfl))) (g := (mkF m 22 #[.val (.int i0), .val (.int i1), .val (.int i2), .val (.int i3), .val (.int i4), .val (.int i5), .val (.int ca), .val (.int cb), .val (.int da), .unset, .unset, .unset, .unset, .unset, .unset, .unset, .unset, .unset, .unset] [(.int i3)])) rfl (hb hby at_22) t' k') ?_
  refine Runs.st (fun t' k' => XS.iand X0.here hx rfl (hb hby at_24) rfl k') ?_
  refine Runs.st (fun t' k' => XS.i2c X0.here hx rfl (hb hby at_25) rfl k') ?_
  show Runs p.tables e below _ (s₁.setTop (mkF m 26 #[.val (.int i0), .val (.int i1), .val (.int i2), .val (.int i3), .val (.int i4), .val (.int i5), .val (.int ca), .val (.int cb), .val (.int da), .unset, .unset, .unset, .unset, .unset, .unset, .unset, .unset, .unset, .unset] [(.int ((i3 &&& (65535 : Int32)).toUInt32.toUInt16.toUInt32.toInt32))]))
  obtain ⟨db, edb⟩ : ∃ z : Int32, z = ((i3 &&& (65535 : Int32)).toUInt32.toUInt16.toUInt32.toInt32) := ⟨_, rfl⟩
  rw [← edb]
  show Runs p.tables e below _ (s₁.setTop (mkF m 26 #[.val (.int i0), .val (.int i1), .val (.int i2), .val (.int i3), .val (.int i4), .val (.int i5), .val (.int ca), .val (.int cb), .val (.int da), .unset, .unset, .unset, .unset, .unset, .unset, .unset, .unset, .unset, .unset] [(.int db)]))
  have rdb : 0 ≤ db.toInt ∧ db.toInt ≤ 65535 := edb ▸ own_r16 i3
  refine Runs.st (fun t' k' => XS.istore X0.here hx rfl (hb hby at_26) rfl (l' := #[.val (.int i0), .val (.int i1), .val (.int i2), .val (.int i3), .val (.int i4), .val (.int i5), .val (.int ca), .val (.int cb), .val (.int da), .val (.int db), .unset, .unset, .unset, .unset, .unset, .unset, .unset, .unset, .unset]) rfl k') ?_
  show Runs p.tables e below _ (s₁.setTop (mkF m 28 #[.val (.int i0), .val (.int i1), .val (.int i2), .val (.int i3), .val (.int i4), .val (.int i5), .val (.int ca), .val (.int cb), .val (.int da), .val (.int db), .unset, .unset, .unset, .unset, .unset, .unset, .unset, .unset, .unset] []))
  refine Runs.st (fun t' k' => XS.iload X0.here hx rfl (hb hby at_28) rfl k') ?_
  refine Runs.st (fun t' k' => XS.iconst X0.here hx rfl (hb hby at_30) k') ?_
  refine Runs.st (fun t' k' => XS.iushr X0.here hx rfl (hb hby at_31) rfl k') ?_
  refine Runs.st (fun t' k' => XS.iconst X0.here hx rfl (hb hby at_32) k') ?_
  refine Runs.st (fun t' k' => XS.iand X0.here hx rfl (hb hby at_33) rfl k') ?_
  show Runs p.tables e below _ (s₁.setTop (mkF m 34 #[.val (.int i0), .val (.int i1), .val (.int i2), .val (.int i3), .val (.int i4), .val (.int i5), .val (.int ca), .val (.int cb), .val (.int da), .val (.int db), .unset, .unset, .unset, .unset, .unset, .unset, .unset, .unset, .unset] [(.int (((i5.toUInt32 >>> ((2 : Int32) &&& 31).toUInt32).toInt32) &&& (1 : Int32)))]))
  by_cases c34 : (((i5.toUInt32 >>> ((2 : Int32) &&& 31).toUInt32).toInt32) &&& (1 : Int32)) = (0 : Int32)
  · skip
    refine Runs.st (fun t' k' => XS.ifYes X0.here hx rfl (pc0 := 34) (pc' := 41) rfl (hb hby at_34) rfl ((if0 _ _).trans (teq c34).1) (by decide) (by decide) k') ?_
    show Runs p.tables e below _ (s₁.setTop (mkF m 41 #[.val (.int i0), .val (.int i1), .val (.int i2), .val (.int i3), .val (.int i4), .val (.int i5), .val (.int ca), .val (.int cb), .val (.int da), .val (.int db), .unset, .unset, .unset, .unset, .unset, .unset, .unset, .unset, .unset] []))
    refine Runs.st (fun t' k' => XS.iconst X0.here hx rfl (hb hby at_41) k') ?_
    refine Runs.st (fun t' k' => XS.istore X0.here hx rfl (hb hby at_42) rfl (l' := #[.val (.int i0), .val (.int i1), .val (.int i2), .val (.int i3), .val (.int i4), .val (.int i5), .val (.int ca), .val (.int cb), .val (.int da), .val (.int db), .val (.int (0 : Int32)), .unset, .unset, .unset, .unset, .unset, .unset, .unset, .unset]) rfl k') ?_
    refine Runs.st (fun t' k' => XS.iload X0.here hx rfl (hb hby at_44) rfl k') ?_
    refine Runs.st (fun t' k' => XS.ifYes X0.here hx rfl (pc0 := 46) (pc' := 57) rfl (hb hby at_46) rfl ((if0 _ _).trans (teq rfl).1) (by decide) (by decide) k') ?_
    show Runs p.tables e below _ (s₁.setTop (mkF m 57 #[.val (.int i0), .val (.int i1), .val (.int i2), .val (.int i3), .val (.int i4), .val (.int i5), .val (.int ca), .val (.int cb), .val (.int da), .val (.int db), .val (.int (0 : Int32)), .unset, .unset, .unset, .unset, .unset, .unset, .unset, .unset] []))
    show Runs p.tables e below _ (s₁.setTop (mkF m 57 #[.val (.int i0), .val (.int i1), .val (.int i2), .val (.int i3), .val (.int i4), .val (.int i5), .val (.int ca), .val (.int cb), .val (.int da), .val (.int db), .val (.int (0 : Int32)), .unset, .unset, .unset, .unset, .unset, .unset, .unset, .unset] []))
    exact seg57 (h0 := h0) i0 i1 i2 i3 i4 i5 ca cb da db (0 : Int32) zc (show Stand p l e room_1 (s.setVm s.vm) m _ below meth c _ _ 0 0 from (wider X0 (c' := 0) (s' := 0) (by decide) (by decide))) hx hw hby hml hlk hret e0 N0 sz K hZ hown hS hk hZ0 hown0 old Sa Sh Sl Sc hzc hEL (by rw [hsZ]; exact CHv.ext old.2 hC0) rca rcb rda rdb
  · skip
    refine Runs.st (fun t' k' => XS.ifNo X0.here hx rfl (hb hby at_34) rfl ((if0 _ _).trans (feq c34).1) k') ?_
    show Runs p.tables e below _ (s₁.setTop (mkF m 37 #[.val (.int i0), .val (.int i1), .val (.int i2), .val (.int i3), .val (.int i4), .val (.int i5), .val (.int ca), .val (.int cb), .val (.int da), .val (.int db), .unset, .unset, .unset, .unset, .unset, .unset, .unset, .unset, .unset] []))
    refine Runs.st (fun t' k' => XS.iconst X0.here hx rfl (hb hby at_37) k') ?_
    refine Runs.st (fun t' k' => XS.goto X0.here hx rfl (pc0 := 38) (pc' := 42) rfl (hb hby at_38) (by decide) (by decide) k') ?_
    refine Runs.st (fun t' k' => XS.istore X0.here hx rfl (hb hby at_42) rfl (l' := #[.val (.int i0), .val (.int i1), .val (.int i2), .val (.int i3), .val (.int i4), .val (.int i5), .val (.int ca), .val (.int cb), .val (.int da), .val (.int db), .val (.int (1 : Int32)), .unset, .unset, .unset, .unset, .unset, .unset, .unset, .unset]) rfl k') ?_
    refine Runs.st (fun t' k' => XS.iload X0.here hx rfl (hb hby at_44) rfl k') ?_
    refine Runs.st (fun t' k' => XS.ifNo X0.here hx rfl (hb hby at_46) rfl ((if0 _ _).trans (feq (by decide)).1) k') ?_
    show Runs p.tables e below _ (s₁.setTop (mkF m 49 #[.val (.int i0), .val (.int i1), .val (.int i2), .val (.int i3), .val (.int i4), .val (.int i5), .val (.int ca), .val (.int cb), .val (.int da), .val (.int db), .val (.int (1 : Int32)), .unset, .unset, .unset, .unset, .unset, .unset, .unset, .unset] []))
    refine Runs.st (fun t' k' => XS.iload X0.here hx rfl (hb hby at_49) rfl k') ?_
    refine Runs.st (fun t' k' => XS.istore X0.here hx rfl (hb hby at_51) rfl (l' := #[.val (.int i0), .val (.int i1), .val (.int i2), .val (.int i3), .val (.int i4), .val (.int i5), .val (.int ca), .val (.int cb), .val (.int ca), .val (.int db), .val (.int (1 : Int32)), .unset, .unset, .unset, .unset, .unset, .unset, .unset, .unset]) rfl k') ?_
    refine Runs.st (fun t' k' => XS.iload X0.here hx rfl (hb hby at_53) rfl k') ?_
    refine Runs.st (fun t' k' => XS.istore X0.here hx rfl (hb hby at_55) rfl (l' := #[.val (.int i0), .val (.int i1), .val (.int i2), .val (.int i3), .val (.int i4), .val (.int i5), .val (.int ca), .val (.int cb), .val (.int ca), .val (.int cb), .val (.int (1 : Int32)), .unset, .unset, .unset, .unset, .unset, .unset, .unset, .unset]) rfl k') ?_
    show Runs p.tables e below _ (s₁.setTop (mkF m 57 #[.val (.int i0), .val (.int i1), .val (.int i2), .val (.int i3), .val (.int i4), .val (.int i5), .val (.int ca), .val (.int cb), .val (.int ca), .val (.int cb), .val (.int (1 : Int32)), .unset, .unset, .unset, .unset, .unset, .unset, .unset, .unset] []))
    exact seg57 (h0 := h0) i0 i1 i2 i3 i4 i5 ca cb ca cb (1 : Int32) zc (show Stand p l e room_1 (s.setVm s.vm) m _ below meth c _ _ 0 0 from (wider X0 (c' := 0) (s' := 0) (by decide) (by decide))) hx hw hby hml hlk hret e0 N0 sz K hZ hown hS hk hZ0 hown0 old Sa Sh Sl Sc hzc hEL (by rw [hsZ]; exact CHv.ext old.2 hC0) rca rcb rca rcb
set_option maxRecDepth 65536 in
set_option maxHeartbeats 40000000 in
theorem comes_1 {Post : Tables → Env → Array Value → State → Outcome → State → Prop} (hpost : ∀ tb e args s v u, (limb_1_1.after args s (.returned v) u = true ∧ limb_1_2.after args s (.returned v) u = true ∧ True) → ReturnedEndW s (.returned v) u (Jvm.fieldLocs frame_1_writes args s ++ Jvm.arrayLocs frame_1_arrays args s ++ Jvm.staticLocs frame_1_statics s) 32 2176 → Post tb e args s (.returned v) u) :
    ArmFor flags0 classFile x code maxLocals ret World_1 tables_1 room_1 Calls_1 rest_1 Pre_1 Post := by
  intro l hfl _ _ p e ha hc hk s m args below hf hA hF happ hP
  obtain ⟨hcalls, hrest, hpre⟩ := hP
  obtain ⟨-, -, -, hnamed, -, -, -, hat⟩ := (Spec.applies_iff hf).mp happ
  obtain ⟨hg, hn⟩ := and_e (Cond.before_iff.mp (show (Jvm.Cond.and given_1 narrow_1).before args s = true from hpre))
  obtain ⟨gc, gr⟩ := and_e hg
  obtain ⟨gi0, gr⟩ := and_e gr
  obtain ⟨gi1, gr⟩ := and_e gr
  obtain ⟨gi2, gr⟩ := and_e gr
  obtain ⟨gi3, gr⟩ := and_e gr
  obtain ⟨gi4, gr⟩ := and_e gr
  have gi5 := gr
  obtain ⟨w0, w1, w2, w3, w4, w5, rfl⟩ : ∃ w0 w1 w2 w3 w4 w5 : Value, args = #[w0, w1, w2, w3, w4, w5] := by
    have hs : args.size = 6 := by simpa [Cond.value, given_1] using gc
    obtain ⟨L⟩ := args
    match L, hs with
    | [w0, w1, w2, w3, w4, w5], _ => exact ⟨w0, w1, w2, w3, w4, w5, rfl⟩
  have hw := fun d (hd : d ∈ tables_1) => atoms_spec (ws := Jvm.Cond.code x code maxLocals ret :: tables_1) hat d (List.mem_cons_of_mem _ hd)
  have hfit : Fit s := fun {y c} hc i hi => by
    obtain ⟨ha, rfl⟩ := Array.getElem?_eq_some_iff.mp hc
    have q := List.all_eq_true.mp ((Array.all_eq_true_iff_forall_mem.mp hF) _ (Array.getElem_mem ha)) i (List.mem_range.mpr hi)
    simpa [Array.getElem?_eq_getElem hi] using q
  obtain ⟨hsets, hown0⟩ := atoms_of _ (rest_1_c_eq ▸ (show rest_1_c.before _ s = true from hrest))
  have hr0 := Cond.before_iff.mp hown0
  obtain ⟨i0, ei0⟩ := is_v gi0
  obtain rfl : w0 = (.int i0) := Option.some.inj ei0
  obtain ⟨i1, ei1⟩ := is_v gi1
  obtain rfl : w1 = (.int i1) := Option.some.inj ei1
  obtain ⟨i2, ei2⟩ := is_v gi2
  obtain rfl : w2 = (.int i2) := Option.some.inj ei2
  obtain ⟨i3, ei3⟩ := is_v gi3
  obtain rfl : w3 = (.int i3) := Option.some.inj ei3
  obtain ⟨i4, ei4⟩ := is_v gi4
  obtain rfl : w4 = (.int i4) := Option.some.inj ei4
  obtain ⟨i5, ei5⟩ := is_v gi5
  obtain rfl : w5 = (.int i5) := Option.some.inj ei5
  obtain ⟨zc, ezc⟩ := is_v (Cond.before_iff.mp (hsets _ (List.mem_of_getElem? (i := 1) rfl)))
  have Sc := Sta.start ezc (Or.inl (hsets _ (List.mem_of_getElem? (i := 0) rfl)))
  have hzc : ¬ zc = 0 := fun q => by
    have u := not_v (Cond.before_iff.mp (hsets _ (List.mem_of_getElem? (i := 2) rfl)))
    rw [q] at ezc
    have w := eq_i ezc (Term.int_eval (0 : Int32)) rfl
    rw [u] at w; cases w
  obtain ⟨fm, efm, hfm⟩ := isR_v (Cond.before_iff.mp (hsets _ (List.mem_of_getElem? (i := 8) rfl)))
  have Sf := Sta.start efm (Or.inl (hsets _ (List.mem_of_getElem? (i := 7) rfl)))
  have eSa := val_int (Cond.before_iff.mp (hsets _ (List.mem_of_getElem? (i := 12) rfl)))
  have Sa := Sta.start eSa (Or.inl (hsets _ (List.mem_of_getElem? (i := 11) rfl)))
  have eSh := val_int (Cond.before_iff.mp (hsets _ (List.mem_of_getElem? (i := 15) rfl)))
  have Sh := Sta.start eSh (Or.inl (hsets _ (List.mem_of_getElem? (i := 14) rfl)))
  have eSl := val_int (Cond.before_iff.mp (hsets _ (List.mem_of_getElem? (i := 18) rfl)))
  have Sl := Sta.start eSl (Or.inl (hsets _ (List.mem_of_getElem? (i := 17) rfl)))
  have hEL : EW s _ [("java/lang/String", 7)] := EW.cons (hw _ (List.mem_of_getElem? (i := 19) rfl)) (by decide) EW.nil
  have hcw : Jvm.Lit.compactW.before #[.int i0, .int i1, .int i2, .int i3, .int i4, .int i5] s = true := (hsets _ (List.mem_of_getElem? (i := 2) rfl))
  have hC0 : CHv s [("java/lang/String", 7)] s.vm s.heap := CHv.start hEL (fun q hq => hcalls.1 q (by simp only [List.mem_cons, List.not_mem_nil, or_false] at hq; subst hq; simp [consts_1])) hcw (hw _ (List.mem_of_getElem? (i := 20) rfl)) (hw _ (List.mem_of_getElem? (i := 6) rfl))
  obtain ⟨n, o, h1, h2, h3, _, L, rfl, ⟨rfl, N⟩, hq⟩ := rm0 l s _ hw tables_1 i0 i1 i2 i3 i4 i5 zc s.heap s.heap.size (Nat.le_refl _) (Old.start s) Sa Sh Sl Sc hzc rfl hEL hC0 p e ha hc hk s m _ below hf ((Spec.applies_iff_loose hf).mp happ).1 ⟨rfl, rfl, rfl⟩ trivial
  refine ⟨n, _, h1, h2, h3, hpost _ _ _ _ _ _ ⟨Cond.after_iff.mpr rfl, Cond.after_iff.mpr (eq_i res_at (Term.int_eval (1)) rfl), trivial⟩ ⟨hq.1, hq.2.1, hq.2.2.1, (hq.2.2.2.sift fun y hy => Or.inr (N y hy)).mono (by decide) (by decide)⟩⟩
theorem main_1_1 : Claimed_1_1 := comes_1 fun _ _ _ _ _ _ h hF => ⟨h.1, hF⟩
theorem main_1_2 : Claimed_1_2 := comes_1 fun _ _ _ _ _ _ h hF => ⟨h.2.1, hF⟩
end Jvm.Pilot.@@N@@
namespace Jvm.Pilot.@@N@@
open Jvm Jvm.ClassFile Sem Op Lib Jvm.Free Jvm.Stand Jvm.Pilot.@@N@@.Jvm.D
/-! MADE BY PROGRAM (witnessworld.py) out of the Statement's table words and the real class files: 21 classes; the members and pool entries that the words name. The judged class is class 1, her method 2. -/
namespace start1
open Jvm.ClassFile
def u (s : String) : CpInfo := .utf8 (stringToUtf16 s)
/-- a pool by its gaps: so many unusable entries, then the entry; so many at the end -/
def gap : Nat → List CpInfo → List CpInfo
  | 0, r => r
  | n + 1, r => .unusable :: gap n r
def poolList (es : List (Nat × CpInfo)) (last : Nat) : List CpInfo := es.foldr (fun e r => gap e.1 (e.2 :: r)) (gap last [])
def pool (es : List (Nat × CpInfo)) (last : Nat) : Array CpInfo := ⟨poolList es last⟩
def fileOf (pool : Array CpInfo) (this : Nat) (attrs : Array Attribute := #[]) (ms : Array MethodInfo := #[]) (fl : Nat := 33) (sup : Nat := 0) (ifs : Array Nat := #[]) (fds : Array FieldInfo := #[]) : ClassFile where
  minorVersion := 0
  majorVersion := 65
  constantPool := pool
  accessFlags := fl
  thisClass := this
  superClass := sup
  interfaces := ifs
  fields := fds
  methods := ms
  attributes := attrs
def plain (name : String) (sup : Option ClassId) : Class where
  name := name
  kind := .ordinary
  loader := none
  accessFlags := 33
  super := sup
  interfaces := #[]
  cf := none
  fields := #[]
  methods := #[]
  instanceTypes := #[]
  staticTypes := #[]
  resolved := #[]
  callSites := []
  init := .initialized
  statics := none
  mirror := none

def pool0 : Array CpInfo := pool [(5, u "<init>"), (0, u "()V"), (1, .class_ 10), (1, u "java/lang/Object")] 113

def k0c0 : Code := { maxStack := 0, maxLocals := 1, code := object_method_1_code, exceptionTable := #[], attributes := #[] }
def k0m0 : Method := { name := "<init>", desc := "()V", sig := { parameters := [], returnType := none }, accessFlags := 1, code := some k0c0 }
/-- java/lang/Object -/
def k0 : Class := { plain "java/lang/Object" none with
  accessFlags := 33
  interfaces := #[]
  cf := some (fileOf pool0 8 #[] #[{ accessFlags := 1, nameIndex := 5, descriptorIndex := 6, attributes := #[] }] 33 0 #[] #[])
  fields := #[]
  methods := #[k0m0]
  instanceTypes := #[]
  staticTypes := #[]
  resolved := Array.replicate 124 none
  statics := none }

def pool1 : Array CpInfo := pool [(2, .class_ 4), (1, u "java/lang/Object"), (0, u "<init>"), (0, u "()V"), (0, .class_ 8), (0, u "java/lang/String"), (0, .methodref 7 10), (0, .nameAndType 5 11), (0, u "([C)V"), (0, .integer 65535), (0, .methodref 14 15), (0, .class_ 16), (0, .nameAndType 17 18), (0, u "com/example/frozen_stream/frozenstream/repository/ContributionOrderEqualsPinLaw"), (0, u "mk"), (0, u "(ICC)Ljava/lang/String;"), (0, .class_ 20), (0, u "com/example/frozen_stream/frozenstream/repository/ContributionOrder"), (0, .methodref 19 22), (0, .nameAndType 5 23), (0, u "(Ljava/lang/String;)V"), (0, .methodref 19 25), (0, .nameAndType 26 27), (0, u "equals"), (0, u "(Ljava/lang/Object;)Z"), (3, u "law"), (0, u "(IIIIII)Z")] 2

def k1m0 : Method := { name := "<init>", desc := "()V", sig := { parameters := [], returnType := none }, accessFlags := 1, code := none }
def k1c1 : Code := { maxStack := 6, maxLocals := 3, code := method_2_code, exceptionTable := #[], attributes := #[] }
def k1m1 : Method := { name := "mk", desc := "(ICC)Ljava/lang/String;", sig := { parameters := [.int, .char, .char], returnType := some (.object "java/lang/String") }, accessFlags := 10, code := some k1c1 }
def k1c2 : Code := { maxStack := 3, maxLocals := 19, code := code, exceptionTable := #[], attributes := #[] }
def k1m2 : Method := { name := "law", desc := "(IIIIII)Z", sig := { parameters := [.int, .int, .int, .int, .int, .int], returnType := some .boolean }, accessFlags := 9, code := some k1c2 }
/-- com/example/frozen_stream/frozenstream/repository/ContributionOrderEqualsPinLaw -/
def k1 : Class := { plain "com/example/frozen_stream/frozenstream/repository/ContributionOrderEqualsPinLaw" (some 0) with
  accessFlags := 49
  interfaces := #[]
  cf := some (fileOf pool1 14 #[] #[{ accessFlags := 1, nameIndex := 5, descriptorIndex := 6, attributes := #[] }, { accessFlags := 10, nameIndex := 17, descriptorIndex := 18, attributes := #[] }, { accessFlags := 9, nameIndex := 31, descriptorIndex := 32, attributes := #[] }] 49 2 #[] #[])
  fields := #[]
  methods := #[k1m0, k1m1, k1m2]
  instanceTypes := #[]
  staticTypes := #[]
  resolved := Array.replicate 35 none
  statics := none }

def pool2 : Array CpInfo := pool [(1, .class_ 2), (0, u "java/io/Serializable"), (0, .class_ 4), (0, u "java/lang/Object")] 2

/-- java/io/Serializable -/
def k2 : Class := { plain "java/io/Serializable" (some 0) with
  accessFlags := 1537
  interfaces := #[]
  cf := some (fileOf pool2 1 #[] #[] 1537 3 #[] #[])
  fields := #[]
  methods := #[]
  instanceTypes := #[]
  staticTypes := #[]
  resolved := Array.replicate 7 none
  statics := none }

def pool3 : Array CpInfo := pool [(1, .class_ 2), (0, u "java/lang/Comparable"), (0, .class_ 4), (0, u "java/lang/Object")] 7

/-- java/lang/Comparable -/
def k3 : Class := { plain "java/lang/Comparable" (some 0) with
  accessFlags := 1537
  interfaces := #[]
  cf := some (fileOf pool3 1 #[] #[] 1537 3 #[] #[])
  fields := #[]
  methods := #[]
  instanceTypes := #[]
  staticTypes := #[]
  resolved := Array.replicate 12 none
  statics := none }

def pool4 : Array CpInfo := pool [(2, .class_ 4), (1, u "java/lang/CharSequence"), (42, .class_ 48), (0, u "java/lang/CharSequence$1CodePointIterator"), (10, .class_ 60), (0, u "java/lang/CharSequence$1CharIterator"), (5, .class_ 67), (0, u "java/lang/Object")] 63

/-- java/lang/CharSequence -/
def k4 : Class := { plain "java/lang/CharSequence" (some 0) with
  accessFlags := 1537
  interfaces := #[]
  cf := some (fileOf pool4 2 #[.nestMembers #[47, 59]] #[] 1537 66 #[] #[])
  fields := #[]
  methods := #[]
  instanceTypes := #[]
  staticTypes := #[]
  resolved := Array.replicate 131 none
  statics := none }

def pool5 : Array CpInfo := pool [(1, .class_ 2), (0, u "java/lang/constant/Constable"), (0, .class_ 4), (0, u "java/lang/Object")] 6

/-- java/lang/constant/Constable -/
def k5 : Class := { plain "java/lang/constant/Constable" (some 0) with
  accessFlags := 1537
  interfaces := #[]
  cf := some (fileOf pool5 1 #[] #[] 1537 3 #[] #[])
  fields := #[]
  methods := #[]
  instanceTypes := #[]
  staticTypes := #[]
  resolved := Array.replicate 11 none
  statics := none }

def pool6 : Array CpInfo := pool [(1, .class_ 2), (0, u "java/lang/constant/ConstantDesc"), (0, .class_ 4), (0, u "java/lang/Object")] 32

/-- java/lang/constant/ConstantDesc -/
def k6 : Class := { plain "java/lang/constant/ConstantDesc" (some 0) with
  accessFlags := 1537
  interfaces := #[]
  cf := some (fileOf pool6 1 #[] #[] 1537 3 #[] #[])
  fields := #[]
  methods := #[]
  instanceTypes := #[]
  staticTypes := #[]
  resolved := Array.replicate 37 none
  statics := none }

def pool7 : Array CpInfo := pool [(1, .methodref 2 3), (0, .class_ 4), (0, .nameAndType 5 6), (0, u "java/lang/Object"), (0, u "<init>"), (0, u "()V"), (0, .string 8), (0, u ""), (0, .fieldref 10 11), (0, .class_ 12), (0, .nameAndType 13 14), (0, u "java/lang/String"), (0, u "value"), (0, u "[B"), (0, .fieldref 10 16), (0, .nameAndType 17 18), (0, u "coder"), (0, u "B"), (2, u "hash"), (0, u "I"), (2, u "hashIsZero"), (0, u "Z"), (0, .methodref 10 28), (0, .nameAndType 5 29), (0, u "([CIILjava/lang/Void;)V"), (8, .fieldref 10 39), (0, .nameAndType 40 26), (0, u "COMPACT_STRINGS"), (1, .class_ 44), (1, u "java/lang/StringUTF16"), (0, u "compress"), (1, .methodref 42 48), (0, .nameAndType 49 50), (0, u "coderFromArrayLen"), (0, u "([BI)B"), (56, .class_ 109), (1, u "java/lang/StringLatin1"), (67, .methodref 42 178), (0, .nameAndType 45 179), (0, u "([CII)[B"), (361, .methodref 107 542), (0, .nameAndType 543 544), (0, u "equals"), (0, u "([B[B)Z"), (28, u "(Ljava/lang/Object;)Z"), (1, .class_ 576), (0, u "java/lang/CharSequence"), (22, u "CASE_INSENSITIVE_ORDER"), (0, u "Ljava/util/Comparator;"), (409, u "([C)V"), (90, u "serialPersistentFields"), (0, u "[Ljava/io/ObjectStreamField;"), (0, .class_ 1104), (0, u "java/lang/String$CaseInsensitiveComparator"), (1, .class_ 1107), (0, u "java/io/Serializable"), (0, .class_ 1109), (0, u "java/lang/Comparable"), (0, .class_ 1111), (0, u "java/lang/constant/Constable"), (0, .class_ 1113), (0, u "java/lang/constant/ConstantDesc"), (2, u "serialVersionUID"), (0, u "J"), (3, u "REPL"), (0, u "C"), (2, u "LATIN1"), (1, u "UTF16")] 323

def k7m0 : Method := { name := "<init>", desc := "()V", sig := { parameters := [], returnType := none }, accessFlags := 1, code := none }
def k7c1 : Code := { maxStack := 5, maxLocals := 2, code := jdk_42_method_3_code, exceptionTable := #[], attributes := #[] }
def k7m1 : Method := { name := "<init>", desc := "([C)V", sig := { parameters := [(.array .char)], returnType := none }, accessFlags := 1, code := some k7c1 }
def k7c2 : Code := { maxStack := 2, maxLocals := 3, code := jdk_42_method_66_code, exceptionTable := #[], attributes := #[] }
def k7m2 : Method := { name := "equals", desc := "(Ljava/lang/Object;)Z", sig := { parameters := [(.object "java/lang/Object")], returnType := some .boolean }, accessFlags := 1, code := some k7c2 }
def k7c3 : Code := { maxStack := 4, maxLocals := 6, code := jdk_42_method_149_code, exceptionTable := #[], attributes := #[] }
def k7m3 : Method := { name := "<init>", desc := "([CIILjava/lang/Void;)V", sig := { parameters := [(.array .char), .int, .int, (.object "java/lang/Void")], returnType := none }, accessFlags := 2, code := some k7c3 }
/-- java/lang/String -/
def k7 : Class := { plain "java/lang/String" (some 0) with
  accessFlags := 49
  interfaces := #[2, 3, 4, 5, 6]
  cf := some (fileOf pool7 10 #[.nestMembers #[1103]] #[{ accessFlags := 1, nameIndex := 5, descriptorIndex := 6, attributes := #[] }, { accessFlags := 1, nameIndex := 5, descriptorIndex := 1010, attributes := #[] }, { accessFlags := 1, nameIndex := 543, descriptorIndex := 573, attributes := #[] }, { accessFlags := 2, nameIndex := 5, descriptorIndex := 29, attributes := #[] }] 49 2 #[1106, 1108, 575, 1110, 1112] #[{ accessFlags := 18, nameIndex := 13, descriptorIndex := 14, attributes := #[] }, { accessFlags := 18, nameIndex := 17, descriptorIndex := 18, attributes := #[] }, { accessFlags := 2, nameIndex := 21, descriptorIndex := 22, attributes := #[] }, { accessFlags := 2, nameIndex := 25, descriptorIndex := 26, attributes := #[] }, { accessFlags := 26, nameIndex := 1116, descriptorIndex := 1117, attributes := #[] }, { accessFlags := 24, nameIndex := 40, descriptorIndex := 26, attributes := #[] }, { accessFlags := 26, nameIndex := 1101, descriptorIndex := 1102, attributes := #[] }, { accessFlags := 26, nameIndex := 1121, descriptorIndex := 1122, attributes := #[] }, { accessFlags := 25, nameIndex := 599, descriptorIndex := 600, attributes := #[] }, { accessFlags := 24, nameIndex := 1125, descriptorIndex := 18, attributes := #[] }, { accessFlags := 24, nameIndex := 1127, descriptorIndex := 18, attributes := #[] }])
  fields := #[{ name := "value", type := (.array .byte), accessFlags := 18, slot := 0, constantValue := 0 }, { name := "coder", type := .byte, accessFlags := 18, slot := 1, constantValue := 0 }, { name := "hash", type := .int, accessFlags := 2, slot := 2, constantValue := 0 }, { name := "hashIsZero", type := .boolean, accessFlags := 2, slot := 3, constantValue := 0 }, { name := "serialVersionUID", type := .long, accessFlags := 26, slot := 0, constantValue := 0 }, { name := "COMPACT_STRINGS", type := .boolean, accessFlags := 24, slot := 1, constantValue := 0 }, { name := "serialPersistentFields", type := (.array (.object "java/io/ObjectStreamField")), accessFlags := 26, slot := 2, constantValue := 0 }, { name := "REPL", type := .char, accessFlags := 26, slot := 3, constantValue := 0 }, { name := "CASE_INSENSITIVE_ORDER", type := (.object "java/util/Comparator"), accessFlags := 25, slot := 4, constantValue := 0 }, { name := "LATIN1", type := .byte, accessFlags := 24, slot := 5, constantValue := 0 }, { name := "UTF16", type := .byte, accessFlags := 24, slot := 6, constantValue := 0 }]
  methods := #[k7m0, k7m1, k7m2, k7m3]
  instanceTypes := #[(.array .byte), .byte, .int, .boolean]
  staticTypes := #[.long, .boolean, (.array (.object "java/io/ObjectStreamField")), .char, (.object "java/util/Comparator"), .byte, .byte]
  resolved := Array.replicate 1451 none
  statics := some 0 }

def pool8 : Array CpInfo := pool [(1, .methodref 2 3), (0, .class_ 4), (0, .nameAndType 5 6), (0, u "java/lang/Object"), (0, u "<init>"), (0, u "()V"), (0, .string 8), (0, u "value"), (0, .methodref 10 11), (0, .class_ 12), (0, .nameAndType 13 14), (0, u "java/util/Objects"), (0, u "requireNonNull"), (0, u "(Ljava/lang/Object;Ljava/lang/String;)Ljava/lang/Object;"), (0, .class_ 16), (0, u "java/lang/String"), (0, .fieldref 18 19), (0, .class_ 20), (0, .nameAndType 8 21), (0, u "com/example/frozen_stream/frozenstream/repository/ContributionOrder"), (0, u "Ljava/lang/String;"), (19, .methodref 15 42), (0, .nameAndType 43 44), (0, u "equals"), (0, u "(Ljava/lang/Object;)Z"), (7, .class_ 53), (0, u "java/lang/Comparable"), (0, u "(Ljava/lang/String;)V")] 11

def k8c0 : Code := { maxStack := 3, maxLocals := 2, code := prog_11_method_1_code, exceptionTable := #[], attributes := #[] }
def k8m0 : Method := { name := "<init>", desc := "(Ljava/lang/String;)V", sig := { parameters := [(.object "java/lang/String")], returnType := none }, accessFlags := 1, code := some k8c0 }
def k8c1 : Code := { maxStack := 2, maxLocals := 3, code := prog_11_method_4_code, exceptionTable := #[], attributes := #[] }
def k8m1 : Method := { name := "equals", desc := "(Ljava/lang/Object;)Z", sig := { parameters := [(.object "java/lang/Object")], returnType := some .boolean }, accessFlags := 1, code := some k8c1 }
/-- com/example/frozen_stream/frozenstream/repository/ContributionOrder -/
def k8 : Class := { plain "com/example/frozen_stream/frozenstream/repository/ContributionOrder" (some 0) with
  accessFlags := 33
  interfaces := #[3]
  cf := some (fileOf pool8 18 #[] #[{ accessFlags := 1, nameIndex := 5, descriptorIndex := 54, attributes := #[] }, { accessFlags := 1, nameIndex := 43, descriptorIndex := 44, attributes := #[] }] 33 2 #[52] #[{ accessFlags := 18, nameIndex := 8, descriptorIndex := 21, attributes := #[] }])
  fields := #[{ name := "value", type := (.object "java/lang/String"), accessFlags := 18, slot := 0, constantValue := 0 }]
  methods := #[k8m0, k8m1]
  instanceTypes := #[(.object "java/lang/String")]
  staticTypes := #[]
  resolved := Array.replicate 66 none
  statics := none }

def pool9 : Array CpInfo := pool [(2, .class_ 4), (1, u "java/lang/Object"), (0, u "<init>"), (0, u "()V"), (35, .class_ 44), (1, u "java/util/Objects"), (0, u "requireNonNull"), (48, u "(Ljava/lang/Object;Ljava/lang/String;)Ljava/lang/Object;")] 89

def k9m0 : Method := { name := "<init>", desc := "()V", sig := { parameters := [], returnType := none }, accessFlags := 2, code := none }
def k9c1 : Code := { maxStack := 3, maxLocals := 2, code := jdk_31_method_11_code, exceptionTable := #[], attributes := #[] }
def k9m1 : Method := { name := "requireNonNull", desc := "(Ljava/lang/Object;Ljava/lang/String;)Ljava/lang/Object;", sig := { parameters := [(.object "java/lang/Object"), (.object "java/lang/String")], returnType := some (.object "java/lang/Object") }, accessFlags := 9, code := some k9c1 }
/-- java/util/Objects -/
def k9 : Class := { plain "java/util/Objects" (some 0) with
  accessFlags := 49
  interfaces := #[]
  cf := some (fileOf pool9 42 #[] #[{ accessFlags := 2, nameIndex := 5, descriptorIndex := 6, attributes := #[] }, { accessFlags := 9, nameIndex := 45, descriptorIndex := 94, attributes := #[] }] 49 2 #[] #[])
  fields := #[]
  methods := #[k9m0, k9m1]
  instanceTypes := #[]
  staticTypes := #[]
  resolved := Array.replicate 184 none
  statics := none }

def pool10 : Array CpInfo := pool [(6, .class_ 8), (1, u "java/lang/Object"), (0, u "<init>"), (0, u "()V"), (0, .methodref 12 13), (0, .class_ 14), (0, .nameAndType 15 16), (0, u "java/lang/StringUTF16"), (0, u "newBytesLength"), (0, u "(I)I"), (3, .integer 1073741823), (23, .fieldref 12 45), (0, .nameAndType 46 47), (0, u "$assertionsDisabled"), (0, u "Z"), (11, .fieldref 12 60), (0, .nameAndType 61 62), (0, u "HI_BYTE_SHIFT"), (0, u "I"), (0, .fieldref 12 64), (0, .nameAndType 65 62), (0, u "LO_BYTE_SHIFT"), (5, .methodref 12 72), (0, .nameAndType 73 74), (0, u "getChar"), (0, u "([BI)C"), (32, .methodref 12 108), (0, .nameAndType 109 110), (0, u "newBytesFor"), (0, u "(I)[B"), (0, .methodref 12 112), (0, .nameAndType 113 114), (0, u "putChar"), (0, u "([BII)V"), (0, .methodref 12 116), (0, .nameAndType 117 118), (0, u "compress"), (0, u "([CI[BII)I"), (0, .methodref 12 120), (0, .nameAndType 121 122), (0, u "toBytes"), (0, u "([CII)[B"), (138, u "coderFromArrayLen"), (0, u "([BI)B"), (106, .class_ 371), (1, u "java/lang/StringUTF16$LinesSpliterator"), (58, u "MAX_LENGTH"), (196, .class_ 628), (0, u "java/lang/StringUTF16$CodePointsSpliterator"), (0, .class_ 630), (0, u "java/lang/StringUTF16$CharsSpliterator")] 4

def k10m0 : Method := { name := "<init>", desc := "()V", sig := { parameters := [], returnType := none }, accessFlags := 0, code := none }
def k10c1 : Code := { maxStack := 1, maxLocals := 1, code := jdk_52_method_2_code, exceptionTable := #[], attributes := #[] }
def k10m1 : Method := { name := "newBytesFor", desc := "(I)[B", sig := { parameters := [.int], returnType := some (.array .byte) }, accessFlags := 9, code := some k10c1 }
def k10c2 : Code := { maxStack := 4, maxLocals := 1, code := jdk_52_method_3_code, exceptionTable := #[], attributes := #[] }
def k10m2 : Method := { name := "newBytesLength", desc := "(I)I", sig := { parameters := [.int], returnType := some .int }, accessFlags := 9, code := some k10c2 }
def k10c3 : Code := { maxStack := 4, maxLocals := 3, code := jdk_52_method_4_code, exceptionTable := #[], attributes := #[] }
def k10m3 : Method := { name := "putChar", desc := "([BII)V", sig := { parameters := [(.array .byte), .int, .int], returnType := none }, accessFlags := 8, code := some k10c3 }
def k10c4 : Code := { maxStack := 3, maxLocals := 2, code := jdk_52_method_5_code, exceptionTable := #[], attributes := #[] }
def k10m4 : Method := { name := "getChar", desc := "([BI)C", sig := { parameters := [(.array .byte), .int], returnType := some .char }, accessFlags := 8, code := some k10c4 }
def k10c5 : Code := { maxStack := 4, maxLocals := 5, code := jdk_52_method_14_code, exceptionTable := #[], attributes := #[] }
def k10m5 : Method := { name := "toBytes", desc := "([CII)[B", sig := { parameters := [(.array .char), .int, .int], returnType := some (.array .byte) }, accessFlags := 9, code := some k10c5 }
def k10c6 : Code := { maxStack := 2, maxLocals := 2, code := jdk_52_method_15_code, exceptionTable := #[], attributes := #[] }
def k10m6 : Method := { name := "coderFromArrayLen", desc := "([BI)B", sig := { parameters := [(.array .byte), .int], returnType := some .byte }, accessFlags := 8, code := some k10c6 }
def k10c7 : Code := { maxStack := 5, maxLocals := 6, code := jdk_52_method_16_code, exceptionTable := #[], attributes := #[] }
def k10m7 : Method := { name := "compress", desc := "([CII)[B", sig := { parameters := [(.array .char), .int, .int], returnType := some (.array .byte) }, accessFlags := 9, code := some k10c7 }
def k10c8 : Code := { maxStack := 3, maxLocals := 7, code := jdk_52_method_21_code, exceptionTable := #[], attributes := #[] }
def k10m8 : Method := { name := "compress", desc := "([CI[BII)I", sig := { parameters := [(.array .char), .int, (.array .byte), .int, .int], returnType := some .int }, accessFlags := 9, code := some k10c8 }
/-- java/lang/StringUTF16 -/
def k10 : Class := { plain "java/lang/StringUTF16" (some 0) with
  accessFlags := 48
  interfaces := #[]
  cf := some (fileOf pool10 12 #[.nestMembers #[627, 629, 369]] #[{ accessFlags := 0, nameIndex := 9, descriptorIndex := 10, attributes := #[] }, { accessFlags := 9, nameIndex := 109, descriptorIndex := 110, attributes := #[] }, { accessFlags := 9, nameIndex := 15, descriptorIndex := 16, attributes := #[] }, { accessFlags := 8, nameIndex := 113, descriptorIndex := 114, attributes := #[] }, { accessFlags := 8, nameIndex := 73, descriptorIndex := 74, attributes := #[] }, { accessFlags := 9, nameIndex := 121, descriptorIndex := 122, attributes := #[] }, { accessFlags := 8, nameIndex := 261, descriptorIndex := 262, attributes := #[] }, { accessFlags := 9, nameIndex := 117, descriptorIndex := 122, attributes := #[] }, { accessFlags := 9, nameIndex := 117, descriptorIndex := 118, attributes := #[] }] 48 6 #[] #[{ accessFlags := 26, nameIndex := 61, descriptorIndex := 62, attributes := #[] }, { accessFlags := 26, nameIndex := 65, descriptorIndex := 62, attributes := #[] }, { accessFlags := 24, nameIndex := 430, descriptorIndex := 62, attributes := #[] }, { accessFlags := 4120, nameIndex := 46, descriptorIndex := 47, attributes := #[] }])
  fields := #[{ name := "HI_BYTE_SHIFT", type := .int, accessFlags := 26, slot := 0, constantValue := 0 }, { name := "LO_BYTE_SHIFT", type := .int, accessFlags := 26, slot := 1, constantValue := 0 }, { name := "MAX_LENGTH", type := .int, accessFlags := 24, slot := 2, constantValue := 0 }, { name := "$assertionsDisabled", type := .boolean, accessFlags := 4120, slot := 3, constantValue := 0 }]
  methods := #[k10m0, k10m1, k10m2, k10m3, k10m4, k10m5, k10m6, k10m7, k10m8]
  instanceTypes := #[]
  staticTypes := #[.int, .int, .int, .boolean]
  resolved := Array.replicate 635 none
  statics := some 1 }

def pool11 : Array CpInfo := pool [(4, .class_ 6), (1, u "java/lang/Object"), (0, u "<init>"), (0, u "()V"), (5, .class_ 16), (1, u "java/lang/StringLatin1"), (104, u "$assertionsDisabled"), (0, u "Z"), (98, .class_ 223), (1, u "java/lang/StringLatin1$LinesSpliterator"), (57, u "equals"), (0, u "([B[B)Z"), (107, .class_ 391), (0, u "java/lang/StringLatin1$CharsSpliterator")] 3

def k11m0 : Method := { name := "<init>", desc := "()V", sig := { parameters := [], returnType := none }, accessFlags := 0, code := none }
def k11c1 : Code := { maxStack := 3, maxLocals := 3, code := jdk_43_method_13_code, exceptionTable := #[], attributes := #[] }
def k11m1 : Method := { name := "equals", desc := "([B[B)Z", sig := { parameters := [(.array .byte), (.array .byte)], returnType := some .boolean }, accessFlags := 9, code := some k11c1 }
/-- java/lang/StringLatin1 -/
def k11 : Class := { plain "java/lang/StringLatin1" (some 0) with
  accessFlags := 48
  interfaces := #[]
  cf := some (fileOf pool11 14 #[.nestMembers #[390, 221]] #[{ accessFlags := 0, nameIndex := 7, descriptorIndex := 8, attributes := #[] }, { accessFlags := 9, nameIndex := 281, descriptorIndex := 282, attributes := #[] }] 48 4 #[] #[{ accessFlags := 4120, nameIndex := 121, descriptorIndex := 122, attributes := #[] }])
  fields := #[{ name := "$assertionsDisabled", type := .boolean, accessFlags := 4120, slot := 0, constantValue := 0 }]
  methods := #[k11m0, k11m1]
  instanceTypes := #[]
  staticTypes := #[.boolean]
  resolved := Array.replicate 395 none
  statics := none }

def pool12 : Array CpInfo := pool [(2, .class_ 4), (1, u "java/lang/Object"), (0, u "<init>"), (0, u "()V"), (17, .class_ 26), (1, u "jdk/internal/util/Preconditions"), (28, .class_ 56), (0, u "jdk/internal/util/Preconditions$4"), (57, .class_ 115), (0, u "jdk/internal/util/Preconditions$1"), (7, u "SIOOBE_FORMATTER"), (0, u "Ljava/util/function/BiFunction;"), (0, .class_ 126), (0, u "jdk/internal/util/Preconditions$2"), (3, u "AIOOBE_FORMATTER"), (0, .class_ 132), (0, u "jdk/internal/util/Preconditions$3"), (3, u "IOOBE_FORMATTER")] 57

def k12m0 : Method := { name := "<init>", desc := "()V", sig := { parameters := [], returnType := none }, accessFlags := 1, code := none }
/-- jdk/internal/util/Preconditions -/
def k12 : Class := { plain "jdk/internal/util/Preconditions" (some 0) with
  accessFlags := 33
  interfaces := #[]
  cf := some (fileOf pool12 24 #[.nestMembers #[55, 131, 125, 114]] #[{ accessFlags := 1, nameIndex := 5, descriptorIndex := 6, attributes := #[] }] 33 2 #[] #[{ accessFlags := 25, nameIndex := 123, descriptorIndex := 124, attributes := #[] }, { accessFlags := 25, nameIndex := 130, descriptorIndex := 124, attributes := #[] }, { accessFlags := 25, nameIndex := 136, descriptorIndex := 124, attributes := #[] }])
  fields := #[{ name := "SIOOBE_FORMATTER", type := (.object "java/util/function/BiFunction"), accessFlags := 25, slot := 0, constantValue := 0 }, { name := "AIOOBE_FORMATTER", type := (.object "java/util/function/BiFunction"), accessFlags := 25, slot := 1, constantValue := 0 }, { name := "IOOBE_FORMATTER", type := (.object "java/util/function/BiFunction"), accessFlags := 25, slot := 2, constantValue := 0 }]
  methods := #[k12m0]
  instanceTypes := #[]
  staticTypes := #[(.object "java/util/function/BiFunction"), (.object "java/util/function/BiFunction"), (.object "java/util/function/BiFunction")]
  resolved := Array.replicate 194 none
  statics := some 2 }

def pool13 : Array CpInfo := pool [(9, u "<init>"), (6, .class_ 18), (1, u "java/lang/Object"), (0, u "()V"), (1, .class_ 23), (1, u "jdk/internal/util/ArraysSupport"), (0, u "LOG2_ARRAY_LONG_INDEX_SCALE"), (0, u "I"), (2, u "U"), (0, u "Ljdk/internal/misc/Unsafe;"), (8, u "BIG_ENDIAN"), (0, u "Z"), (8, u "LOG2_BYTE_BIT_SIZE"), (4, u "LOG2_ARRAY_INT_INDEX_SCALE"), (54, u "JLA"), (0, u "Ljdk/internal/access/JavaLangAccess;"), (11, u "LOG2_ARRAY_BOOLEAN_INDEX_SCALE"), (9, u "LOG2_ARRAY_BYTE_INDEX_SCALE"), (5, u "LOG2_ARRAY_CHAR_INDEX_SCALE"), (5, u "LOG2_ARRAY_SHORT_INDEX_SCALE"), (18, u "LOG2_ARRAY_FLOAT_INDEX_SCALE"), (24, u "LOG2_ARRAY_DOUBLE_INDEX_SCALE"), (89, u "T_BOOLEAN"), (2, u "T_CHAR"), (1, u "T_FLOAT"), (1, u "T_DOUBLE"), (1, u "T_BYTE"), (1, u "T_SHORT"), (1, u "T_INT"), (1, u "T_LONG"), (1, u "SOFT_MAX_ARRAY_LENGTH")] 83

def k13m0 : Method := { name := "<init>", desc := "()V", sig := { parameters := [], returnType := none }, accessFlags := 2, code := none }
/-- jdk/internal/util/ArraysSupport -/
def k13 : Class := { plain "jdk/internal/util/ArraysSupport" (some 0) with
  accessFlags := 33
  interfaces := #[]
  cf := some (fileOf pool13 21 #[] #[{ accessFlags := 2, nameIndex := 9, descriptorIndex := 19, attributes := #[] }] 33 16 #[] #[{ accessFlags := 24, nameIndex := 28, descriptorIndex := 29, attributes := #[] }, { accessFlags := 26, nameIndex := 38, descriptorIndex := 39, attributes := #[] }, { accessFlags := 25, nameIndex := 121, descriptorIndex := 25, attributes := #[] }, { accessFlags := 25, nameIndex := 131, descriptorIndex := 25, attributes := #[] }, { accessFlags := 25, nameIndex := 137, descriptorIndex := 25, attributes := #[] }, { accessFlags := 25, nameIndex := 143, descriptorIndex := 25, attributes := #[] }, { accessFlags := 25, nameIndex := 53, descriptorIndex := 25, attributes := #[] }, { accessFlags := 25, nameIndex := 24, descriptorIndex := 25, attributes := #[] }, { accessFlags := 25, nameIndex := 162, descriptorIndex := 25, attributes := #[] }, { accessFlags := 25, nameIndex := 187, descriptorIndex := 25, attributes := #[] }, { accessFlags := 26, nameIndex := 48, descriptorIndex := 25, attributes := #[] }, { accessFlags := 25, nameIndex := 277, descriptorIndex := 25, attributes := #[] }, { accessFlags := 25, nameIndex := 280, descriptorIndex := 25, attributes := #[] }, { accessFlags := 25, nameIndex := 282, descriptorIndex := 25, attributes := #[] }, { accessFlags := 25, nameIndex := 284, descriptorIndex := 25, attributes := #[] }, { accessFlags := 25, nameIndex := 286, descriptorIndex := 25, attributes := #[] }, { accessFlags := 25, nameIndex := 288, descriptorIndex := 25, attributes := #[] }, { accessFlags := 25, nameIndex := 290, descriptorIndex := 25, attributes := #[] }, { accessFlags := 25, nameIndex := 292, descriptorIndex := 25, attributes := #[] }, { accessFlags := 26, nameIndex := 108, descriptorIndex := 109, attributes := #[] }, { accessFlags := 25, nameIndex := 294, descriptorIndex := 25, attributes := #[] }])
  fields := #[{ name := "U", type := (.object "jdk/internal/misc/Unsafe"), accessFlags := 24, slot := 0, constantValue := 0 }, { name := "BIG_ENDIAN", type := .boolean, accessFlags := 26, slot := 1, constantValue := 0 }, { name := "LOG2_ARRAY_BOOLEAN_INDEX_SCALE", type := .int, accessFlags := 25, slot := 2, constantValue := 0 }, { name := "LOG2_ARRAY_BYTE_INDEX_SCALE", type := .int, accessFlags := 25, slot := 3, constantValue := 0 }, { name := "LOG2_ARRAY_CHAR_INDEX_SCALE", type := .int, accessFlags := 25, slot := 4, constantValue := 0 }, { name := "LOG2_ARRAY_SHORT_INDEX_SCALE", type := .int, accessFlags := 25, slot := 5, constantValue := 0 }, { name := "LOG2_ARRAY_INT_INDEX_SCALE", type := .int, accessFlags := 25, slot := 6, constantValue := 0 }, { name := "LOG2_ARRAY_LONG_INDEX_SCALE", type := .int, accessFlags := 25, slot := 7, constantValue := 0 }, { name := "LOG2_ARRAY_FLOAT_INDEX_SCALE", type := .int, accessFlags := 25, slot := 8, constantValue := 0 }, { name := "LOG2_ARRAY_DOUBLE_INDEX_SCALE", type := .int, accessFlags := 25, slot := 9, constantValue := 0 }, { name := "LOG2_BYTE_BIT_SIZE", type := .int, accessFlags := 26, slot := 10, constantValue := 0 }, { name := "T_BOOLEAN", type := .int, accessFlags := 25, slot := 11, constantValue := 0 }, { name := "T_CHAR", type := .int, accessFlags := 25, slot := 12, constantValue := 0 }, { name := "T_FLOAT", type := .int, accessFlags := 25, slot := 13, constantValue := 0 }, { name := "T_DOUBLE", type := .int, accessFlags := 25, slot := 14, constantValue := 0 }, { name := "T_BYTE", type := .int, accessFlags := 25, slot := 15, constantValue := 0 }, { name := "T_SHORT", type := .int, accessFlags := 25, slot := 16, constantValue := 0 }, { name := "T_INT", type := .int, accessFlags := 25, slot := 17, constantValue := 0 }, { name := "T_LONG", type := .int, accessFlags := 25, slot := 18, constantValue := 0 }, { name := "JLA", type := (.object "jdk/internal/access/JavaLangAccess"), accessFlags := 26, slot := 19, constantValue := 0 }, { name := "SOFT_MAX_ARRAY_LENGTH", type := .int, accessFlags := 25, slot := 20, constantValue := 0 }]
  methods := #[k13m0]
  instanceTypes := #[]
  staticTypes := #[(.object "jdk/internal/misc/Unsafe"), .boolean, .int, .int, .int, .int, .int, .int, .int, .int, .int, .int, .int, .int, .int, .int, .int, .int, .int, (.object "jdk/internal/access/JavaLangAccess"), .int]
  resolved := Array.replicate 378 none
  statics := none }

def pool14 : Array CpInfo := pool [(1, u "java/lang/Cloneable"), (0, .class_ 1), (0, u "java/lang/Object"), (0, .class_ 3)] 3

/-- java/lang/Cloneable -/
def k14 : Class := { plain "java/lang/Cloneable" (some 0) with
  accessFlags := 1537
  interfaces := #[]
  cf := some (fileOf pool14 2 #[] #[] 1537 4 #[] #[])
  fields := #[]
  methods := #[]
  instanceTypes := #[]
  staticTypes := #[]
  resolved := Array.replicate 8 none
  statics := none }

/-- the primitive byte -/
def k15 : Class := { plain "byte" none with kind := .primitive 'B', accessFlags := 0x411 }
/-- [B -/
def k16 : Class := { plain "[B" (some 0) with kind := .array 15 .byte, interfaces := #[14, 2], accessFlags := 1041 }

/-- the primitive char -/
def k17 : Class := { plain "char" none with kind := .primitive 'C', accessFlags := 0x411 }
/-- [C -/
def k18 : Class := { plain "[C" (some 0) with kind := .array 17 .char, interfaces := #[14, 2], accessFlags := 1041 }

/-- the primitive int -/
def k19 : Class := { plain "int" none with kind := .primitive 'I', accessFlags := 0x411 }
/-- [I -/
def k20 : Class := { plain "[I" (some 0) with kind := .array 19 .int, interfaces := #[14, 2], accessFlags := 1041 }

def heap : Heap := #[{ cls := 7, slots := #[.long 0, .int 1, .null, .int 0, .null, .int 0, .int 0], vm := .statics 7 },
  { cls := 10, slots := #[.int 0, .int 8, .int 0, .int 1], vm := .statics 10 },
  { cls := 12, slots := #[.null, .null, .null], vm := .statics 12 }]
def classes : Array Class := #[k0, k1, k2, k3, k4, k5, k6, k7, k8, k9, k10, k11, k12, k13, k14, k15, k16, k17, k18, k19, k20]
def interned : List (Array UInt16 × Addr) := []
def slotsUsed : Nat := 14
def theMethod : MethodId := ⟨1, 2⟩
def args0 : Array Value := #[.int 65, .int 66, .int 300, .int 400, .int 1, .int 0]
def aboutOver (below : List Frame) : State where
  vm := { classes := classes, interned := interned.toArray }
  heap := heap
  slotsUsed := slotsUsed
  threads := #[{ frames := .invoking theMethod args0 :: below }]
def below0 : List Frame := [.native { method := ⟨0, 0⟩, args := #[] }]
def about1 : State := aboutOver below0
def p0 : Program := .bare "" "" ""
def e0 : Env := launch0.env 0 0 0
theorem w_frames : about1.frames = Frame.invoking theMethod args0 :: below0 := rfl
set_option maxRecDepth 65536 in
theorem w_args : argsFit about1.vm theMethod args0 = true := by decide +kernel
set_option maxRecDepth 65536 in
theorem w_heap : heapFits about1 = true := by decide +kernel
set_option maxRecDepth 65536 in
theorem w_runnable : about1.curStatus? = some .runnable := by decide +kernel
set_option maxRecDepth 65536 in
theorem w_alone : about1.alone = true := by decide +kernel
set_option maxRecDepth 65536 in
theorem w_named : about1.methodNamed? x = some theMethod := by decide +kernel
set_option maxRecDepth 65536 in
theorem w_hears : about1.hears theMethod below0 = true := by decide +kernel
set_option maxRecDepth 65536 in
theorem w_ripe : about1.ripe theMethod args0 below0 = true := by decide +kernel
theorem w_running : about1.status = .running := rfl
set_option maxRecDepth 65536 in
theorem w_room : about1.hasRoom e0.platform room_1 = true :=
  launch0.hasRoom_least _ room_1 (by decide +kernel) (by decide +kernel) (by decide +kernel) (by decide +kernel) (by decide +kernel) (by decide +kernel)
theorem allAtoms_all (ts : List Jvm.Cond) (a : Array Jvm.Value) (st : Jvm.State) : (allAtoms ts).before a st = ts.all (fun c => c.before a st) := by
  induction ts with
  | nil => rfl
  | cons c t ih =>
    show (Jvm.Cond.and c (allAtoms t)).before a st = _
    rw [Jvm.Cond.before_and, ih, List.all_cons]
def words1 : List Jvm.Cond := Jvm.Cond.code x code maxLocals ret :: tables_1
/-- a 'code' word, met by the world's own term for the bytes: nothing is compared byte by byte -/
theorem code_word {y : MethodName} {bytes : ByteArray} {mx : Nat} {rt : Option FieldType} {a : Array Value} {s : State} {m : MethodId} {meth : Method} {c : Code} (h1 : s.methodNamed? y = some m) (h2 : s.vm.method? m = some meth) (h3 : meth.code = some c) (h4 : c.code = bytes)
    (h5 : (c.maxLocals == mx && c.exceptionTable.isEmpty && decide (c.maxStack ≤ mostOperands) && decide (meth.sig.returnType = rt) && !meth.locks && decide (parseMethodDescriptor y.desc = some meth.sig)) = true) : (Jvm.Cond.code y bytes mx rt).before a s = true := by
  simp only [Bool.and_eq_true, beq_iff_eq, Bool.not_eq_true', decide_eq_true_eq] at h5
  obtain ⟨⟨⟨⟨⟨g1, g2⟩, g3⟩, g4⟩, g5⟩, g6⟩ := h5
  simp [Cond.before, Cond.holds, Cond.value, h1, h2, h3, h4, g1, g2, g3, g4, g5, g6]
def isCode : Jvm.Cond → Bool
  | .code _ _ _ _ => true
  | _ => false
theorem all_split {L : List Jvm.Cond} {P : Jvm.Cond → Bool} (h1 : L.all (fun c => isCode c || P c) = true) (h2 : ∀ c ∈ L.filter isCode, P c = true) : L.all P = true := by
  refine List.all_eq_true.mpr fun c hc => ?_
  have h := List.all_eq_true.mp h1 c hc
  rcases Bool.eq_false_or_eq_true (isCode c) with hi | hi
  · exact h2 c (List.mem_filter.mpr ⟨hc, hi⟩)
  · simpa [hi] using h
set_option maxRecDepth 65536 in
theorem w_c0 : (Jvm.Cond.code x code maxLocals ret).before args0 about1 = true := code_word (m := ⟨1, 2⟩) (meth := k1m2) (c := k1c2) (by decide +kernel) rfl rfl rfl (by decide +kernel)
set_option maxRecDepth 65536 in
theorem w_c1 : (Jvm.Cond.code ({ cls := "com/example/frozen_stream/frozenstream/repository/ContributionOrderEqualsPinLaw", name := "mk", desc := "(ICC)Ljava/lang/String;" } : Jvm.MethodName) method_2_code (3 : Nat) (Option.some (Jvm.ClassFile.FieldType.object "java/lang/String"))).before args0 about1 = true := code_word (m := ⟨1, 1⟩) (meth := k1m1) (c := k1c1) (by decide +kernel) rfl rfl rfl (by decide +kernel)
set_option maxRecDepth 65536 in
theorem w_c2 : (Jvm.Cond.code ({ cls := "java/lang/String", name := "<init>", desc := "([C)V" } : Jvm.MethodName) jdk_42_method_3_code (2 : Nat) (Option.none : Option Jvm.ClassFile.FieldType)).before args0 about1 = true := code_word (m := ⟨7, 1⟩) (meth := k7m1) (c := k7c1) (by decide +kernel) rfl rfl rfl (by decide +kernel)
set_option maxRecDepth 65536 in
theorem w_c3 : (Jvm.Cond.code ({ cls := "java/lang/String", name := "<init>", desc := "([CIILjava/lang/Void;)V" } : Jvm.MethodName) jdk_42_method_149_code (6 : Nat) (Option.none : Option Jvm.ClassFile.FieldType)).before args0 about1 = true := code_word (m := ⟨7, 3⟩) (meth := k7m3) (c := k7c3) (by decide +kernel) rfl rfl rfl (by decide +kernel)
set_option maxRecDepth 65536 in
theorem w_c4 : (Jvm.Cond.code ({ cls := "java/lang/Object", name := "<init>", desc := "()V" } : Jvm.MethodName) object_method_1_code (1 : Nat) (Option.none : Option Jvm.ClassFile.FieldType)).before args0 about1 = true := code_word (m := ⟨0, 0⟩) (meth := k0m0) (c := k0c0) (by decide +kernel) rfl rfl rfl (by decide +kernel)
set_option maxRecDepth 65536 in
theorem w_c5 : (Jvm.Cond.code ({ cls := "com/example/frozen_stream/frozenstream/repository/ContributionOrder", name := "<init>", desc := "(Ljava/lang/String;)V" } : Jvm.MethodName) prog_11_method_1_code (2 : Nat) (Option.none : Option Jvm.ClassFile.FieldType)).before args0 about1 = true := code_word (m := ⟨8, 0⟩) (meth := k8m0) (c := k8c0) (by decide +kernel) rfl rfl rfl (by decide +kernel)
set_option maxRecDepth 65536 in
theorem w_c6 : (Jvm.Cond.code ({ cls := "java/util/Objects", name := "requireNonNull", desc := "(Ljava/lang/Object;Ljava/lang/String;)Ljava/lang/Object;" } : Jvm.MethodName) jdk_31_method_11_code (2 : Nat) (Option.some (Jvm.ClassFile.FieldType.object "java/lang/Object"))).before args0 about1 = true := code_word (m := ⟨9, 1⟩) (meth := k9m1) (c := k9c1) (by decide +kernel) rfl rfl rfl (by decide +kernel)
set_option maxRecDepth 65536 in
theorem w_c7 : (Jvm.Cond.code ({ cls := "com/example/frozen_stream/frozenstream/repository/ContributionOrder", name := "equals", desc := "(Ljava/lang/Object;)Z" } : Jvm.MethodName) prog_11_method_4_code (3 : Nat) (Option.some Jvm.ClassFile.FieldType.boolean)).before args0 about1 = true := code_word (m := ⟨8, 1⟩) (meth := k8m1) (c := k8c1) (by decide +kernel) rfl rfl rfl (by decide +kernel)
set_option maxRecDepth 65536 in
theorem w_c8 : (Jvm.Cond.code ({ cls := "java/lang/String", name := "equals", desc := "(Ljava/lang/Object;)Z" } : Jvm.MethodName) jdk_42_method_66_code (3 : Nat) (Option.some Jvm.ClassFile.FieldType.boolean)).before args0 about1 = true := code_word (m := ⟨7, 2⟩) (meth := k7m2) (c := k7c2) (by decide +kernel) rfl rfl rfl (by decide +kernel)
set_option maxRecDepth 65536 in
theorem w_c9 : (Jvm.Cond.code ({ cls := "java/lang/StringUTF16", name := "compress", desc := "([CII)[B" } : Jvm.MethodName) jdk_52_method_16_code (6 : Nat) (Option.some (Jvm.ClassFile.FieldType.array Jvm.ClassFile.FieldType.byte))).before args0 about1 = true := code_word (m := ⟨10, 7⟩) (meth := k10m7) (c := k10c7) (by decide +kernel) rfl rfl rfl (by decide +kernel)
set_option maxRecDepth 65536 in
theorem w_c10 : (Jvm.Cond.code ({ cls := "java/lang/StringUTF16", name := "compress", desc := "([CI[BII)I" } : Jvm.MethodName) jdk_52_method_21_code (7 : Nat) (Option.some Jvm.ClassFile.FieldType.int)).before args0 about1 = true := code_word (m := ⟨10, 8⟩) (meth := k10m8) (c := k10c8) (by decide +kernel) rfl rfl rfl (by decide +kernel)
set_option maxRecDepth 65536 in
theorem w_c11 : (Jvm.Cond.code ({ cls := "java/lang/StringUTF16", name := "coderFromArrayLen", desc := "([BI)B" } : Jvm.MethodName) jdk_52_method_15_code (2 : Nat) (Option.some Jvm.ClassFile.FieldType.byte)).before args0 about1 = true := code_word (m := ⟨10, 6⟩) (meth := k10m6) (c := k10c6) (by decide +kernel) rfl rfl rfl (by decide +kernel)
set_option maxRecDepth 65536 in
theorem w_c12 : (Jvm.Cond.code ({ cls := "java/lang/StringUTF16", name := "toBytes", desc := "([CII)[B" } : Jvm.MethodName) jdk_52_method_14_code (5 : Nat) (Option.some (Jvm.ClassFile.FieldType.array Jvm.ClassFile.FieldType.byte))).before args0 about1 = true := code_word (m := ⟨10, 5⟩) (meth := k10m5) (c := k10c5) (by decide +kernel) rfl rfl rfl (by decide +kernel)
set_option maxRecDepth 65536 in
theorem w_c13 : (Jvm.Cond.code ({ cls := "java/lang/StringUTF16", name := "newBytesFor", desc := "(I)[B" } : Jvm.MethodName) jdk_52_method_2_code (1 : Nat) (Option.some (Jvm.ClassFile.FieldType.array Jvm.ClassFile.FieldType.byte))).before args0 about1 = true := code_word (m := ⟨10, 1⟩) (meth := k10m1) (c := k10c1) (by decide +kernel) rfl rfl rfl (by decide +kernel)
set_option maxRecDepth 65536 in
theorem w_c14 : (Jvm.Cond.code ({ cls := "java/lang/StringUTF16", name := "newBytesLength", desc := "(I)I" } : Jvm.MethodName) jdk_52_method_3_code (1 : Nat) (Option.some Jvm.ClassFile.FieldType.int)).before args0 about1 = true := code_word (m := ⟨10, 2⟩) (meth := k10m2) (c := k10c2) (by decide +kernel) rfl rfl rfl (by decide +kernel)
set_option maxRecDepth 65536 in
theorem w_c15 : (Jvm.Cond.code ({ cls := "java/lang/StringUTF16", name := "putChar", desc := "([BII)V" } : Jvm.MethodName) jdk_52_method_4_code (3 : Nat) (Option.none : Option Jvm.ClassFile.FieldType)).before args0 about1 = true := code_word (m := ⟨10, 3⟩) (meth := k10m3) (c := k10c3) (by decide +kernel) rfl rfl rfl (by decide +kernel)
set_option maxRecDepth 65536 in
theorem w_c16 : (Jvm.Cond.code ({ cls := "java/lang/StringUTF16", name := "getChar", desc := "([BI)C" } : Jvm.MethodName) jdk_52_method_5_code (2 : Nat) (Option.some Jvm.ClassFile.FieldType.char)).before args0 about1 = true := code_word (m := ⟨10, 4⟩) (meth := k10m4) (c := k10c4) (by decide +kernel) rfl rfl rfl (by decide +kernel)
set_option maxRecDepth 65536 in
theorem w_c17 : (Jvm.Cond.code ({ cls := "java/lang/StringLatin1", name := "equals", desc := "([B[B)Z" } : Jvm.MethodName) jdk_43_method_13_code (3 : Nat) (Option.some Jvm.ClassFile.FieldType.boolean)).before args0 about1 = true := code_word (m := ⟨11, 1⟩) (meth := k11m1) (c := k11c1) (by decide +kernel) rfl rfl rfl (by decide +kernel)
def codes1 : List Jvm.Cond := [Jvm.Cond.code x code maxLocals ret, Jvm.Cond.code ({ cls := "com/example/frozen_stream/frozenstream/repository/ContributionOrderEqualsPinLaw", name := "mk", desc := "(ICC)Ljava/lang/String;" } : Jvm.MethodName) method_2_code (3 : Nat) (Option.some (Jvm.ClassFile.FieldType.object "java/lang/String")), Jvm.Cond.code ({ cls := "java/lang/String", name := "<init>", desc := "([C)V" } : Jvm.MethodName) jdk_42_method_3_code (2 : Nat) (Option.none : Option Jvm.ClassFile.FieldType), Jvm.Cond.code ({ cls := "java/lang/String", name := "<init>", desc := "([CIILjava/lang/Void;)V" } : Jvm.MethodName) jdk_42_method_149_code (6 : Nat) (Option.none : Option Jvm.ClassFile.FieldType), Jvm.Cond.code ({ cls := "java/lang/Object", name := "<init>", desc := "()V" } : Jvm.MethodName) object_method_1_code (1 : Nat) (Option.none : Option Jvm.ClassFile.FieldType), Jvm.Cond.code ({ cls := "com/example/frozen_stream/frozenstream/repository/ContributionOrder", name := "<init>", desc := "(Ljava/lang/String;)V" } : Jvm.MethodName) prog_11_method_1_code (2 : Nat) (Option.none : Option Jvm.ClassFile.FieldType), Jvm.Cond.code ({ cls := "java/util/Objects", name := "requireNonNull", desc := "(Ljava/lang/Object;Ljava/lang/String;)Ljava/lang/Object;" } : Jvm.MethodName) jdk_31_method_11_code (2 : Nat) (Option.some (Jvm.ClassFile.FieldType.object "java/lang/Object")), Jvm.Cond.code ({ cls := "com/example/frozen_stream/frozenstream/repository/ContributionOrder", name := "equals", desc := "(Ljava/lang/Object;)Z" } : Jvm.MethodName) prog_11_method_4_code (3 : Nat) (Option.some Jvm.ClassFile.FieldType.boolean), Jvm.Cond.code ({ cls := "java/lang/String", name := "equals", desc := "(Ljava/lang/Object;)Z" } : Jvm.MethodName) jdk_42_method_66_code (3 : Nat) (Option.some Jvm.ClassFile.FieldType.boolean), Jvm.Cond.code ({ cls := "java/lang/StringUTF16", name := "compress", desc := "([CII)[B" } : Jvm.MethodName) jdk_52_method_16_code (6 : Nat) (Option.some (Jvm.ClassFile.FieldType.array Jvm.ClassFile.FieldType.byte)), Jvm.Cond.code ({ cls := "java/lang/StringUTF16", name := "compress", desc := "([CI[BII)I" } : Jvm.MethodName) jdk_52_method_21_code (7 : Nat) (Option.some Jvm.ClassFile.FieldType.int), Jvm.Cond.code ({ cls := "java/lang/StringUTF16", name := "coderFromArrayLen", desc := "([BI)B" } : Jvm.MethodName) jdk_52_method_15_code (2 : Nat) (Option.some Jvm.ClassFile.FieldType.byte), Jvm.Cond.code ({ cls := "java/lang/StringUTF16", name := "toBytes", desc := "([CII)[B" } : Jvm.MethodName) jdk_52_method_14_code (5 : Nat) (Option.some (Jvm.ClassFile.FieldType.array Jvm.ClassFile.FieldType.byte)), Jvm.Cond.code ({ cls := "java/lang/StringUTF16", name := "newBytesFor", desc := "(I)[B" } : Jvm.MethodName) jdk_52_method_2_code (1 : Nat) (Option.some (Jvm.ClassFile.FieldType.array Jvm.ClassFile.FieldType.byte)), Jvm.Cond.code ({ cls := "java/lang/StringUTF16", name := "newBytesLength", desc := "(I)I" } : Jvm.MethodName) jdk_52_method_3_code (1 : Nat) (Option.some Jvm.ClassFile.FieldType.int), Jvm.Cond.code ({ cls := "java/lang/StringUTF16", name := "putChar", desc := "([BII)V" } : Jvm.MethodName) jdk_52_method_4_code (3 : Nat) (Option.none : Option Jvm.ClassFile.FieldType), Jvm.Cond.code ({ cls := "java/lang/StringUTF16", name := "getChar", desc := "([BI)C" } : Jvm.MethodName) jdk_52_method_5_code (2 : Nat) (Option.some Jvm.ClassFile.FieldType.char), Jvm.Cond.code ({ cls := "java/lang/StringLatin1", name := "equals", desc := "([B[B)Z" } : Jvm.MethodName) jdk_43_method_13_code (3 : Nat) (Option.some Jvm.ClassFile.FieldType.boolean)]
set_option maxRecDepth 65536 in
theorem codes_eq : words1.filter isCode = codes1 := rfl
theorem w_codes : ∀ c ∈ words1.filter isCode, c.before args0 about1 = true := by
  rw [codes_eq]
  intro c hc
  simp only [codes1, List.mem_cons, List.not_mem_nil, or_false] at hc
  rcases hc with rfl | rfl | rfl | rfl | rfl | rfl | rfl | rfl | rfl | rfl | rfl | rfl | rfl | rfl | rfl | rfl | rfl | rfl
  · exact w_c0
  · exact w_c1
  · exact w_c2
  · exact w_c3
  · exact w_c4
  · exact w_c5
  · exact w_c6
  · exact w_c7
  · exact w_c8
  · exact w_c9
  · exact w_c10
  · exact w_c11
  · exact w_c12
  · exact w_c13
  · exact w_c14
  · exact w_c15
  · exact w_c16
  · exact w_c17
set_option maxRecDepth 65536 in
theorem w_t1 : (words1.take 24).all (fun c => isCode c || c.before args0 about1) = true := by decide +kernel
set_option maxRecDepth 65536 in
theorem w_t2 : ((words1.drop 24).take 24).all (fun c => isCode c || c.before args0 about1) = true := by decide +kernel
set_option maxRecDepth 65536 in
theorem w_t3 : (((words1.drop 24).drop 24).take 24).all (fun c => isCode c || c.before args0 about1) = true := by decide +kernel
set_option maxRecDepth 65536 in
theorem w_t4 : (((words1.drop 24).drop 24).drop 24).all (fun c => isCode c || c.before args0 about1) = true := by decide +kernel
theorem w_tables : (allAtoms (Jvm.Cond.code x code maxLocals ret :: tables_1)).before args0 about1 = true := by
  rw [allAtoms_all]
  show words1.all (fun c => c.before args0 about1) = true
  refine all_split ?_ w_codes
  rw [← List.take_append_drop 24 words1, List.all_append, w_t1, ← List.take_append_drop 24 (words1.drop 24), List.all_append, w_t2, ← List.take_append_drop 24 ((words1.drop 24).drop 24), List.all_append, w_t3, w_t4]
  rfl
set_option maxRecDepth 65536 in
theorem w_rest : rest_1_c.before args0 about1 = true := by decide +kernel
set_option maxRecDepth 65536 in
theorem w_case : (Jvm.Cond.and given_1 narrow_1).before args0 about1 = true := by decide +kernel
set_option maxRecDepth 65536 in
theorem w_consts : constsHeld consts_1 about1 := Jvm.Lit.constsHeldB_iff.mp (by decide +kernel)
theorem w_applies : (headSpec (Jvm.Cond.code x code maxLocals ret :: tables_1) room_1).applies x e0.platform about1 = true :=
  (Spec.applies_iff w_frames).mpr ⟨w_running, w_runnable, w_alone, w_named, w_hears, w_ripe, w_room, w_tables⟩
theorem atStart : AtStart classFile x code maxLocals ret World_1 tables_1 room_1 Calls_1 rest_1 Pre_1 launch0 p0 e0 about1 theMethod args0 below0 :=
  ⟨lists_1, trivial, launch0.admits_env _ _ _, launch0.least_env, fairChoices_fair.cas, fairChoices_fair.clock, w_frames, w_args, w_heap, w_applies, ⟨w_consts, trivial⟩, w_rest, w_case⟩
end start1
theorem witness_1 : WitnessClaimed_1 := ⟨start1.p0, start1.e0, start1.about1, start1.theMethod, start1.args0, start1.below0, start1.atStart⟩
end Jvm.Pilot.@@N@@
