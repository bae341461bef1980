import JvmDerived
import JvmDerived.Pilot.@@N@@Statement
import JvmDerived.Pilot.@@N@@Code
set_option linter.unusedVariables false
set_option linter.unusedSimpArgs false
@@BLOCK:NumsL.lean.txt@@
namespace Jvm.RoadKit
open Sem ClassFile Op Lib Jvm.Stand Jvm.Free Jvm.LawKit
section New
variable {p : Program} {l : Launch} {e : Env} {R : Room} {s : State} {m : MethodId} {args : Array Value} {below : List Frame} {meth : Method} {c : Code} {T : State} {locs : List Loc} {cells slots : Nat}
theorem retI (X : Stand p l e R s m args below meth c T locs cells slots) (hx : p.tables.exec = Jvm.exec) {pc : Nat} {Ls : Array Slot} {z : Int32} {rest : List Value} (hret : meth.sig.returnType = some .int) (hd : decode c.code pc = .ok (.ireturn, 1)) {fs : List Frame}
    (hl : ∀ (f : JFrame) (acts : List Action), f.method = m → f.locked = none → f.entered = [] → (doReturn e (T.setTop f) acts (some (.int z))).1 = T.setFrames fs) : Steps p.tables e below (T.setTop (mkF m pc Ls (.int z :: rest))) (T.setFrames fs) := by
  have hm' : T.vm.method? m = some meth := X.method'
  have hn : narrow .int (.int z) = .int z := rfl
  show Steps p.tables e below (T.setTop { method := m, pc := pc, locals := Ls, stack := _ :: rest, locked := none }) _
  jvm_step X.here [X.here.top, hx, hd, hm', hret, hn]
  first | (intro acts; rw [hl _ acts rfl rfl rfl]) | rw [hl _ _ rfl rfl rfl]
  exact Steps.refl _
end New
end Jvm.RoadKit
namespace Jvm.OwnRuns
open Jvm Sem ClassFile Op Lib Jvm.Stand Jvm.Free Jvm.LawKit Jvm.RoadKit
/-- from the state T the invocation comes to its end, and there Φ holds -/
def Runs (tb : Tables) (e : Env) (below : List Frame) (Φ : Outcome → State → Prop) (T : State) : Prop := ∃ s₂ o, Steps tb e below T s₂ ∧ s₂.status = .running ∧ Ended s₂ below o ∧ Φ o s₂
abbrev Phi (s : State) (Q : Option Value → Heap → List Loc → Prop) (k n : Nat) (o : Outcome) (U' : State) : Prop := ∃ v L, o = .returned v ∧ Q v U'.heap L ∧ FrameEnd s o U' L k n
theorem Runs.st {tb : Tables} {e : Env} {below : List Frame} {Φ : Outcome → State → Prop} {T T' : State} (h : ∀ t, Steps tb e below T' t → Steps tb e below T t) (r : Runs tb e below Φ T') : Runs tb e below Φ T := by
  obtain ⟨a, o, h1, h2⟩ := r
  exact ⟨a, o, h a h1, h2⟩
theorem Runs.tr {tb : Tables} {e : Env} {below : List Frame} {Φ : Outcome → State → Prop} {T T' : State} (h : Steps tb e below T T') (r : Runs tb e below Φ T') : Runs tb e below Φ T := Runs.st (fun _ k => h.trans k) r
section Laws
variable {p : Program} {l : Launch} {e : Env} {R : Room} {s : State} {m : MethodId} {args : Array Value} {below : List Frame} {meth : Method} {c : Code} {T : State} {locs : List Loc} {cells slots : Nat}
theorem Runs.ret (X : Stand p l e R s m args below meth c T locs cells slots) (hlk : meth.locks = false) {v : Option Value} (hv : meth.sig.returnType = none → v = none) {Q : Option Value → Heap → List Loc → Prop} {k n : Nat} (hk : cells ≤ k) (hn : slots ≤ n) (hQ : Q v T.heap locs) {T0 : State}
    (hst : ∀ fs : List Frame, (∀ (f : JFrame) (acts : List Action), f.method = m → f.locked = none → f.entered = [] → (doReturn e (T.setTop f) acts v).1 = T.setFrames fs) → Steps p.tables e below T0 (T.setFrames fs)) : Runs p.tables e below (Phi s Q k n) T0 := by
  obtain ⟨fs, hr, hrun, hended, hW, hsame⟩ := X.leave hv hlk
  exact ⟨_, _, hst fs hr, hrun, hended, _, _, rfl, hQ, ⟨_, rfl⟩, hW, hsame.mono hk hn⟩
theorem wider (X : Stand p l e R s m args below meth c T locs cells slots) {c' s' : Nat} (hc : cells ≤ c') (hs : slots ≤ s') : Stand p l e R s m args below meth c T locs c' s' := { X with same := X.same.mono hc hs }
abbrev PhiW (s : State) (Q : Option Value → Heap → List Loc → Prop) (k n : Nat) (o : Outcome) (U' : State) : Prop := ∃ v L, o = .returned v ∧ Q v U'.heap L ∧ ReturnedEndW s o U' L k n
theorem Runs.retW {vm₁ : Vm} (X : Stand p l e R (s.setVm vm₁) m args below meth c T locs cells slots) {n1 : Nat} (hS : s.Since vm₁ n1) (hk1 : n1 ≤ T.heap.size) (hlk : meth.locks = false) {v : Option Value} (hv : meth.sig.returnType = none → v = none) {Q : Option Value → Heap → List Loc → Prop} {k n : Nat} (hk : cells ≤ k) (hn : slots ≤ n) (hQ : Q v T.heap locs) {T0 : State}
    (hst : ∀ fs : List Frame, (∀ (f : JFrame) (acts : List Action), f.method = m → f.locked = none → f.entered = [] → (doReturn e (T.setTop f) acts v).1 = T.setFrames fs) → Steps p.tables e below T0 (T.setFrames fs)) : Runs p.tables e below (PhiW s Q k n) T0 := by
  obtain ⟨fs, hr, hrun, hended, hW⟩ := (wider X hk hn).leaveW hS hk1 hv hlk
  exact ⟨_, _, hst fs hr, hrun, hended, _, _, rfl, hQ, hW⟩
abbrev PhiH (Z : State) (EL : List (String × Nat)) (s : State) (Q : Option Value → Heap → List Loc → Prop) (k n : Nat) (o : Outcome) (U' : State) : Prop := ∃ v L, o = .returned v ∧ Q v U'.heap L ∧ CHr Z EL s.vm s.heap U'.vm U'.heap ∧ ReturnedEndW s o U' L k n
theorem Runs.retH {Z : State} {EL : List (String × Nat)} {vm₁ : Vm} (X : Stand p l e R (s.setVm vm₁) m args below meth c T locs cells slots) {n1 : Nat} (hS : s.Since vm₁ n1) (hk1 : n1 ≤ T.heap.size) (hlk : meth.locks = false) {v : Option Value} (hv : meth.sig.returnType = none → v = none) {Q : Option Value → Heap → List Loc → Prop} {k n : Nat} (hk : cells ≤ k) (hn : slots ≤ n) (hQ : Q v T.heap locs) (hC : CHr Z EL s.vm s.heap T.vm T.heap) {T0 : State}
    (hst : ∀ fs : List Frame, (∀ (f : JFrame) (acts : List Action), f.method = m → f.locked = none → f.entered = [] → (doReturn e (T.setTop f) acts v).1 = T.setFrames fs) → Steps p.tables e below T0 (T.setFrames fs)) : Runs p.tables e below (PhiH Z EL s Q k n) T0 := by
  obtain ⟨fs, hr, hrun, hended, hW⟩ := (wider X hk hn).leaveW hS hk1 hv hlk
  exact ⟨_, _, hst fs hr, hrun, hended, _, _, rfl, hQ, hC, hW⟩
end Laws
section Facts
variable {Z : State} {h h' : Heap} {a : Addr} {C n d : String} {v : Value} {bo : Bool} {ws : List Addr}
theorem Ins_keep (F : Ins Z h a C bo) (K : Keep h h' ws) : Ins Z h' a C bo := by
  obtain ⟨cell, cT, h1, h2, h3⟩ := F
  obtain ⟨c', e1, e2, e3, -⟩ := K.2.2 _ _ h1
  exact ⟨c', cT, e1, h2, by rw [e2, e3]; exact h3⟩
theorem narrow_ref {t : FieldType} {v : Value} (h : v.isRef = true) : narrow t v = v := by rcases ref_cases h with rfl | ⟨_, rfl⟩ <;> cases t <;> rfl
end Facts
end Jvm.OwnRuns
namespace Jvm.Pilot.@@N@@
open Jvm Jvm.ClassFile Sem Op Lib Jvm.Free Jvm.Stand Jvm.LawKit Jvm.RoadKit Bundle Jvm.OwnRuns Jvm.Pilot.@@N@@.Jvm.D
def own_step (st : List Int32 × Int32) (c : Int32) : List Int32 × Int32 := if ¬ st.2 = 0 ∧ c = 32 then st else (st.1 ++ [c], if c = 10 then 1 else 0)
theorem own_skip {ks : List Int32} {f c : Int32} (h : ¬ f = 0) (q : c = 32) : own_step (ks, f) c = (ks, f) := if_pos ⟨h, q⟩
theorem own_put {ks : List Int32} {f c : Int32} (h : ¬ (¬ f = 0 ∧ c = 32)) : own_step (ks, f) c = (ks ++ [c], if c = 10 then 1 else 0) := if_neg h
theorem own_put1 {ks : List Int32} {f c : Int32} (h : ¬ (¬ f = 0 ∧ c = 32)) (q : c = 10) : own_step (ks, f) c = (ks ++ [c], 1) := by rw [own_put h, if_pos q]
theorem own_put0 {ks : List Int32} {f c : Int32} (h : ¬ (¬ f = 0 ∧ c = 32)) (q : ¬ c = 10) : own_step (ks, f) c = (ks ++ [c], 0) := by rw [own_put h, if_neg q]
theorem own_01 (st : List Int32 × Int32) (c : Int32) (h : st.2 = 0 ∨ st.2 = 1) : (own_step st c).2 = 0 ∨ (own_step st c).2 = 1 := by
  by_cases q : ¬ st.2 = 0 ∧ c = 32
  · rw [own_step, if_pos q]; exact h
  · rw [own_step, if_neg q]
    by_cases r : c = 10
    · exact Or.inr (if_pos r)
    · exact Or.inl (if_neg r)
theorem own_slen (st : List Int32 × Int32) (c : Int32) : (own_step st c).1.length ≤ st.1.length + 1 := by
  by_cases q : ¬ st.2 = 0 ∧ c = 32
  · rw [own_step, if_pos q]; omega
  · rw [own_step, if_neg q]; simp
theorem own_flen (l : List Int32) : ∀ st : List Int32 × Int32, (l.foldl own_step st).1.length ≤ st.1.length + l.length := by
  induction l with
  | nil => intro st; exact Nat.le_refl _
  | cons c l ih =>
    intro st
    have a := ih (own_step st c)
    have b := own_slen st c
    simp only [List.foldl_cons, List.length_cons]
    omega
theorem own_seg (bs : List Int32) (i k : Nat) (h : i < bs.length) : (bs.drop i).take (k + 1) = bs.getD i 0 :: (bs.drop (i + 1)).take k := by
  rw [List.drop_eq_getElem_cons h, List.take_succ_cons]
  simp [List.getD, h]
theorem own_pend (bs : List Int32) (fr i : Nat) (h : fr ≤ i) (hi : i < bs.length) : (bs.drop fr).take (i + 1 - fr) = (bs.drop fr).take (i - fr) ++ [bs.getD i 0] := by
  have e : i + 1 - fr = (i - fr) + 1 := by omega
  have l : i - fr < (bs.drop fr).length := by rw [List.length_drop]; omega
  have r : fr + (i - fr) = i := by omega
  rw [e, List.take_succ_eq_append_getElem l]
  simp [List.getD, hi, r]
theorem own_us (bs : List Int32) (i m : Nat) (h : i + m ≤ bs.length) : ((bs.drop i).take m).map Value.int = (List.range m).map fun j => (bs.map Value.int).getD (i + j) (.int (0 : Int32)) := by
  apply List.ext_getElem
  · simp; omega
  · intro j h1 h2
    have hj : i + j < bs.length := by simp at h1; omega
    simp [List.getD, hj]
theorem own_cp (ks us : List Int32) : ((ks ++ List.replicate us.length (0 : Int32)).map Value.int).take ks.length ++ us.map Value.int ++ ((ks ++ List.replicate us.length (0 : Int32)).map Value.int).drop (ks.length + us.length) = (ks ++ us).map Value.int := by
  rw [← List.map_take, ← List.map_drop, List.take_left', List.drop_eq_nil_of_le]
  · simp
  · simp
  · rfl
theorem own_nat {x : Int32} {i : Nat} (h : x.toInt = i) : x.toNatClampNeg = i := by simp only [Int32.toNatClampNeg, h]; rfl
theorem own_nn {x : Int32} {i : Nat} (h : x.toInt = i) : ¬ x < 0 := fun q => by have q' := Int32.lt_iff_toInt_lt.mp q; change _ < (0 : Int) at q'; omega
theorem own_add {x y : Int32} {i j : Nat} (h : x.toInt = i) (q : y.toInt = j) (l : i + j < 2147483648) : (x + y).toInt = ((i + j : Nat) : Int) := by
  have a := c_iadd x y
  have b := rng32 (x + y)
  omega
theorem own_sub {x y : Int32} {i j : Nat} (h : x.toInt = i) (q : y.toInt = j) (l : j ≤ i) : (x - y).toInt = ((i - j : Nat) : Int) := by
  have a := c_isub x y
  have b := rng32 (x - y)
  have c := rng32 x
  omega
theorem own_byte (y : Int32) : nar .byte (nar .byte y) = nar .byte y := by
  have a := c_i2b y
  have b := c_i2b y.toInt8.toInt32
  simp only [nar]
  apply Int32.toInt_inj.mp
  omega
theorem own_selp {Z : State} {a0 : Array Value} {y : MethodName} {n : Nat} (w : (Cond.instantiable y.cls n).before a0 Z = true) (wi : (Cond.instanceMethod y).before a0 Z = true) (wp : (Cond.privateMethod y).before a0 Z = true) (hy : y.cls ≠ "java/lang/invoke/MethodHandle" ∧ y.cls ≠ "java/lang/invoke/VarHandle") : (Cond.selects y.cls y y).before a0 Z = true := by
  obtain ⟨t, kt, t1, t2, t3, t4, -⟩ := Cond.instantiable_spec w
  simp only [Bool.or_eq_false_iff] at t4
  exact selects_self_of_private t1 t2 t4.1 (Cond.privateMethod_at wp) wi hy
theorem own_padz (ks : List Int32) (n : Nat) : ∀ i, ((ks ++ List.replicate n (0 : Int32)).map Value.int).getD i (.int (0 : Int32)) = (ks.map Value.int).getD i (.int (0 : Int32)) := by
  intro i
  rw [List.map_append, List.map_replicate]
  exact pad_rep _ _ _ i
theorem own_getD (xs : List Int32) (i : Nat) (iv : Int32) (h : iv.toInt = i) : (xs.map Value.int).getD iv.toNatClampNeg (.int (0 : Int32)) = .int (xs.getD i 0) := by
  have e : iv.toNatClampNeg = i := by simp only [Int32.toNatClampNeg, h]; rfl
  rw [e]
  simp only [List.getD, List.getElem?_map]
  cases xs[i]? <;> rfl
theorem own_setz (xs : List Int32) (c : Int32) : ((xs ++ List.replicate 1 (0 : Int32)).map Value.int).set xs.length (.int c) = (xs ++ [c]).map Value.int := by
  rw [List.map_append, List.set_append_right _ _ (by simp), List.map_append]
  simp
theorem own_seti (cs : List Int32) (i : Nat) (c : Int32) : (cs.map Value.int).set i (.int c) = (cs.set i c).map Value.int := (List.map_set ..).symm
theorem own_half {st f : Int32} {n : Nat} (hf : f = 0 ∨ f = 1) (h : st.toInt = 2 * (n : Int) + f.toInt) : (st >>> ((1 : Int32) &&& 31)).toInt = (n : Int) := by
  have a1 := c_ishr st (1 : Int32) 1 (by decide)
  rcases hf with rfl | rfl
  · rw [show (0 : Int32).toInt = 0 from rfl] at h; omega
  · rw [show (1 : Int32).toInt = 1 from rfl] at h; omega
theorem own_s8 {f : Int32} (h : f = 0 ∨ f = 1) : f.toInt = 0 ∧ f = 0 ∨ f.toInt = 1 ∧ f = 1 := by rcases h with rfl | rfl; exact Or.inl ⟨rfl, rfl⟩; exact Or.inr ⟨rfl, rfl⟩
def Q_rmDraw (Z : State) (av : Int64) (iv : Int32)  (h0 : Heap) (n0 : Nat) : Option Value → Heap → List Loc → Prop := (fun v h L => ∃ cc, v = some (.int cc) ∧ Fr n0 L ∧ h = h0 ∧ nar .byte cc = cc)
theorem pn_com_example_frozen_stream_frozenstream_rdf_DocumentUnindentedPinLaw : plainName "com/example/frozen_stream/frozenstream/rdf/DocumentUnindentedPinLaw" = true := by first | (simp [plainName, overriddenIn]; done) | decide +kernel
theorem ef_method_2_JI (m : MethodId) (x0 : Int64) (x1 : Int32)  : entryFrame m #[(.long x0), (.int x1)] 5 = mkF m 0 #[.val (.long x0), .second, .val (.int x1), .unset, .unset] [] := by first | (simp [entryFrame, mkF, argsToLocals, Value.category]; done) | rfl
theorem d_method_2_0 : decode method_2_code 0 = .ok (.lload_n 0, 1) := by decide +kernel
theorem d_method_2_1 : decode method_2_code 1 = .ok (.bipush 10, 2) := by decide +kernel
theorem d_method_2_3 : decode method_2_code 3 = .ok (.iload_n 2, 1) := by decide +kernel
theorem d_method_2_4 : decode method_2_code 4 = .ok (.imul, 1) := by decide +kernel
theorem d_method_2_5 : decode method_2_code 5 = .ok (.lushr, 1) := by decide +kernel
theorem d_method_2_6 : decode method_2_code 6 = .ok (.l2i, 1) := by decide +kernel
theorem d_method_2_7 : decode method_2_code 7 = .ok (.sipush 1023, 3) := by decide +kernel
theorem d_method_2_10 : decode method_2_code 10 = .ok (.iand, 1) := by decide +kernel
theorem d_method_2_11 : decode method_2_code 11 = .ok (.istore_n 3, 1) := by decide +kernel
theorem d_method_2_12 : decode method_2_code 12 = .ok (.iload_n 3, 1) := by decide +kernel
theorem d_method_2_13 : decode method_2_code 13 = .ok (.iconst 3, 1) := by decide +kernel
theorem d_method_2_14 : decode method_2_code 14 = .ok (.iand, 1) := by decide +kernel
theorem d_method_2_15 : decode method_2_code 15 = .ok (.istore 4, 2) := by decide +kernel
theorem d_method_2_17 : decode method_2_code 17 = .ok (.iload 4, 2) := by decide +kernel
theorem d_method_2_19 : decode method_2_code 19 = .ok (.ifCond .ne 6, 3) := by decide +kernel
theorem d_method_2_22 : decode method_2_code 22 = .ok (.bipush 32, 2) := by decide +kernel
theorem d_method_2_24 : decode method_2_code 24 = .ok (.ireturn, 1) := by decide +kernel
theorem d_method_2_25 : decode method_2_code 25 = .ok (.iload 4, 2) := by decide +kernel
theorem d_method_2_27 : decode method_2_code 27 = .ok (.iconst 1, 1) := by decide +kernel
theorem d_method_2_28 : decode method_2_code 28 = .ok (.if_icmp .ne 6, 3) := by decide +kernel
theorem d_method_2_31 : decode method_2_code 31 = .ok (.bipush 10, 2) := by decide +kernel
theorem d_method_2_33 : decode method_2_code 33 = .ok (.ireturn, 1) := by decide +kernel
theorem d_method_2_34 : decode method_2_code 34 = .ok (.iload_n 3, 1) := by decide +kernel
theorem d_method_2_35 : decode method_2_code 35 = .ok (.iconst 2, 1) := by decide +kernel
theorem d_method_2_36 : decode method_2_code 36 = .ok (.ishr, 1) := by decide +kernel
theorem d_method_2_37 : decode method_2_code 37 = .ok (.i2b, 1) := by decide +kernel
theorem d_method_2_38 : decode method_2_code 38 = .ok (.ireturn, 1) := by decide +kernel
set_option maxRecDepth 65536 in
set_option maxHeartbeats 40000000 in
theorem rmDraw (l : Launch) (Z : State) (a0 : Array Value) (hw : ∀ d ∈ tables_1, d.before a0 Z = true) (ws : List Jvm.Cond) (av : Int64) (iv : Int32)  (h0 : Heap) (n0 : Nat) (Z0 : n0 ≤ h0.size)  :
    MetFree l (⟨"com/example/frozen_stream/frozenstream/rdf/DocumentUnindentedPinLaw", "draw", "(JI)B"⟩ : MethodName) (head1 (Jvm.Cond.code (⟨"com/example/frozen_stream/frozenstream/rdf/DocumentUnindentedPinLaw", "draw", "(JI)B"⟩ : MethodName) method_2_code 5 (some .byte) :: ws) ({ frames := 0, cells := 0, slots := 0, locals := 0 } : Room)) (fun ar_ U => ar_ = #[(.long av), (.int iv)] ∧ Z.Warmed39 U.vm ∧ U.heap = h0) (fun _ _ _ _ _ => True) (fun _ U o U' => Phi U (Q_rmDraw Z av iv h0 n0) ({ frames := 0, cells := 0, slots := 0, locals := 0 } : Room).cells ({ frames := 0, cells := 0, slots := 0, locals := 0 } : Room).slots o U') := by
  refine MetFree.of_bodySF (plainFor_of_name pn_com_example_frozen_stream_frozenstream_rdf_DocumentUnindentedPinLaw) hisR ?_
  intro p e s m args below meth c s₁ Bd hml0 hP hK
  obtain ⟨rfl, hZ, hh⟩ := hP
  have hx := Bd.exec
  have hby := Bd.bytes
  have hlk := Bd.notSynchronized
  have hml : c.maxLocals = 5 := hml0
  have hown : s.vm.findClass "com/example/frozen_stream/frozenstream/rdf/DocumentUnindentedPinLaw" = some m.cls := findClass_of_methodNamed Bd.named
  have hown0 := hown
  have hnm := (name_of_methodNamed Bd.named Bd.method).1
  have hret := Bd.returns
  have X0 : Stand p l e ({ frames := 0, cells := 0, slots := 0, locals := 0 } : Room) s m #[(.long av), (.int iv)] below meth c s₁ [] 0 0 := Stand.of_body Bd
  have e0 : s₁.heap = h0 := by rw [← hh, Bd.state]; rfl
  have N0 := Fr.nil n0
  have sz := Z0
  have K := Keep.refl h0 []
  show Runs p.tables e below (Phi s (Q_rmDraw Z av iv h0 n0) ({ frames := 0, cells := 0, slots := 0, locals := 0 } : Room).cells ({ frames := 0, cells := 0, slots := 0, locals := 0 } : Room).slots) _
  refine Runs.st (fun t' k' => castTop (ef_method_2_JI m av iv ) k') ?_
  show Runs p.tables e below _ (s₁.setTop (mkF m 0 #[.val (.long av), .second, .val (.int iv), .unset, .unset] []))
  refine Runs.st (fun t' k' => XS.lloadN X0.here hx rfl (hb hby d_method_2_0) rfl k') ?_
  refine Runs.st (fun t' k' => XS.bipush X0.here hx rfl (hb hby d_method_2_1) k') ?_
  refine Runs.st (fun t' k' => XS.iloadN X0.here hx rfl (hb hby d_method_2_3) rfl k') ?_
  refine Runs.st (fun t' k' => XS.imul X0.here hx rfl (hb hby d_method_2_4) rfl k') ?_
  refine Runs.st (fun t' k' => XS.lushr X0.here hx rfl (hb hby d_method_2_5) rfl k') ?_
  show Runs p.tables e below _ (s₁.setTop (mkF m 6 #[.val (.long av), .second, .val (.int iv), .unset, .unset] [(.long ((av.toUInt64 >>> (((10 : Int32) * iv) &&& 0x3f).toInt64.toUInt64).toInt64))]))
  refine Runs.st (fun t' k' => XS.l2i X0.here hx rfl (hb hby d_method_2_6) rfl k') ?_
  refine Runs.st (fun t' k' => XS.sipush X0.here hx rfl (hb hby d_method_2_7) k') ?_
  refine Runs.st (fun t' k' => XS.iand X0.here hx rfl (hb hby d_method_2_10) rfl k') ?_
  refine Runs.st (fun t' k' => XS.istoreN X0.here hx rfl (hb hby d_method_2_11) rfl (l' := #[.val (.long av), .second, .val (.int iv), .val (.int ((((av.toUInt64 >>> (((10 : Int32) * iv) &&& 0x3f).toInt64.toUInt64).toInt64).toInt32) &&& (1023 : Int32))), .unset]) rfl k') ?_
  refine Runs.st (fun t' k' => XS.iloadN X0.here hx rfl (hb hby d_method_2_12) rfl k') ?_
  show Runs p.tables e below _ (s₁.setTop (mkF m 13 #[.val (.long av), .second, .val (.int iv), .val (.int ((((av.toUInt64 >>> (((10 : Int32) * iv) &&& 0x3f).toInt64.toUInt64).toInt64).toInt32) &&& (1023 : Int32))), .unset] [(.int ((((av.toUInt64 >>> (((10 : Int32) * iv) &&& 0x3f).toInt64.toUInt64).toInt64).toInt32) &&& (1023 : Int32)))]))
  refine Runs.st (fun t' k' => XS.iconst X0.here hx rfl (hb hby d_method_2_13) k') ?_
  refine Runs.st (fun t' k' => XS.iand X0.here hx rfl (hb hby d_method_2_14) rfl k') ?_
  refine Runs.st (fun t' k' => XS.istore X0.here hx rfl (hb hby d_method_2_15) rfl (l' := #[.val (.long av), .second, .val (.int iv), .val (.int ((((av.toUInt64 >>> (((10 : Int32) * iv) &&& 0x3f).toInt64.toUInt64).toInt64).toInt32) &&& (1023 : Int32))), .val (.int (((((av.toUInt64 >>> (((10 : Int32) * iv) &&& 0x3f).toInt64.toUInt64).toInt64).toInt32) &&& (1023 : Int32)) &&& (3 : Int32)))]) rfl k') ?_
  refine Runs.st (fun t' k' => XS.iload X0.here hx rfl (hb hby d_method_2_17) rfl k') ?_
  by_cases c19 : (((((av.toUInt64 >>> (((10 : Int32) * iv) &&& 0x3f).toInt64.toUInt64).toInt64).toInt32) &&& (1023 : Int32)) &&& (3 : Int32)) = (0 : Int32)
  · skip
    refine Runs.st (fun t' k' => XS.ifNo X0.here hx rfl (hb hby d_method_2_19) rfl ((if0 _ _).trans (teq c19).2) k') ?_
    show Runs p.tables e below _ (s₁.setTop (mkF m 22 #[.val (.long av), .second, .val (.int iv), .val (.int ((((av.toUInt64 >>> (((10 : Int32) * iv) &&& 0x3f).toInt64.toUInt64).toInt64).toInt32) &&& (1023 : Int32))), .val (.int (((((av.toUInt64 >>> (((10 : Int32) * iv) &&& 0x3f).toInt64.toUInt64).toInt64).toInt32) &&& (1023 : Int32)) &&& (3 : Int32)))] []))
    refine Runs.st (fun t' k' => XS.bipush X0.here hx rfl (hb hby d_method_2_22) k') ?_
    refine Runs.ret X0 hlk (v := (some (.int (nar .byte (32 : Int32))))) (fun h => by rw [hret] at h; cases h) (by decide) (by decide) ?_ (fun fs hr => retN X0 hx (t := .byte) hret (by simp) (hb hby d_method_2_24) hr)
    try rw [e0]
    exact ⟨_, rfl, N0, rfl, own_byte _⟩
  · skip
    refine Runs.st (fun t' k' => XS.ifYes X0.here hx rfl (pc0 := 19) (pc' := 25) rfl (hb hby d_method_2_19) rfl ((if0 _ _).trans (feq c19).2) (by decide) (by decide) k') ?_
    show Runs p.tables e below _ (s₁.setTop (mkF m 25 #[.val (.long av), .second, .val (.int iv), .val (.int ((((av.toUInt64 >>> (((10 : Int32) * iv) &&& 0x3f).toInt64.toUInt64).toInt64).toInt32) &&& (1023 : Int32))), .val (.int (((((av.toUInt64 >>> (((10 : Int32) * iv) &&& 0x3f).toInt64.toUInt64).toInt64).toInt32) &&& (1023 : Int32)) &&& (3 : Int32)))] []))
    refine Runs.st (fun t' k' => XS.iload X0.here hx rfl (hb hby d_method_2_25) rfl k') ?_
    refine Runs.st (fun t' k' => XS.iconst X0.here hx rfl (hb hby d_method_2_27) k') ?_
    by_cases c28 : (((((av.toUInt64 >>> (((10 : Int32) * iv) &&& 0x3f).toInt64.toUInt64).toInt64).toInt32) &&& (1023 : Int32)) &&& (3 : Int32)) = (1 : Int32)
    · skip
      refine Runs.st (fun t' k' => XS.icmpNo X0.here hx rfl (hb hby d_method_2_28) rfl (teq c28).2 k') ?_
      show Runs p.tables e below _ (s₁.setTop (mkF m 31 #[.val (.long av), .second, .val (.int iv), .val (.int ((((av.toUInt64 >>> (((10 : Int32) * iv) &&& 0x3f).toInt64.toUInt64).toInt64).toInt32) &&& (1023 : Int32))), .val (.int (((((av.toUInt64 >>> (((10 : Int32) * iv) &&& 0x3f).toInt64.toUInt64).toInt64).toInt32) &&& (1023 : Int32)) &&& (3 : Int32)))] []))
      refine Runs.st (fun t' k' => XS.bipush X0.here hx rfl (hb hby d_method_2_31) k') ?_
      refine Runs.ret X0 hlk (v := (some (.int (nar .byte (10 : Int32))))) (fun h => by rw [hret] at h; cases h) (by decide) (by decide) ?_ (fun fs hr => retN X0 hx (t := .byte) hret (by simp) (hb hby d_method_2_33) hr)
      try rw [e0]
      exact ⟨_, rfl, N0, rfl, own_byte _⟩
    · skip
      refine Runs.st (fun t' k' => XS.icmpYes X0.here hx rfl (pc0 := 28) (pc' := 34) rfl (hb hby d_method_2_28) rfl (feq c28).2 (by decide) (by decide) k') ?_
      show Runs p.tables e below _ (s₁.setTop (mkF m 34 #[.val (.long av), .second, .val (.int iv), .val (.int ((((av.toUInt64 >>> (((10 : Int32) * iv) &&& 0x3f).toInt64.toUInt64).toInt64).toInt32) &&& (1023 : Int32))), .val (.int (((((av.toUInt64 >>> (((10 : Int32) * iv) &&& 0x3f).toInt64.toUInt64).toInt64).toInt32) &&& (1023 : Int32)) &&& (3 : Int32)))] []))
      refine Runs.st (fun t' k' => XS.iloadN X0.here hx rfl (hb hby d_method_2_34) rfl k') ?_
      refine Runs.st (fun t' k' => XS.iconst X0.here hx rfl (hb hby d_method_2_35) k') ?_
      refine Runs.st (fun t' k' => XS.ishr X0.here hx rfl (hb hby d_method_2_36) rfl k') ?_
      refine Runs.st (fun t' k' => XS.i2b X0.here hx rfl (hb hby d_method_2_37) rfl k') ?_
      refine Runs.ret X0 hlk (v := (some (.int (nar .byte ((((((av.toUInt64 >>> (((10 : Int32) * iv) &&& 0x3f).toInt64.toUInt64).toInt64).toInt32) &&& (1023 : Int32)) >>> ((2 : Int32) &&& 31)).toInt8.toInt32))))) (fun h => by rw [hret] at h; cases h) (by decide) (by decide) ?_ (fun fs hr => retN X0 hx (t := .byte) hret (by simp) (hb hby d_method_2_38) hr)
      try rw [e0]
      exact ⟨_, rfl, N0, rfl, own_byte _⟩
def Q_rmMinJ (Z : State) (x : Int64) (y : Int64)  (h0 : Heap) (n0 : Nat) : Option Value → Heap → List Loc → Prop := (fun v h L => v = some (.long x) ∧ Fr n0 L ∧ h = h0)
theorem ef_jdk_29_method_70_JJ (m : MethodId) (x0 : Int64) (x1 : Int64)  : entryFrame m #[(.long x0), (.long x1)] 4 = mkF m 0 #[.val (.long x0), .second, .val (.long x1), .second] [] := by first | (simp [entryFrame, mkF, argsToLocals, Value.category]; done) | rfl
theorem d_jdk_29_method_70_0 : decode jdk_29_method_70_code 0 = .ok (.lload_n 0, 1) := by decide +kernel
theorem d_jdk_29_method_70_1 : decode jdk_29_method_70_code 1 = .ok (.lload_n 2, 1) := by decide +kernel
theorem d_jdk_29_method_70_2 : decode jdk_29_method_70_code 2 = .ok (.lcmp, 1) := by decide +kernel
theorem d_jdk_29_method_70_3 : decode jdk_29_method_70_code 3 = .ok (.ifCond .gt 7, 3) := by decide +kernel
theorem d_jdk_29_method_70_6 : decode jdk_29_method_70_code 6 = .ok (.lload_n 0, 1) := by decide +kernel
theorem d_jdk_29_method_70_7 : decode jdk_29_method_70_code 7 = .ok (.goto 4, 3) := by decide +kernel
theorem d_jdk_29_method_70_11 : decode jdk_29_method_70_code 11 = .ok (.lreturn, 1) := by decide +kernel
set_option maxRecDepth 65536 in
set_option maxHeartbeats 40000000 in
theorem rmMinJ (l : Launch) (Z : State) (a0 : Array Value) (hw : ∀ d ∈ tables_1, d.before a0 Z = true) (ws : List Jvm.Cond) (x : Int64) (y : Int64)  (h0 : Heap) (n0 : Nat) (Z0 : n0 ≤ h0.size) (hxy : ¬ (y < x)) :
    MetFree l (⟨"java/lang/Math", "min", "(JJ)J"⟩ : MethodName) (head1 (Jvm.Cond.code (⟨"java/lang/Math", "min", "(JJ)J"⟩ : MethodName) jdk_29_method_70_code 4 (some .long) :: ws) ({ frames := 0, cells := 0, slots := 0, locals := 0 } : Room)) (fun ar_ U => ar_ = #[(.long x), (.long y)] ∧ Z.Warmed39 U.vm ∧ U.heap = h0) (fun _ _ _ _ _ => True) (fun _ U o U' => Phi U (Q_rmMinJ Z x y h0 n0) ({ frames := 0, cells := 0, slots := 0, locals := 0 } : Room).cells ({ frames := 0, cells := 0, slots := 0, locals := 0 } : Room).slots o U') := by
  refine MetFree.of_bodySF (Jvm.Free.JP.mathPlain rfl (by decide +kernel)) hisR ?_
  intro p e s m args below meth c s₁ Bd hml0 hP hK
  obtain ⟨rfl, hZ, hh⟩ := hP
  have hx := Bd.exec
  have hby := Bd.bytes
  have hlk := Bd.notSynchronized
  have hml : c.maxLocals = 4 := hml0
  have hown : s.vm.findClass "java/lang/Math" = some m.cls := findClass_of_methodNamed Bd.named
  have hown0 := hown
  have hnm := (name_of_methodNamed Bd.named Bd.method).1
  have hret := Bd.returns
  have X0 : Stand p l e ({ frames := 0, cells := 0, slots := 0, locals := 0 } : Room) s m #[(.long x), (.long y)] below meth c s₁ [] 0 0 := Stand.of_body Bd
  have e0 : s₁.heap = h0 := by rw [← hh, Bd.state]; rfl
  have N0 := Fr.nil n0
  have sz := Z0
  have K := Keep.refl h0 []
  show Runs p.tables e below (Phi s (Q_rmMinJ Z x y h0 n0) ({ frames := 0, cells := 0, slots := 0, locals := 0 } : Room).cells ({ frames := 0, cells := 0, slots := 0, locals := 0 } : Room).slots) _
  refine Runs.st (fun t' k' => castTop (ef_jdk_29_method_70_JJ m x y ) k') ?_
  show Runs p.tables e below _ (s₁.setTop (mkF m 0 #[.val (.long x), .second, .val (.long y), .second] []))
  refine Runs.st (fun t' k' => XS.lloadN X0.here hx rfl (hb hby d_jdk_29_method_70_0) rfl k') ?_
  refine Runs.st (fun t' k' => XS.lloadN X0.here hx rfl (hb hby d_jdk_29_method_70_1) rfl k') ?_
  refine Runs.st (fun t' k' => XS.lcmp X0.here hx rfl (hb hby d_jdk_29_method_70_2) rfl k') ?_
  refine Runs.st (fun t' k' => XS.ifNo X0.here hx rfl (hb hby d_jdk_29_method_70_3) rfl ((if0 _ _).trans (flt (fun q => hxy ((lw_gt _ _).mp q))).2.2.1) k') ?_
  show Runs p.tables e below _ (s₁.setTop (mkF m 6 #[.val (.long x), .second, .val (.long y), .second] []))
  refine Runs.st (fun t' k' => XS.lloadN X0.here hx rfl (hb hby d_jdk_29_method_70_6) rfl k') ?_
  refine Runs.st (fun t' k' => XS.goto X0.here hx rfl (pc0 := 7) (pc' := 11) rfl (hb hby d_jdk_29_method_70_7) (by decide) (by decide) k') ?_
  refine Runs.ret X0 hlk (v := (some (.long x))) (fun h => by rw [hret] at h; cases h) (by decide) (by decide) ?_ (fun fs hr => retOut X0 hx hret rfl (Or.inr (Or.inl ⟨rfl, rfl, _, rfl⟩)) (hb hby d_jdk_29_method_70_11) hr)
  try rw [e0]
  exact ⟨rfl, N0, rfl⟩
def Q_rmMinI (Z : State) (x : Int32) (y : Int32)  (h0 : Heap) (n0 : Nat) : Option Value → Heap → List Loc → Prop := (fun v h L => v = some (.int y) ∧ Fr n0 L ∧ h = h0)
theorem ef_jdk_29_method_69_II (m : MethodId) (x0 : Int32) (x1 : Int32)  : entryFrame m #[(.int x0), (.int x1)] 2 = mkF m 0 #[.val (.int x0), .val (.int x1)] [] := by first | (simp [entryFrame, mkF, argsToLocals, Value.category]; done) | rfl
theorem d_jdk_29_method_69_0 : decode jdk_29_method_69_code 0 = .ok (.iload_n 0, 1) := by decide +kernel
theorem d_jdk_29_method_69_1 : decode jdk_29_method_69_code 1 = .ok (.iload_n 1, 1) := by decide +kernel
theorem d_jdk_29_method_69_2 : decode jdk_29_method_69_code 2 = .ok (.if_icmp .gt 7, 3) := by decide +kernel
theorem d_jdk_29_method_69_9 : decode jdk_29_method_69_code 9 = .ok (.iload_n 1, 1) := by decide +kernel
theorem d_jdk_29_method_69_10 : decode jdk_29_method_69_code 10 = .ok (.ireturn, 1) := by decide +kernel
set_option maxRecDepth 65536 in
set_option maxHeartbeats 40000000 in
theorem rmMinI (l : Launch) (Z : State) (a0 : Array Value) (hw : ∀ d ∈ tables_1, d.before a0 Z = true) (ws : List Jvm.Cond) (x : Int32) (y : Int32)  (h0 : Heap) (n0 : Nat) (Z0 : n0 ≤ h0.size) (hxy : y < x) :
    MetFree l (⟨"java/lang/Math", "min", "(II)I"⟩ : MethodName) (head1 (Jvm.Cond.code (⟨"java/lang/Math", "min", "(II)I"⟩ : MethodName) jdk_29_method_69_code 2 (some .int) :: ws) ({ frames := 0, cells := 0, slots := 0, locals := 0 } : Room)) (fun ar_ U => ar_ = #[(.int x), (.int y)] ∧ Z.Warmed39 U.vm ∧ U.heap = h0) (fun _ _ _ _ _ => True) (fun _ U o U' => Phi U (Q_rmMinI Z x y h0 n0) ({ frames := 0, cells := 0, slots := 0, locals := 0 } : Room).cells ({ frames := 0, cells := 0, slots := 0, locals := 0 } : Room).slots o U') := by
  refine MetFree.of_bodySF (Jvm.Free.JP.mathPlain rfl (by decide +kernel)) hisR ?_
  intro p e s m args below meth c s₁ Bd hml0 hP hK
  obtain ⟨rfl, hZ, hh⟩ := hP
  have hx := Bd.exec
  have hby := Bd.bytes
  have hlk := Bd.notSynchronized
  have hml : c.maxLocals = 2 := hml0
  have hown : s.vm.findClass "java/lang/Math" = some m.cls := findClass_of_methodNamed Bd.named
  have hown0 := hown
  have hnm := (name_of_methodNamed Bd.named Bd.method).1
  have hret := Bd.returns
  have X0 : Stand p l e ({ frames := 0, cells := 0, slots := 0, locals := 0 } : Room) s m #[(.int x), (.int y)] below meth c s₁ [] 0 0 := Stand.of_body Bd
  have e0 : s₁.heap = h0 := by rw [← hh, Bd.state]; rfl
  have N0 := Fr.nil n0
  have sz := Z0
  have K := Keep.refl h0 []
  show Runs p.tables e below (Phi s (Q_rmMinI Z x y h0 n0) ({ frames := 0, cells := 0, slots := 0, locals := 0 } : Room).cells ({ frames := 0, cells := 0, slots := 0, locals := 0 } : Room).slots) _
  refine Runs.st (fun t' k' => castTop (ef_jdk_29_method_69_II m x y ) k') ?_
  show Runs p.tables e below _ (s₁.setTop (mkF m 0 #[.val (.int x), .val (.int y)] []))
  refine Runs.st (fun t' k' => XS.iloadN X0.here hx rfl (hb hby d_jdk_29_method_69_0) rfl k') ?_
  refine Runs.st (fun t' k' => XS.iloadN X0.here hx rfl (hb hby d_jdk_29_method_69_1) rfl k') ?_
  refine Runs.st (fun t' k' => XS.icmpYes X0.here hx rfl (pc0 := 2) (pc' := 9) rfl (hb hby d_jdk_29_method_69_2) rfl (tlt hxy).2.2.1 (by decide) (by decide) k') ?_
  show Runs p.tables e below _ (s₁.setTop (mkF m 9 #[.val (.int x), .val (.int y)] []))
  refine Runs.st (fun t' k' => XS.iloadN X0.here hx rfl (hb hby d_jdk_29_method_69_9) rfl k') ?_
  refine Runs.ret X0 hlk (v := (some (.int y))) (fun h => by rw [hret] at h; cases h) (by decide) (by decide) ?_ (fun fs hr => retI X0 hx hret (hb hby d_jdk_29_method_69_10) hr)
  try rw [e0]
  exact ⟨rfl, N0, rfl⟩
def Q_rmOS (Z : State) (a : Addr)  (h0 : Heap) (n0 : Nat) : Option Value → Heap → List Loc → Prop := (fun v h L => v = none ∧ Fr n0 L ∧ h = h0)
theorem pn_java_io_OutputStream : plainName "java/io/OutputStream" = true := by first | (simp [plainName, overriddenIn]; done) | decide +kernel
theorem ef_jdk_2038_method_1_R (m : MethodId) (x0 : Addr)  : entryFrame m #[(.ref x0)] 1 = mkF m 0 #[.val (.ref x0)] [] := by first | (simp [entryFrame, mkF, argsToLocals, Value.category]; done) | rfl
theorem d_jdk_2038_method_1_0 : decode jdk_2038_method_1_code 0 = .ok (.aload_n 0, 1) := by decide +kernel
theorem d_jdk_2038_method_1_1 : decode jdk_2038_method_1_code 1 = .ok (.invokespecial 1, 3) := by decide +kernel
theorem d_jdk_2038_method_1_4 : decode jdk_2038_method_1_code 4 = .ok (.return_, 1) := by decide +kernel
set_option maxRecDepth 65536 in
set_option maxHeartbeats 40000000 in
theorem rmOS (l : Launch) (Z : State) (a0 : Array Value) (hw : ∀ d ∈ tables_1, d.before a0 Z = true) (ws : List Jvm.Cond) (a : Addr)  (h0 : Heap) (n0 : Nat) (Z0 : n0 ≤ h0.size)  :
    MetFree l (⟨"java/io/OutputStream", "<init>", "()V"⟩ : MethodName) (head1 (Jvm.Cond.code (⟨"java/io/OutputStream", "<init>", "()V"⟩ : MethodName) jdk_2038_method_1_code 1 none :: ws) ({ frames := 1, cells := 0, slots := 0, locals := 12 } : Room)) (fun ar_ U => ar_ = #[(.ref a)] ∧ Z.Warmed39 U.vm ∧ U.heap = h0) (fun _ _ _ _ _ => True) (fun _ U o U' => Phi U (Q_rmOS Z a h0 n0) ({ frames := 1, cells := 0, slots := 0, locals := 12 } : Room).cells ({ frames := 1, cells := 0, slots := 0, locals := 12 } : Room).slots o U') := by
  refine MetFree.of_bodySF (plainFor_of_name pn_java_io_OutputStream) hisR ?_
  intro p e s m args below meth c s₁ Bd hml0 hP hK
  obtain ⟨rfl, hZ, hh⟩ := hP
  have hx := Bd.exec
  have hby := Bd.bytes
  have hlk := Bd.notSynchronized
  have hml : c.maxLocals = 1 := hml0
  have hown : s.vm.findClass "java/io/OutputStream" = some m.cls := findClass_of_methodNamed Bd.named
  have hown0 := hown
  have hnm := (name_of_methodNamed Bd.named Bd.method).1
  have hret := Bd.returns
  have X0 : Stand p l e ({ frames := 1, cells := 0, slots := 0, locals := 12 } : Room) s m #[(.ref a)] below meth c s₁ [] 0 0 := Stand.of_body Bd
  have e0 : s₁.heap = h0 := by rw [← hh, Bd.state]; rfl
  have N0 := Fr.nil n0
  have sz := Z0
  have K := Keep.refl h0 []
  show Runs p.tables e below (Phi s (Q_rmOS Z a h0 n0) ({ frames := 1, cells := 0, slots := 0, locals := 12 } : Room).cells ({ frames := 1, cells := 0, slots := 0, locals := 12 } : Room).slots) _
  refine Runs.st (fun t' k' => castTop (ef_jdk_2038_method_1_R m a ) k') ?_
  show Runs p.tables e below _ (s₁.setTop (mkF m 0 #[.val (.ref a)] []))
  refine Runs.st (fun t' k' => XS.aloadN X0.here hx rfl (hb hby d_jdk_2038_method_1_0) rfl rfl k') ?_
  obtain ⟨T1_, X1_, e1_, st1_⟩ := initO X0 hx hZ hown (hw _ (List.mem_of_getElem? (i := 18) rfl)) (hw _ (List.mem_of_getElem? (i := 19) rfl)) (hw _ (List.mem_of_getElem? (i := 20) rfl)) e0 (g := (mkF m 1 #[.val (.ref a)] [(.ref a)])) rfl (by rw [hml]; rfl) rfl (hb hby d_jdk_2038_method_1_1) (by decide) (W := 0) (by show 2 * 0 + _ ≤ _; exact Nat.le_of_eq rfl) (by decide)
  refine Runs.st (st1_) ?_
  show Runs p.tables e below _ (T1_.setTop (mkF m 4 #[.val (.ref a)] []))
  refine Runs.ret X1_ hlk (v := none) (fun _ => rfl) (by decide) (by decide) ?_ (fun fs hr => X1_.returnOut hx hret (hb hby d_jdk_2038_method_1_4) hr)
  try rw [e1_]
  exact ⟨rfl, N0, rfl⟩
def Q_rmInit (Z : State) (a : Addr)  (h0 : Heap) (n0 : Nat) : Option Value → Heap → List Loc → Prop := (fun v h L => ∃ tx ix kt ki, v = none ∧ Fr n0 L ∧ Keep h0 h [a] ∧ h0.size ≤ tx ∧ h0.size ≤ ix ∧ tx ≠ ix ∧ Exa Z h a "com/example/frozen_stream/frozenstream/rdf/Document" ∧ Fld Z h a "com/example/frozen_stream/frozenstream/rdf/Document" "text" "[B" (.ref tx) ∧ Fld Z h a "com/example/frozen_stream/frozenstream/rdf/Document" "indents" "[I" (.ref ix) ∧ Fld Z h a "com/example/frozen_stream/frozenstream/rdf/Document" "lines" "I" (.int (1 : Int32)) ∧ Fld Z h a "com/example/frozen_stream/frozenstream/rdf/Document" "indenting" "Z" (.int (1 : Int32)) ∧ Fld Z h a "com/example/frozen_stream/frozenstream/rdf/Document" "most" "J" (.long (1000 : Int64)) ∧ Fld Z h a "com/example/frozen_stream/frozenstream/rdf/Document" "length" "J" (.long (0 : Int64)) ∧ Fld Z h a "com/example/frozen_stream/frozenstream/rdf/Document" "textLength" "I" (.int (0 : Int32)) ∧ Arv Z h tx kt .byte (8192 : Int32) (([] : List Int32).map Value.int) (.int (0 : Int32)) ∧ Arv Z h ix ki .int (64 : Int32) ((List.replicate 64 (0 : Int32)).map Value.int) (.int (0 : Int32)))
theorem pn_com_example_frozen_stream_frozenstream_rdf_Document : plainName "com/example/frozen_stream/frozenstream/rdf/Document" = true := by first | (simp [plainName, overriddenIn]; done) | decide +kernel
theorem ef_prog_8_method_1_RJ (m : MethodId) (x0 : Addr) (x1 : Int64)  : entryFrame m #[(.ref x0), (.long x1)] 3 = mkF m 0 #[.val (.ref x0), .val (.long x1), .second] [] := by first | (simp [entryFrame, mkF, argsToLocals, Value.category]; done) | rfl
theorem d_prog_8_method_1_0 : decode prog_8_method_1_code 0 = .ok (.aload_n 0, 1) := by decide +kernel
theorem pd__28_29V : parseMethodDescriptor "()V" = some ⟨[], none⟩ := by decide +kernel
theorem d_prog_8_method_1_1 : decode prog_8_method_1_code 1 = .ok (.invokespecial 3, 3) := by decide +kernel
theorem d_prog_8_method_1_4 : decode prog_8_method_1_code 4 = .ok (.aload_n 0, 1) := by decide +kernel
theorem d_prog_8_method_1_5 : decode prog_8_method_1_code 5 = .ok (.sipush 8192, 3) := by decide +kernel
theorem d_prog_8_method_1_8 : decode prog_8_method_1_code 8 = .ok (.newarray .byte, 2) := by decide +kernel
theorem d_prog_8_method_1_10 : decode prog_8_method_1_code 10 = .ok (.putfield 9, 3) := by decide +kernel
theorem d_prog_8_method_1_13 : decode prog_8_method_1_code 13 = .ok (.aload_n 0, 1) := by decide +kernel
theorem d_prog_8_method_1_14 : decode prog_8_method_1_code 14 = .ok (.bipush 64, 2) := by decide +kernel
theorem d_prog_8_method_1_16 : decode prog_8_method_1_code 16 = .ok (.newarray .int, 2) := by decide +kernel
theorem d_prog_8_method_1_18 : decode prog_8_method_1_code 18 = .ok (.putfield 15, 3) := by decide +kernel
theorem d_prog_8_method_1_21 : decode prog_8_method_1_code 21 = .ok (.aload_n 0, 1) := by decide +kernel
theorem d_prog_8_method_1_22 : decode prog_8_method_1_code 22 = .ok (.iconst 1, 1) := by decide +kernel
theorem d_prog_8_method_1_23 : decode prog_8_method_1_code 23 = .ok (.putfield 19, 3) := by decide +kernel
theorem d_prog_8_method_1_26 : decode prog_8_method_1_code 26 = .ok (.aload_n 0, 1) := by decide +kernel
theorem d_prog_8_method_1_27 : decode prog_8_method_1_code 27 = .ok (.iconst 1, 1) := by decide +kernel
theorem d_prog_8_method_1_28 : decode prog_8_method_1_code 28 = .ok (.putfield 23, 3) := by decide +kernel
theorem d_prog_8_method_1_31 : decode prog_8_method_1_code 31 = .ok (.aload_n 0, 1) := by decide +kernel
theorem d_prog_8_method_1_32 : decode prog_8_method_1_code 32 = .ok (.lload_n 1, 1) := by decide +kernel
theorem d_prog_8_method_1_33 : decode prog_8_method_1_code 33 = .ok (.ldc2_w 27, 3) := by decide +kernel
theorem pd__28JJ_29J : parseMethodDescriptor "(JJ)J" = some ⟨[.long, .long], some .long⟩ := by decide +kernel
theorem d_prog_8_method_1_36 : decode prog_8_method_1_code 36 = .ok (.invokestatic 29, 3) := by decide +kernel
theorem d_prog_8_method_1_39 : decode prog_8_method_1_code 39 = .ok (.putfield 35, 3) := by decide +kernel
theorem d_prog_8_method_1_42 : decode prog_8_method_1_code 42 = .ok (.return_, 1) := by decide +kernel
set_option maxRecDepth 65536 in
set_option maxHeartbeats 40000000 in
theorem rmInit (l : Launch) (Z : State) (a0 : Array Value) (hw : ∀ d ∈ tables_1, d.before a0 Z = true) (ws : List Jvm.Cond) (a : Addr)  (h0 : Heap) (n0 : Nat) (Z0 : n0 ≤ h0.size) (E_a : Exa Z h0 a "com/example/frozen_stream/frozenstream/rdf/Document") (F_a_text : Fld Z h0 a "com/example/frozen_stream/frozenstream/rdf/Document" "text" "[B" .null) (F_a_indents : Fld Z h0 a "com/example/frozen_stream/frozenstream/rdf/Document" "indents" "[I" .null) (F_a_lines : Fld Z h0 a "com/example/frozen_stream/frozenstream/rdf/Document" "lines" "I" (.int (0 : Int32))) (F_a_indenting : Fld Z h0 a "com/example/frozen_stream/frozenstream/rdf/Document" "indenting" "Z" (.int (0 : Int32))) (F_a_most : Fld Z h0 a "com/example/frozen_stream/frozenstream/rdf/Document" "most" "J" (.long (0 : Int64))) (F_a_length : Fld Z h0 a "com/example/frozen_stream/frozenstream/rdf/Document" "length" "J" (.long (0 : Int64))) (F_a_textLength : Fld Z h0 a "com/example/frozen_stream/frozenstream/rdf/Document" "textLength" "I" (.int (0 : Int32))) (g_a : n0 ≤ a) :
    MetFree l (⟨"com/example/frozen_stream/frozenstream/rdf/Document", "<init>", "(J)V"⟩ : MethodName) (head1 (Jvm.Cond.code (⟨"com/example/frozen_stream/frozenstream/rdf/Document", "<init>", "(J)V"⟩ : MethodName) prog_8_method_1_code 3 none :: ws) ({ frames := 2, cells := 2, slots := 8256, locals := 24 } : Room)) (fun ar_ U => ar_ = #[(.ref a), (.long (1000 : Int64))] ∧ Z.Warmed39 U.vm ∧ U.heap = h0) (fun _ _ _ _ _ => True) (fun _ U o U' => Phi U (Q_rmInit Z a h0 n0) ({ frames := 2, cells := 2, slots := 8256, locals := 24 } : Room).cells ({ frames := 2, cells := 2, slots := 8256, locals := 24 } : Room).slots o U') := by
  refine MetFree.of_bodySF (plainFor_of_name pn_com_example_frozen_stream_frozenstream_rdf_Document) hisR ?_
  intro p e s m args below meth c s₁ Bd hml0 hP hK
  obtain ⟨rfl, hZ, hh⟩ := hP
  have hx := Bd.exec
  have hby := Bd.bytes
  have hlk := Bd.notSynchronized
  have hml : c.maxLocals = 3 := hml0
  have hown : s.vm.findClass "com/example/frozen_stream/frozenstream/rdf/Document" = some m.cls := findClass_of_methodNamed Bd.named
  have hown0 := hown
  have hnm := (name_of_methodNamed Bd.named Bd.method).1
  have hret := Bd.returns
  have X0 : Stand p l e ({ frames := 2, cells := 2, slots := 8256, locals := 24 } : Room) s m #[(.ref a), (.long (1000 : Int64))] below meth c s₁ [] 0 0 := Stand.of_body Bd
  have e0 : s₁.heap = h0 := by rw [← hh, Bd.state]; rfl
  have N0 := Fr.nil n0
  have sz := Z0
  have K := Keep.refl h0 [a]
  show Runs p.tables e below (Phi s (Q_rmInit Z a h0 n0) ({ frames := 2, cells := 2, slots := 8256, locals := 24 } : Room).cells ({ frames := 2, cells := 2, slots := 8256, locals := 24 } : Room).slots) _
  refine Runs.st (fun t' k' => castTop (ef_prog_8_method_1_RJ m a (1000 : Int64) ) k') ?_
  show Runs p.tables e below _ (s₁.setTop (mkF m 0 #[.val (.ref a), .val (.long (1000 : Int64)), .second] []))
  refine Runs.st (fun t' k' => XS.aloadN X0.here hx rfl (hb hby d_prog_8_method_1_0) rfl rfl k') ?_
  obtain ⟨_, _, ⟨T1_, L1_, k1_, n1_⟩, -, X1_, ⟨Lc1_, hQ1_, l1_, y1_, z1_⟩, st1_⟩ := X0.specialBack hx (y := (⟨"java/io/OutputStream", "<init>", "()V"⟩ : MethodName)) rfl hown (mvT hZ (hw _ (List.mem_of_getElem? (i := 13) rfl))) (mvT hZ (hw _ (List.mem_of_getElem? (i := 14) rfl))) (mvT hZ (hw _ (List.mem_of_getElem? (i := 17) rfl))) (by decide) (backOf (W := 0) (rmOS l Z a0 hw [] a h0 n0 sz) hZ (hw _ (List.mem_of_getElem? (i := 17) rfl)) (hw _ (List.mem_of_getElem? (i := 16) rfl)) (by decide) (by decide)) (g := (mkF m 1 #[.val (.ref a), .val (.long (1000 : Int64)), .second] [(.ref a)])) rfl (by rw [hml]; rfl) (Steps.refl _) (a := a) (argsL := []) (rest := []) (lenOf pd__28_29V rfl) rfl (by show 2 * 0 + _ ≤ _; exact Nat.le_of_eq rfl) (hb hby d_prog_8_method_1_1) (fun _ _ => ⟨rfl, e0, (by decide : 0 + 0 ≤ _), (by decide : 0 + 0 ≤ _)⟩)
  dsimp only [Pt.U, Pt.locs, Pt.cells, Pt.slots] at X1_ l1_ y1_ z1_ st1_ hQ1_
  subst l1_ y1_ z1_
  obtain ⟨rfl, N1_q, e1_⟩ := hQ1_
  have N1_ := Fr.app N0 N1_q
  refine Runs.tr st1_ ?_
  replace X1_ := wider X1_ (c' := 0) (s' := 0) (by decide) (by decide)
  show Runs p.tables e below _ (T1_.setTop (mkF m 4 #[.val (.ref a), .val (.long (1000 : Int64)), .second] []))
  refine Runs.st (fun t' k' => XS.aloadN X1_.here hx rfl (hb hby d_prog_8_method_1_4) rfl rfl k') ?_
  refine Runs.st (fun t' k' => XS.sipush X1_.here hx rfl (hb hby d_prog_8_method_1_5) k') ?_
  obtain ⟨T2_, h2_, k2_, X2_, e2_, E2_, A2_, st2_⟩ := newP X1_ hx hZ (hw _ (List.mem_of_getElem? (i := 0) rfl)) e1_ (g := (mkF m 8 #[.val (.ref a), .val (.long (1000 : Int64)), .second] [(.int (8192 : Int32)), (.ref a)])) rfl (hb hby d_prog_8_method_1_8) rfl (by decide) (cap := 8192) (by decide) (by decide) (by decide) (by decide)
  refine Runs.st (st2_) ?_
  obtain ⟨tx, g2_⟩ : ∃ z, z = h0.size := ⟨_, rfl⟩
  rw [← g2_] at A2_
  try rw [← g2_]
  have g_tx : n0 ≤ tx := Nat.le_trans sz (Nat.le_of_eq g2_.symm)
  have sz_tx : h0.size ≤ tx := Nat.le_trans K.1 (Nat.le_of_eq g2_.symm)
  have ne_a_tx : a ≠ tx := Nat.ne_of_lt (Nat.lt_of_lt_of_le E_a.lt (Nat.le_of_eq g2_.symm))
  replace E_a := E_a.ext E2_
  replace F_a_text := F_a_text.ext E2_
  replace F_a_indents := F_a_indents.ext E2_
  replace F_a_lines := F_a_lines.ext E2_
  replace F_a_indenting := F_a_indenting.ext E2_
  replace F_a_most := F_a_most.ext E2_
  replace F_a_length := F_a_length.ext E2_
  replace F_a_textLength := F_a_textLength.ext E2_
  replace sz := Nat.le_trans sz E2_.1
  replace K := K.ext E2_
  have V_tx := Arv.new A2_ (by decide)
  show Runs p.tables e below _ (T2_.setTop (mkF m 10 #[.val (.ref a), .val (.long (1000 : Int64)), .second] [(.ref tx), (.ref a)]))
  replace V_tx : Arv Z h2_ tx k2_ .byte (8192 : Int32) (([] : List Int32).map Value.int) (.int (0 : Int32)) := V_tx
  obtain ⟨T3_, h3_, X3_, e3_, W3_, st3_⟩ := putF X2_ hx hZ hown (host := "") (Or.inl (hw _ (List.mem_of_getElem? (i := 21) rfl))) Via.refl e2_ F_a_text E_a (Or.inl (hw _ (List.mem_of_getElem? (i := 22) rfl))) (hw _ (List.mem_of_getElem? (i := 7) rfl)) (ty := (.array .byte)) (by decide) rfl rfl (g := (mkF m 10 #[.val (.ref a), .val (.long (1000 : Int64)), .second] [(.ref tx), (.ref a)])) rfl rfl (hb hby d_prog_8_method_1_10)
  refine Runs.st (st3_) ?_
  replace F_a_text := F_a_text.same W3_
  replace E_a := Jvm.RoadKit.Exa.wr W3_ E_a
  replace F_a_indents := F_a_indents.other W3_ (Or.inr (slot_ne (Or.inl (hw _ (List.mem_of_getElem? (i := 25) rfl))) (Or.inl (hw _ (List.mem_of_getElem? (i := 22) rfl))) (by decide) (t := (.array .int)) (t' := (.array .byte)) (by decide) (by decide)))
  replace F_a_lines := F_a_lines.other W3_ (Or.inr (slot_ne (Or.inl (hw _ (List.mem_of_getElem? (i := 27) rfl))) (Or.inl (hw _ (List.mem_of_getElem? (i := 22) rfl))) (by decide) (t := .int) (t' := (.array .byte)) (by decide) (by decide)))
  replace F_a_indenting := F_a_indenting.other W3_ (Or.inr (slot_ne (Or.inl (hw _ (List.mem_of_getElem? (i := 29) rfl))) (Or.inl (hw _ (List.mem_of_getElem? (i := 22) rfl))) (by decide) (t := .boolean) (t' := (.array .byte)) (by decide) (by decide)))
  replace F_a_most := F_a_most.other W3_ (Or.inr (slot_ne (Or.inr (hw _ (List.mem_of_getElem? (i := 36) rfl))) (Or.inl (hw _ (List.mem_of_getElem? (i := 22) rfl))) (by decide) (t := .long) (t' := (.array .byte)) (by decide) (by decide)))
  replace F_a_length := F_a_length.other W3_ (Or.inr (slot_ne (Or.inl (hw _ (List.mem_of_getElem? (i := 43) rfl))) (Or.inl (hw _ (List.mem_of_getElem? (i := 22) rfl))) (by decide) (t := .long) (t' := (.array .byte)) (by decide) (by decide)))
  replace F_a_textLength := F_a_textLength.other W3_ (Or.inr (slot_ne (Or.inl (hw _ (List.mem_of_getElem? (i := 49) rfl))) (Or.inl (hw _ (List.mem_of_getElem? (i := 22) rfl))) (by decide) (t := .int) (t' := (.array .byte)) (by decide) (by decide)))
  replace V_tx := V_tx.other W3_ (Ne.symm ne_a_tx)
  replace sz := Nat.le_trans sz (Keep.of_wr W3_).1
  have N3_ := Fr.snoc X3_ N1_ g_a
  replace K := K.wr W3_ (Or.inl (List.mem_of_getElem? (i := 0) rfl))
  show Runs p.tables e below _ (T3_.setTop (mkF m 13 #[.val (.ref a), .val (.long (1000 : Int64)), .second] []))
  refine Runs.st (fun t' k' => XS.aloadN X3_.here hx rfl (hb hby d_prog_8_method_1_13) rfl rfl k') ?_
  refine Runs.st (fun t' k' => XS.bipush X3_.here hx rfl (hb hby d_prog_8_method_1_14) k') ?_
  obtain ⟨T4_, h4_, k4_, X4_, e4_, E4_, A4_, st4_⟩ := newP X3_ hx hZ (hw _ (List.mem_of_getElem? (i := 23) rfl)) e3_ (g := (mkF m 16 #[.val (.ref a), .val (.long (1000 : Int64)), .second] [(.int (64 : Int32)), (.ref a)])) rfl (hb hby d_prog_8_method_1_16) rfl (by decide) (cap := 64) (by decide) (by decide) (by decide) (by decide)
  refine Runs.st (st4_) ?_
  obtain ⟨ix, g4_⟩ : ∃ z, z = h3_.size := ⟨_, rfl⟩
  rw [← g4_] at A4_
  try rw [← g4_]
  have g_ix : n0 ≤ ix := Nat.le_trans sz (Nat.le_of_eq g4_.symm)
  have sz_ix : h0.size ≤ ix := Nat.le_trans K.1 (Nat.le_of_eq g4_.symm)
  have ne_a_ix : a ≠ ix := Nat.ne_of_lt (Nat.lt_of_lt_of_le E_a.lt (Nat.le_of_eq g4_.symm))
  have ne_tx_ix : tx ≠ ix := Nat.ne_of_lt (Nat.lt_of_lt_of_le V_tx.lt (Nat.le_of_eq g4_.symm))
  replace E_a := E_a.ext E4_
  replace F_a_indents := F_a_indents.ext E4_
  replace F_a_lines := F_a_lines.ext E4_
  replace F_a_indenting := F_a_indenting.ext E4_
  replace F_a_most := F_a_most.ext E4_
  replace F_a_length := F_a_length.ext E4_
  replace F_a_textLength := F_a_textLength.ext E4_
  replace V_tx := V_tx.ext E4_
  replace F_a_text := F_a_text.ext E4_
  replace sz := Nat.le_trans sz E4_.1
  replace K := K.ext E4_
  have V_ix := Arv.new A4_ (by decide)
  show Runs p.tables e below _ (T4_.setTop (mkF m 18 #[.val (.ref a), .val (.long (1000 : Int64)), .second] [(.ref ix), (.ref a)]))
  replace V_ix : Arv Z h4_ ix k4_ .int (64 : Int32) ((List.replicate 64 (0 : Int32)).map Value.int) (.int (0 : Int32)) := by
    rw [List.map_replicate]
    exact V_ix.pad (pad_rep [] _ 64)
  obtain ⟨T5_, h5_, X5_, e5_, W5_, st5_⟩ := putF X4_ hx hZ hown (host := "") (Or.inl (hw _ (List.mem_of_getElem? (i := 24) rfl))) Via.refl e4_ F_a_indents E_a (Or.inl (hw _ (List.mem_of_getElem? (i := 25) rfl))) (hw _ (List.mem_of_getElem? (i := 7) rfl)) (ty := (.array .int)) (by decide) rfl rfl (g := (mkF m 18 #[.val (.ref a), .val (.long (1000 : Int64)), .second] [(.ref ix), (.ref a)])) rfl rfl (hb hby d_prog_8_method_1_18)
  refine Runs.st (st5_) ?_
  replace F_a_indents := F_a_indents.same W5_
  replace E_a := Jvm.RoadKit.Exa.wr W5_ E_a
  replace F_a_lines := F_a_lines.other W5_ (Or.inr (slot_ne (Or.inl (hw _ (List.mem_of_getElem? (i := 27) rfl))) (Or.inl (hw _ (List.mem_of_getElem? (i := 25) rfl))) (by decide) (t := .int) (t' := (.array .int)) (by decide) (by decide)))
  replace F_a_indenting := F_a_indenting.other W5_ (Or.inr (slot_ne (Or.inl (hw _ (List.mem_of_getElem? (i := 29) rfl))) (Or.inl (hw _ (List.mem_of_getElem? (i := 25) rfl))) (by decide) (t := .boolean) (t' := (.array .int)) (by decide) (by decide)))
  replace F_a_most := F_a_most.other W5_ (Or.inr (slot_ne (Or.inr (hw _ (List.mem_of_getElem? (i := 36) rfl))) (Or.inl (hw _ (List.mem_of_getElem? (i := 25) rfl))) (by decide) (t := .long) (t' := (.array .int)) (by decide) (by decide)))
  replace F_a_length := F_a_length.other W5_ (Or.inr (slot_ne (Or.inl (hw _ (List.mem_of_getElem? (i := 43) rfl))) (Or.inl (hw _ (List.mem_of_getElem? (i := 25) rfl))) (by decide) (t := .long) (t' := (.array .int)) (by decide) (by decide)))
  replace F_a_textLength := F_a_textLength.other W5_ (Or.inr (slot_ne (Or.inl (hw _ (List.mem_of_getElem? (i := 49) rfl))) (Or.inl (hw _ (List.mem_of_getElem? (i := 25) rfl))) (by decide) (t := .int) (t' := (.array .int)) (by decide) (by decide)))
  replace V_tx := V_tx.other W5_ (Ne.symm ne_a_tx)
  replace F_a_text := F_a_text.other W5_ (Or.inr (slot_ne (Or.inl (hw _ (List.mem_of_getElem? (i := 22) rfl))) (Or.inl (hw _ (List.mem_of_getElem? (i := 25) rfl))) (by decide) (t := (.array .byte)) (t' := (.array .int)) (by decide) (by decide)))
  replace V_ix := V_ix.other W5_ (Ne.symm ne_a_ix)
  replace sz := Nat.le_trans sz (Keep.of_wr W5_).1
  have N5_ := Fr.snoc X5_ N3_ g_a
  replace K := K.wr W5_ (Or.inl (List.mem_of_getElem? (i := 0) rfl))
  show Runs p.tables e below _ (T5_.setTop (mkF m 21 #[.val (.ref a), .val (.long (1000 : Int64)), .second] []))
  refine Runs.st (fun t' k' => XS.aloadN X5_.here hx rfl (hb hby d_prog_8_method_1_21) rfl rfl k') ?_
  refine Runs.st (fun t' k' => XS.iconst X5_.here hx rfl (hb hby d_prog_8_method_1_22) k') ?_
  obtain ⟨T6_, h6_, X6_, e6_, W6_, st6_⟩ := putF X5_ hx hZ hown (host := "") (Or.inl (hw _ (List.mem_of_getElem? (i := 26) rfl))) Via.refl e5_ F_a_lines E_a (Or.inl (hw _ (List.mem_of_getElem? (i := 27) rfl))) (hw _ (List.mem_of_getElem? (i := 7) rfl)) (ty := .int) (by decide) rfl rfl (g := (mkF m 23 #[.val (.ref a), .val (.long (1000 : Int64)), .second] [(.int (1 : Int32)), (.ref a)])) rfl rfl (hb hby d_prog_8_method_1_23)
  refine Runs.st (st6_) ?_
  replace F_a_lines := F_a_lines.same W6_
  replace E_a := Jvm.RoadKit.Exa.wr W6_ E_a
  replace F_a_indenting := F_a_indenting.other W6_ (Or.inr (slot_ne (Or.inl (hw _ (List.mem_of_getElem? (i := 29) rfl))) (Or.inl (hw _ (List.mem_of_getElem? (i := 27) rfl))) (by decide) (t := .boolean) (t' := .int) (by decide) (by decide)))
  replace F_a_most := F_a_most.other W6_ (Or.inr (slot_ne (Or.inr (hw _ (List.mem_of_getElem? (i := 36) rfl))) (Or.inl (hw _ (List.mem_of_getElem? (i := 27) rfl))) (by decide) (t := .long) (t' := .int) (by decide) (by decide)))
  replace F_a_length := F_a_length.other W6_ (Or.inr (slot_ne (Or.inl (hw _ (List.mem_of_getElem? (i := 43) rfl))) (Or.inl (hw _ (List.mem_of_getElem? (i := 27) rfl))) (by decide) (t := .long) (t' := .int) (by decide) (by decide)))
  replace F_a_textLength := F_a_textLength.other W6_ (Or.inr (slot_ne (Or.inl (hw _ (List.mem_of_getElem? (i := 49) rfl))) (Or.inl (hw _ (List.mem_of_getElem? (i := 27) rfl))) (by decide) (t := .int) (t' := .int) (by decide) (by decide)))
  replace V_tx := V_tx.other W6_ (Ne.symm ne_a_tx)
  replace F_a_text := F_a_text.other W6_ (Or.inr (slot_ne (Or.inl (hw _ (List.mem_of_getElem? (i := 22) rfl))) (Or.inl (hw _ (List.mem_of_getElem? (i := 27) rfl))) (by decide) (t := (.array .byte)) (t' := .int) (by decide) (by decide)))
  replace V_ix := V_ix.other W6_ (Ne.symm ne_a_ix)
  replace F_a_indents := F_a_indents.other W6_ (Or.inr (slot_ne (Or.inl (hw _ (List.mem_of_getElem? (i := 25) rfl))) (Or.inl (hw _ (List.mem_of_getElem? (i := 27) rfl))) (by decide) (t := (.array .int)) (t' := .int) (by decide) (by decide)))
  replace sz := Nat.le_trans sz (Keep.of_wr W6_).1
  have N6_ := Fr.snoc X6_ N5_ g_a
  replace K := K.wr W6_ (Or.inl (List.mem_of_getElem? (i := 0) rfl))
  show Runs p.tables e below _ (T6_.setTop (mkF m 26 #[.val (.ref a), .val (.long (1000 : Int64)), .second] []))
  refine Runs.st (fun t' k' => XS.aloadN X6_.here hx rfl (hb hby d_prog_8_method_1_26) rfl rfl k') ?_
  refine Runs.st (fun t' k' => XS.iconst X6_.here hx rfl (hb hby d_prog_8_method_1_27) k') ?_
  obtain ⟨T7_, h7_, X7_, e7_, W7_, st7_⟩ := putFN X6_ hx hZ hown (hw _ (List.mem_of_getElem? (i := 28) rfl)) Via.refl e6_ F_a_indenting E_a (Or.inl (hw _ (List.mem_of_getElem? (i := 29) rfl))) (hw _ (List.mem_of_getElem? (i := 7) rfl)) (ty := .boolean) (v' := .int (1 : Int32)) (by decide) rfl rfl (g := (mkF m 28 #[.val (.ref a), .val (.long (1000 : Int64)), .second] [(.int (1 : Int32)), (.ref a)])) rfl rfl (hb hby d_prog_8_method_1_28)
  refine Runs.st (st7_) ?_
  replace F_a_indenting := F_a_indenting.same W7_
  replace E_a := Jvm.RoadKit.Exa.wr W7_ E_a
  replace F_a_most := F_a_most.other W7_ (Or.inr (slot_ne (Or.inr (hw _ (List.mem_of_getElem? (i := 36) rfl))) (Or.inl (hw _ (List.mem_of_getElem? (i := 29) rfl))) (by decide) (t := .long) (t' := .boolean) (by decide) (by decide)))
  replace F_a_length := F_a_length.other W7_ (Or.inr (slot_ne (Or.inl (hw _ (List.mem_of_getElem? (i := 43) rfl))) (Or.inl (hw _ (List.mem_of_getElem? (i := 29) rfl))) (by decide) (t := .long) (t' := .boolean) (by decide) (by decide)))
  replace F_a_textLength := F_a_textLength.other W7_ (Or.inr (slot_ne (Or.inl (hw _ (List.mem_of_getElem? (i := 49) rfl))) (Or.inl (hw _ (List.mem_of_getElem? (i := 29) rfl))) (by decide) (t := .int) (t' := .boolean) (by decide) (by decide)))
  replace V_tx := V_tx.other W7_ (Ne.symm ne_a_tx)
  replace F_a_text := F_a_text.other W7_ (Or.inr (slot_ne (Or.inl (hw _ (List.mem_of_getElem? (i := 22) rfl))) (Or.inl (hw _ (List.mem_of_getElem? (i := 29) rfl))) (by decide) (t := (.array .byte)) (t' := .boolean) (by decide) (by decide)))
  replace V_ix := V_ix.other W7_ (Ne.symm ne_a_ix)
  replace F_a_indents := F_a_indents.other W7_ (Or.inr (slot_ne (Or.inl (hw _ (List.mem_of_getElem? (i := 25) rfl))) (Or.inl (hw _ (List.mem_of_getElem? (i := 29) rfl))) (by decide) (t := (.array .int)) (t' := .boolean) (by decide) (by decide)))
  replace F_a_lines := F_a_lines.other W7_ (Or.inr (slot_ne (Or.inl (hw _ (List.mem_of_getElem? (i := 27) rfl))) (Or.inl (hw _ (List.mem_of_getElem? (i := 29) rfl))) (by decide) (t := .int) (t' := .boolean) (by decide) (by decide)))
  replace sz := Nat.le_trans sz (Keep.of_wr W7_).1
  have N7_ := Fr.snoc X7_ N6_ g_a
  replace K := K.wr W7_ (Or.inl (List.mem_of_getElem? (i := 0) rfl))
  show Runs p.tables e below _ (T7_.setTop (mkF m 31 #[.val (.ref a), .val (.long (1000 : Int64)), .second] []))
  refine Runs.st (fun t' k' => XS.aloadN X7_.here hx rfl (hb hby d_prog_8_method_1_31) rfl rfl k') ?_
  refine Runs.st (fun t' k' => XS.lloadN X7_.here hx rfl (hb hby d_prog_8_method_1_32) rfl k') ?_
  refine Runs.st (fun t' k' => X7_.ldc2Long hx hown (mvT hZ (hw _ (List.mem_of_getElem? (i := 30) rfl))) (g := (mkF m 33 #[.val (.ref a), .val (.long (1000 : Int64)), .second] [(.long (1000 : Int64)), (.ref a)])) rfl (hb hby d_prog_8_method_1_33) t' k') ?_
  obtain ⟨_, _, ⟨T8_, L8_, k8_, n8_⟩, -, X8_, ⟨Lc8_, hQ8_, l8_, y8_, z8_⟩, st8_⟩ := Jvm.LawKit.callS X7_ hx (y := (⟨"java/lang/Math", "min", "(JJ)J"⟩ : MethodName)) hown (mvT hZ (hw _ (List.mem_of_getElem? (i := 31) rfl))) (mvT hZ (hw _ (List.mem_of_getElem? (i := 32) rfl))) (mvT hZ (hw _ (List.mem_of_getElem? (i := 33) rfl))) (mvT hZ (hw _ (List.mem_of_getElem? (i := 34) rfl))) (by decide) (backOf (W := 1) (rmMinJ l Z a0 hw [] (1000 : Int64) (2147483639 : Int64) h7_ n0 sz (by decide)) hZ (hw _ (List.mem_of_getElem? (i := 34) rfl)) (hw _ (List.mem_of_getElem? (i := 33) rfl)) (by decide) (by decide)) (g := (mkF m 36 #[.val (.ref a), .val (.long (1000 : Int64)), .second] [(.long (2147483639 : Int64)), (.long (1000 : Int64)), (.ref a)])) rfl (by rw [hml]; rfl) (argsL := [(.long (1000 : Int64)), (.long (2147483639 : Int64))]) (rest := [(.ref a)]) (lenOf pd__28JJ_29J rfl) rfl (by show 2 * 0 + _ ≤ _; exact Nat.le_of_eq rfl) (hb hby d_prog_8_method_1_36) (fun _ _ => ⟨rfl, e7_, (by decide : 2 + 0 ≤ _), (by decide : 8256 + 0 ≤ _)⟩)
  dsimp only [Pt.U, Pt.locs, Pt.cells, Pt.slots] at X8_ l8_ y8_ z8_ st8_ hQ8_
  subst l8_ y8_ z8_
  obtain ⟨rfl, N8_q, e8_⟩ := hQ8_
  have N8_ := Fr.app N7_ N8_q
  refine Runs.st (st8_) ?_
  replace X8_ := wider X8_ (c' := 2) (s' := 8256) (by decide) (by decide)
  show Runs p.tables e below _ (T8_.setTop (mkF m 39 #[.val (.ref a), .val (.long (1000 : Int64)), .second] [(.long (1000 : Int64)), (.ref a)]))
  obtain ⟨T9_, h9_, X9_, e9_, W9_, st9_⟩ := putF X8_ hx hZ hown (host := "") (Or.inl (hw _ (List.mem_of_getElem? (i := 35) rfl))) Via.refl e8_ F_a_most E_a (Or.inr ⟨(hw _ (List.mem_of_getElem? (i := 36) rfl)), rfl, hnm⟩) (hw _ (List.mem_of_getElem? (i := 7) rfl)) (ty := .long) (by decide) rfl rfl (g := (mkF m 39 #[.val (.ref a), .val (.long (1000 : Int64)), .second] [(.long (1000 : Int64)), (.ref a)])) rfl rfl (hb hby d_prog_8_method_1_39)
  refine Runs.st (st9_) ?_
  replace F_a_most := F_a_most.same W9_
  replace E_a := Jvm.RoadKit.Exa.wr W9_ E_a
  replace F_a_length := F_a_length.other W9_ (Or.inr (slot_ne (Or.inl (hw _ (List.mem_of_getElem? (i := 43) rfl))) (Or.inr (hw _ (List.mem_of_getElem? (i := 36) rfl))) (by decide) (t := .long) (t' := .long) (by decide) (by decide)))
  replace F_a_textLength := F_a_textLength.other W9_ (Or.inr (slot_ne (Or.inl (hw _ (List.mem_of_getElem? (i := 49) rfl))) (Or.inr (hw _ (List.mem_of_getElem? (i := 36) rfl))) (by decide) (t := .int) (t' := .long) (by decide) (by decide)))
  replace V_tx := V_tx.other W9_ (Ne.symm ne_a_tx)
  replace F_a_text := F_a_text.other W9_ (Or.inr (slot_ne (Or.inl (hw _ (List.mem_of_getElem? (i := 22) rfl))) (Or.inr (hw _ (List.mem_of_getElem? (i := 36) rfl))) (by decide) (t := (.array .byte)) (t' := .long) (by decide) (by decide)))
  replace V_ix := V_ix.other W9_ (Ne.symm ne_a_ix)
  replace F_a_indents := F_a_indents.other W9_ (Or.inr (slot_ne (Or.inl (hw _ (List.mem_of_getElem? (i := 25) rfl))) (Or.inr (hw _ (List.mem_of_getElem? (i := 36) rfl))) (by decide) (t := (.array .int)) (t' := .long) (by decide) (by decide)))
  replace F_a_lines := F_a_lines.other W9_ (Or.inr (slot_ne (Or.inl (hw _ (List.mem_of_getElem? (i := 27) rfl))) (Or.inr (hw _ (List.mem_of_getElem? (i := 36) rfl))) (by decide) (t := .int) (t' := .long) (by decide) (by decide)))
  replace F_a_indenting := F_a_indenting.other W9_ (Or.inr (slot_ne (Or.inl (hw _ (List.mem_of_getElem? (i := 29) rfl))) (Or.inr (hw _ (List.mem_of_getElem? (i := 36) rfl))) (by decide) (t := .boolean) (t' := .long) (by decide) (by decide)))
  replace sz := Nat.le_trans sz (Keep.of_wr W9_).1
  have N9_ := Fr.snoc X9_ N8_ g_a
  replace K := K.wr W9_ (Or.inl (List.mem_of_getElem? (i := 0) rfl))
  show Runs p.tables e below _ (T9_.setTop (mkF m 42 #[.val (.ref a), .val (.long (1000 : Int64)), .second] []))
  refine Runs.ret X9_ hlk (v := none) (fun _ => rfl) (by decide) (by decide) ?_ (fun fs hr => X9_.returnOut hx hret (hb hby d_prog_8_method_1_42) hr)
  try rw [e9_]
  exact ⟨tx, ix, _, _, rfl, N9_, K, sz_tx, sz_ix, ne_tx_ix, E_a, F_a_text, F_a_indents, F_a_lines, F_a_indenting, F_a_most, F_a_length, F_a_textLength, V_tx, V_ix⟩
def Q_rmKeep (Z : State) (a : Addr) (b : Addr) (ofs : Int32) (len : Int32) (tx ix : Addr) (kt kb : ClassId) (bs ks : List Int32) (ln fl tl : Int32) (lg : Int64) (io mo : Nat) (h0 : Heap) (n0 : Nat) : Option Value → Heap → List Loc → Prop := (fun v h L => v = none ∧ Fr n0 L ∧ Keep h0 h [a, tx] ∧ Exa Z h a "com/example/frozen_stream/frozenstream/rdf/Document" ∧ Fld Z h a "com/example/frozen_stream/frozenstream/rdf/Document" "text" "[B" (.ref tx) ∧ Fld Z h a "com/example/frozen_stream/frozenstream/rdf/Document" "indents" "[I" (.ref ix) ∧ Fld Z h a "com/example/frozen_stream/frozenstream/rdf/Document" "lines" "I" (.int ln) ∧ Fld Z h a "com/example/frozen_stream/frozenstream/rdf/Document" "indenting" "Z" (.int fl) ∧ Fld Z h a "com/example/frozen_stream/frozenstream/rdf/Document" "most" "J" (.long (1000 : Int64)) ∧ Fld Z h a "com/example/frozen_stream/frozenstream/rdf/Document" "length" "J" (.long lg) ∧ Fld Z h a "com/example/frozen_stream/frozenstream/rdf/Document" "textLength" "I" (.int (tl + len)) ∧ Arv Z h tx kt .byte (8192 : Int32) ((ks ++ (bs.drop io).take mo).map Value.int) (.int (0 : Int32)))
theorem ef_prog_8_method_8_RRII (m : MethodId) (x0 : Addr) (x1 : Addr) (x2 : Int32) (x3 : Int32)  : entryFrame m #[(.ref x0), (.ref x1), (.int x2), (.int x3)] 6 = mkF m 0 #[.val (.ref x0), .val (.ref x1), .val (.int x2), .val (.int x3), .unset, .unset] [] := by first | (simp [entryFrame, mkF, argsToLocals, Value.category]; done) | rfl
theorem d_prog_8_method_8_0 : decode prog_8_method_8_code 0 = .ok (.aload_n 0, 1) := by decide +kernel
theorem d_prog_8_method_8_1 : decode prog_8_method_8_code 1 = .ok (.getfield 48, 3) := by decide +kernel
theorem d_prog_8_method_8_4 : decode prog_8_method_8_code 4 = .ok (.iload_n 3, 1) := by decide +kernel
theorem d_prog_8_method_8_5 : decode prog_8_method_8_code 5 = .ok (.iadd, 1) := by decide +kernel
theorem d_prog_8_method_8_6 : decode prog_8_method_8_code 6 = .ok (.aload_n 0, 1) := by decide +kernel
theorem d_prog_8_method_8_7 : decode prog_8_method_8_code 7 = .ok (.getfield 9, 3) := by decide +kernel
theorem d_prog_8_method_8_10 : decode prog_8_method_8_code 10 = .ok (.arraylength, 1) := by decide +kernel
theorem d_prog_8_method_8_11 : decode prog_8_method_8_code 11 = .ok (.if_icmp .le 46, 3) := by decide +kernel
theorem d_prog_8_method_8_57 : decode prog_8_method_8_code 57 = .ok (.aload_n 1, 1) := by decide +kernel
theorem d_prog_8_method_8_58 : decode prog_8_method_8_code 58 = .ok (.iload_n 2, 1) := by decide +kernel
theorem d_prog_8_method_8_59 : decode prog_8_method_8_code 59 = .ok (.aload_n 0, 1) := by decide +kernel
theorem d_prog_8_method_8_60 : decode prog_8_method_8_code 60 = .ok (.getfield 9, 3) := by decide +kernel
theorem d_prog_8_method_8_63 : decode prog_8_method_8_code 63 = .ok (.aload_n 0, 1) := by decide +kernel
theorem d_prog_8_method_8_64 : decode prog_8_method_8_code 64 = .ok (.getfield 48, 3) := by decide +kernel
theorem d_prog_8_method_8_67 : decode prog_8_method_8_code 67 = .ok (.iload_n 3, 1) := by decide +kernel
theorem d_prog_8_method_8_68 : decode prog_8_method_8_code 68 = .ok (.invokestatic 54, 3) := by decide +kernel
theorem d_prog_8_method_8_71 : decode prog_8_method_8_code 71 = .ok (.aload_n 0, 1) := by decide +kernel
theorem d_prog_8_method_8_72 : decode prog_8_method_8_code 72 = .ok (.dup, 1) := by decide +kernel
theorem d_prog_8_method_8_73 : decode prog_8_method_8_code 73 = .ok (.getfield 48, 3) := by decide +kernel
theorem d_prog_8_method_8_76 : decode prog_8_method_8_code 76 = .ok (.iload_n 3, 1) := by decide +kernel
theorem d_prog_8_method_8_77 : decode prog_8_method_8_code 77 = .ok (.iadd, 1) := by decide +kernel
theorem d_prog_8_method_8_78 : decode prog_8_method_8_code 78 = .ok (.putfield 48, 3) := by decide +kernel
theorem d_prog_8_method_8_81 : decode prog_8_method_8_code 81 = .ok (.return_, 1) := by decide +kernel
set_option maxRecDepth 65536 in
set_option maxHeartbeats 40000000 in
theorem rmKeep (l : Launch) (Z : State) (a0 : Array Value) (hw : ∀ d ∈ tables_1, d.before a0 Z = true) (ws : List Jvm.Cond) (a : Addr) (b : Addr) (ofs : Int32) (len : Int32) (tx ix : Addr) (kt kb : ClassId) (bs ks : List Int32) (ln fl tl : Int32) (lg : Int64) (io mo : Nat) (h0 : Heap) (n0 : Nat) (Z0 : n0 ≤ h0.size) (E_a : Exa Z h0 a "com/example/frozen_stream/frozenstream/rdf/Document") (F_a_text : Fld Z h0 a "com/example/frozen_stream/frozenstream/rdf/Document" "text" "[B" (.ref tx)) (F_a_indents : Fld Z h0 a "com/example/frozen_stream/frozenstream/rdf/Document" "indents" "[I" (.ref ix)) (F_a_lines : Fld Z h0 a "com/example/frozen_stream/frozenstream/rdf/Document" "lines" "I" (.int ln)) (F_a_indenting : Fld Z h0 a "com/example/frozen_stream/frozenstream/rdf/Document" "indenting" "Z" (.int fl)) (F_a_most : Fld Z h0 a "com/example/frozen_stream/frozenstream/rdf/Document" "most" "J" (.long (1000 : Int64))) (F_a_length : Fld Z h0 a "com/example/frozen_stream/frozenstream/rdf/Document" "length" "J" (.long lg)) (F_a_textLength : Fld Z h0 a "com/example/frozen_stream/frozenstream/rdf/Document" "textLength" "I" (.int tl)) (V_tx : Arv Z h0 tx kt .byte (8192 : Int32) (ks.map Value.int) (.int (0 : Int32))) (V_b : Arv Z h0 b kb .byte (6 : Int32) (bs.map Value.int) (.int (0 : Int32))) (ne_a_tx : a ≠ tx) (ne_b_a : b ≠ a) (ne_b_tx : b ≠ tx) (g_a : n0 ≤ a) (g_tx : n0 ≤ tx) (hof : ofs.toInt = (io : Int)) (hle : len.toInt = (mo : Int)) (hbl : bs.length = 6) (hio : io + mo ≤ 6) (htl : tl.toInt = (ks.length : Int)) (hkl : ks.length + mo ≤ 100) :
    MetFree l (⟨"com/example/frozen_stream/frozenstream/rdf/Document", "keep", "([BII)V"⟩ : MethodName) (head1 (Jvm.Cond.code (⟨"com/example/frozen_stream/frozenstream/rdf/Document", "keep", "([BII)V"⟩ : MethodName) prog_8_method_8_code 6 none :: ws) ({ frames := 1, cells := 0, slots := 0, locals := 18 } : Room)) (fun ar_ U => ar_ = #[(.ref a), (.ref b), (.int ofs), (.int len)] ∧ Z.Warmed39 U.vm ∧ U.heap = h0) (fun _ _ _ _ _ => True) (fun _ U o U' => Phi U (Q_rmKeep Z a b ofs len tx ix kt kb bs ks ln fl tl lg io mo h0 n0) ({ frames := 1, cells := 0, slots := 0, locals := 18 } : Room).cells ({ frames := 1, cells := 0, slots := 0, locals := 18 } : Room).slots o U') := by
  refine MetFree.of_bodySF (plainFor_of_name pn_com_example_frozen_stream_frozenstream_rdf_Document) hisR ?_
  intro p e s m args below meth c s₁ Bd hml0 hP hK
  obtain ⟨rfl, hZ, hh⟩ := hP
  have hx := Bd.exec
  have hby := Bd.bytes
  have hlk := Bd.notSynchronized
  have hml : c.maxLocals = 6 := hml0
  have hown : s.vm.findClass "com/example/frozen_stream/frozenstream/rdf/Document" = some m.cls := findClass_of_methodNamed Bd.named
  have hown0 := hown
  have hnm := (name_of_methodNamed Bd.named Bd.method).1
  have hret := Bd.returns
  have X0 : Stand p l e ({ frames := 1, cells := 0, slots := 0, locals := 18 } : Room) s m #[(.ref a), (.ref b), (.int ofs), (.int len)] below meth c s₁ [] 0 0 := Stand.of_body Bd
  have e0 : s₁.heap = h0 := by rw [← hh, Bd.state]; rfl
  have N0 := Fr.nil n0
  have sz := Z0
  have K := Keep.refl h0 [a, tx]
  show Runs p.tables e below (Phi s (Q_rmKeep Z a b ofs len tx ix kt kb bs ks ln fl tl lg io mo h0 n0) ({ frames := 1, cells := 0, slots := 0, locals := 18 } : Room).cells ({ frames := 1, cells := 0, slots := 0, locals := 18 } : Room).slots) _
  refine Runs.st (fun t' k' => castTop (ef_prog_8_method_8_RRII m a b ofs len ) k') ?_
  show Runs p.tables e below _ (s₁.setTop (mkF m 0 #[.val (.ref a), .val (.ref b), .val (.int ofs), .val (.int len), .unset, .unset] []))
  have hsum := own_add htl hle (by omega)
  refine Runs.st (fun t' k' => XS.aloadN X0.here hx rfl (hb hby d_prog_8_method_8_0) rfl rfl k') ?_
  obtain ⟨T1_, X1_, e1_, st1_⟩ := getF X0 hx hZ hown (host := "") (Or.inl (hw _ (List.mem_of_getElem? (i := 48) rfl))) Via.refl e0 F_a_textLength (g := (mkF m 1 #[.val (.ref a), .val (.ref b), .val (.int ofs), .val (.int len), .unset, .unset] [(.ref a)])) rfl rfl (hb hby d_prog_8_method_8_1)
  refine Runs.st (st1_) ?_
  show Runs p.tables e below _ (T1_.setTop (mkF m 4 #[.val (.ref a), .val (.ref b), .val (.int ofs), .val (.int len), .unset, .unset] [(.int tl)]))
  refine Runs.st (fun t' k' => XS.iloadN X1_.here hx rfl (hb hby d_prog_8_method_8_4) rfl k') ?_
  refine Runs.st (fun t' k' => XS.iadd X1_.here hx rfl (hb hby d_prog_8_method_8_5) rfl k') ?_
  refine Runs.st (fun t' k' => XS.aloadN X1_.here hx rfl (hb hby d_prog_8_method_8_6) rfl rfl k') ?_
  obtain ⟨T2_, X2_, e2_, st2_⟩ := getF X1_ hx hZ hown (host := "") (Or.inl (hw _ (List.mem_of_getElem? (i := 21) rfl))) Via.refl e1_ F_a_text (g := (mkF m 7 #[.val (.ref a), .val (.ref b), .val (.int ofs), .val (.int len), .unset, .unset] [(.ref a), (.int (tl + len))])) rfl rfl (hb hby d_prog_8_method_8_7)
  refine Runs.st (st2_) ?_
  show Runs p.tables e below _ (T2_.setTop (mkF m 10 #[.val (.ref a), .val (.ref b), .val (.int ofs), .val (.int len), .unset, .unset] [(.ref tx), (.int (tl + len))]))
  obtain ⟨cl3_, Ar3_, -, S3_, M3_, -, -⟩ := id V_tx
  refine Runs.st (X2_.arraylength hx (by rw [e2_]; exact Ar3_.1) (State.isArrayOf_alike hZ.alike Ar3_.2.1) (g := (mkF m 10 #[.val (.ref a), .val (.ref b), .val (.int ofs), .val (.int len), .unset, .unset] [(.ref tx), (.int (tl + len))])) rfl rfl (hb hby d_prog_8_method_8_10)) ?_
  rw [len_of S3_ M3_]
  show Runs p.tables e below _ (T2_.setTop (mkF m 11 #[.val (.ref a), .val (.ref b), .val (.int ofs), .val (.int len), .unset, .unset] [(.int (8192 : Int32)), (.int (tl + len))]))
  refine Runs.st (fun t' k' => XS.icmpYes X2_.here hx rfl (pc0 := 11) (pc' := 57) rfl (hb hby d_prog_8_method_8_11) rfl (flt (fun q => by have q' := Int32.lt_iff_toInt_lt.mp q; rw [hsum] at q'; change (8192 : Int) < _ at q'; omega)).2.2.2 (by decide) (by decide) k') ?_
  show Runs p.tables e below _ (T2_.setTop (mkF m 57 #[.val (.ref a), .val (.ref b), .val (.int ofs), .val (.int len), .unset, .unset] []))
  refine Runs.st (fun t' k' => XS.aloadN X2_.here hx rfl (hb hby d_prog_8_method_8_57) rfl rfl k') ?_
  refine Runs.st (fun t' k' => XS.iloadN X2_.here hx rfl (hb hby d_prog_8_method_8_58) rfl k') ?_
  refine Runs.st (fun t' k' => XS.aloadN X2_.here hx rfl (hb hby d_prog_8_method_8_59) rfl rfl k') ?_
  obtain ⟨T4_, X4_, e4_, st4_⟩ := getF X2_ hx hZ hown (host := "") (Or.inl (hw _ (List.mem_of_getElem? (i := 21) rfl))) Via.refl e2_ F_a_text (g := (mkF m 60 #[.val (.ref a), .val (.ref b), .val (.int ofs), .val (.int len), .unset, .unset] [(.ref a), (.int ofs), (.ref b)])) rfl rfl (hb hby d_prog_8_method_8_60)
  refine Runs.st (st4_) ?_
  show Runs p.tables e below _ (T4_.setTop (mkF m 63 #[.val (.ref a), .val (.ref b), .val (.int ofs), .val (.int len), .unset, .unset] [(.ref tx), (.int ofs), (.ref b)]))
  refine Runs.st (fun t' k' => XS.aloadN X4_.here hx rfl (hb hby d_prog_8_method_8_63) rfl rfl k') ?_
  obtain ⟨T5_, X5_, e5_, st5_⟩ := getF X4_ hx hZ hown (host := "") (Or.inl (hw _ (List.mem_of_getElem? (i := 48) rfl))) Via.refl e4_ F_a_textLength (g := (mkF m 64 #[.val (.ref a), .val (.ref b), .val (.int ofs), .val (.int len), .unset, .unset] [(.ref a), (.ref tx), (.int ofs), (.ref b)])) rfl rfl (hb hby d_prog_8_method_8_64)
  refine Runs.st (st5_) ?_
  show Runs p.tables e below _ (T5_.setTop (mkF m 67 #[.val (.ref a), .val (.ref b), .val (.int ofs), .val (.int len), .unset, .unset] [(.int tl), (.ref tx), (.int ofs), (.ref b)]))
  refine Runs.st (fun t' k' => XS.iloadN X5_.here hx rfl (hb hby d_prog_8_method_8_67) rfl k') ?_
  have V_p := V_tx.pad (own_padz ks mo)
  have hul : ((bs.drop io).take mo).length = mo := by rw [List.length_take, List.length_drop]; omega
  obtain ⟨T6_, h6_, L6_, X6_, e6_, N6_, K6_, V6_, st6_⟩ := cpA X5_ hx hZ hown (hw _ (List.mem_of_getElem? (i := 50) rfl)) (hw _ (List.mem_of_getElem? (i := 53) rfl)) (hw _ (List.mem_of_getElem? (i := 51) rfl)) (hw _ (List.mem_of_getElem? (i := 52) rfl)) e5_ V_b V_p (us := ((bs.drop io).take mo).map Value.int) (Or.inl ⟨rfl, rfl⟩) (own_nn hof) (own_nn htl) (own_nn hle) (by rw [own_nat hof, own_nat hle]; exact hio) (by rw [own_nat htl, own_nat hle]; exact Nat.le_trans hkl (by decide)) (by rw [own_nat hof, own_nat hle]; exact own_us bs io mo (by omega)) (by rw [own_nat htl, own_nat hle]; simp) N0 g_tx (g := (mkF m 68 #[.val (.ref a), .val (.ref b), .val (.int ofs), .val (.int len), .unset, .unset] [(.int len), (.int tl), (.ref tx), (.int ofs), (.ref b)])) rfl (by rw [hml]; rfl) rfl (hb hby d_prog_8_method_8_68) (by decide) (W := 0) (by show 2 * 0 + _ ≤ _; exact Nat.le_of_eq rfl) (by decide)
  refine Runs.st (st6_) ?_
  replace E_a := E_a.keep K6_
  replace F_a_text := F_a_text.keep K6_ (ninS ne_a_tx nin0)
  replace F_a_indents := F_a_indents.keep K6_ (ninS ne_a_tx nin0)
  replace F_a_lines := F_a_lines.keep K6_ (ninS ne_a_tx nin0)
  replace F_a_indenting := F_a_indenting.keep K6_ (ninS ne_a_tx nin0)
  replace F_a_most := F_a_most.keep K6_ (ninS ne_a_tx nin0)
  replace F_a_length := F_a_length.keep K6_ (ninS ne_a_tx nin0)
  replace F_a_textLength := F_a_textLength.keep K6_ (ninS ne_a_tx nin0)
  replace V_b := V_b.keep K6_ (ninS ne_b_tx nin0)
  replace sz := Nat.le_trans sz K6_.1
  replace K := K.trans K6_ (allS (Or.inl (List.mem_of_getElem? (i := 1) rfl)) all0)
  have V_tx : Arv Z h6_ tx kt .byte (8192 : Int32) ((ks ++ (bs.drop io).take mo).map Value.int) (.int (0 : Int32)) := by
    have cq := own_cp ks ((bs.drop io).take mo)
    rw [hul] at cq
    rw [own_nat htl, own_nat hle, cq] at V6_
    exact V6_
  show Runs p.tables e below _ (T6_.setTop (mkF m 71 #[.val (.ref a), .val (.ref b), .val (.int ofs), .val (.int len), .unset, .unset] []))
  refine Runs.st (fun t' k' => XS.aloadN X6_.here hx rfl (hb hby d_prog_8_method_8_71) rfl rfl k') ?_
  refine Runs.st (fun t' k' => XS.dup X6_.here hx rfl (hb hby d_prog_8_method_8_72) rfl rfl k') ?_
  obtain ⟨T7_, X7_, e7_, st7_⟩ := getF X6_ hx hZ hown (host := "") (Or.inl (hw _ (List.mem_of_getElem? (i := 48) rfl))) Via.refl e6_ F_a_textLength (g := (mkF m 73 #[.val (.ref a), .val (.ref b), .val (.int ofs), .val (.int len), .unset, .unset] [(.ref a), (.ref a)])) rfl rfl (hb hby d_prog_8_method_8_73)
  refine Runs.st (st7_) ?_
  show Runs p.tables e below _ (T7_.setTop (mkF m 76 #[.val (.ref a), .val (.ref b), .val (.int ofs), .val (.int len), .unset, .unset] [(.int tl), (.ref a)]))
  refine Runs.st (fun t' k' => XS.iloadN X7_.here hx rfl (hb hby d_prog_8_method_8_76) rfl k') ?_
  refine Runs.st (fun t' k' => XS.iadd X7_.here hx rfl (hb hby d_prog_8_method_8_77) rfl k') ?_
  obtain ⟨T8_, h8_, X8_, e8_, W8_, st8_⟩ := putF X7_ hx hZ hown (host := "") (Or.inl (hw _ (List.mem_of_getElem? (i := 48) rfl))) Via.refl e7_ F_a_textLength E_a (Or.inl (hw _ (List.mem_of_getElem? (i := 49) rfl))) (hw _ (List.mem_of_getElem? (i := 7) rfl)) (ty := .int) (by decide) rfl rfl (g := (mkF m 78 #[.val (.ref a), .val (.ref b), .val (.int ofs), .val (.int len), .unset, .unset] [(.int (tl + len)), (.ref a)])) rfl rfl (hb hby d_prog_8_method_8_78)
  refine Runs.st (st8_) ?_
  replace F_a_textLength := F_a_textLength.same W8_
  replace E_a := Jvm.RoadKit.Exa.wr W8_ E_a
  replace F_a_text := F_a_text.other W8_ (Or.inr (slot_ne (Or.inl (hw _ (List.mem_of_getElem? (i := 22) rfl))) (Or.inl (hw _ (List.mem_of_getElem? (i := 49) rfl))) (by decide) (t := (.array .byte)) (t' := .int) (by decide) (by decide)))
  replace F_a_indents := F_a_indents.other W8_ (Or.inr (slot_ne (Or.inl (hw _ (List.mem_of_getElem? (i := 25) rfl))) (Or.inl (hw _ (List.mem_of_getElem? (i := 49) rfl))) (by decide) (t := (.array .int)) (t' := .int) (by decide) (by decide)))
  replace F_a_lines := F_a_lines.other W8_ (Or.inr (slot_ne (Or.inl (hw _ (List.mem_of_getElem? (i := 27) rfl))) (Or.inl (hw _ (List.mem_of_getElem? (i := 49) rfl))) (by decide) (t := .int) (t' := .int) (by decide) (by decide)))
  replace F_a_indenting := F_a_indenting.other W8_ (Or.inr (slot_ne (Or.inl (hw _ (List.mem_of_getElem? (i := 29) rfl))) (Or.inl (hw _ (List.mem_of_getElem? (i := 49) rfl))) (by decide) (t := .boolean) (t' := .int) (by decide) (by decide)))
  replace F_a_most := F_a_most.other W8_ (Or.inr (slot_ne (Or.inr (hw _ (List.mem_of_getElem? (i := 36) rfl))) (Or.inl (hw _ (List.mem_of_getElem? (i := 49) rfl))) (by decide) (t := .long) (t' := .int) (by decide) (by decide)))
  replace F_a_length := F_a_length.other W8_ (Or.inr (slot_ne (Or.inl (hw _ (List.mem_of_getElem? (i := 43) rfl))) (Or.inl (hw _ (List.mem_of_getElem? (i := 49) rfl))) (by decide) (t := .long) (t' := .int) (by decide) (by decide)))
  replace V_tx := V_tx.other W8_ (Ne.symm ne_a_tx)
  replace V_b := V_b.other W8_ ne_b_a
  replace sz := Nat.le_trans sz (Keep.of_wr W8_).1
  have N8_ := Fr.snoc X8_ N6_ g_a
  replace K := K.wr W8_ (Or.inl (List.mem_of_getElem? (i := 0) rfl))
  show Runs p.tables e below _ (T8_.setTop (mkF m 81 #[.val (.ref a), .val (.ref b), .val (.int ofs), .val (.int len), .unset, .unset] []))
  refine Runs.ret X8_ hlk (v := none) (fun _ => rfl) (by decide) (by decide) ?_ (fun fs hr => X8_.returnOut hx hret (hb hby d_prog_8_method_8_81) hr)
  try rw [e8_]
  exact ⟨rfl, N8_, K, E_a, F_a_text, F_a_indents, F_a_lines, F_a_indenting, F_a_most, F_a_length, F_a_textLength, V_tx⟩
def Q_rmBL (Z : State) (a : Addr) (tx ix : Addr) (ki : ClassId) (cs : List Int32) (ln fl tl : Int32) (lg : Int64) (h0 : Heap) (n0 : Nat) : Option Value → Heap → List Loc → Prop := (fun v h L => v = none ∧ Fr n0 L ∧ Keep h0 h [a] ∧ Exa Z h a "com/example/frozen_stream/frozenstream/rdf/Document" ∧ Fld Z h a "com/example/frozen_stream/frozenstream/rdf/Document" "text" "[B" (.ref tx) ∧ Fld Z h a "com/example/frozen_stream/frozenstream/rdf/Document" "indents" "[I" (.ref ix) ∧ Fld Z h a "com/example/frozen_stream/frozenstream/rdf/Document" "lines" "I" (.int (ln + (1 : Int32))) ∧ Fld Z h a "com/example/frozen_stream/frozenstream/rdf/Document" "indenting" "Z" (.int fl) ∧ Fld Z h a "com/example/frozen_stream/frozenstream/rdf/Document" "most" "J" (.long (1000 : Int64)) ∧ Fld Z h a "com/example/frozen_stream/frozenstream/rdf/Document" "length" "J" (.long lg) ∧ Fld Z h a "com/example/frozen_stream/frozenstream/rdf/Document" "textLength" "I" (.int tl))
theorem ef_prog_8_method_7_R (m : MethodId) (x0 : Addr)  : entryFrame m #[(.ref x0)] 1 = mkF m 0 #[.val (.ref x0)] [] := by first | (simp [entryFrame, mkF, argsToLocals, Value.category]; done) | rfl
theorem d_prog_8_method_7_0 : decode prog_8_method_7_code 0 = .ok (.aload_n 0, 1) := by decide +kernel
theorem d_prog_8_method_7_1 : decode prog_8_method_7_code 1 = .ok (.getfield 19, 3) := by decide +kernel
theorem d_prog_8_method_7_4 : decode prog_8_method_7_code 4 = .ok (.aload_n 0, 1) := by decide +kernel
theorem d_prog_8_method_7_5 : decode prog_8_method_7_code 5 = .ok (.getfield 15, 3) := by decide +kernel
theorem d_prog_8_method_7_8 : decode prog_8_method_7_code 8 = .ok (.arraylength, 1) := by decide +kernel
theorem d_prog_8_method_7_9 : decode prog_8_method_7_code 9 = .ok (.if_icmp .ne 30, 3) := by decide +kernel
theorem d_prog_8_method_7_39 : decode prog_8_method_7_code 39 = .ok (.aload_n 0, 1) := by decide +kernel
theorem d_prog_8_method_7_40 : decode prog_8_method_7_code 40 = .ok (.dup, 1) := by decide +kernel
theorem d_prog_8_method_7_41 : decode prog_8_method_7_code 41 = .ok (.getfield 19, 3) := by decide +kernel
theorem d_prog_8_method_7_44 : decode prog_8_method_7_code 44 = .ok (.iconst 1, 1) := by decide +kernel
theorem d_prog_8_method_7_45 : decode prog_8_method_7_code 45 = .ok (.iadd, 1) := by decide +kernel
theorem d_prog_8_method_7_46 : decode prog_8_method_7_code 46 = .ok (.putfield 19, 3) := by decide +kernel
theorem d_prog_8_method_7_49 : decode prog_8_method_7_code 49 = .ok (.return_, 1) := by decide +kernel
set_option maxRecDepth 65536 in
set_option maxHeartbeats 40000000 in
theorem rmBL (l : Launch) (Z : State) (a0 : Array Value) (hw : ∀ d ∈ tables_1, d.before a0 Z = true) (ws : List Jvm.Cond) (a : Addr) (tx ix : Addr) (ki : ClassId) (cs : List Int32) (ln fl tl : Int32) (lg : Int64) (h0 : Heap) (n0 : Nat) (Z0 : n0 ≤ h0.size) (E_a : Exa Z h0 a "com/example/frozen_stream/frozenstream/rdf/Document") (F_a_text : Fld Z h0 a "com/example/frozen_stream/frozenstream/rdf/Document" "text" "[B" (.ref tx)) (F_a_indents : Fld Z h0 a "com/example/frozen_stream/frozenstream/rdf/Document" "indents" "[I" (.ref ix)) (F_a_lines : Fld Z h0 a "com/example/frozen_stream/frozenstream/rdf/Document" "lines" "I" (.int ln)) (F_a_indenting : Fld Z h0 a "com/example/frozen_stream/frozenstream/rdf/Document" "indenting" "Z" (.int fl)) (F_a_most : Fld Z h0 a "com/example/frozen_stream/frozenstream/rdf/Document" "most" "J" (.long (1000 : Int64))) (F_a_length : Fld Z h0 a "com/example/frozen_stream/frozenstream/rdf/Document" "length" "J" (.long lg)) (F_a_textLength : Fld Z h0 a "com/example/frozen_stream/frozenstream/rdf/Document" "textLength" "I" (.int tl)) (V_ix : Arv Z h0 ix ki .int (64 : Int32) (cs.map Value.int) (.int (0 : Int32))) (ne_a_ix : a ≠ ix) (g_a : n0 ≤ a) (hln : ¬ ln = 64) :
    MetFree l (⟨"com/example/frozen_stream/frozenstream/rdf/Document", "beginLine", "()V"⟩ : MethodName) (head1 (Jvm.Cond.code (⟨"com/example/frozen_stream/frozenstream/rdf/Document", "beginLine", "()V"⟩ : MethodName) prog_8_method_7_code 1 none :: ws) ({ frames := 0, cells := 0, slots := 0, locals := 0 } : Room)) (fun ar_ U => ar_ = #[(.ref a)] ∧ Z.Warmed39 U.vm ∧ U.heap = h0) (fun _ _ _ _ _ => True) (fun _ U o U' => Phi U (Q_rmBL Z a tx ix ki cs ln fl tl lg h0 n0) ({ frames := 0, cells := 0, slots := 0, locals := 0 } : Room).cells ({ frames := 0, cells := 0, slots := 0, locals := 0 } : Room).slots o U') := by
  refine MetFree.of_bodySF (plainFor_of_name pn_com_example_frozen_stream_frozenstream_rdf_Document) hisR ?_
  intro p e s m args below meth c s₁ Bd hml0 hP hK
  obtain ⟨rfl, hZ, hh⟩ := hP
  have hx := Bd.exec
  have hby := Bd.bytes
  have hlk := Bd.notSynchronized
  have hml : c.maxLocals = 1 := hml0
  have hown : s.vm.findClass "com/example/frozen_stream/frozenstream/rdf/Document" = some m.cls := findClass_of_methodNamed Bd.named
  have hown0 := hown
  have hnm := (name_of_methodNamed Bd.named Bd.method).1
  have hret := Bd.returns
  have X0 : Stand p l e ({ frames := 0, cells := 0, slots := 0, locals := 0 } : Room) s m #[(.ref a)] below meth c s₁ [] 0 0 := Stand.of_body Bd
  have e0 : s₁.heap = h0 := by rw [← hh, Bd.state]; rfl
  have N0 := Fr.nil n0
  have sz := Z0
  have K := Keep.refl h0 [a]
  show Runs p.tables e below (Phi s (Q_rmBL Z a tx ix ki cs ln fl tl lg h0 n0) ({ frames := 0, cells := 0, slots := 0, locals := 0 } : Room).cells ({ frames := 0, cells := 0, slots := 0, locals := 0 } : Room).slots) _
  refine Runs.st (fun t' k' => castTop (ef_prog_8_method_7_R m a ) k') ?_
  show Runs p.tables e below _ (s₁.setTop (mkF m 0 #[.val (.ref a)] []))
  refine Runs.st (fun t' k' => XS.aloadN X0.here hx rfl (hb hby d_prog_8_method_7_0) rfl rfl k') ?_
  obtain ⟨T1_, X1_, e1_, st1_⟩ := getF X0 hx hZ hown (host := "") (Or.inl (hw _ (List.mem_of_getElem? (i := 26) rfl))) Via.refl e0 F_a_lines (g := (mkF m 1 #[.val (.ref a)] [(.ref a)])) rfl rfl (hb hby d_prog_8_method_7_1)
  refine Runs.st (st1_) ?_
  show Runs p.tables e below _ (T1_.setTop (mkF m 4 #[.val (.ref a)] [(.int ln)]))
  refine Runs.st (fun t' k' => XS.aloadN X1_.here hx rfl (hb hby d_prog_8_method_7_4) rfl rfl k') ?_
  obtain ⟨T2_, X2_, e2_, st2_⟩ := getF X1_ hx hZ hown (host := "") (Or.inl (hw _ (List.mem_of_getElem? (i := 24) rfl))) Via.refl e1_ F_a_indents (g := (mkF m 5 #[.val (.ref a)] [(.ref a), (.int ln)])) rfl rfl (hb hby d_prog_8_method_7_5)
  refine Runs.st (st2_) ?_
  show Runs p.tables e below _ (T2_.setTop (mkF m 8 #[.val (.ref a)] [(.ref ix), (.int ln)]))
  obtain ⟨cl3_, Ar3_, -, S3_, M3_, -, -⟩ := id V_ix
  refine Runs.st (X2_.arraylength hx (by rw [e2_]; exact Ar3_.1) (State.isArrayOf_alike hZ.alike Ar3_.2.1) (g := (mkF m 8 #[.val (.ref a)] [(.ref ix), (.int ln)])) rfl rfl (hb hby d_prog_8_method_7_8)) ?_
  rw [len_of S3_ M3_]
  show Runs p.tables e below _ (T2_.setTop (mkF m 9 #[.val (.ref a)] [(.int (64 : Int32)), (.int ln)]))
  refine Runs.st (fun t' k' => XS.icmpYes X2_.here hx rfl (pc0 := 9) (pc' := 39) rfl (hb hby d_prog_8_method_7_9) rfl (feq hln).2 (by decide) (by decide) k') ?_
  show Runs p.tables e below _ (T2_.setTop (mkF m 39 #[.val (.ref a)] []))
  refine Runs.st (fun t' k' => XS.aloadN X2_.here hx rfl (hb hby d_prog_8_method_7_39) rfl rfl k') ?_
  refine Runs.st (fun t' k' => XS.dup X2_.here hx rfl (hb hby d_prog_8_method_7_40) rfl rfl k') ?_
  obtain ⟨T4_, X4_, e4_, st4_⟩ := getF X2_ hx hZ hown (host := "") (Or.inl (hw _ (List.mem_of_getElem? (i := 26) rfl))) Via.refl e2_ F_a_lines (g := (mkF m 41 #[.val (.ref a)] [(.ref a), (.ref a)])) rfl rfl (hb hby d_prog_8_method_7_41)
  refine Runs.st (st4_) ?_
  show Runs p.tables e below _ (T4_.setTop (mkF m 44 #[.val (.ref a)] [(.int ln), (.ref a)]))
  refine Runs.st (fun t' k' => XS.iconst X4_.here hx rfl (hb hby d_prog_8_method_7_44) k') ?_
  refine Runs.st (fun t' k' => XS.iadd X4_.here hx rfl (hb hby d_prog_8_method_7_45) rfl k') ?_
  obtain ⟨T5_, h5_, X5_, e5_, W5_, st5_⟩ := putF X4_ hx hZ hown (host := "") (Or.inl (hw _ (List.mem_of_getElem? (i := 26) rfl))) Via.refl e4_ F_a_lines E_a (Or.inl (hw _ (List.mem_of_getElem? (i := 27) rfl))) (hw _ (List.mem_of_getElem? (i := 7) rfl)) (ty := .int) (by decide) rfl rfl (g := (mkF m 46 #[.val (.ref a)] [(.int (ln + (1 : Int32))), (.ref a)])) rfl rfl (hb hby d_prog_8_method_7_46)
  refine Runs.st (st5_) ?_
  replace F_a_lines := F_a_lines.same W5_
  replace E_a := Jvm.RoadKit.Exa.wr W5_ E_a
  replace F_a_text := F_a_text.other W5_ (Or.inr (slot_ne (Or.inl (hw _ (List.mem_of_getElem? (i := 22) rfl))) (Or.inl (hw _ (List.mem_of_getElem? (i := 27) rfl))) (by decide) (t := (.array .byte)) (t' := .int) (by decide) (by decide)))
  replace F_a_indents := F_a_indents.other W5_ (Or.inr (slot_ne (Or.inl (hw _ (List.mem_of_getElem? (i := 25) rfl))) (Or.inl (hw _ (List.mem_of_getElem? (i := 27) rfl))) (by decide) (t := (.array .int)) (t' := .int) (by decide) (by decide)))
  replace F_a_indenting := F_a_indenting.other W5_ (Or.inr (slot_ne (Or.inl (hw _ (List.mem_of_getElem? (i := 29) rfl))) (Or.inl (hw _ (List.mem_of_getElem? (i := 27) rfl))) (by decide) (t := .boolean) (t' := .int) (by decide) (by decide)))
  replace F_a_most := F_a_most.other W5_ (Or.inr (slot_ne (Or.inr (hw _ (List.mem_of_getElem? (i := 36) rfl))) (Or.inl (hw _ (List.mem_of_getElem? (i := 27) rfl))) (by decide) (t := .long) (t' := .int) (by decide) (by decide)))
  replace F_a_length := F_a_length.other W5_ (Or.inr (slot_ne (Or.inl (hw _ (List.mem_of_getElem? (i := 43) rfl))) (Or.inl (hw _ (List.mem_of_getElem? (i := 27) rfl))) (by decide) (t := .long) (t' := .int) (by decide) (by decide)))
  replace F_a_textLength := F_a_textLength.other W5_ (Or.inr (slot_ne (Or.inl (hw _ (List.mem_of_getElem? (i := 49) rfl))) (Or.inl (hw _ (List.mem_of_getElem? (i := 27) rfl))) (by decide) (t := .int) (t' := .int) (by decide) (by decide)))
  replace V_ix := V_ix.other W5_ (Ne.symm ne_a_ix)
  replace sz := Nat.le_trans sz (Keep.of_wr W5_).1
  have N5_ := Fr.snoc X5_ N0 g_a
  replace K := K.wr W5_ (Or.inl (List.mem_of_getElem? (i := 0) rfl))
  show Runs p.tables e below _ (T5_.setTop (mkF m 49 #[.val (.ref a)] []))
  refine Runs.ret X5_ hlk (v := none) (fun _ => rfl) (by decide) (by decide) ?_ (fun fs hr => X5_.returnOut hx hret (hb hby d_prog_8_method_7_49) hr)
  try rw [e5_]
  exact ⟨rfl, N5_, K, E_a, F_a_text, F_a_indents, F_a_lines, F_a_indenting, F_a_most, F_a_length, F_a_textLength⟩
def Q_rmW (Z : State) (a : Addr) (b : Addr) (ofs : Int32) (len : Int32) (tx ix : Addr) (kt ki kb : ClassId) (bs ks cs : List Int32) (ln fl tl : Int32) (lg : Int64) (io no M : Nat) (Rr : List Int32 × Int32) (h0 : Heap) (n0 : Nat) : Option Value → Heap → List Loc → Prop := (fun v h L => ∃ lz cz tz, v = none ∧ Fr n0 L ∧ Keep h0 h [a, tx, ix] ∧ Exa Z h a "com/example/frozen_stream/frozenstream/rdf/Document" ∧ Fld Z h a "com/example/frozen_stream/frozenstream/rdf/Document" "text" "[B" (.ref tx) ∧ Fld Z h a "com/example/frozen_stream/frozenstream/rdf/Document" "indents" "[I" (.ref ix) ∧ Fld Z h a "com/example/frozen_stream/frozenstream/rdf/Document" "lines" "I" (.int lz) ∧ Fld Z h a "com/example/frozen_stream/frozenstream/rdf/Document" "indenting" "Z" (.int Rr.2) ∧ Fld Z h a "com/example/frozen_stream/frozenstream/rdf/Document" "most" "J" (.long (1000 : Int64)) ∧ Fld Z h a "com/example/frozen_stream/frozenstream/rdf/Document" "length" "J" (.long (lg + (len.toInt64))) ∧ Fld Z h a "com/example/frozen_stream/frozenstream/rdf/Document" "textLength" "I" (.int tz) ∧ Arv Z h tx kt .byte (8192 : Int32) (Rr.1.map Value.int) (.int (0 : Int32)) ∧ Arv Z h ix ki .int (64 : Int32) ((cz : List Int32).map Value.int) (.int (0 : Int32)) ∧ cz.length = 64 ∧ tz.toInt = (Rr.1.length : Int) ∧ 1 ≤ lz.toInt ∧ lz.toInt ≤ M)
theorem ef_prog_8_method_6_RRII (m : MethodId) (x0 : Addr) (x1 : Addr) (x2 : Int32) (x3 : Int32)  : entryFrame m #[(.ref x0), (.ref x1), (.int x2), (.int x3)] 6 = mkF m 0 #[.val (.ref x0), .val (.ref x1), .val (.int x2), .val (.int x3), .unset, .unset] [] := by first | (simp [entryFrame, mkF, argsToLocals, Value.category]; done) | rfl
theorem d_prog_8_method_6_40 : decode prog_8_method_6_code 40 = .ok (.iload 5, 2) := by decide +kernel
theorem d_prog_8_method_6_42 : decode prog_8_method_6_code 42 = .ok (.iload_n 2, 1) := by decide +kernel
theorem d_prog_8_method_6_43 : decode prog_8_method_6_code 43 = .ok (.iload_n 3, 1) := by decide +kernel
theorem d_prog_8_method_6_44 : decode prog_8_method_6_code 44 = .ok (.iadd, 1) := by decide +kernel
theorem d_prog_8_method_6_45 : decode prog_8_method_6_code 45 = .ok (.if_icmp .ge 87, 3) := by decide +kernel
theorem d_prog_8_method_6_132 : decode prog_8_method_6_code 132 = .ok (.aload_n 0, 1) := by decide +kernel
theorem d_prog_8_method_6_133 : decode prog_8_method_6_code 133 = .ok (.aload_n 1, 1) := by decide +kernel
theorem d_prog_8_method_6_134 : decode prog_8_method_6_code 134 = .ok (.iload 4, 2) := by decide +kernel
theorem d_prog_8_method_6_136 : decode prog_8_method_6_code 136 = .ok (.iload_n 2, 1) := by decide +kernel
theorem d_prog_8_method_6_137 : decode prog_8_method_6_code 137 = .ok (.iload_n 3, 1) := by decide +kernel
theorem d_prog_8_method_6_138 : decode prog_8_method_6_code 138 = .ok (.iadd, 1) := by decide +kernel
theorem d_prog_8_method_6_139 : decode prog_8_method_6_code 139 = .ok (.iload 4, 2) := by decide +kernel
theorem d_prog_8_method_6_141 : decode prog_8_method_6_code 141 = .ok (.isub, 1) := by decide +kernel
theorem pd__28_5bBII_29V : parseMethodDescriptor "([BII)V" = some ⟨[(.array .byte), .int, .int], none⟩ := by decide +kernel
theorem d_prog_8_method_6_142 : decode prog_8_method_6_code 142 = .ok (.invokevirtual 71, 3) := by decide +kernel
theorem d_prog_8_method_6_145 : decode prog_8_method_6_code 145 = .ok (.return_, 1) := by decide +kernel
set_option maxRecDepth 65536 in
set_option maxHeartbeats 40000000 in
theorem segE {p : Program} {l : Launch} {e : Env} {s : State} {m : MethodId} {args : Array Value} {below : List Frame} {meth : Method} {c : Code} {T0 : State} {locs : List Loc} {Z : State} {a0 : Array Value} {h0 hq : Heap} {n0 : Nat} (a b : Addr) (ofs len : Int32) (tx ix : Addr) (kt ki kb : ClassId) (bs ks cs : List Int32) (ln fl tl : Int32) (lg : Int64) (io no M : Nat) (Rr : List Int32 × Int32) (kv cv : List Int32) (lv fv tv iv rv : Int32) (i fr : Nat)
    (X0 : Stand p l e ({ frames := 2, cells := 0, slots := 0, locals := 35 } : Room) s m args below meth c T0 locs 0 0) (hx : p.tables.exec = Jvm.exec) (hw : ∀ d ∈ tables_1, d.before a0 Z = true) (hby : c.code = prog_8_method_6_code) (hml : c.maxLocals = 6) (hlk : meth.locks = false) (hret : meth.sig.returnType = none) (e0 : T0.heap = hq) (N0 : Fr n0 locs) (sz : n0 ≤ hq.size) (K : Keep h0 hq [a, tx, ix]) (hZ : Z.Warmed39 s.vm) (hown : s.vm.findClass "com/example/frozen_stream/frozenstream/rdf/Document" = some m.cls) (ne_a_tx : a ≠ tx) (ne_a_ix : a ≠ ix) (ne_tx_ix : tx ≠ ix) (ne_b_a : b ≠ a) (ne_b_tx : b ≠ tx) (ne_b_ix : b ≠ ix) (g_a : n0 ≤ a) (g_tx : n0 ≤ tx) (g_ix : n0 ≤ ix) (hbl : bs.length = 6) (hof : ofs.toInt = (io : Int)) (hle : len.toInt = (no : Int)) (h6 : io + no ≤ 6) (hM : M ≤ 60) (E_a : Exa Z hq a "com/example/frozen_stream/frozenstream/rdf/Document") (F_a_text : Fld Z hq a "com/example/frozen_stream/frozenstream/rdf/Document" "text" "[B" (.ref tx)) (F_a_indents : Fld Z hq a "com/example/frozen_stream/frozenstream/rdf/Document" "indents" "[I" (.ref ix)) (F_a_lines : Fld Z hq a "com/example/frozen_stream/frozenstream/rdf/Document" "lines" "I" (.int lv)) (F_a_indenting : Fld Z hq a "com/example/frozen_stream/frozenstream/rdf/Document" "indenting" "Z" (.int fv)) (F_a_most : Fld Z hq a "com/example/frozen_stream/frozenstream/rdf/Document" "most" "J" (.long (1000 : Int64))) (F_a_length : Fld Z hq a "com/example/frozen_stream/frozenstream/rdf/Document" "length" "J" (.long (lg + (len.toInt64)))) (F_a_textLength : Fld Z hq a "com/example/frozen_stream/frozenstream/rdf/Document" "textLength" "I" (.int tv)) (V_tx : Arv Z hq tx kt .byte (8192 : Int32) (kv.map Value.int) (.int (0 : Int32))) (V_ix : Arv Z hq ix ki .int (64 : Int32) (cv.map Value.int) (.int (0 : Int32))) (V_b : Arv Z hq b kb .byte (6 : Int32) (bs.map Value.int) (.int (0 : Int32))) (hcl : cv.length = 64) (htl : tv.toInt = (kv.length : Int)) (hi : iv.toInt = (i : Int)) (hr : rv.toInt = (fr : Int)) (hfr : fr ≤ i) (hend : i + 0 = io + no) (hkl : kv.length + (i - fr) + 0 ≤ 50) (hl1 : 1 ≤ lv.toInt) (hlM : lv.toInt + ((0 : Nat) : Int) ≤ M) (hR : List.foldl own_step (kv ++ (bs.drop fr).take (i - fr), fv) ((bs.drop i).take 0) = Rr) :
    Runs p.tables e below (Phi s (Q_rmW Z a b ofs len tx ix kt ki kb bs ks cs ln fl tl lg io no M Rr h0 n0) ({ frames := 2, cells := 0, slots := 0, locals := 35 } : Room).cells ({ frames := 2, cells := 0, slots := 0, locals := 35 } : Room).slots) (T0.setTop (mkF m 40 #[.val (.ref a), .val (.ref b), .val (.int ofs), .val (.int len), .val (.int rv), .val (.int iv)] [])) := by
  show Runs p.tables e below _ (T0.setTop (mkF m 40 #[.val (.ref a), .val (.ref b), .val (.int ofs), .val (.int len), .val (.int rv), .val (.int iv)] []))
  have hso := own_add hof hle (by omega)
  have hsu := own_sub hso hr (by omega)
  rw [show io + no - fr = i - fr by omega] at hsu
  refine Runs.st (fun t' k' => XS.iload X0.here hx rfl (hb hby d_prog_8_method_6_40) rfl k') ?_
  refine Runs.st (fun t' k' => XS.iloadN X0.here hx rfl (hb hby d_prog_8_method_6_42) rfl k') ?_
  refine Runs.st (fun t' k' => XS.iloadN X0.here hx rfl (hb hby d_prog_8_method_6_43) rfl k') ?_
  refine Runs.st (fun t' k' => XS.iadd X0.here hx rfl (hb hby d_prog_8_method_6_44) rfl k') ?_
  refine Runs.st (fun t' k' => XS.icmpYes X0.here hx rfl (pc0 := 45) (pc' := 132) rfl (hb hby d_prog_8_method_6_45) rfl (flt (fun q => by have q' := Int32.lt_iff_toInt_lt.mp q; omega)).2.1 (by decide) (by decide) k') ?_
  show Runs p.tables e below _ (T0.setTop (mkF m 132 #[.val (.ref a), .val (.ref b), .val (.int ofs), .val (.int len), .val (.int rv), .val (.int iv)] []))
  refine Runs.st (fun t' k' => XS.aloadN X0.here hx rfl (hb hby d_prog_8_method_6_132) rfl rfl k') ?_
  refine Runs.st (fun t' k' => XS.aloadN X0.here hx rfl (hb hby d_prog_8_method_6_133) rfl rfl k') ?_
  refine Runs.st (fun t' k' => XS.iload X0.here hx rfl (hb hby d_prog_8_method_6_134) rfl k') ?_
  refine Runs.st (fun t' k' => XS.iloadN X0.here hx rfl (hb hby d_prog_8_method_6_136) rfl k') ?_
  refine Runs.st (fun t' k' => XS.iloadN X0.here hx rfl (hb hby d_prog_8_method_6_137) rfl k') ?_
  show Runs p.tables e below _ (T0.setTop (mkF m 138 #[.val (.ref a), .val (.ref b), .val (.int ofs), .val (.int len), .val (.int rv), .val (.int iv)] [(.int len), (.int ofs), (.int rv), (.ref b), (.ref a)]))
  refine Runs.st (fun t' k' => XS.iadd X0.here hx rfl (hb hby d_prog_8_method_6_138) rfl k') ?_
  refine Runs.st (fun t' k' => XS.iload X0.here hx rfl (hb hby d_prog_8_method_6_139) rfl k') ?_
  refine Runs.st (fun t' k' => XS.isub X0.here hx rfl (hb hby d_prog_8_method_6_141) rfl k') ?_
  obtain ⟨cq1_, q1_, q1_'⟩ := E_a.cell
  obtain ⟨_, _, ⟨T1_, L1_, k1_, n1_⟩, -, X1_, ⟨Lc1_, hQ1_, l1_, y1_, z1_⟩, st1_⟩ := X0.privateBack hx (y := (⟨"com/example/frozen_stream/frozenstream/rdf/Document", "keep", "([BII)V"⟩ : MethodName)) hown (mvT hZ (hw _ (List.mem_of_getElem? (i := 44) rfl))) (mvT hZ (hw _ (List.mem_of_getElem? (i := 45) rfl))) (mvT hZ (own_selp (y := (⟨"com/example/frozen_stream/frozenstream/rdf/Document", "keep", "([BII)V"⟩ : MethodName)) (hw _ (List.mem_of_getElem? (i := 7) rfl)) (hw _ (List.mem_of_getElem? (i := 45) rfl)) (hw _ (List.mem_of_getElem? (i := 46) rfl)) (by decide))) (Cond.privateMethod_at (mvP hZ (hw _ (List.mem_of_getElem? (i := 46) rfl)) (args := #[]))) (mvT hZ (hw _ (List.mem_of_getElem? (i := 47) rfl))) (by decide) (backOf (W := 0) (rmKeep l Z a0 hw [] a b rv ((ofs + len) - rv) tx ix kt kb bs kv lv fv tv (lg + (len.toInt64)) fr (i - fr) hq n0 sz E_a F_a_text F_a_indents F_a_lines F_a_indenting F_a_most F_a_length F_a_textLength V_tx V_b ne_a_tx ne_b_a ne_b_tx g_a g_tx hr hsu hbl (by omega) htl (by omega)) hZ (hw _ (List.mem_of_getElem? (i := 47) rfl)) (hw _ (List.mem_of_getElem? (i := 8) rfl)) (by decide) (by decide)) (g := (mkF m 142 #[.val (.ref a), .val (.ref b), .val (.int ofs), .val (.int len), .val (.int rv), .val (.int iv)] [(.int ((ofs + len) - rv)), (.int rv), (.ref b), (.ref a)])) rfl (by rw [hml]; rfl) (Steps.refl _) (a := a) (by rw [e0]; exact q1_) q1_' (argsL := [(.ref b), (.int rv), (.int ((ofs + len) - rv))]) (rest := []) (lenOf pd__28_5bBII_29V rfl) rfl (by show 2 * 0 + _ ≤ _; exact Nat.le_of_eq rfl) (hb hby d_prog_8_method_6_142) (fun _ _ => ⟨rfl, e0, (by decide : 0 + 0 ≤ _), (by decide : 0 + 0 ≤ _)⟩)
  dsimp only [Pt.U, Pt.locs, Pt.cells, Pt.slots] at X1_ l1_ y1_ z1_ st1_ hQ1_
  subst l1_ y1_ z1_
  obtain ⟨rfl, N1_q, K1_, E_a, F_a_text, F_a_indents, F_a_lines, F_a_indenting, F_a_most, F_a_length, F_a_textLength, V_tx⟩ := hQ1_
  have N1_ := Fr.app N0 N1_q
  refine Runs.tr st1_ ?_
  replace X1_ := wider X1_ (c' := 0) (s' := 0) (by decide) (by decide)
  replace V_ix := V_ix.keep K1_ (ninS (Ne.symm ne_a_ix) (ninS (Ne.symm ne_tx_ix) nin0))
  replace V_b := V_b.keep K1_ (ninS ne_b_a (ninS ne_b_tx nin0))
  replace sz := Nat.le_trans sz K1_.1
  replace K := K.trans K1_ (allS (Or.inl (List.mem_of_getElem? (i := 0) rfl)) (allS (Or.inl (List.mem_of_getElem? (i := 1) rfl)) all0))
  show Runs p.tables e below _ (T1_.setTop (mkF m 145 #[.val (.ref a), .val (.ref b), .val (.int ofs), .val (.int len), .val (.int rv), .val (.int iv)] []))
  have hR' : (kv ++ (bs.drop fr).take (i - fr), fv) = Rr := hR
  subst hR'
  have hul : ((bs.drop fr).take (i - fr)).length = i - fr := by rw [List.length_take, List.length_drop]; omega
  refine Runs.ret X1_ hlk (v := none) (fun _ => rfl) (by decide) (by decide) ?_ (fun fs hr => X1_.returnOut hx hret (hb hby d_prog_8_method_6_145) hr)
  exact ⟨lv, cv, _, rfl, N1_, K, E_a, F_a_text, F_a_indents, F_a_lines, F_a_indenting, F_a_most, F_a_length, F_a_textLength, V_tx, V_ix, hcl, by rw [own_add htl hsu (by omega)]; simp [hul], hl1, by omega⟩
theorem d_prog_8_method_6_48 : decode prog_8_method_6_code 48 = .ok (.aload_n 0, 1) := by decide +kernel
theorem d_prog_8_method_6_49 : decode prog_8_method_6_code 49 = .ok (.getfield 23, 3) := by decide +kernel
theorem d_prog_8_method_6_100 : decode prog_8_method_6_code 100 = .ok (.aload_n 1, 1) := by decide +kernel
theorem d_prog_8_method_6_101 : decode prog_8_method_6_code 101 = .ok (.iload 5, 2) := by decide +kernel
theorem d_prog_8_method_6_103 : decode prog_8_method_6_code 103 = .ok (.baload, 1) := by decide +kernel
theorem d_prog_8_method_6_104 : decode prog_8_method_6_code 104 = .ok (.bipush 10, 2) := by decide +kernel
theorem d_prog_8_method_6_106 : decode prog_8_method_6_code 106 = .ok (.if_icmp .ne 15, 3) := by decide +kernel
theorem d_prog_8_method_6_109 : decode prog_8_method_6_code 109 = .ok (.aload_n 0, 1) := by decide +kernel
theorem d_prog_8_method_6_110 : decode prog_8_method_6_code 110 = .ok (.iconst 1, 1) := by decide +kernel
theorem d_prog_8_method_6_111 : decode prog_8_method_6_code 111 = .ok (.putfield 23, 3) := by decide +kernel
theorem d_prog_8_method_6_114 : decode prog_8_method_6_code 114 = .ok (.aload_n 0, 1) := by decide +kernel
theorem d_prog_8_method_6_115 : decode prog_8_method_6_code 115 = .ok (.invokevirtual 74, 3) := by decide +kernel
theorem d_prog_8_method_6_118 : decode prog_8_method_6_code 118 = .ok (.goto 8, 3) := by decide +kernel
theorem d_prog_8_method_6_126 : decode prog_8_method_6_code 126 = .ok (.iinc 5 1, 3) := by decide +kernel
theorem d_prog_8_method_6_129 : decode prog_8_method_6_code 129 = .ok (.goto (-89), 3) := by decide +kernel
theorem d_prog_8_method_6_121 : decode prog_8_method_6_code 121 = .ok (.aload_n 0, 1) := by decide +kernel
theorem d_prog_8_method_6_122 : decode prog_8_method_6_code 122 = .ok (.iconst 0, 1) := by decide +kernel
theorem d_prog_8_method_6_123 : decode prog_8_method_6_code 123 = .ok (.putfield 23, 3) := by decide +kernel
theorem d_prog_8_method_6_52 : decode prog_8_method_6_code 52 = .ok (.ifCond .eq 48, 3) := by decide +kernel
theorem d_prog_8_method_6_55 : decode prog_8_method_6_code 55 = .ok (.aload_n 1, 1) := by decide +kernel
theorem d_prog_8_method_6_56 : decode prog_8_method_6_code 56 = .ok (.iload 5, 2) := by decide +kernel
theorem d_prog_8_method_6_58 : decode prog_8_method_6_code 58 = .ok (.baload, 1) := by decide +kernel
theorem d_prog_8_method_6_59 : decode prog_8_method_6_code 59 = .ok (.bipush 32, 2) := by decide +kernel
theorem d_prog_8_method_6_61 : decode prog_8_method_6_code 61 = .ok (.if_icmp .ne 39, 3) := by decide +kernel
theorem d_prog_8_method_6_64 : decode prog_8_method_6_code 64 = .ok (.aload_n 0, 1) := by decide +kernel
theorem d_prog_8_method_6_65 : decode prog_8_method_6_code 65 = .ok (.aload_n 1, 1) := by decide +kernel
theorem d_prog_8_method_6_66 : decode prog_8_method_6_code 66 = .ok (.iload 4, 2) := by decide +kernel
theorem d_prog_8_method_6_68 : decode prog_8_method_6_code 68 = .ok (.iload 5, 2) := by decide +kernel
theorem d_prog_8_method_6_70 : decode prog_8_method_6_code 70 = .ok (.iload 4, 2) := by decide +kernel
theorem d_prog_8_method_6_72 : decode prog_8_method_6_code 72 = .ok (.isub, 1) := by decide +kernel
theorem d_prog_8_method_6_73 : decode prog_8_method_6_code 73 = .ok (.invokevirtual 71, 3) := by decide +kernel
theorem d_prog_8_method_6_76 : decode prog_8_method_6_code 76 = .ok (.iload 5, 2) := by decide +kernel
theorem d_prog_8_method_6_78 : decode prog_8_method_6_code 78 = .ok (.iconst 1, 1) := by decide +kernel
theorem d_prog_8_method_6_79 : decode prog_8_method_6_code 79 = .ok (.iadd, 1) := by decide +kernel
theorem d_prog_8_method_6_80 : decode prog_8_method_6_code 80 = .ok (.istore 4, 2) := by decide +kernel
theorem d_prog_8_method_6_82 : decode prog_8_method_6_code 82 = .ok (.aload_n 0, 1) := by decide +kernel
theorem d_prog_8_method_6_83 : decode prog_8_method_6_code 83 = .ok (.getfield 15, 3) := by decide +kernel
theorem d_prog_8_method_6_86 : decode prog_8_method_6_code 86 = .ok (.aload_n 0, 1) := by decide +kernel
theorem d_prog_8_method_6_87 : decode prog_8_method_6_code 87 = .ok (.getfield 19, 3) := by decide +kernel
theorem d_prog_8_method_6_90 : decode prog_8_method_6_code 90 = .ok (.iconst 1, 1) := by decide +kernel
theorem d_prog_8_method_6_91 : decode prog_8_method_6_code 91 = .ok (.isub, 1) := by decide +kernel
theorem d_prog_8_method_6_92 : decode prog_8_method_6_code 92 = .ok (.dup2, 1) := by decide +kernel
theorem d_prog_8_method_6_93 : decode prog_8_method_6_code 93 = .ok (.iaload, 1) := by decide +kernel
theorem d_prog_8_method_6_94 : decode prog_8_method_6_code 94 = .ok (.iconst 1, 1) := by decide +kernel
theorem d_prog_8_method_6_95 : decode prog_8_method_6_code 95 = .ok (.iadd, 1) := by decide +kernel
theorem d_prog_8_method_6_96 : decode prog_8_method_6_code 96 = .ok (.iastore, 1) := by decide +kernel
theorem d_prog_8_method_6_97 : decode prog_8_method_6_code 97 = .ok (.goto 29, 3) := by decide +kernel
set_option maxRecDepth 65536 in
set_option maxHeartbeats 40000000 in
theorem segT {p : Program} {l : Launch} {e : Env} {s : State} {m : MethodId} {args : Array Value} {below : List Frame} {meth : Method} {c : Code} {T0 : State} {locs : List Loc} {Z : State} {a0 : Array Value} {h0 hq : Heap} {n0 : Nat} (a b : Addr) (ofs len : Int32) (tx ix : Addr) (kt ki kb : ClassId) (bs ks cs : List Int32) (ln fl tl : Int32) (lg : Int64) (io no M : Nat) (Rr : List Int32 × Int32) (kv cv : List Int32) (lv fv tv iv rv : Int32) (k i fr : Nat)
    (X0 : Stand p l e ({ frames := 2, cells := 0, slots := 0, locals := 35 } : Room) s m args below meth c T0 locs 0 0) (hx : p.tables.exec = Jvm.exec) (hw : ∀ d ∈ tables_1, d.before a0 Z = true) (hby : c.code = prog_8_method_6_code) (hml : c.maxLocals = 6) (hlk : meth.locks = false) (hret : meth.sig.returnType = none) (e0 : T0.heap = hq) (N0 : Fr n0 locs) (sz : n0 ≤ hq.size) (K : Keep h0 hq [a, tx, ix]) (hZ : Z.Warmed39 s.vm) (hown : s.vm.findClass "com/example/frozen_stream/frozenstream/rdf/Document" = some m.cls) (ne_a_tx : a ≠ tx) (ne_a_ix : a ≠ ix) (ne_tx_ix : tx ≠ ix) (ne_b_a : b ≠ a) (ne_b_tx : b ≠ tx) (ne_b_ix : b ≠ ix) (g_a : n0 ≤ a) (g_tx : n0 ≤ tx) (g_ix : n0 ≤ ix) (hbl : bs.length = 6) (hof : ofs.toInt = (io : Int)) (hle : len.toInt = (no : Int)) (h6 : io + no ≤ 6) (hM : M ≤ 60) (E_a : Exa Z hq a "com/example/frozen_stream/frozenstream/rdf/Document") (F_a_text : Fld Z hq a "com/example/frozen_stream/frozenstream/rdf/Document" "text" "[B" (.ref tx)) (F_a_indents : Fld Z hq a "com/example/frozen_stream/frozenstream/rdf/Document" "indents" "[I" (.ref ix)) (F_a_lines : Fld Z hq a "com/example/frozen_stream/frozenstream/rdf/Document" "lines" "I" (.int lv)) (F_a_indenting : Fld Z hq a "com/example/frozen_stream/frozenstream/rdf/Document" "indenting" "Z" (.int fv)) (F_a_most : Fld Z hq a "com/example/frozen_stream/frozenstream/rdf/Document" "most" "J" (.long (1000 : Int64))) (F_a_length : Fld Z hq a "com/example/frozen_stream/frozenstream/rdf/Document" "length" "J" (.long (lg + (len.toInt64)))) (F_a_textLength : Fld Z hq a "com/example/frozen_stream/frozenstream/rdf/Document" "textLength" "I" (.int tv)) (V_tx : Arv Z hq tx kt .byte (8192 : Int32) (kv.map Value.int) (.int (0 : Int32))) (V_ix : Arv Z hq ix ki .int (64 : Int32) (cv.map Value.int) (.int (0 : Int32))) (V_b : Arv Z hq b kb .byte (6 : Int32) (bs.map Value.int) (.int (0 : Int32))) (hcl : cv.length = 64) (htl : tv.toInt = (kv.length : Int)) (hi : iv.toInt = (i : Int)) (hr : rv.toInt = (fr : Int)) (hfr : fr ≤ i) (hend : i + (k + 1) = io + no) (hkl : kv.length + (i - fr) + (k + 1) ≤ 50) (hl1 : 1 ≤ lv.toInt) (hlM : lv.toInt + (((k + 1) : Nat) : Int) ≤ M) (hR : List.foldl own_step (kv ++ (bs.drop fr).take (i - fr), fv) ((bs.drop i).take (k + 1)) = Rr) (ih : ∀ (T0 : State) (locs : List Loc) (hq : Heap) (kv cv : List Int32) (lv fv tv iv rv : Int32) (i fr : Nat), Stand p l e ({ frames := 2, cells := 0, slots := 0, locals := 35 } : Room) s m args below meth c T0 locs 0 0 → T0.heap = hq → Fr n0 locs → n0 ≤ hq.size → Keep h0 hq [a, tx, ix] → Exa Z hq a "com/example/frozen_stream/frozenstream/rdf/Document" → Fld Z hq a "com/example/frozen_stream/frozenstream/rdf/Document" "text" "[B" (.ref tx) → Fld Z hq a "com/example/frozen_stream/frozenstream/rdf/Document" "indents" "[I" (.ref ix) → Fld Z hq a "com/example/frozen_stream/frozenstream/rdf/Document" "lines" "I" (.int lv) → Fld Z hq a "com/example/frozen_stream/frozenstream/rdf/Document" "indenting" "Z" (.int fv) → Fld Z hq a "com/example/frozen_stream/frozenstream/rdf/Document" "most" "J" (.long (1000 : Int64)) → Fld Z hq a "com/example/frozen_stream/frozenstream/rdf/Document" "length" "J" (.long (lg + (len.toInt64))) → Fld Z hq a "com/example/frozen_stream/frozenstream/rdf/Document" "textLength" "I" (.int tv) → Arv Z hq tx kt .byte (8192 : Int32) (kv.map Value.int) (.int (0 : Int32)) → Arv Z hq ix ki .int (64 : Int32) (cv.map Value.int) (.int (0 : Int32)) → Arv Z hq b kb .byte (6 : Int32) (bs.map Value.int) (.int (0 : Int32)) → cv.length = 64 → tv.toInt = (kv.length : Int) → iv.toInt = (i : Int) → rv.toInt = (fr : Int) → fr ≤ i → i + k = io + no → kv.length + (i - fr) + k ≤ 50 → 1 ≤ lv.toInt → lv.toInt + ((k : Nat) : Int) ≤ M → List.foldl own_step (kv ++ (bs.drop fr).take (i - fr), fv) ((bs.drop i).take k) = Rr → Runs p.tables e below (Phi s (Q_rmW Z a b ofs len tx ix kt ki kb bs ks cs ln fl tl lg io no M Rr h0 n0) ({ frames := 2, cells := 0, slots := 0, locals := 35 } : Room).cells ({ frames := 2, cells := 0, slots := 0, locals := 35 } : Room).slots) (T0.setTop (mkF m 40 #[.val (.ref a), .val (.ref b), .val (.int ofs), .val (.int len), .val (.int rv), .val (.int iv)] []))) :
    Runs p.tables e below (Phi s (Q_rmW Z a b ofs len tx ix kt ki kb bs ks cs ln fl tl lg io no M Rr h0 n0) ({ frames := 2, cells := 0, slots := 0, locals := 35 } : Room).cells ({ frames := 2, cells := 0, slots := 0, locals := 35 } : Room).slots) (T0.setTop (mkF m 40 #[.val (.ref a), .val (.ref b), .val (.int ofs), .val (.int len), .val (.int rv), .val (.int iv)] [])) := by
  show Runs p.tables e below _ (T0.setTop (mkF m 40 #[.val (.ref a), .val (.ref b), .val (.int ofs), .val (.int len), .val (.int rv), .val (.int iv)] []))
  have hso := own_add hof hle (by omega)
  have hsu := own_sub hi hr hfr
  have q1 : ¬ iv < 0 := own_nn hi
  have q2 : iv < 6 := Int32.lt_iff_toInt_lt.mpr (by rw [hi]; change _ < (6 : Int); omega)
  have hi1 := own_add hi (show (1 : Int32).toInt = ((1 : Nat) : Int) from rfl) (by omega)
  rw [own_seg bs i k (by omega), List.foldl_cons] at hR
  obtain ⟨cc, hcc⟩ : ∃ z, z = bs.getD i 0 := ⟨_, rfl⟩
  rw [← hcc] at hR
  refine Runs.st (fun t' k' => XS.iload X0.here hx rfl (hb hby d_prog_8_method_6_40) rfl k') ?_
  refine Runs.st (fun t' k' => XS.iloadN X0.here hx rfl (hb hby d_prog_8_method_6_42) rfl k') ?_
  refine Runs.st (fun t' k' => XS.iloadN X0.here hx rfl (hb hby d_prog_8_method_6_43) rfl k') ?_
  refine Runs.st (fun t' k' => XS.iadd X0.here hx rfl (hb hby d_prog_8_method_6_44) rfl k') ?_
  refine Runs.st (fun t' k' => XS.icmpNo X0.here hx rfl (hb hby d_prog_8_method_6_45) rfl (tlt (Int32.lt_iff_toInt_lt.mpr (by omega))).2.1 k') ?_
  show Runs p.tables e below _ (T0.setTop (mkF m 48 #[.val (.ref a), .val (.ref b), .val (.int ofs), .val (.int len), .val (.int rv), .val (.int iv)] []))
  refine Runs.st (fun t' k' => XS.aloadN X0.here hx rfl (hb hby d_prog_8_method_6_48) rfl rfl k') ?_
  obtain ⟨T1_, X1_, e1_, st1_⟩ := getF X0 hx hZ hown (host := "") (Or.inl (hw _ (List.mem_of_getElem? (i := 28) rfl))) Via.refl e0 F_a_indenting (g := (mkF m 49 #[.val (.ref a), .val (.ref b), .val (.int ofs), .val (.int len), .val (.int rv), .val (.int iv)] [(.ref a)])) rfl rfl (hb hby d_prog_8_method_6_49)
  refine Runs.st (st1_) ?_
  show Runs p.tables e below _ (T1_.setTop (mkF m 52 #[.val (.ref a), .val (.ref b), .val (.int ofs), .val (.int len), .val (.int rv), .val (.int iv)] [(.int fv)]))
  have j100 : ∀ (hB : ¬ (¬ fv = 0 ∧ cc = 32)), Runs p.tables e below (Phi s (Q_rmW Z a b ofs len tx ix kt ki kb bs ks cs ln fl tl lg io no M Rr h0 n0) ({ frames := 2, cells := 0, slots := 0, locals := 35 } : Room).cells ({ frames := 2, cells := 0, slots := 0, locals := 35 } : Room).slots) (T1_.setTop (mkF m 100 #[.val (.ref a), .val (.ref b), .val (.int ofs), .val (.int len), .val (.int rv), .val (.int iv)] [])) := by
    intro hB
    show Runs p.tables e below _ (T1_.setTop (mkF m 100 #[.val (.ref a), .val (.ref b), .val (.int ofs), .val (.int len), .val (.int rv), .val (.int iv)] []))
    refine Runs.st (fun t' k' => XS.aloadN X1_.here hx rfl (hb hby d_prog_8_method_6_100) rfl rfl k') ?_
    refine Runs.st (fun t' k' => XS.iload X1_.here hx rfl (hb hby d_prog_8_method_6_101) rfl k') ?_
    obtain ⟨cl2_, Ar2_, -, S2_, M2_, Ha2_, -⟩ := id V_b
    have hin2_ : ¬ (iv < 0 ∨ cl2_.slots.size ≤ (iv).toNatClampNeg) := inb_of S2_ ⟨q1, q2⟩
    refine Runs.st (X1_.baloadBytes hx (j := iv) (v := (.int cc)) (by rw [e1_]; exact Ar2_.1) (State.isArrayOf_alike hZ.alike Ar2_.2.1) Ar2_.2.2 hin2_ (Ha2_.at hin2_ (hcc ▸ own_getD bs i iv hi)) (g := (mkF m 103 #[.val (.ref a), .val (.ref b), .val (.int ofs), .val (.int len), .val (.int rv), .val (.int iv)] [(.int iv), (.ref b)])) rfl rfl (hb hby d_prog_8_method_6_103)) ?_
    show Runs p.tables e below _ (T1_.setTop (mkF m 104 #[.val (.ref a), .val (.ref b), .val (.int ofs), .val (.int len), .val (.int rv), .val (.int iv)] [(.int cc)]))
    refine Runs.st (fun t' k' => XS.bipush X1_.here hx rfl (hb hby d_prog_8_method_6_104) k') ?_
    by_cases c106 : cc = (10 : Int32)
    · skip
      refine Runs.st (fun t' k' => XS.icmpNo X1_.here hx rfl (hb hby d_prog_8_method_6_106) rfl (teq c106).2 k') ?_
      show Runs p.tables e below _ (T1_.setTop (mkF m 109 #[.val (.ref a), .val (.ref b), .val (.int ofs), .val (.int len), .val (.int rv), .val (.int iv)] []))
      refine Runs.st (fun t' k' => XS.aloadN X1_.here hx rfl (hb hby d_prog_8_method_6_109) rfl rfl k') ?_
      refine Runs.st (fun t' k' => XS.iconst X1_.here hx rfl (hb hby d_prog_8_method_6_110) k') ?_
      obtain ⟨T3_, h3_, X3_, e3_, W3_, st3_⟩ := putFN X1_ hx hZ hown (hw _ (List.mem_of_getElem? (i := 28) rfl)) Via.refl e1_ F_a_indenting E_a (Or.inl (hw _ (List.mem_of_getElem? (i := 29) rfl))) (hw _ (List.mem_of_getElem? (i := 7) rfl)) (ty := .boolean) (v' := .int (1 : Int32)) (by decide) rfl rfl (g := (mkF m 111 #[.val (.ref a), .val (.ref b), .val (.int ofs), .val (.int len), .val (.int rv), .val (.int iv)] [(.int (1 : Int32)), (.ref a)])) rfl rfl (hb hby d_prog_8_method_6_111)
      refine Runs.st (st3_) ?_
      replace F_a_indenting := F_a_indenting.same W3_
      replace E_a := Jvm.RoadKit.Exa.wr W3_ E_a
      replace F_a_text := F_a_text.other W3_ (Or.inr (slot_ne (Or.inl (hw _ (List.mem_of_getElem? (i := 22) rfl))) (Or.inl (hw _ (List.mem_of_getElem? (i := 29) rfl))) (by decide) (t := (.array .byte)) (t' := .boolean) (by decide) (by decide)))
      replace F_a_indents := F_a_indents.other W3_ (Or.inr (slot_ne (Or.inl (hw _ (List.mem_of_getElem? (i := 25) rfl))) (Or.inl (hw _ (List.mem_of_getElem? (i := 29) rfl))) (by decide) (t := (.array .int)) (t' := .boolean) (by decide) (by decide)))
      replace F_a_lines := F_a_lines.other W3_ (Or.inr (slot_ne (Or.inl (hw _ (List.mem_of_getElem? (i := 27) rfl))) (Or.inl (hw _ (List.mem_of_getElem? (i := 29) rfl))) (by decide) (t := .int) (t' := .boolean) (by decide) (by decide)))
      replace F_a_most := F_a_most.other W3_ (Or.inr (slot_ne (Or.inr (hw _ (List.mem_of_getElem? (i := 36) rfl))) (Or.inl (hw _ (List.mem_of_getElem? (i := 29) rfl))) (by decide) (t := .long) (t' := .boolean) (by decide) (by decide)))
      replace F_a_length := F_a_length.other W3_ (Or.inr (slot_ne (Or.inl (hw _ (List.mem_of_getElem? (i := 43) rfl))) (Or.inl (hw _ (List.mem_of_getElem? (i := 29) rfl))) (by decide) (t := .long) (t' := .boolean) (by decide) (by decide)))
      replace F_a_textLength := F_a_textLength.other W3_ (Or.inr (slot_ne (Or.inl (hw _ (List.mem_of_getElem? (i := 49) rfl))) (Or.inl (hw _ (List.mem_of_getElem? (i := 29) rfl))) (by decide) (t := .int) (t' := .boolean) (by decide) (by decide)))
      replace V_tx := V_tx.other W3_ (Ne.symm ne_a_tx)
      replace V_ix := V_ix.other W3_ (Ne.symm ne_a_ix)
      replace V_b := V_b.other W3_ ne_b_a
      replace sz := Nat.le_trans sz (Keep.of_wr W3_).1
      have N3_ := Fr.snoc X3_ N0 g_a
      replace K := K.wr W3_ (Or.inl (List.mem_of_getElem? (i := 0) rfl))
      show Runs p.tables e below _ (T3_.setTop (mkF m 114 #[.val (.ref a), .val (.ref b), .val (.int ofs), .val (.int len), .val (.int rv), .val (.int iv)] []))
      refine Runs.st (fun t' k' => XS.aloadN X3_.here hx rfl (hb hby d_prog_8_method_6_114) rfl rfl k') ?_
      have hl64 : ¬ lv = 64 := fun q => by have q' := congrArg Int32.toInt q; change _ = (64 : Int) at q'; omega
      obtain ⟨cq4_, q4_, q4_'⟩ := E_a.cell
      obtain ⟨_, _, ⟨T4_, L4_, k4_, n4_⟩, -, X4_, ⟨Lc4_, hQ4_, l4_, y4_, z4_⟩, st4_⟩ := X3_.privateBack hx (y := (⟨"com/example/frozen_stream/frozenstream/rdf/Document", "beginLine", "()V"⟩ : MethodName)) hown (mvT hZ (hw _ (List.mem_of_getElem? (i := 73) rfl))) (mvT hZ (hw _ (List.mem_of_getElem? (i := 74) rfl))) (mvT hZ (own_selp (y := (⟨"com/example/frozen_stream/frozenstream/rdf/Document", "beginLine", "()V"⟩ : MethodName)) (hw _ (List.mem_of_getElem? (i := 7) rfl)) (hw _ (List.mem_of_getElem? (i := 74) rfl)) (hw _ (List.mem_of_getElem? (i := 75) rfl)) (by decide))) (Cond.privateMethod_at (mvP hZ (hw _ (List.mem_of_getElem? (i := 75) rfl)) (args := #[]))) (mvT hZ (hw _ (List.mem_of_getElem? (i := 76) rfl))) (by decide) (backOf (W := 0) (rmBL l Z a0 hw [] a tx ix ki cv lv (1 : Int32) tv (lg + (len.toInt64)) h3_ n0 sz E_a F_a_text F_a_indents F_a_lines F_a_indenting F_a_most F_a_length F_a_textLength V_ix ne_a_ix g_a hl64) hZ (hw _ (List.mem_of_getElem? (i := 76) rfl)) (hw _ (List.mem_of_getElem? (i := 8) rfl)) (by decide) (by decide)) (g := (mkF m 115 #[.val (.ref a), .val (.ref b), .val (.int ofs), .val (.int len), .val (.int rv), .val (.int iv)] [(.ref a)])) rfl (by rw [hml]; rfl) (Steps.refl _) (a := a) (by rw [e3_]; exact q4_) q4_' (argsL := []) (rest := []) (lenOf pd__28_29V rfl) rfl (by show 2 * 0 + _ ≤ _; exact Nat.le_of_eq rfl) (hb hby d_prog_8_method_6_115) (fun _ _ => ⟨rfl, e3_, (by decide : 0 + 0 ≤ _), (by decide : 0 + 0 ≤ _)⟩)
      dsimp only [Pt.U, Pt.locs, Pt.cells, Pt.slots] at X4_ l4_ y4_ z4_ st4_ hQ4_
      subst l4_ y4_ z4_
      obtain ⟨rfl, N4_q, K4_, E_a, F_a_text, F_a_indents, F_a_lines, F_a_indenting, F_a_most, F_a_length, F_a_textLength⟩ := hQ4_
      have N4_ := Fr.app N3_ N4_q
      refine Runs.tr st4_ ?_
      replace X4_ := wider X4_ (c' := 0) (s' := 0) (by decide) (by decide)
      replace V_tx := V_tx.keep K4_ (ninS (Ne.symm ne_a_tx) nin0)
      replace V_ix := V_ix.keep K4_ (ninS (Ne.symm ne_a_ix) nin0)
      replace V_b := V_b.keep K4_ (ninS ne_b_a nin0)
      replace sz := Nat.le_trans sz K4_.1
      replace K := K.trans K4_ (allS (Or.inl (List.mem_of_getElem? (i := 0) rfl)) all0)
      show Runs p.tables e below _ (T4_.setTop (mkF m 118 #[.val (.ref a), .val (.ref b), .val (.int ofs), .val (.int len), .val (.int rv), .val (.int iv)] []))
      have hlv : (lv + (1 : Int32)).toInt = lv.toInt + 1 := by
        have a1 := c_iadd lv (1 : Int32)
        have a2 := rng32 (lv + (1 : Int32))
        rw [show (1 : Int32).toInt = 1 from rfl] at a1
        omega
      refine Runs.st (fun t' k' => XS.goto X4_.here hx rfl (pc0 := 118) (pc' := 126) rfl (hb hby d_prog_8_method_6_118) (by decide) (by decide) k') ?_
      refine Runs.st (fun t' k' => XS.iinc X4_.here hx rfl (hb hby d_prog_8_method_6_126) rfl (l' := #[.val (.ref a), .val (.ref b), .val (.int ofs), .val (.int len), .val (.int rv), .val (.int (iv + (1 : Int32)))]) rfl k') ?_
      refine Runs.st (fun t' k' => XS.goto X4_.here hx rfl (pc0 := 129) (pc' := 40) rfl (hb hby d_prog_8_method_6_129) (by decide) (by decide) k') ?_
      exact ih _ _ _ kv cv _ (1 : Int32) tv _ rv (i + 1) fr X4_ rfl N4_ sz K E_a F_a_text F_a_indents F_a_lines F_a_indenting F_a_most F_a_length F_a_textLength V_tx V_ix V_b hcl htl hi1 hr (by omega) (by omega) (by omega) (by omega) (by omega) (by rw [own_pend bs fr i hfr (by omega), ← List.append_assoc, ← hcc]; rw [own_put1 hB c106] at hR; exact hR)
    · skip
      refine Runs.st (fun t' k' => XS.icmpYes X1_.here hx rfl (pc0 := 106) (pc' := 121) rfl (hb hby d_prog_8_method_6_106) rfl (feq c106).2 (by decide) (by decide) k') ?_
      show Runs p.tables e below _ (T1_.setTop (mkF m 121 #[.val (.ref a), .val (.ref b), .val (.int ofs), .val (.int len), .val (.int rv), .val (.int iv)] []))
      refine Runs.st (fun t' k' => XS.aloadN X1_.here hx rfl (hb hby d_prog_8_method_6_121) rfl rfl k') ?_
      refine Runs.st (fun t' k' => XS.iconst X1_.here hx rfl (hb hby d_prog_8_method_6_122) k') ?_
      obtain ⟨T5_, h5_, X5_, e5_, W5_, st5_⟩ := putFN X1_ hx hZ hown (hw _ (List.mem_of_getElem? (i := 28) rfl)) Via.refl e1_ F_a_indenting E_a (Or.inl (hw _ (List.mem_of_getElem? (i := 29) rfl))) (hw _ (List.mem_of_getElem? (i := 7) rfl)) (ty := .boolean) (v' := .int (0 : Int32)) (by decide) rfl rfl (g := (mkF m 123 #[.val (.ref a), .val (.ref b), .val (.int ofs), .val (.int len), .val (.int rv), .val (.int iv)] [(.int (0 : Int32)), (.ref a)])) rfl rfl (hb hby d_prog_8_method_6_123)
      refine Runs.st (st5_) ?_
      replace F_a_indenting := F_a_indenting.same W5_
      replace E_a := Jvm.RoadKit.Exa.wr W5_ E_a
      replace F_a_text := F_a_text.other W5_ (Or.inr (slot_ne (Or.inl (hw _ (List.mem_of_getElem? (i := 22) rfl))) (Or.inl (hw _ (List.mem_of_getElem? (i := 29) rfl))) (by decide) (t := (.array .byte)) (t' := .boolean) (by decide) (by decide)))
      replace F_a_indents := F_a_indents.other W5_ (Or.inr (slot_ne (Or.inl (hw _ (List.mem_of_getElem? (i := 25) rfl))) (Or.inl (hw _ (List.mem_of_getElem? (i := 29) rfl))) (by decide) (t := (.array .int)) (t' := .boolean) (by decide) (by decide)))
      replace F_a_lines := F_a_lines.other W5_ (Or.inr (slot_ne (Or.inl (hw _ (List.mem_of_getElem? (i := 27) rfl))) (Or.inl (hw _ (List.mem_of_getElem? (i := 29) rfl))) (by decide) (t := .int) (t' := .boolean) (by decide) (by decide)))
      replace F_a_most := F_a_most.other W5_ (Or.inr (slot_ne (Or.inr (hw _ (List.mem_of_getElem? (i := 36) rfl))) (Or.inl (hw _ (List.mem_of_getElem? (i := 29) rfl))) (by decide) (t := .long) (t' := .boolean) (by decide) (by decide)))
      replace F_a_length := F_a_length.other W5_ (Or.inr (slot_ne (Or.inl (hw _ (List.mem_of_getElem? (i := 43) rfl))) (Or.inl (hw _ (List.mem_of_getElem? (i := 29) rfl))) (by decide) (t := .long) (t' := .boolean) (by decide) (by decide)))
      replace F_a_textLength := F_a_textLength.other W5_ (Or.inr (slot_ne (Or.inl (hw _ (List.mem_of_getElem? (i := 49) rfl))) (Or.inl (hw _ (List.mem_of_getElem? (i := 29) rfl))) (by decide) (t := .int) (t' := .boolean) (by decide) (by decide)))
      replace V_tx := V_tx.other W5_ (Ne.symm ne_a_tx)
      replace V_ix := V_ix.other W5_ (Ne.symm ne_a_ix)
      replace V_b := V_b.other W5_ ne_b_a
      replace sz := Nat.le_trans sz (Keep.of_wr W5_).1
      have N5_ := Fr.snoc X5_ N0 g_a
      replace K := K.wr W5_ (Or.inl (List.mem_of_getElem? (i := 0) rfl))
      show Runs p.tables e below _ (T5_.setTop (mkF m 126 #[.val (.ref a), .val (.ref b), .val (.int ofs), .val (.int len), .val (.int rv), .val (.int iv)] []))
      refine Runs.st (fun t' k' => XS.iinc X5_.here hx rfl (hb hby d_prog_8_method_6_126) rfl (l' := #[.val (.ref a), .val (.ref b), .val (.int ofs), .val (.int len), .val (.int rv), .val (.int (iv + (1 : Int32)))]) rfl k') ?_
      refine Runs.st (fun t' k' => XS.goto X5_.here hx rfl (pc0 := 129) (pc' := 40) rfl (hb hby d_prog_8_method_6_129) (by decide) (by decide) k') ?_
      exact ih _ _ _ kv cv lv (0 : Int32) tv _ rv (i + 1) fr X5_ e5_ N5_ sz K E_a F_a_text F_a_indents F_a_lines F_a_indenting F_a_most F_a_length F_a_textLength V_tx V_ix V_b hcl htl hi1 hr (by omega) (by omega) (by omega) hl1 (by omega) (by rw [own_pend bs fr i hfr (by omega), ← List.append_assoc, ← hcc]; rw [own_put0 hB c106] at hR; exact hR)
  by_cases c52 : fv = (0 : Int32)
  · skip
    refine Runs.st (fun t' k' => XS.ifYes X1_.here hx rfl (pc0 := 52) (pc' := 100) rfl (hb hby d_prog_8_method_6_52) rfl ((if0 _ _).trans (teq c52).1) (by decide) (by decide) k') ?_
    show Runs p.tables e below _ (T1_.setTop (mkF m 100 #[.val (.ref a), .val (.ref b), .val (.int ofs), .val (.int len), .val (.int rv), .val (.int iv)] []))
    exact (j100 (fun q => q.1 c52))
  · skip
    refine Runs.st (fun t' k' => XS.ifNo X1_.here hx rfl (hb hby d_prog_8_method_6_52) rfl ((if0 _ _).trans (feq c52).1) k') ?_
    show Runs p.tables e below _ (T1_.setTop (mkF m 55 #[.val (.ref a), .val (.ref b), .val (.int ofs), .val (.int len), .val (.int rv), .val (.int iv)] []))
    refine Runs.st (fun t' k' => XS.aloadN X1_.here hx rfl (hb hby d_prog_8_method_6_55) rfl rfl k') ?_
    refine Runs.st (fun t' k' => XS.iload X1_.here hx rfl (hb hby d_prog_8_method_6_56) rfl k') ?_
    obtain ⟨cl6_, Ar6_, -, S6_, M6_, Ha6_, -⟩ := id V_b
    have hin6_ : ¬ (iv < 0 ∨ cl6_.slots.size ≤ (iv).toNatClampNeg) := inb_of S6_ ⟨q1, q2⟩
    refine Runs.st (X1_.baloadBytes hx (j := iv) (v := (.int cc)) (by rw [e1_]; exact Ar6_.1) (State.isArrayOf_alike hZ.alike Ar6_.2.1) Ar6_.2.2 hin6_ (Ha6_.at hin6_ (hcc ▸ own_getD bs i iv hi)) (g := (mkF m 58 #[.val (.ref a), .val (.ref b), .val (.int ofs), .val (.int len), .val (.int rv), .val (.int iv)] [(.int iv), (.ref b)])) rfl rfl (hb hby d_prog_8_method_6_58)) ?_
    show Runs p.tables e below _ (T1_.setTop (mkF m 59 #[.val (.ref a), .val (.ref b), .val (.int ofs), .val (.int len), .val (.int rv), .val (.int iv)] [(.int cc)]))
    refine Runs.st (fun t' k' => XS.bipush X1_.here hx rfl (hb hby d_prog_8_method_6_59) k') ?_
    by_cases c61 : cc = (32 : Int32)
    · skip
      refine Runs.st (fun t' k' => XS.icmpNo X1_.here hx rfl (hb hby d_prog_8_method_6_61) rfl (teq c61).2 k') ?_
      show Runs p.tables e below _ (T1_.setTop (mkF m 64 #[.val (.ref a), .val (.ref b), .val (.int ofs), .val (.int len), .val (.int rv), .val (.int iv)] []))
      refine Runs.st (fun t' k' => XS.aloadN X1_.here hx rfl (hb hby d_prog_8_method_6_64) rfl rfl k') ?_
      refine Runs.st (fun t' k' => XS.aloadN X1_.here hx rfl (hb hby d_prog_8_method_6_65) rfl rfl k') ?_
      refine Runs.st (fun t' k' => XS.iload X1_.here hx rfl (hb hby d_prog_8_method_6_66) rfl k') ?_
      refine Runs.st (fun t' k' => XS.iload X1_.here hx rfl (hb hby d_prog_8_method_6_68) rfl k') ?_
      refine Runs.st (fun t' k' => XS.iload X1_.here hx rfl (hb hby d_prog_8_method_6_70) rfl k') ?_
      show Runs p.tables e below _ (T1_.setTop (mkF m 72 #[.val (.ref a), .val (.ref b), .val (.int ofs), .val (.int len), .val (.int rv), .val (.int iv)] [(.int rv), (.int iv), (.int rv), (.ref b), (.ref a)]))
      refine Runs.st (fun t' k' => XS.isub X1_.here hx rfl (hb hby d_prog_8_method_6_72) rfl k') ?_
      obtain ⟨cq7_, q7_, q7_'⟩ := E_a.cell
      obtain ⟨_, _, ⟨T7_, L7_, k7_, n7_⟩, -, X7_, ⟨Lc7_, hQ7_, l7_, y7_, z7_⟩, st7_⟩ := X1_.privateBack hx (y := (⟨"com/example/frozen_stream/frozenstream/rdf/Document", "keep", "([BII)V"⟩ : MethodName)) hown (mvT hZ (hw _ (List.mem_of_getElem? (i := 44) rfl))) (mvT hZ (hw _ (List.mem_of_getElem? (i := 45) rfl))) (mvT hZ (own_selp (y := (⟨"com/example/frozen_stream/frozenstream/rdf/Document", "keep", "([BII)V"⟩ : MethodName)) (hw _ (List.mem_of_getElem? (i := 7) rfl)) (hw _ (List.mem_of_getElem? (i := 45) rfl)) (hw _ (List.mem_of_getElem? (i := 46) rfl)) (by decide))) (Cond.privateMethod_at (mvP hZ (hw _ (List.mem_of_getElem? (i := 46) rfl)) (args := #[]))) (mvT hZ (hw _ (List.mem_of_getElem? (i := 47) rfl))) (by decide) (backOf (W := 0) (rmKeep l Z a0 hw [] a b rv (iv - rv) tx ix kt kb bs kv lv fv tv (lg + (len.toInt64)) fr (i - fr) hq n0 sz E_a F_a_text F_a_indents F_a_lines F_a_indenting F_a_most F_a_length F_a_textLength V_tx V_b ne_a_tx ne_b_a ne_b_tx g_a g_tx hr hsu hbl (by omega) htl (by omega)) hZ (hw _ (List.mem_of_getElem? (i := 47) rfl)) (hw _ (List.mem_of_getElem? (i := 8) rfl)) (by decide) (by decide)) (g := (mkF m 73 #[.val (.ref a), .val (.ref b), .val (.int ofs), .val (.int len), .val (.int rv), .val (.int iv)] [(.int (iv - rv)), (.int rv), (.ref b), (.ref a)])) rfl (by rw [hml]; rfl) (Steps.refl _) (a := a) (by rw [e1_]; exact q7_) q7_' (argsL := [(.ref b), (.int rv), (.int (iv - rv))]) (rest := []) (lenOf pd__28_5bBII_29V rfl) rfl (by show 2 * 0 + _ ≤ _; exact Nat.le_of_eq rfl) (hb hby d_prog_8_method_6_73) (fun _ _ => ⟨rfl, e1_, (by decide : 0 + 0 ≤ _), (by decide : 0 + 0 ≤ _)⟩)
      dsimp only [Pt.U, Pt.locs, Pt.cells, Pt.slots] at X7_ l7_ y7_ z7_ st7_ hQ7_
      subst l7_ y7_ z7_
      obtain ⟨rfl, N7_q, K7_, E_a, F_a_text, F_a_indents, F_a_lines, F_a_indenting, F_a_most, F_a_length, F_a_textLength, V_tx⟩ := hQ7_
      have N7_ := Fr.app N0 N7_q
      refine Runs.tr st7_ ?_
      replace X7_ := wider X7_ (c' := 0) (s' := 0) (by decide) (by decide)
      replace V_ix := V_ix.keep K7_ (ninS (Ne.symm ne_a_ix) (ninS (Ne.symm ne_tx_ix) nin0))
      replace V_b := V_b.keep K7_ (ninS ne_b_a (ninS ne_b_tx nin0))
      replace sz := Nat.le_trans sz K7_.1
      replace K := K.trans K7_ (allS (Or.inl (List.mem_of_getElem? (i := 0) rfl)) (allS (Or.inl (List.mem_of_getElem? (i := 1) rfl)) all0))
      show Runs p.tables e below _ (T7_.setTop (mkF m 76 #[.val (.ref a), .val (.ref b), .val (.int ofs), .val (.int len), .val (.int rv), .val (.int iv)] []))
      refine Runs.st (fun t' k' => XS.iload X7_.here hx rfl (hb hby d_prog_8_method_6_76) rfl k') ?_
      refine Runs.st (fun t' k' => XS.iconst X7_.here hx rfl (hb hby d_prog_8_method_6_78) k') ?_
      refine Runs.st (fun t' k' => XS.iadd X7_.here hx rfl (hb hby d_prog_8_method_6_79) rfl k') ?_
      refine Runs.st (fun t' k' => XS.istore X7_.here hx rfl (hb hby d_prog_8_method_6_80) rfl (l' := #[.val (.ref a), .val (.ref b), .val (.int ofs), .val (.int len), .val (.int (iv + (1 : Int32))), .val (.int iv)]) rfl k') ?_
      refine Runs.st (fun t' k' => XS.aloadN X7_.here hx rfl (hb hby d_prog_8_method_6_82) rfl rfl k') ?_
      show Runs p.tables e below _ (T7_.setTop (mkF m 83 #[.val (.ref a), .val (.ref b), .val (.int ofs), .val (.int len), .val (.int (iv + (1 : Int32))), .val (.int iv)] [(.ref a)]))
      obtain ⟨T8_, X8_, e8_, st8_⟩ := getF X7_ hx hZ hown (host := "") (Or.inl (hw _ (List.mem_of_getElem? (i := 24) rfl))) Via.refl rfl F_a_indents (g := (mkF m 83 #[.val (.ref a), .val (.ref b), .val (.int ofs), .val (.int len), .val (.int (iv + (1 : Int32))), .val (.int iv)] [(.ref a)])) rfl rfl (hb hby d_prog_8_method_6_83)
      refine Runs.st (st8_) ?_
      show Runs p.tables e below _ (T8_.setTop (mkF m 86 #[.val (.ref a), .val (.ref b), .val (.int ofs), .val (.int len), .val (.int (iv + (1 : Int32))), .val (.int iv)] [(.ref ix)]))
      refine Runs.st (fun t' k' => XS.aloadN X8_.here hx rfl (hb hby d_prog_8_method_6_86) rfl rfl k') ?_
      obtain ⟨T9_, X9_, e9_, st9_⟩ := getF X8_ hx hZ hown (host := "") (Or.inl (hw _ (List.mem_of_getElem? (i := 26) rfl))) Via.refl e8_ F_a_lines (g := (mkF m 87 #[.val (.ref a), .val (.ref b), .val (.int ofs), .val (.int len), .val (.int (iv + (1 : Int32))), .val (.int iv)] [(.ref a), (.ref ix)])) rfl rfl (hb hby d_prog_8_method_6_87)
      refine Runs.st (st9_) ?_
      show Runs p.tables e below _ (T9_.setTop (mkF m 90 #[.val (.ref a), .val (.ref b), .val (.int ofs), .val (.int len), .val (.int (iv + (1 : Int32))), .val (.int iv)] [(.int lv), (.ref ix)]))
      refine Runs.st (fun t' k' => XS.iconst X9_.here hx rfl (hb hby d_prog_8_method_6_90) k') ?_
      refine Runs.st (fun t' k' => XS.isub X9_.here hx rfl (hb hby d_prog_8_method_6_91) rfl k') ?_
      refine Runs.st (fun t' k' => XT.dup2 X9_.here hx rfl (hb hby d_prog_8_method_6_92) rfl rfl rfl k') ?_
      have hul : ((bs.drop fr).take (i - fr)).length = i - fr := by rw [List.length_take, List.length_drop]; omega
      obtain ⟨ji, hji⟩ : ∃ z : Nat, lv.toInt = ((z + 1 : Nat) : Int) := ⟨(lv.toInt - 1).toNat, by omega⟩
      have hjl := own_sub hji (show (1 : Int32).toInt = ((1 : Nat) : Int) from rfl) (by omega)
      rw [show ji + 1 - 1 = ji by omega] at hjl
      have q3 := own_nn hjl
      have q4 : (lv - (1 : Int32)) < 64 := Int32.lt_iff_toInt_lt.mpr (by rw [hjl]; change _ < (64 : Int); omega)
      obtain ⟨cl10_, Ar10_, -, S10_, M10_, Ha10_, -⟩ := id V_ix
      have hin10_ : ¬ ((lv - (1 : Int32)) < 0 ∨ cl10_.slots.size ≤ ((lv - (1 : Int32))).toNatClampNeg) := inb_of S10_ ⟨q3, q4⟩
      refine Runs.st (X9_.iaload hx (j := (lv - (1 : Int32))) (v := (.int (cv.getD ji 0))) (by rw [e9_]; exact Ar10_.1) (State.isArrayOf_alike hZ.alike Ar10_.2.1) Ar10_.2.2 hin10_ (Ha10_.at hin10_ (own_getD cv ji _ hjl)) (g := (mkF m 93 #[.val (.ref a), .val (.ref b), .val (.int ofs), .val (.int len), .val (.int (iv + (1 : Int32))), .val (.int iv)] [(.int (lv - (1 : Int32))), (.ref ix), (.int (lv - (1 : Int32))), (.ref ix)])) rfl rfl (hb hby d_prog_8_method_6_93)) ?_
      show Runs p.tables e below _ (T9_.setTop (mkF m 94 #[.val (.ref a), .val (.ref b), .val (.int ofs), .val (.int len), .val (.int (iv + (1 : Int32))), .val (.int iv)] [(.int (cv.getD ji 0)), (.int (lv - (1 : Int32))), (.ref ix)]))
      refine Runs.st (fun t' k' => XS.iconst X9_.here hx rfl (hb hby d_prog_8_method_6_94) k') ?_
      refine Runs.st (fun t' k' => XS.iadd X9_.here hx rfl (hb hby d_prog_8_method_6_95) rfl k') ?_
      obtain ⟨cl11_, Ar11_, q11_, S11_, M11_, Ha11_, G11_⟩ := V_ix
      have hin11_ : ¬ ((lv - (1 : Int32)) < 0 ∨ cl11_.slots.size ≤ ((lv - (1 : Int32))).toNatClampNeg) := inb_of S11_ ⟨q3, q4⟩
      obtain ⟨T11_, h11_, X11_, e11_, W11_, st11_⟩ := stI X9_ hx hZ e9_ Ar11_ (j := (lv - (1 : Int32))) hin11_ (g := (mkF m 96 #[.val (.ref a), .val (.ref b), .val (.int ofs), .val (.int len), .val (.int (iv + (1 : Int32))), .val (.int iv)] [(.int ((cv.getD ji 0) + (1 : Int32))), (.int (lv - (1 : Int32))), (.ref ix)])) rfl rfl (hb hby d_prog_8_method_6_96)
      refine Runs.st (st11_) ?_
      have V_ix := Arv.set Ar11_ q11_ S11_ M11_ Ha11_ G11_ rfl W11_ ji (own_nat hjl) (by rw [List.length_map]; omega)
      replace V_b := V_b.other W11_ ne_b_ix
      replace E_a := Jvm.RoadKit.Exa.wr W11_ E_a
      replace F_a_text := F_a_text.other W11_ (Or.inl ne_a_ix)
      replace F_a_indents := F_a_indents.other W11_ (Or.inl ne_a_ix)
      replace F_a_lines := F_a_lines.other W11_ (Or.inl ne_a_ix)
      replace F_a_indenting := F_a_indenting.other W11_ (Or.inl ne_a_ix)
      replace F_a_most := F_a_most.other W11_ (Or.inl ne_a_ix)
      replace F_a_length := F_a_length.other W11_ (Or.inl ne_a_ix)
      replace F_a_textLength := F_a_textLength.other W11_ (Or.inl ne_a_ix)
      replace V_tx := V_tx.other W11_ ne_tx_ix
      replace sz := Nat.le_trans sz (Keep.of_wr W11_).1
      have N11_ := Fr.snoc X11_ N7_ g_ix
      replace K := K.wr W11_ (Or.inl (List.mem_of_getElem? (i := 2) rfl))
      show Runs p.tables e below _ (T11_.setTop (mkF m 97 #[.val (.ref a), .val (.ref b), .val (.int ofs), .val (.int len), .val (.int (iv + (1 : Int32))), .val (.int iv)] []))
      rw [own_seti] at V_ix
      refine Runs.st (fun t' k' => XS.goto X11_.here hx rfl (pc0 := 97) (pc' := 126) rfl (hb hby d_prog_8_method_6_97) (by decide) (by decide) k') ?_
      refine Runs.st (fun t' k' => XS.iinc X11_.here hx rfl (hb hby d_prog_8_method_6_126) rfl (l' := #[.val (.ref a), .val (.ref b), .val (.int ofs), .val (.int len), .val (.int (iv + (1 : Int32))), .val (.int (iv + (1 : Int32)))]) rfl k') ?_
      refine Runs.st (fun t' k' => XS.goto X11_.here hx rfl (pc0 := 129) (pc' := 40) rfl (hb hby d_prog_8_method_6_129) (by decide) (by decide) k') ?_
      exact ih _ _ _ _ _ lv fv _ _ _ (i + 1) (i + 1) X11_ e11_ N11_ sz K E_a F_a_text F_a_indents F_a_lines F_a_indenting F_a_most F_a_length F_a_textLength V_tx V_ix V_b (by rw [List.length_set]; exact hcl) (by rw [own_add htl hsu (by omega)]; simp [hul]) hi1 hi1 (Nat.le_refl _) (by omega) (by simp [hul]; omega) hl1 (by omega) (by rw [own_skip c52 c61] at hR; simpa using hR)
    · skip
      refine Runs.st (fun t' k' => XS.icmpYes X1_.here hx rfl (pc0 := 61) (pc' := 100) rfl (hb hby d_prog_8_method_6_61) rfl (feq c61).2 (by decide) (by decide) k') ?_
      show Runs p.tables e below _ (T1_.setTop (mkF m 100 #[.val (.ref a), .val (.ref b), .val (.int ofs), .val (.int len), .val (.int rv), .val (.int iv)] []))
      exact (j100 (fun q => c61 q.2))
set_option maxRecDepth 65536 in
theorem own_loop {p : Program} {l : Launch} {e : Env} {s : State} {m : MethodId} {args : Array Value} {below : List Frame} {meth : Method} {c : Code} {Z : State} {a0 : Array Value} {h0 : Heap} {n0 : Nat} (a b : Addr) (ofs len : Int32) (tx ix : Addr) (kt ki kb : ClassId) (bs ks cs : List Int32) (ln fl tl : Int32) (lg : Int64) (io no M : Nat) (Rr : List Int32 × Int32) (hx : p.tables.exec = Jvm.exec) (hw : ∀ d ∈ tables_1, d.before a0 Z = true) (hby : c.code = prog_8_method_6_code) (hml : c.maxLocals = 6) (hlk : meth.locks = false) (hret : meth.sig.returnType = none) (hZ : Z.Warmed39 s.vm) (hown : s.vm.findClass "com/example/frozen_stream/frozenstream/rdf/Document" = some m.cls) (ne_a_tx : a ≠ tx) (ne_a_ix : a ≠ ix) (ne_tx_ix : tx ≠ ix) (ne_b_a : b ≠ a) (ne_b_tx : b ≠ tx) (ne_b_ix : b ≠ ix) (g_a : n0 ≤ a) (g_tx : n0 ≤ tx) (g_ix : n0 ≤ ix) (hbl : bs.length = 6) (hof : ofs.toInt = (io : Int)) (hle : len.toInt = (no : Int)) (h6 : io + no ≤ 6) (hM : M ≤ 60) (k : Nat) : ∀ (T0 : State) (locs : List Loc) (hq : Heap) (kv cv : List Int32) (lv fv tv iv rv : Int32) (i fr : Nat), Stand p l e ({ frames := 2, cells := 0, slots := 0, locals := 35 } : Room) s m args below meth c T0 locs 0 0 → T0.heap = hq → Fr n0 locs → n0 ≤ hq.size → Keep h0 hq [a, tx, ix] → Exa Z hq a "com/example/frozen_stream/frozenstream/rdf/Document" → Fld Z hq a "com/example/frozen_stream/frozenstream/rdf/Document" "text" "[B" (.ref tx) → Fld Z hq a "com/example/frozen_stream/frozenstream/rdf/Document" "indents" "[I" (.ref ix) → Fld Z hq a "com/example/frozen_stream/frozenstream/rdf/Document" "lines" "I" (.int lv) → Fld Z hq a "com/example/frozen_stream/frozenstream/rdf/Document" "indenting" "Z" (.int fv) → Fld Z hq a "com/example/frozen_stream/frozenstream/rdf/Document" "most" "J" (.long (1000 : Int64)) → Fld Z hq a "com/example/frozen_stream/frozenstream/rdf/Document" "length" "J" (.long (lg + (len.toInt64))) → Fld Z hq a "com/example/frozen_stream/frozenstream/rdf/Document" "textLength" "I" (.int tv) → Arv Z hq tx kt .byte (8192 : Int32) (kv.map Value.int) (.int (0 : Int32)) → Arv Z hq ix ki .int (64 : Int32) (cv.map Value.int) (.int (0 : Int32)) → Arv Z hq b kb .byte (6 : Int32) (bs.map Value.int) (.int (0 : Int32)) → cv.length = 64 → tv.toInt = (kv.length : Int) → iv.toInt = (i : Int) → rv.toInt = (fr : Int) → fr ≤ i → i + k = io + no → kv.length + (i - fr) + k ≤ 50 → 1 ≤ lv.toInt → lv.toInt + ((k : Nat) : Int) ≤ M → List.foldl own_step (kv ++ (bs.drop fr).take (i - fr), fv) ((bs.drop i).take k) = Rr → Runs p.tables e below (Phi s (Q_rmW Z a b ofs len tx ix kt ki kb bs ks cs ln fl tl lg io no M Rr h0 n0) ({ frames := 2, cells := 0, slots := 0, locals := 35 } : Room).cells ({ frames := 2, cells := 0, slots := 0, locals := 35 } : Room).slots) (T0.setTop (mkF m 40 #[.val (.ref a), .val (.ref b), .val (.int ofs), .val (.int len), .val (.int rv), .val (.int iv)] [])) := by
  induction k with
  | zero =>
    intro T0 locs hq kv cv lv fv tv iv rv i fr X0 e0 N0 sz KK E_a F_a_text F_a_indents F_a_lines F_a_indenting F_a_most F_a_length F_a_textLength V_tx V_ix V_b hcl htl hi hr hfr hend hkl hl1 hlM hR
    exact segE (h0 := h0) a b ofs len tx ix kt ki kb bs ks cs ln fl tl lg io no M Rr kv cv lv fv tv iv rv i fr X0 hx hw hby hml hlk hret e0 N0 sz KK hZ hown ne_a_tx ne_a_ix ne_tx_ix ne_b_a ne_b_tx ne_b_ix g_a g_tx g_ix hbl hof hle h6 hM E_a F_a_text F_a_indents F_a_lines F_a_indenting F_a_most F_a_length F_a_textLength V_tx V_ix V_b hcl htl hi hr hfr hend hkl hl1 hlM hR
  | succ k ih =>
    intro T0 locs hq kv cv lv fv tv iv rv i fr X0 e0 N0 sz KK E_a F_a_text F_a_indents F_a_lines F_a_indenting F_a_most F_a_length F_a_textLength V_tx V_ix V_b hcl htl hi hr hfr hend hkl hl1 hlM hR
    exact segT (h0 := h0) a b ofs len tx ix kt ki kb bs ks cs ln fl tl lg io no M Rr kv cv lv fv tv iv rv k i fr X0 hx hw hby hml hlk hret e0 N0 sz KK hZ hown ne_a_tx ne_a_ix ne_tx_ix ne_b_a ne_b_tx ne_b_ix g_a g_tx g_ix hbl hof hle h6 hM E_a F_a_text F_a_indents F_a_lines F_a_indenting F_a_most F_a_length F_a_textLength V_tx V_ix V_b hcl htl hi hr hfr hend hkl hl1 hlM hR ih
theorem d_prog_8_method_6_0 : decode prog_8_method_6_code 0 = .ok (.aload_n 0, 1) := by decide +kernel
theorem d_prog_8_method_6_1 : decode prog_8_method_6_code 1 = .ok (.getfield 39, 3) := by decide +kernel
theorem d_prog_8_method_6_4 : decode prog_8_method_6_code 4 = .ok (.iload_n 3, 1) := by decide +kernel
theorem d_prog_8_method_6_5 : decode prog_8_method_6_code 5 = .ok (.i2l, 1) := by decide +kernel
theorem d_prog_8_method_6_6 : decode prog_8_method_6_code 6 = .ok (.ladd, 1) := by decide +kernel
theorem d_prog_8_method_6_7 : decode prog_8_method_6_code 7 = .ok (.aload_n 0, 1) := by decide +kernel
theorem d_prog_8_method_6_8 : decode prog_8_method_6_code 8 = .ok (.getfield 35, 3) := by decide +kernel
theorem d_prog_8_method_6_11 : decode prog_8_method_6_code 11 = .ok (.lcmp, 1) := by decide +kernel
theorem d_prog_8_method_6_12 : decode prog_8_method_6_code 12 = .ok (.ifCond .le 11, 3) := by decide +kernel
theorem d_prog_8_method_6_23 : decode prog_8_method_6_code 23 = .ok (.aload_n 0, 1) := by decide +kernel
theorem d_prog_8_method_6_24 : decode prog_8_method_6_code 24 = .ok (.dup, 1) := by decide +kernel
theorem d_prog_8_method_6_25 : decode prog_8_method_6_code 25 = .ok (.getfield 39, 3) := by decide +kernel
theorem d_prog_8_method_6_28 : decode prog_8_method_6_code 28 = .ok (.iload_n 3, 1) := by decide +kernel
theorem d_prog_8_method_6_29 : decode prog_8_method_6_code 29 = .ok (.i2l, 1) := by decide +kernel
theorem d_prog_8_method_6_30 : decode prog_8_method_6_code 30 = .ok (.ladd, 1) := by decide +kernel
theorem d_prog_8_method_6_31 : decode prog_8_method_6_code 31 = .ok (.putfield 39, 3) := by decide +kernel
theorem d_prog_8_method_6_34 : decode prog_8_method_6_code 34 = .ok (.iload_n 2, 1) := by decide +kernel
theorem d_prog_8_method_6_35 : decode prog_8_method_6_code 35 = .ok (.istore 4, 2) := by decide +kernel
theorem d_prog_8_method_6_37 : decode prog_8_method_6_code 37 = .ok (.iload_n 2, 1) := by decide +kernel
theorem d_prog_8_method_6_38 : decode prog_8_method_6_code 38 = .ok (.istore 5, 2) := by decide +kernel
set_option maxRecDepth 65536 in
set_option maxHeartbeats 40000000 in
theorem rmW (l : Launch) (Z : State) (a0 : Array Value) (hw : ∀ d ∈ tables_1, d.before a0 Z = true) (ws : List Jvm.Cond) (a : Addr) (b : Addr) (ofs : Int32) (len : Int32) (tx ix : Addr) (kt ki kb : ClassId) (bs ks cs : List Int32) (ln fl tl : Int32) (lg : Int64) (io no M : Nat) (Rr : List Int32 × Int32) (h0 : Heap) (n0 : Nat) (Z0 : n0 ≤ h0.size) (E_a : Exa Z h0 a "com/example/frozen_stream/frozenstream/rdf/Document") (F_a_text : Fld Z h0 a "com/example/frozen_stream/frozenstream/rdf/Document" "text" "[B" (.ref tx)) (F_a_indents : Fld Z h0 a "com/example/frozen_stream/frozenstream/rdf/Document" "indents" "[I" (.ref ix)) (F_a_lines : Fld Z h0 a "com/example/frozen_stream/frozenstream/rdf/Document" "lines" "I" (.int ln)) (F_a_indenting : Fld Z h0 a "com/example/frozen_stream/frozenstream/rdf/Document" "indenting" "Z" (.int fl)) (F_a_most : Fld Z h0 a "com/example/frozen_stream/frozenstream/rdf/Document" "most" "J" (.long (1000 : Int64))) (F_a_length : Fld Z h0 a "com/example/frozen_stream/frozenstream/rdf/Document" "length" "J" (.long lg)) (F_a_textLength : Fld Z h0 a "com/example/frozen_stream/frozenstream/rdf/Document" "textLength" "I" (.int tl)) (V_tx : Arv Z h0 tx kt .byte (8192 : Int32) (ks.map Value.int) (.int (0 : Int32))) (V_ix : Arv Z h0 ix ki .int (64 : Int32) (cs.map Value.int) (.int (0 : Int32))) (V_b : Arv Z h0 b kb .byte (6 : Int32) (bs.map Value.int) (.int (0 : Int32))) (ne_a_tx : a ≠ tx) (ne_a_ix : a ≠ ix) (ne_tx_ix : tx ≠ ix) (ne_b_a : b ≠ a) (ne_b_tx : b ≠ tx) (ne_b_ix : b ≠ ix) (g_a : n0 ≤ a) (g_tx : n0 ≤ tx) (g_ix : n0 ≤ ix) (hbl : bs.length = 6) (hof : ofs.toInt = (io : Int)) (hle : len.toInt = (no : Int)) (h6 : io + no ≤ 6) (hM : M ≤ 60) (hcl : cs.length = 64) (htl : tl.toInt = (ks.length : Int)) (hkl : ks.length + no ≤ 50) (hl1 : 1 ≤ ln.toInt) (hlM : ln.toInt + no ≤ M) (hL : ¬ ((1000 : Int64) < lg + len.toInt64)) (hR : List.foldl own_step (ks, fl) ((bs.drop io).take no) = Rr) :
    MetFree l (⟨"com/example/frozen_stream/frozenstream/rdf/Document", "write", "([BII)V"⟩ : MethodName) (head1 (Jvm.Cond.code (⟨"com/example/frozen_stream/frozenstream/rdf/Document", "write", "([BII)V"⟩ : MethodName) prog_8_method_6_code 6 none :: ws) ({ frames := 2, cells := 0, slots := 0, locals := 35 } : Room)) (fun ar_ U => ar_ = #[(.ref a), (.ref b), (.int ofs), (.int len)] ∧ Z.Warmed39 U.vm ∧ U.heap = h0) (fun _ _ _ _ _ => True) (fun _ U o U' => Phi U (Q_rmW Z a b ofs len tx ix kt ki kb bs ks cs ln fl tl lg io no M Rr h0 n0) ({ frames := 2, cells := 0, slots := 0, locals := 35 } : Room).cells ({ frames := 2, cells := 0, slots := 0, locals := 35 } : Room).slots o U') := by
  refine MetFree.of_bodySF (plainFor_of_name pn_com_example_frozen_stream_frozenstream_rdf_Document) hisR ?_
  intro p e s m args below meth c s₁ Bd hml0 hP hK
  obtain ⟨rfl, hZ, hh⟩ := hP
  have hx := Bd.exec
  have hby := Bd.bytes
  have hlk := Bd.notSynchronized
  have hml : c.maxLocals = 6 := hml0
  have hown : s.vm.findClass "com/example/frozen_stream/frozenstream/rdf/Document" = some m.cls := findClass_of_methodNamed Bd.named
  have hown0 := hown
  have hnm := (name_of_methodNamed Bd.named Bd.method).1
  have hret := Bd.returns
  have X0 : Stand p l e ({ frames := 2, cells := 0, slots := 0, locals := 35 } : Room) s m #[(.ref a), (.ref b), (.int ofs), (.int len)] below meth c s₁ [] 0 0 := Stand.of_body Bd
  have e0 : s₁.heap = h0 := by rw [← hh, Bd.state]; rfl
  have N0 := Fr.nil n0
  have sz := Z0
  have K := Keep.refl h0 [a, tx, ix]
  show Runs p.tables e below (Phi s (Q_rmW Z a b ofs len tx ix kt ki kb bs ks cs ln fl tl lg io no M Rr h0 n0) ({ frames := 2, cells := 0, slots := 0, locals := 35 } : Room).cells ({ frames := 2, cells := 0, slots := 0, locals := 35 } : Room).slots) _
  refine Runs.st (fun t' k' => castTop (ef_prog_8_method_6_RRII m a b ofs len ) k') ?_
  show Runs p.tables e below _ (s₁.setTop (mkF m 0 #[.val (.ref a), .val (.ref b), .val (.int ofs), .val (.int len), .unset, .unset] []))
  refine Runs.st (fun t' k' => XS.aloadN X0.here hx rfl (hb hby d_prog_8_method_6_0) rfl rfl k') ?_
  obtain ⟨T1_, X1_, e1_, st1_⟩ := getF X0 hx hZ hown (host := "") (Or.inl (hw _ (List.mem_of_getElem? (i := 42) rfl))) Via.refl e0 F_a_length (g := (mkF m 1 #[.val (.ref a), .val (.ref b), .val (.int ofs), .val (.int len), .unset, .unset] [(.ref a)])) rfl rfl (hb hby d_prog_8_method_6_1)
  refine Runs.st (st1_) ?_
  show Runs p.tables e below _ (T1_.setTop (mkF m 4 #[.val (.ref a), .val (.ref b), .val (.int ofs), .val (.int len), .unset, .unset] [(.long lg)]))
  refine Runs.st (fun t' k' => XS.iloadN X1_.here hx rfl (hb hby d_prog_8_method_6_4) rfl k') ?_
  refine Runs.st (fun t' k' => XS.i2l X1_.here hx rfl (hb hby d_prog_8_method_6_5) rfl k') ?_
  refine Runs.st (fun t' k' => XS.ladd X1_.here hx rfl (hb hby d_prog_8_method_6_6) rfl k') ?_
  refine Runs.st (fun t' k' => XS.aloadN X1_.here hx rfl (hb hby d_prog_8_method_6_7) rfl rfl k') ?_
  obtain ⟨T2_, X2_, e2_, st2_⟩ := getF X1_ hx hZ hown (host := "") (Or.inl (hw _ (List.mem_of_getElem? (i := 35) rfl))) Via.refl e1_ F_a_most (g := (mkF m 8 #[.val (.ref a), .val (.ref b), .val (.int ofs), .val (.int len), .unset, .unset] [(.ref a), (.long (lg + (len.toInt64)))])) rfl rfl (hb hby d_prog_8_method_6_8)
  refine Runs.st (st2_) ?_
  show Runs p.tables e below _ (T2_.setTop (mkF m 11 #[.val (.ref a), .val (.ref b), .val (.int ofs), .val (.int len), .unset, .unset] [(.long (1000 : Int64)), (.long (lg + (len.toInt64)))]))
  refine Runs.st (fun t' k' => XS.lcmp X2_.here hx rfl (hb hby d_prog_8_method_6_11) rfl k') ?_
  refine Runs.st (fun t' k' => XS.ifYes X2_.here hx rfl (pc0 := 12) (pc' := 23) rfl (hb hby d_prog_8_method_6_12) rfl ((if0 _ _).trans (flt (fun q => hL ((lw_gt _ _).mp q))).2.2.2) (by decide) (by decide) k') ?_
  show Runs p.tables e below _ (T2_.setTop (mkF m 23 #[.val (.ref a), .val (.ref b), .val (.int ofs), .val (.int len), .unset, .unset] []))
  refine Runs.st (fun t' k' => XS.aloadN X2_.here hx rfl (hb hby d_prog_8_method_6_23) rfl rfl k') ?_
  refine Runs.st (fun t' k' => XS.dup X2_.here hx rfl (hb hby d_prog_8_method_6_24) rfl rfl k') ?_
  obtain ⟨T3_, X3_, e3_, st3_⟩ := getF X2_ hx hZ hown (host := "") (Or.inl (hw _ (List.mem_of_getElem? (i := 42) rfl))) Via.refl e2_ F_a_length (g := (mkF m 25 #[.val (.ref a), .val (.ref b), .val (.int ofs), .val (.int len), .unset, .unset] [(.ref a), (.ref a)])) rfl rfl (hb hby d_prog_8_method_6_25)
  refine Runs.st (st3_) ?_
  show Runs p.tables e below _ (T3_.setTop (mkF m 28 #[.val (.ref a), .val (.ref b), .val (.int ofs), .val (.int len), .unset, .unset] [(.long lg), (.ref a)]))
  refine Runs.st (fun t' k' => XS.iloadN X3_.here hx rfl (hb hby d_prog_8_method_6_28) rfl k') ?_
  refine Runs.st (fun t' k' => XS.i2l X3_.here hx rfl (hb hby d_prog_8_method_6_29) rfl k') ?_
  refine Runs.st (fun t' k' => XS.ladd X3_.here hx rfl (hb hby d_prog_8_method_6_30) rfl k') ?_
  obtain ⟨T4_, h4_, X4_, e4_, W4_, st4_⟩ := putF X3_ hx hZ hown (host := "") (Or.inl (hw _ (List.mem_of_getElem? (i := 42) rfl))) Via.refl e3_ F_a_length E_a (Or.inl (hw _ (List.mem_of_getElem? (i := 43) rfl))) (hw _ (List.mem_of_getElem? (i := 7) rfl)) (ty := .long) (by decide) rfl rfl (g := (mkF m 31 #[.val (.ref a), .val (.ref b), .val (.int ofs), .val (.int len), .unset, .unset] [(.long (lg + (len.toInt64))), (.ref a)])) rfl rfl (hb hby d_prog_8_method_6_31)
  refine Runs.st (st4_) ?_
  replace F_a_length := F_a_length.same W4_
  replace E_a := Jvm.RoadKit.Exa.wr W4_ E_a
  replace F_a_text := F_a_text.other W4_ (Or.inr (slot_ne (Or.inl (hw _ (List.mem_of_getElem? (i := 22) rfl))) (Or.inl (hw _ (List.mem_of_getElem? (i := 43) rfl))) (by decide) (t := (.array .byte)) (t' := .long) (by decide) (by decide)))
  replace F_a_indents := F_a_indents.other W4_ (Or.inr (slot_ne (Or.inl (hw _ (List.mem_of_getElem? (i := 25) rfl))) (Or.inl (hw _ (List.mem_of_getElem? (i := 43) rfl))) (by decide) (t := (.array .int)) (t' := .long) (by decide) (by decide)))
  replace F_a_lines := F_a_lines.other W4_ (Or.inr (slot_ne (Or.inl (hw _ (List.mem_of_getElem? (i := 27) rfl))) (Or.inl (hw _ (List.mem_of_getElem? (i := 43) rfl))) (by decide) (t := .int) (t' := .long) (by decide) (by decide)))
  replace F_a_indenting := F_a_indenting.other W4_ (Or.inr (slot_ne (Or.inl (hw _ (List.mem_of_getElem? (i := 29) rfl))) (Or.inl (hw _ (List.mem_of_getElem? (i := 43) rfl))) (by decide) (t := .boolean) (t' := .long) (by decide) (by decide)))
  replace F_a_most := F_a_most.other W4_ (Or.inr (slot_ne (Or.inr (hw _ (List.mem_of_getElem? (i := 36) rfl))) (Or.inl (hw _ (List.mem_of_getElem? (i := 43) rfl))) (by decide) (t := .long) (t' := .long) (by decide) (by decide)))
  replace F_a_textLength := F_a_textLength.other W4_ (Or.inr (slot_ne (Or.inl (hw _ (List.mem_of_getElem? (i := 49) rfl))) (Or.inl (hw _ (List.mem_of_getElem? (i := 43) rfl))) (by decide) (t := .int) (t' := .long) (by decide) (by decide)))
  replace V_tx := V_tx.other W4_ (Ne.symm ne_a_tx)
  replace V_ix := V_ix.other W4_ (Ne.symm ne_a_ix)
  replace V_b := V_b.other W4_ ne_b_a
  replace sz := Nat.le_trans sz (Keep.of_wr W4_).1
  have N4_ := Fr.snoc X4_ N0 g_a
  replace K := K.wr W4_ (Or.inl (List.mem_of_getElem? (i := 0) rfl))
  show Runs p.tables e below _ (T4_.setTop (mkF m 34 #[.val (.ref a), .val (.ref b), .val (.int ofs), .val (.int len), .unset, .unset] []))
  refine Runs.st (fun t' k' => XS.iloadN X4_.here hx rfl (hb hby d_prog_8_method_6_34) rfl k') ?_
  refine Runs.st (fun t' k' => XS.istore X4_.here hx rfl (hb hby d_prog_8_method_6_35) rfl (l' := #[.val (.ref a), .val (.ref b), .val (.int ofs), .val (.int len), .val (.int ofs), .unset]) rfl k') ?_
  refine Runs.st (fun t' k' => XS.iloadN X4_.here hx rfl (hb hby d_prog_8_method_6_37) rfl k') ?_
  refine Runs.st (fun t' k' => XS.istore X4_.here hx rfl (hb hby d_prog_8_method_6_38) rfl (l' := #[.val (.ref a), .val (.ref b), .val (.int ofs), .val (.int len), .val (.int ofs), .val (.int ofs)]) rfl k') ?_
  show Runs p.tables e below _ (T4_.setTop (mkF m 40 #[.val (.ref a), .val (.ref b), .val (.int ofs), .val (.int len), .val (.int ofs), .val (.int ofs)] []))
  exact own_loop a b ofs len tx ix kt ki kb bs ks cs ln fl tl lg io no M Rr hx hw hby hml hlk hret hZ hown ne_a_tx ne_a_ix ne_tx_ix ne_b_a ne_b_tx ne_b_ix g_a g_tx g_ix hbl hof hle h6 hM no _ _ _ ks cs ln fl tl _ _ io io X4_ e4_ N4_ sz K E_a F_a_text F_a_indents F_a_lines F_a_indenting F_a_most F_a_length F_a_textLength V_tx V_ix V_b hcl htl hof hof (Nat.le_refl _) rfl (by omega) hl1 hlM (by simpa using hR)
def Q_rmCopy (Z : State) (sr : Addr) (nz : Int32) (kt : ClassId) (zs : List Int32) (h0 : Heap) (n0 : Nat) : Option Value → Heap → List Loc → Prop := (fun v h L => ∃ y ky, v = some (.ref y) ∧ Fr n0 L ∧ Keep h0 h [] ∧ h0.size ≤ y ∧ Arv Z h y ky .byte nz (zs.map Value.int) (.int (0 : Int32)))
theorem pn_java_util_Arrays : plainName "java/util/Arrays" = true := by first | (simp [plainName, overriddenIn]; done) | decide +kernel
theorem ef_jdk_65_method_121_RI (m : MethodId) (x0 : Addr) (x1 : Int32)  : entryFrame m #[(.ref x0), (.int x1)] 3 = mkF m 0 #[.val (.ref x0), .val (.int x1), .unset] [] := by first | (simp [entryFrame, mkF, argsToLocals, Value.category]; done) | rfl
theorem d_jdk_65_method_121_0 : decode jdk_65_method_121_code 0 = .ok (.iload_n 1, 1) := by decide +kernel
theorem d_jdk_65_method_121_1 : decode jdk_65_method_121_code 1 = .ok (.aload_n 0, 1) := by decide +kernel
theorem d_jdk_65_method_121_2 : decode jdk_65_method_121_code 2 = .ok (.arraylength, 1) := by decide +kernel
theorem d_jdk_65_method_121_3 : decode jdk_65_method_121_code 3 = .ok (.if_icmp .ne 11, 3) := by decide +kernel
theorem d_jdk_65_method_121_14 : decode jdk_65_method_121_code 14 = .ok (.iload_n 1, 1) := by decide +kernel
theorem d_jdk_65_method_121_15 : decode jdk_65_method_121_code 15 = .ok (.newarray .byte, 2) := by decide +kernel
theorem d_jdk_65_method_121_17 : decode jdk_65_method_121_code 17 = .ok (.astore_n 2, 1) := by decide +kernel
theorem d_jdk_65_method_121_18 : decode jdk_65_method_121_code 18 = .ok (.aload_n 0, 1) := by decide +kernel
theorem d_jdk_65_method_121_19 : decode jdk_65_method_121_code 19 = .ok (.iconst 0, 1) := by decide +kernel
theorem d_jdk_65_method_121_20 : decode jdk_65_method_121_code 20 = .ok (.aload_n 2, 1) := by decide +kernel
theorem d_jdk_65_method_121_21 : decode jdk_65_method_121_code 21 = .ok (.iconst 0, 1) := by decide +kernel
theorem d_jdk_65_method_121_22 : decode jdk_65_method_121_code 22 = .ok (.aload_n 0, 1) := by decide +kernel
theorem d_jdk_65_method_121_23 : decode jdk_65_method_121_code 23 = .ok (.arraylength, 1) := by decide +kernel
theorem d_jdk_65_method_121_24 : decode jdk_65_method_121_code 24 = .ok (.iload_n 1, 1) := by decide +kernel
theorem pd__28II_29I : parseMethodDescriptor "(II)I" = some ⟨[.int, .int], some .int⟩ := by decide +kernel
theorem d_jdk_65_method_121_25 : decode jdk_65_method_121_code 25 = .ok (.invokestatic 304, 3) := by decide +kernel
theorem d_jdk_65_method_121_28 : decode jdk_65_method_121_code 28 = .ok (.invokestatic 150, 3) := by decide +kernel
theorem d_jdk_65_method_121_31 : decode jdk_65_method_121_code 31 = .ok (.aload_n 2, 1) := by decide +kernel
theorem d_jdk_65_method_121_32 : decode jdk_65_method_121_code 32 = .ok (.areturn, 1) := by decide +kernel
set_option maxRecDepth 65536 in
set_option maxHeartbeats 40000000 in
theorem rmCopy (l : Launch) (Z : State) (a0 : Array Value) (hw : ∀ d ∈ tables_1, d.before a0 Z = true) (ws : List Jvm.Cond) (sr : Addr) (nz : Int32) (kt : ClassId) (zs : List Int32) (h0 : Heap) (n0 : Nat) (Z0 : n0 ≤ h0.size) (V_sr : Arv Z h0 sr kt .byte (8192 : Int32) (zs.map Value.int) (.int (0 : Int32))) (hn : nz.toInt = (zs.length : Int)) (hz : zs.length ≤ 12) :
    MetFree l (⟨"java/util/Arrays", "copyOf", "([BI)[B"⟩ : MethodName) (head1 (Jvm.Cond.code (⟨"java/util/Arrays", "copyOf", "([BI)[B"⟩ : MethodName) jdk_65_method_121_code 3 (some (.array .byte)) :: ws) ({ frames := 1, cells := 1, slots := 12, locals := 18 } : Room)) (fun ar_ U => ar_ = #[(.ref sr), (.int nz)] ∧ Z.Warmed39 U.vm ∧ U.heap = h0) (fun _ _ _ _ _ => True) (fun _ U o U' => Phi U (Q_rmCopy Z sr nz kt zs h0 n0) ({ frames := 1, cells := 1, slots := 12, locals := 18 } : Room).cells ({ frames := 1, cells := 1, slots := 12, locals := 18 } : Room).slots o U') := by
  refine MetFree.of_bodySF (plainFor_of_name pn_java_util_Arrays) hisR ?_
  intro p e s m args below meth c s₁ Bd hml0 hP hK
  obtain ⟨rfl, hZ, hh⟩ := hP
  have hx := Bd.exec
  have hby := Bd.bytes
  have hlk := Bd.notSynchronized
  have hml : c.maxLocals = 3 := hml0
  have hown : s.vm.findClass "java/util/Arrays" = some m.cls := findClass_of_methodNamed Bd.named
  have hown0 := hown
  have hnm := (name_of_methodNamed Bd.named Bd.method).1
  have hret := Bd.returns
  have X0 : Stand p l e ({ frames := 1, cells := 1, slots := 12, locals := 18 } : Room) s m #[(.ref sr), (.int nz)] below meth c s₁ [] 0 0 := Stand.of_body Bd
  have e0 : s₁.heap = h0 := by rw [← hh, Bd.state]; rfl
  have N0 := Fr.nil n0
  have sz := Z0
  have K := Keep.refl h0 []
  show Runs p.tables e below (Phi s (Q_rmCopy Z sr nz kt zs h0 n0) ({ frames := 1, cells := 1, slots := 12, locals := 18 } : Room).cells ({ frames := 1, cells := 1, slots := 12, locals := 18 } : Room).slots) _
  refine Runs.st (fun t' k' => castTop (ef_jdk_65_method_121_RI m sr nz ) k') ?_
  show Runs p.tables e below _ (s₁.setTop (mkF m 0 #[.val (.ref sr), .val (.int nz), .unset] []))
  refine Runs.st (fun t' k' => XS.iloadN X0.here hx rfl (hb hby d_jdk_65_method_121_0) rfl k') ?_
  refine Runs.st (fun t' k' => XS.aloadN X0.here hx rfl (hb hby d_jdk_65_method_121_1) rfl rfl k') ?_
  obtain ⟨cl1_, Ar1_, -, S1_, M1_, -, -⟩ := id V_sr
  refine Runs.st (X0.arraylength hx (by rw [e0]; exact Ar1_.1) (State.isArrayOf_alike hZ.alike Ar1_.2.1) (g := (mkF m 2 #[.val (.ref sr), .val (.int nz), .unset] [(.ref sr), (.int nz)])) rfl rfl (hb hby d_jdk_65_method_121_2)) ?_
  rw [len_of S1_ M1_]
  show Runs p.tables e below _ (s₁.setTop (mkF m 3 #[.val (.ref sr), .val (.int nz), .unset] [(.int (8192 : Int32)), (.int nz)]))
  refine Runs.st (fun t' k' => XS.icmpYes X0.here hx rfl (pc0 := 3) (pc' := 14) rfl (hb hby d_jdk_65_method_121_3) rfl (feq (fun q => by have q' := congrArg Int32.toInt q; change _ = (8192 : Int) at q'; omega)).2 (by decide) (by decide) k') ?_
  show Runs p.tables e below _ (s₁.setTop (mkF m 14 #[.val (.ref sr), .val (.int nz), .unset] []))
  refine Runs.st (fun t' k' => XS.iloadN X0.here hx rfl (hb hby d_jdk_65_method_121_14) rfl k') ?_
  obtain ⟨T2_, h2_, k2_, X2_, e2_, E2_, A2_, st2_⟩ := newP X0 hx hZ (hw _ (List.mem_of_getElem? (i := 0) rfl)) e0 (g := (mkF m 15 #[.val (.ref sr), .val (.int nz), .unset] [(.int nz)])) rfl (hb hby d_jdk_65_method_121_15) rfl (own_nn hn) (cap := 12) (by rw [own_nat hn]; exact hz) (by decide) (by decide) (by decide)
  refine Runs.st (st2_) ?_
  obtain ⟨y, g2_⟩ : ∃ z, z = h0.size := ⟨_, rfl⟩
  rw [← g2_] at A2_
  try rw [← g2_]
  have g_y : n0 ≤ y := Nat.le_trans sz (Nat.le_of_eq g2_.symm)
  have sz_y : h0.size ≤ y := Nat.le_trans K.1 (Nat.le_of_eq g2_.symm)
  have ne_sr_y : sr ≠ y := Nat.ne_of_lt (Nat.lt_of_lt_of_le V_sr.lt (Nat.le_of_eq g2_.symm))
  replace V_sr := V_sr.ext E2_
  replace sz := Nat.le_trans sz E2_.1
  replace K := K.ext E2_
  have V_y := Arv.new A2_ (own_nn hn)
  show Runs p.tables e below _ (T2_.setTop (mkF m 17 #[.val (.ref sr), .val (.int nz), .unset] [(.ref y)]))
  replace V_y : Arv Z h2_ y k2_ .byte nz (([] : List Int32).map Value.int) (.int (0 : Int32)) := V_y
  refine Runs.st (fun t' k' => XS.astoreN X2_.here hx rfl (hb hby d_jdk_65_method_121_17) rfl rfl (l' := #[.val (.ref sr), .val (.int nz), .val (.ref y)]) rfl k') ?_
  refine Runs.st (fun t' k' => XS.aloadN X2_.here hx rfl (hb hby d_jdk_65_method_121_18) rfl rfl k') ?_
  refine Runs.st (fun t' k' => XS.iconst X2_.here hx rfl (hb hby d_jdk_65_method_121_19) k') ?_
  refine Runs.st (fun t' k' => XS.aloadN X2_.here hx rfl (hb hby d_jdk_65_method_121_20) rfl rfl k') ?_
  refine Runs.st (fun t' k' => XS.iconst X2_.here hx rfl (hb hby d_jdk_65_method_121_21) k') ?_
  show Runs p.tables e below _ (T2_.setTop (mkF m 22 #[.val (.ref sr), .val (.int nz), .val (.ref y)] [(.int (0 : Int32)), (.ref y), (.int (0 : Int32)), (.ref sr)]))
  refine Runs.st (fun t' k' => XS.aloadN X2_.here hx rfl (hb hby d_jdk_65_method_121_22) rfl rfl k') ?_
  obtain ⟨cl3_, Ar3_, -, S3_, M3_, -, -⟩ := id V_sr
  refine Runs.st (X2_.arraylength hx (by rw [e2_]; exact Ar3_.1) (State.isArrayOf_alike hZ.alike Ar3_.2.1) (g := (mkF m 23 #[.val (.ref sr), .val (.int nz), .val (.ref y)] [(.ref sr), (.int (0 : Int32)), (.ref y), (.int (0 : Int32)), (.ref sr)])) rfl rfl (hb hby d_jdk_65_method_121_23)) ?_
  rw [len_of S3_ M3_]
  show Runs p.tables e below _ (T2_.setTop (mkF m 24 #[.val (.ref sr), .val (.int nz), .val (.ref y)] [(.int (8192 : Int32)), (.int (0 : Int32)), (.ref y), (.int (0 : Int32)), (.ref sr)]))
  refine Runs.st (fun t' k' => XS.iloadN X2_.here hx rfl (hb hby d_jdk_65_method_121_24) rfl k') ?_
  obtain ⟨_, _, ⟨T4_, L4_, k4_, n4_⟩, -, X4_, ⟨Lc4_, hQ4_, l4_, y4_, z4_⟩, st4_⟩ := Jvm.LawKit.callS X2_ hx (y := (⟨"java/lang/Math", "min", "(II)I"⟩ : MethodName)) hown (mvT hZ (hw _ (List.mem_of_getElem? (i := 63) rfl))) (mvT hZ (hw _ (List.mem_of_getElem? (i := 64) rfl))) (mvT hZ (hw _ (List.mem_of_getElem? (i := 33) rfl))) (mvT hZ (hw _ (List.mem_of_getElem? (i := 65) rfl))) (by decide) (backOf (W := 4) (rmMinI l Z a0 hw [] (8192 : Int32) nz h2_ n0 sz (Int32.lt_iff_toInt_lt.mpr (by rw [hn]; change _ < (8192 : Int); omega))) hZ (hw _ (List.mem_of_getElem? (i := 65) rfl)) (hw _ (List.mem_of_getElem? (i := 33) rfl)) (by decide) (by decide)) (g := (mkF m 25 #[.val (.ref sr), .val (.int nz), .val (.ref y)] [(.int nz), (.int (8192 : Int32)), (.int (0 : Int32)), (.ref y), (.int (0 : Int32)), (.ref sr)])) rfl (by rw [hml]; rfl) (argsL := [(.int (8192 : Int32)), (.int nz)]) (rest := [(.int (0 : Int32)), (.ref y), (.int (0 : Int32)), (.ref sr)]) (lenOf pd__28II_29I rfl) rfl (by show 2 * 0 + _ ≤ _; exact Nat.le_of_eq rfl) (hb hby d_jdk_65_method_121_25) (fun _ _ => ⟨rfl, e2_, (by decide : 1 + 0 ≤ _), (by decide : 12 + 0 ≤ _)⟩)
  dsimp only [Pt.U, Pt.locs, Pt.cells, Pt.slots] at X4_ l4_ y4_ z4_ st4_ hQ4_
  subst l4_ y4_ z4_
  obtain ⟨rfl, N4_q, e4_⟩ := hQ4_
  have N4_ := Fr.app N0 N4_q
  refine Runs.st (st4_) ?_
  replace X4_ := wider X4_ (c' := 1) (s' := 12) (by decide) (by decide)
  show Runs p.tables e below _ (T4_.setTop (mkF m 28 #[.val (.ref sr), .val (.int nz), .val (.ref y)] [(.int nz), (.int (0 : Int32)), (.ref y), (.int (0 : Int32)), (.ref sr)]))
  have V_p := V_y.pad (own_padz [] zs.length)
  have h00 : (0 : Int32).toInt = ((0 : Nat) : Int) := rfl
  obtain ⟨T5_, h5_, L5_, X5_, e5_, N5_, K5_, V5_, st5_⟩ := cpA X4_ hx hZ hown (hw _ (List.mem_of_getElem? (i := 66) rfl)) (hw _ (List.mem_of_getElem? (i := 53) rfl)) (hw _ (List.mem_of_getElem? (i := 51) rfl)) (hw _ (List.mem_of_getElem? (i := 52) rfl)) e4_ V_sr V_p (us := zs.map Value.int) (Or.inl ⟨rfl, rfl⟩) (by decide) (by decide) (own_nn hn) (by rw [own_nat h00, own_nat hn]; show 0 + zs.length ≤ 8192; omega) (by rw [own_nat h00, own_nat hn]; omega) (by rw [own_nat h00, own_nat hn]; have u := own_us zs 0 zs.length (by omega); simpa using u) (by rw [own_nat h00, own_nat hn]; simp) N4_ g_y (g := (mkF m 28 #[.val (.ref sr), .val (.int nz), .val (.ref y)] [(.int nz), (.int (0 : Int32)), (.ref y), (.int (0 : Int32)), (.ref sr)])) rfl (by rw [hml]; rfl) rfl (hb hby d_jdk_65_method_121_28) (by decide) (W := 0) (by show 2 * 0 + _ ≤ _; exact Nat.le_of_eq rfl) (by decide)
  refine Runs.st (st5_) ?_
  replace V_sr := V_sr.keep K5_ (ninS ne_sr_y nin0)
  replace sz := Nat.le_trans sz K5_.1
  replace K := K.trans K5_ (allS (Or.inr sz_y) all0)
  have V_y : Arv Z h5_ y k2_ .byte nz (zs.map Value.int) (.int (0 : Int32)) := by
    have cq := own_cp [] zs
    rw [own_nat h00, own_nat hn] at V5_
    exact cq ▸ V5_
  show Runs p.tables e below _ (T5_.setTop (mkF m 31 #[.val (.ref sr), .val (.int nz), .val (.ref y)] []))
  refine Runs.st (fun t' k' => XS.aloadN X5_.here hx rfl (hb hby d_jdk_65_method_121_31) rfl rfl k') ?_
  refine Runs.ret X5_ hlk (v := (some (.ref y))) (fun h => by rw [hret] at h; cases h) (by decide) (by decide) ?_ (fun fs hr => retOut X5_ hx hret rfl (Or.inr (Or.inr (Or.inr (Or.inr ⟨rfl, rfl, rfl⟩)))) (hb hby d_jdk_65_method_121_32) hr)
  try rw [e5_]
  exact ⟨y, _, rfl, N5_, K, sz_y, V_y⟩
def Q_rmUn (Z : State) (a : Addr) (tx : Addr) (kt : ClassId) (zs : List Int32) (tl : Int32) (h0 : Heap) (n0 : Nat) : Option Value → Heap → List Loc → Prop := (fun v h L => ∃ y ky, v = some (.ref y) ∧ Fr n0 L ∧ Keep h0 h [] ∧ h0.size ≤ y ∧ Arv Z h y ky .byte tl (zs.map Value.int) (.int (0 : Int32)))
theorem ef_prog_8_method_4_R (m : MethodId) (x0 : Addr)  : entryFrame m #[(.ref x0)] 1 = mkF m 0 #[.val (.ref x0)] [] := by first | (simp [entryFrame, mkF, argsToLocals, Value.category]; done) | rfl
theorem d_prog_8_method_4_0 : decode prog_8_method_4_code 0 = .ok (.aload_n 0, 1) := by decide +kernel
theorem d_prog_8_method_4_1 : decode prog_8_method_4_code 1 = .ok (.getfield 9, 3) := by decide +kernel
theorem d_prog_8_method_4_4 : decode prog_8_method_4_code 4 = .ok (.aload_n 0, 1) := by decide +kernel
theorem d_prog_8_method_4_5 : decode prog_8_method_4_code 5 = .ok (.getfield 48, 3) := by decide +kernel
theorem pd__28_5bBI_29_5bB : parseMethodDescriptor "([BI)[B" = some ⟨[(.array .byte), .int], some (.array .byte)⟩ := by decide +kernel
theorem d_prog_8_method_4_8 : decode prog_8_method_4_code 8 = .ok (.invokestatic 60, 3) := by decide +kernel
theorem d_prog_8_method_4_11 : decode prog_8_method_4_code 11 = .ok (.areturn, 1) := by decide +kernel
set_option maxRecDepth 65536 in
set_option maxHeartbeats 40000000 in
theorem rmUn (l : Launch) (Z : State) (a0 : Array Value) (hw : ∀ d ∈ tables_1, d.before a0 Z = true) (ws : List Jvm.Cond) (a : Addr) (tx : Addr) (kt : ClassId) (zs : List Int32) (tl : Int32) (h0 : Heap) (n0 : Nat) (Z0 : n0 ≤ h0.size) (F1 : Fld Z h0 a "com/example/frozen_stream/frozenstream/rdf/Document" "text" "[B" (.ref tx)) (F2 : Fld Z h0 a "com/example/frozen_stream/frozenstream/rdf/Document" "textLength" "I" (.int tl)) (V_tx : Arv Z h0 tx kt .byte (8192 : Int32) (zs.map Value.int) (.int (0 : Int32))) (hn : tl.toInt = (zs.length : Int)) (hz : zs.length ≤ 12) :
    MetFree l (⟨"com/example/frozen_stream/frozenstream/rdf/Document", "unindented", "()[B"⟩ : MethodName) (head1 (Jvm.Cond.code (⟨"com/example/frozen_stream/frozenstream/rdf/Document", "unindented", "()[B"⟩ : MethodName) prog_8_method_4_code 1 (some (.array .byte)) :: ws) ({ frames := 2, cells := 1, slots := 12, locals := 32 } : Room)) (fun ar_ U => ar_ = #[(.ref a)] ∧ Z.Warmed39 U.vm ∧ U.heap = h0) (fun _ _ _ _ _ => True) (fun _ U o U' => Phi U (Q_rmUn Z a tx kt zs tl h0 n0) ({ frames := 2, cells := 1, slots := 12, locals := 32 } : Room).cells ({ frames := 2, cells := 1, slots := 12, locals := 32 } : Room).slots o U') := by
  refine MetFree.of_bodySF (plainFor_of_name pn_com_example_frozen_stream_frozenstream_rdf_Document) hisR ?_
  intro p e s m args below meth c s₁ Bd hml0 hP hK
  obtain ⟨rfl, hZ, hh⟩ := hP
  have hx := Bd.exec
  have hby := Bd.bytes
  have hlk := Bd.notSynchronized
  have hml : c.maxLocals = 1 := hml0
  have hown : s.vm.findClass "com/example/frozen_stream/frozenstream/rdf/Document" = some m.cls := findClass_of_methodNamed Bd.named
  have hown0 := hown
  have hnm := (name_of_methodNamed Bd.named Bd.method).1
  have hret := Bd.returns
  have X0 : Stand p l e ({ frames := 2, cells := 1, slots := 12, locals := 32 } : Room) s m #[(.ref a)] below meth c s₁ [] 0 0 := Stand.of_body Bd
  have e0 : s₁.heap = h0 := by rw [← hh, Bd.state]; rfl
  have N0 := Fr.nil n0
  have sz := Z0
  have K := Keep.refl h0 []
  show Runs p.tables e below (Phi s (Q_rmUn Z a tx kt zs tl h0 n0) ({ frames := 2, cells := 1, slots := 12, locals := 32 } : Room).cells ({ frames := 2, cells := 1, slots := 12, locals := 32 } : Room).slots) _
  refine Runs.st (fun t' k' => castTop (ef_prog_8_method_4_R m a ) k') ?_
  show Runs p.tables e below _ (s₁.setTop (mkF m 0 #[.val (.ref a)] []))
  refine Runs.st (fun t' k' => XS.aloadN X0.here hx rfl (hb hby d_prog_8_method_4_0) rfl rfl k') ?_
  obtain ⟨T1_, X1_, e1_, st1_⟩ := getF X0 hx hZ hown (host := "") (Or.inl (hw _ (List.mem_of_getElem? (i := 21) rfl))) Via.refl e0 F1 (g := (mkF m 1 #[.val (.ref a)] [(.ref a)])) rfl rfl (hb hby d_prog_8_method_4_1)
  refine Runs.st (st1_) ?_
  show Runs p.tables e below _ (T1_.setTop (mkF m 4 #[.val (.ref a)] [(.ref tx)]))
  refine Runs.st (fun t' k' => XS.aloadN X1_.here hx rfl (hb hby d_prog_8_method_4_4) rfl rfl k') ?_
  obtain ⟨T2_, X2_, e2_, st2_⟩ := getF X1_ hx hZ hown (host := "") (Or.inl (hw _ (List.mem_of_getElem? (i := 48) rfl))) Via.refl e1_ F2 (g := (mkF m 5 #[.val (.ref a)] [(.ref a), (.ref tx)])) rfl rfl (hb hby d_prog_8_method_4_5)
  refine Runs.st (st2_) ?_
  show Runs p.tables e below _ (T2_.setTop (mkF m 8 #[.val (.ref a)] [(.int tl), (.ref tx)]))
  have kz3_ := K.1
  have gz3_ := sz
  obtain ⟨_, _, ⟨T3_, L3_, k3_, n3_⟩, -, X3_, ⟨Lc3_, hQ3_, l3_, y3_, z3_⟩, st3_⟩ := Jvm.LawKit.callS X2_ hx (y := (⟨"java/util/Arrays", "copyOf", "([BI)[B"⟩ : MethodName)) hown (mvT hZ (hw _ (List.mem_of_getElem? (i := 59) rfl))) (mvT hZ (hw _ (List.mem_of_getElem? (i := 60) rfl))) (mvT hZ (hw _ (List.mem_of_getElem? (i := 61) rfl))) (mvT hZ (hw _ (List.mem_of_getElem? (i := 62) rfl))) (by decide) (backOf (W := 0) (rmCopy l Z a0 hw [] tx tl kt zs h0 n0 sz V_tx hn hz) hZ (hw _ (List.mem_of_getElem? (i := 62) rfl)) (hw _ (List.mem_of_getElem? (i := 61) rfl)) (by decide) (by decide)) (g := (mkF m 8 #[.val (.ref a)] [(.int tl), (.ref tx)])) rfl (by rw [hml]; rfl) (argsL := [(.ref tx), (.int tl)]) (rest := []) (lenOf pd__28_5bBI_29_5bB rfl) rfl (by show 2 * 0 + _ ≤ _; exact Nat.le_of_eq rfl) (hb hby d_prog_8_method_4_8) (fun _ _ => ⟨rfl, e2_, (by decide : 0 + 1 ≤ _), (by decide : 0 + 12 ≤ _)⟩)
  dsimp only [Pt.U, Pt.locs, Pt.cells, Pt.slots] at X3_ l3_ y3_ z3_ st3_ hQ3_
  subst l3_ y3_ z3_
  obtain ⟨y, ky, rfl, N3_q, K3_, sy3_, V_y⟩ := hQ3_
  have N3_ := Fr.app N0 N3_q
  refine Runs.st (st3_) ?_
  replace X3_ := wider X3_ (c' := 1) (s' := 12) (by decide) (by decide)
  replace sz := Nat.le_trans sz K3_.1
  replace K := K.trans K3_ all0
  have sz_y : h0.size ≤ y := Nat.le_trans kz3_ sy3_
  have g_y : n0 ≤ y := Nat.le_trans gz3_ sy3_
  show Runs p.tables e below _ (T3_.setTop (mkF m 11 #[.val (.ref a)] [(.ref y)]))
  refine Runs.ret X3_ hlk (v := (some (.ref y))) (fun h => by rw [hret] at h; cases h) (by decide) (by decide) ?_ (fun fs hr => retOut X3_ hx hret rfl (Or.inr (Or.inr (Or.inr (Or.inr ⟨rfl, rfl, rfl⟩)))) (hb hby d_prog_8_method_4_11) hr)
  exact ⟨y, _, rfl, N3_, K, sz_y, V_y⟩
def Q_rmPut (Z : State) (x : Addr) (st : Int32) (cc : Int32) (kx : ClassId) (xs : List Int32) (f : Int32) (h0 : Heap) (n0 : Nat) : Option Value → Heap → List Loc → Prop := (fun v h L => ∃ r, v = some (.int r) ∧ Fr n0 L ∧ Keep h0 h [x] ∧ Arv Z h x kx .byte (6 : Int32) ((own_step (xs, f) cc).1.map Value.int) (.int (0 : Int32)) ∧ r.toInt = 2 * ((own_step (xs, f) cc).1.length : Int) + (own_step (xs, f) cc).2.toInt)
theorem ef_method_3_RII (m : MethodId) (x0 : Addr) (x1 : Int32) (x2 : Int32)  : entryFrame m #[(.ref x0), (.int x1), (.int x2)] 5 = mkF m 0 #[.val (.ref x0), .val (.int x1), .val (.int x2), .unset, .unset] [] := by first | (simp [entryFrame, mkF, argsToLocals, Value.category]; done) | rfl
theorem d_method_3_0 : decode method_3_code 0 = .ok (.iload_n 1, 1) := by decide +kernel
theorem d_method_3_1 : decode method_3_code 1 = .ok (.iconst 1, 1) := by decide +kernel
theorem d_method_3_2 : decode method_3_code 2 = .ok (.iand, 1) := by decide +kernel
theorem d_method_3_3 : decode method_3_code 3 = .ok (.ifCond .eq 7, 3) := by decide +kernel
theorem d_method_3_10 : decode method_3_code 10 = .ok (.iconst 0, 1) := by decide +kernel
theorem d_method_3_11 : decode method_3_code 11 = .ok (.istore_n 3, 1) := by decide +kernel
theorem d_method_3_12 : decode method_3_code 12 = .ok (.iload_n 1, 1) := by decide +kernel
theorem d_method_3_13 : decode method_3_code 13 = .ok (.iconst 1, 1) := by decide +kernel
theorem d_method_3_14 : decode method_3_code 14 = .ok (.ishr, 1) := by decide +kernel
theorem d_method_3_15 : decode method_3_code 15 = .ok (.istore 4, 2) := by decide +kernel
theorem d_method_3_17 : decode method_3_code 17 = .ok (.iload_n 3, 1) := by decide +kernel
theorem d_method_3_18 : decode method_3_code 18 = .ok (.ifCond .eq 11, 3) := by decide +kernel
theorem d_method_3_29 : decode method_3_code 29 = .ok (.aload_n 0, 1) := by decide +kernel
theorem d_method_3_30 : decode method_3_code 30 = .ok (.iload 4, 2) := by decide +kernel
theorem d_method_3_32 : decode method_3_code 32 = .ok (.iload_n 2, 1) := by decide +kernel
theorem d_method_3_33 : decode method_3_code 33 = .ok (.bastore, 1) := by decide +kernel
theorem d_method_3_34 : decode method_3_code 34 = .ok (.iload 4, 2) := by decide +kernel
theorem d_method_3_36 : decode method_3_code 36 = .ok (.iconst 1, 1) := by decide +kernel
theorem d_method_3_37 : decode method_3_code 37 = .ok (.iadd, 1) := by decide +kernel
theorem d_method_3_38 : decode method_3_code 38 = .ok (.iconst 1, 1) := by decide +kernel
theorem d_method_3_39 : decode method_3_code 39 = .ok (.ishl, 1) := by decide +kernel
theorem d_method_3_40 : decode method_3_code 40 = .ok (.iload_n 2, 1) := by decide +kernel
theorem d_method_3_41 : decode method_3_code 41 = .ok (.bipush 10, 2) := by decide +kernel
theorem d_method_3_43 : decode method_3_code 43 = .ok (.if_icmp .ne 7, 3) := by decide +kernel
theorem d_method_3_46 : decode method_3_code 46 = .ok (.iconst 1, 1) := by decide +kernel
theorem d_method_3_47 : decode method_3_code 47 = .ok (.goto 4, 3) := by decide +kernel
theorem d_method_3_51 : decode method_3_code 51 = .ok (.ior, 1) := by decide +kernel
theorem d_method_3_52 : decode method_3_code 52 = .ok (.ireturn, 1) := by decide +kernel
theorem d_method_3_50 : decode method_3_code 50 = .ok (.iconst 0, 1) := by decide +kernel
theorem d_method_3_6 : decode method_3_code 6 = .ok (.iconst 1, 1) := by decide +kernel
theorem d_method_3_7 : decode method_3_code 7 = .ok (.goto 4, 3) := by decide +kernel
theorem d_method_3_21 : decode method_3_code 21 = .ok (.iload_n 2, 1) := by decide +kernel
theorem d_method_3_22 : decode method_3_code 22 = .ok (.bipush 32, 2) := by decide +kernel
theorem d_method_3_24 : decode method_3_code 24 = .ok (.if_icmp .ne 5, 3) := by decide +kernel
theorem d_method_3_27 : decode method_3_code 27 = .ok (.iload_n 1, 1) := by decide +kernel
theorem d_method_3_28 : decode method_3_code 28 = .ok (.ireturn, 1) := by decide +kernel
set_option maxRecDepth 65536 in
set_option maxHeartbeats 40000000 in
theorem rmPut (l : Launch) (Z : State) (a0 : Array Value) (hw : ∀ d ∈ tables_1, d.before a0 Z = true) (ws : List Jvm.Cond) (x : Addr) (st : Int32) (cc : Int32) (kx : ClassId) (xs : List Int32) (f : Int32) (h0 : Heap) (n0 : Nat) (Z0 : n0 ≤ h0.size) (V_x : Arv Z h0 x kx .byte (6 : Int32) (xs.map Value.int) (.int (0 : Int32))) (g_x : n0 ≤ x) (hf : f = 0 ∨ f = 1) (hst : st.toInt = 2 * (xs.length : Int) + f.toInt) (hx6 : xs.length < 6) (hcb : nar .byte cc = cc) :
    MetFree l (⟨"com/example/frozen_stream/frozenstream/rdf/DocumentUnindentedPinLaw", "put", "([BIB)I"⟩ : MethodName) (head1 (Jvm.Cond.code (⟨"com/example/frozen_stream/frozenstream/rdf/DocumentUnindentedPinLaw", "put", "([BIB)I"⟩ : MethodName) method_3_code 5 (some .int) :: ws) ({ frames := 0, cells := 0, slots := 0, locals := 0 } : Room)) (fun ar_ U => ar_ = #[(.ref x), (.int st), (.int cc)] ∧ Z.Warmed39 U.vm ∧ U.heap = h0) (fun _ _ _ _ _ => True) (fun _ U o U' => Phi U (Q_rmPut Z x st cc kx xs f h0 n0) ({ frames := 0, cells := 0, slots := 0, locals := 0 } : Room).cells ({ frames := 0, cells := 0, slots := 0, locals := 0 } : Room).slots o U') := by
  refine MetFree.of_bodySF (plainFor_of_name pn_com_example_frozen_stream_frozenstream_rdf_DocumentUnindentedPinLaw) hisR ?_
  intro p e s m args below meth c s₁ Bd hml0 hP hK
  obtain ⟨rfl, hZ, hh⟩ := hP
  have hx := Bd.exec
  have hby := Bd.bytes
  have hlk := Bd.notSynchronized
  have hml : c.maxLocals = 5 := hml0
  have hown : s.vm.findClass "com/example/frozen_stream/frozenstream/rdf/DocumentUnindentedPinLaw" = some m.cls := findClass_of_methodNamed Bd.named
  have hown0 := hown
  have hnm := (name_of_methodNamed Bd.named Bd.method).1
  have hret := Bd.returns
  have X0 : Stand p l e ({ frames := 0, cells := 0, slots := 0, locals := 0 } : Room) s m #[(.ref x), (.int st), (.int cc)] below meth c s₁ [] 0 0 := Stand.of_body Bd
  have e0 : s₁.heap = h0 := by rw [← hh, Bd.state]; rfl
  have N0 := Fr.nil n0
  have sz := Z0
  have K := Keep.refl h0 [x]
  show Runs p.tables e below (Phi s (Q_rmPut Z x st cc kx xs f h0 n0) ({ frames := 0, cells := 0, slots := 0, locals := 0 } : Room).cells ({ frames := 0, cells := 0, slots := 0, locals := 0 } : Room).slots) _
  refine Runs.st (fun t' k' => castTop (ef_method_3_RII m x st cc ) k') ?_
  show Runs p.tables e below _ (s₁.setTop (mkF m 0 #[.val (.ref x), .val (.int st), .val (.int cc), .unset, .unset] []))
  have hp : (st &&& (1 : Int32)).toInt = st.toInt % 2 ^ 1 := Jvm.Kit.i32_mask st 1 (k := 1) (by decide) (by decide)
  have hk := c_ishr st (1 : Int32) 1 (by decide)
  have f1 := own_s8 hf
  have hki : (st >>> ((1 : Int32) &&& 31)).toInt = (xs.length : Int) := by omega
  have q1 := own_nn hki
  have q2 : (st >>> ((1 : Int32) &&& 31)) < 6 := Int32.lt_iff_toInt_lt.mpr (by rw [hki]; change _ < (6 : Int); omega)
  refine Runs.st (fun t' k' => XS.iloadN X0.here hx rfl (hb hby d_method_3_0) rfl k') ?_
  refine Runs.st (fun t' k' => XS.iconst X0.here hx rfl (hb hby d_method_3_1) k') ?_
  refine Runs.st (fun t' k' => XS.iand X0.here hx rfl (hb hby d_method_3_2) rfl k') ?_
  by_cases c3 : (st &&& (1 : Int32)) = (0 : Int32)
  · skip
    refine Runs.st (fun t' k' => XS.ifYes X0.here hx rfl (pc0 := 3) (pc' := 10) rfl (hb hby d_method_3_3) rfl ((if0 _ _).trans (teq c3).1) (by decide) (by decide) k') ?_
    show Runs p.tables e below _ (s₁.setTop (mkF m 10 #[.val (.ref x), .val (.int st), .val (.int cc), .unset, .unset] []))
    have f0 : f = 0 := by
      have q := congrArg Int32.toInt c3
      rw [hp] at q
      change _ = (0 : Int) at q
      rcases f1 with z | z
      · exact z.2
      · exfalso; omega
    have hB : ¬ (¬ f = 0 ∧ cc = 32) := fun q => q.1 f0
    refine Runs.st (fun t' k' => XS.iconst X0.here hx rfl (hb hby d_method_3_10) k') ?_
    refine Runs.st (fun t' k' => XS.istoreN X0.here hx rfl (hb hby d_method_3_11) rfl (l' := #[.val (.ref x), .val (.int st), .val (.int cc), .val (.int (0 : Int32)), .unset]) rfl k') ?_
    refine Runs.st (fun t' k' => XS.iloadN X0.here hx rfl (hb hby d_method_3_12) rfl k') ?_
    refine Runs.st (fun t' k' => XS.iconst X0.here hx rfl (hb hby d_method_3_13) k') ?_
    refine Runs.st (fun t' k' => XS.ishr X0.here hx rfl (hb hby d_method_3_14) rfl k') ?_
    show Runs p.tables e below _ (s₁.setTop (mkF m 15 #[.val (.ref x), .val (.int st), .val (.int cc), .val (.int (0 : Int32)), .unset] [(.int (st >>> ((1 : Int32) &&& 31)))]))
    refine Runs.st (fun t' k' => XS.istore X0.here hx rfl (hb hby d_method_3_15) rfl (l' := #[.val (.ref x), .val (.int st), .val (.int cc), .val (.int (0 : Int32)), .val (.int (st >>> ((1 : Int32) &&& 31)))]) rfl k') ?_
    refine Runs.st (fun t' k' => XS.iloadN X0.here hx rfl (hb hby d_method_3_17) rfl k') ?_
    refine Runs.st (fun t' k' => XS.ifYes X0.here hx rfl (pc0 := 18) (pc' := 29) rfl (hb hby d_method_3_18) rfl ((if0 _ _).trans (teq rfl).1) (by decide) (by decide) k') ?_
    show Runs p.tables e below _ (s₁.setTop (mkF m 29 #[.val (.ref x), .val (.int st), .val (.int cc), .val (.int (0 : Int32)), .val (.int (st >>> ((1 : Int32) &&& 31)))] []))
    replace V_x := V_x.pad (own_padz xs 1)
    refine Runs.st (fun t' k' => XS.aloadN X0.here hx rfl (hb hby d_method_3_29) rfl rfl k') ?_
    refine Runs.st (fun t' k' => XS.iload X0.here hx rfl (hb hby d_method_3_30) rfl k') ?_
    refine Runs.st (fun t' k' => XS.iloadN X0.here hx rfl (hb hby d_method_3_32) rfl k') ?_
    obtain ⟨cl1_, Ar1_, q1_, S1_, M1_, Ha1_, G1_⟩ := V_x
    have hin1_ : ¬ ((st >>> ((1 : Int32) &&& 31)) < 0 ∨ cl1_.slots.size ≤ ((st >>> ((1 : Int32) &&& 31))).toNatClampNeg) := inb_of S1_ ⟨q1, q2⟩
    obtain ⟨T1_, h1_, X1_, e1_, W1_, st1_⟩ := stB X0 hx hZ e0 Ar1_ (j := (st >>> ((1 : Int32) &&& 31))) hin1_ (g := (mkF m 33 #[.val (.ref x), .val (.int st), .val (.int cc), .val (.int (0 : Int32)), .val (.int (st >>> ((1 : Int32) &&& 31)))] [(.int cc), (.int (st >>> ((1 : Int32) &&& 31))), (.ref x)])) rfl rfl (hb hby d_method_3_33)
    refine Runs.st (st1_) ?_
    have V_x := Arv.set Ar1_ q1_ S1_ M1_ Ha1_ G1_ (fits_nar_byte _) W1_ xs.length (own_nat hki) (by simp)
    replace sz := Nat.le_trans sz (Keep.of_wr W1_).1
    have N1_ := Fr.snoc X1_ N0 g_x
    replace K := K.wr W1_ (Or.inl (List.mem_of_getElem? (i := 0) rfl))
    show Runs p.tables e below _ (T1_.setTop (mkF m 34 #[.val (.ref x), .val (.int st), .val (.int cc), .val (.int (0 : Int32)), .val (.int (st >>> ((1 : Int32) &&& 31)))] []))
    rw [show cc.toInt8.toInt32 = cc from hcb, own_setz] at V_x
    have a1 := own_add hki (show (1 : Int32).toInt = ((1 : Nat) : Int) from rfl) (by omega)
    have a2 := c_ishl ((st >>> ((1 : Int32) &&& 31)) + (1 : Int32)) (1 : Int32) 1 (by decide)
    have a3 := rng32 (((st >>> ((1 : Int32) &&& 31)) + (1 : Int32)) <<< ((1 : Int32) &&& 31))
    refine Runs.st (fun t' k' => XS.iload X1_.here hx rfl (hb hby d_method_3_34) rfl k') ?_
    refine Runs.st (fun t' k' => XS.iconst X1_.here hx rfl (hb hby d_method_3_36) k') ?_
    refine Runs.st (fun t' k' => XS.iadd X1_.here hx rfl (hb hby d_method_3_37) rfl k') ?_
    refine Runs.st (fun t' k' => XS.iconst X1_.here hx rfl (hb hby d_method_3_38) k') ?_
    refine Runs.st (fun t' k' => XS.ishl X1_.here hx rfl (hb hby d_method_3_39) rfl k') ?_
    show Runs p.tables e below _ (T1_.setTop (mkF m 40 #[.val (.ref x), .val (.int st), .val (.int cc), .val (.int (0 : Int32)), .val (.int (st >>> ((1 : Int32) &&& 31)))] [(.int (((st >>> ((1 : Int32) &&& 31)) + (1 : Int32)) <<< ((1 : Int32) &&& 31)))]))
    refine Runs.st (fun t' k' => XS.iloadN X1_.here hx rfl (hb hby d_method_3_40) rfl k') ?_
    refine Runs.st (fun t' k' => XS.bipush X1_.here hx rfl (hb hby d_method_3_41) k') ?_
    by_cases c43 : cc = (10 : Int32)
    · skip
      refine Runs.st (fun t' k' => XS.icmpNo X1_.here hx rfl (hb hby d_method_3_43) rfl (teq c43).2 k') ?_
      show Runs p.tables e below _ (T1_.setTop (mkF m 46 #[.val (.ref x), .val (.int st), .val (.int cc), .val (.int (0 : Int32)), .val (.int (st >>> ((1 : Int32) &&& 31)))] [(.int (((st >>> ((1 : Int32) &&& 31)) + (1 : Int32)) <<< ((1 : Int32) &&& 31)))]))
      have a4 := c_or (((st >>> ((1 : Int32) &&& 31)) + (1 : Int32)) <<< ((1 : Int32) &&& 31)) (1 : Int32) 1 (by decide) 2 rfl (by omega) (by decide) (by decide)
      have a5 := rng32 ((((st >>> ((1 : Int32) &&& 31)) + (1 : Int32)) <<< ((1 : Int32) &&& 31)) ||| (1 : Int32))
      rw [show (1 : Int32).toInt = 1 from rfl] at a4
      refine Runs.st (fun t' k' => XS.iconst X1_.here hx rfl (hb hby d_method_3_46) k') ?_
      refine Runs.st (fun t' k' => XS.goto X1_.here hx rfl (pc0 := 47) (pc' := 51) rfl (hb hby d_method_3_47) (by decide) (by decide) k') ?_
      refine Runs.st (fun t' k' => XS.ior X1_.here hx rfl (hb hby d_method_3_51) rfl k') ?_
      refine Runs.ret X1_ hlk (v := (some (.int ((((st >>> ((1 : Int32) &&& 31)) + (1 : Int32)) <<< ((1 : Int32) &&& 31)) ||| (1 : Int32))))) (fun h => by rw [hret] at h; cases h) (by decide) (by decide) ?_ (fun fs hr => retI X1_ hx hret (hb hby d_method_3_52) hr)
      try rw [e1_]
      exact ⟨_, rfl, N1_, K, by rw [own_put1 hB c43]; exact V_x, by rw [own_put1 hB c43]; change _ = 2 * (((xs ++ [cc]).length : Nat) : Int) + (1 : Int); rw [List.length_append]; change _ = 2 * ((xs.length + 1 : Nat) : Int) + (1 : Int); omega⟩
    · skip
      refine Runs.st (fun t' k' => XS.icmpYes X1_.here hx rfl (pc0 := 43) (pc' := 50) rfl (hb hby d_method_3_43) rfl (feq c43).2 (by decide) (by decide) k') ?_
      show Runs p.tables e below _ (T1_.setTop (mkF m 50 #[.val (.ref x), .val (.int st), .val (.int cc), .val (.int (0 : Int32)), .val (.int (st >>> ((1 : Int32) &&& 31)))] [(.int (((st >>> ((1 : Int32) &&& 31)) + (1 : Int32)) <<< ((1 : Int32) &&& 31)))]))
      have a4 := c_or (((st >>> ((1 : Int32) &&& 31)) + (1 : Int32)) <<< ((1 : Int32) &&& 31)) (0 : Int32) 1 (by decide) 2 rfl (by omega) (by decide) (by decide)
      have a5 := rng32 ((((st >>> ((1 : Int32) &&& 31)) + (1 : Int32)) <<< ((1 : Int32) &&& 31)) ||| (0 : Int32))
      rw [show (0 : Int32).toInt = 0 from rfl] at a4
      refine Runs.st (fun t' k' => XS.iconst X1_.here hx rfl (hb hby d_method_3_50) k') ?_
      refine Runs.st (fun t' k' => XS.ior X1_.here hx rfl (hb hby d_method_3_51) rfl k') ?_
      refine Runs.ret X1_ hlk (v := (some (.int ((((st >>> ((1 : Int32) &&& 31)) + (1 : Int32)) <<< ((1 : Int32) &&& 31)) ||| (0 : Int32))))) (fun h => by rw [hret] at h; cases h) (by decide) (by decide) ?_ (fun fs hr => retI X1_ hx hret (hb hby d_method_3_52) hr)
      try rw [e1_]
      exact ⟨_, rfl, N1_, K, by rw [own_put0 hB c43]; exact V_x, by rw [own_put0 hB c43]; change _ = 2 * (((xs ++ [cc]).length : Nat) : Int) + (0 : Int); rw [List.length_append]; change _ = 2 * ((xs.length + 1 : Nat) : Int) + (0 : Int); omega⟩
  · skip
    refine Runs.st (fun t' k' => XS.ifNo X0.here hx rfl (hb hby d_method_3_3) rfl ((if0 _ _).trans (feq c3).1) k') ?_
    show Runs p.tables e below _ (s₁.setTop (mkF m 6 #[.val (.ref x), .val (.int st), .val (.int cc), .unset, .unset] []))
    have f0 : ¬ f = 0 := fun q => c3 (Int32.toInt_inj.mp (by rw [hp]; subst q; change _ = (0 : Int); change _ = _ + (0 : Int) at hst; omega))
    refine Runs.st (fun t' k' => XS.iconst X0.here hx rfl (hb hby d_method_3_6) k') ?_
    refine Runs.st (fun t' k' => XS.goto X0.here hx rfl (pc0 := 7) (pc' := 11) rfl (hb hby d_method_3_7) (by decide) (by decide) k') ?_
    refine Runs.st (fun t' k' => XS.istoreN X0.here hx rfl (hb hby d_method_3_11) rfl (l' := #[.val (.ref x), .val (.int st), .val (.int cc), .val (.int (1 : Int32)), .unset]) rfl k') ?_
    refine Runs.st (fun t' k' => XS.iloadN X0.here hx rfl (hb hby d_method_3_12) rfl k') ?_
    refine Runs.st (fun t' k' => XS.iconst X0.here hx rfl (hb hby d_method_3_13) k') ?_
    show Runs p.tables e below _ (s₁.setTop (mkF m 14 #[.val (.ref x), .val (.int st), .val (.int cc), .val (.int (1 : Int32)), .unset] [(.int (1 : Int32)), (.int st)]))
    refine Runs.st (fun t' k' => XS.ishr X0.here hx rfl (hb hby d_method_3_14) rfl k') ?_
    refine Runs.st (fun t' k' => XS.istore X0.here hx rfl (hb hby d_method_3_15) rfl (l' := #[.val (.ref x), .val (.int st), .val (.int cc), .val (.int (1 : Int32)), .val (.int (st >>> ((1 : Int32) &&& 31)))]) rfl k') ?_
    refine Runs.st (fun t' k' => XS.iloadN X0.here hx rfl (hb hby d_method_3_17) rfl k') ?_
    refine Runs.st (fun t' k' => XS.ifNo X0.here hx rfl (hb hby d_method_3_18) rfl ((if0 _ _).trans (feq (by decide)).1) k') ?_
    show Runs p.tables e below _ (s₁.setTop (mkF m 21 #[.val (.ref x), .val (.int st), .val (.int cc), .val (.int (1 : Int32)), .val (.int (st >>> ((1 : Int32) &&& 31)))] []))
    refine Runs.st (fun t' k' => XS.iloadN X0.here hx rfl (hb hby d_method_3_21) rfl k') ?_
    refine Runs.st (fun t' k' => XS.bipush X0.here hx rfl (hb hby d_method_3_22) k') ?_
    by_cases c24 : cc = (32 : Int32)
    · skip
      refine Runs.st (fun t' k' => XS.icmpNo X0.here hx rfl (hb hby d_method_3_24) rfl (teq c24).2 k') ?_
      show Runs p.tables e below _ (s₁.setTop (mkF m 27 #[.val (.ref x), .val (.int st), .val (.int cc), .val (.int (1 : Int32)), .val (.int (st >>> ((1 : Int32) &&& 31)))] []))
      refine Runs.st (fun t' k' => XS.iloadN X0.here hx rfl (hb hby d_method_3_27) rfl k') ?_
      refine Runs.ret X0 hlk (v := (some (.int st))) (fun h => by rw [hret] at h; cases h) (by decide) (by decide) ?_ (fun fs hr => retI X0 hx hret (hb hby d_method_3_28) hr)
      try rw [e0]
      exact ⟨_, rfl, N0, K, by rw [own_skip f0 c24]; exact V_x, by rw [own_skip f0 c24]; exact hst⟩
    · skip
      refine Runs.st (fun t' k' => XS.icmpYes X0.here hx rfl (pc0 := 24) (pc' := 29) rfl (hb hby d_method_3_24) rfl (feq c24).2 (by decide) (by decide) k') ?_
      show Runs p.tables e below _ (s₁.setTop (mkF m 29 #[.val (.ref x), .val (.int st), .val (.int cc), .val (.int (1 : Int32)), .val (.int (st >>> ((1 : Int32) &&& 31)))] []))
      have hB : ¬ (¬ f = 0 ∧ cc = 32) := fun q => c24 q.2
      replace V_x := V_x.pad (own_padz xs 1)
      refine Runs.st (fun t' k' => XS.aloadN X0.here hx rfl (hb hby d_method_3_29) rfl rfl k') ?_
      refine Runs.st (fun t' k' => XS.iload X0.here hx rfl (hb hby d_method_3_30) rfl k') ?_
      refine Runs.st (fun t' k' => XS.iloadN X0.here hx rfl (hb hby d_method_3_32) rfl k') ?_
      obtain ⟨cl2_, Ar2_, q2_, S2_, M2_, Ha2_, G2_⟩ := V_x
      have hin2_ : ¬ ((st >>> ((1 : Int32) &&& 31)) < 0 ∨ cl2_.slots.size ≤ ((st >>> ((1 : Int32) &&& 31))).toNatClampNeg) := inb_of S2_ ⟨q1, q2⟩
      obtain ⟨T2_, h2_, X2_, e2_, W2_, st2_⟩ := stB X0 hx hZ e0 Ar2_ (j := (st >>> ((1 : Int32) &&& 31))) hin2_ (g := (mkF m 33 #[.val (.ref x), .val (.int st), .val (.int cc), .val (.int (1 : Int32)), .val (.int (st >>> ((1 : Int32) &&& 31)))] [(.int cc), (.int (st >>> ((1 : Int32) &&& 31))), (.ref x)])) rfl rfl (hb hby d_method_3_33)
      refine Runs.st (st2_) ?_
      have V_x := Arv.set Ar2_ q2_ S2_ M2_ Ha2_ G2_ (fits_nar_byte _) W2_ xs.length (own_nat hki) (by simp)
      replace sz := Nat.le_trans sz (Keep.of_wr W2_).1
      have N2_ := Fr.snoc X2_ N0 g_x
      replace K := K.wr W2_ (Or.inl (List.mem_of_getElem? (i := 0) rfl))
      show Runs p.tables e below _ (T2_.setTop (mkF m 34 #[.val (.ref x), .val (.int st), .val (.int cc), .val (.int (1 : Int32)), .val (.int (st >>> ((1 : Int32) &&& 31)))] []))
      rw [show cc.toInt8.toInt32 = cc from hcb, own_setz] at V_x
      have a1 := own_add hki (show (1 : Int32).toInt = ((1 : Nat) : Int) from rfl) (by omega)
      have a2 := c_ishl ((st >>> ((1 : Int32) &&& 31)) + (1 : Int32)) (1 : Int32) 1 (by decide)
      have a3 := rng32 (((st >>> ((1 : Int32) &&& 31)) + (1 : Int32)) <<< ((1 : Int32) &&& 31))
      refine Runs.st (fun t' k' => XS.iload X2_.here hx rfl (hb hby d_method_3_34) rfl k') ?_
      refine Runs.st (fun t' k' => XS.iconst X2_.here hx rfl (hb hby d_method_3_36) k') ?_
      refine Runs.st (fun t' k' => XS.iadd X2_.here hx rfl (hb hby d_method_3_37) rfl k') ?_
      refine Runs.st (fun t' k' => XS.iconst X2_.here hx rfl (hb hby d_method_3_38) k') ?_
      refine Runs.st (fun t' k' => XS.ishl X2_.here hx rfl (hb hby d_method_3_39) rfl k') ?_
      show Runs p.tables e below _ (T2_.setTop (mkF m 40 #[.val (.ref x), .val (.int st), .val (.int cc), .val (.int (1 : Int32)), .val (.int (st >>> ((1 : Int32) &&& 31)))] [(.int (((st >>> ((1 : Int32) &&& 31)) + (1 : Int32)) <<< ((1 : Int32) &&& 31)))]))
      refine Runs.st (fun t' k' => XS.iloadN X2_.here hx rfl (hb hby d_method_3_40) rfl k') ?_
      refine Runs.st (fun t' k' => XS.bipush X2_.here hx rfl (hb hby d_method_3_41) k') ?_
      by_cases c43 : cc = (10 : Int32)
      · skip
        refine Runs.st (fun t' k' => XS.icmpNo X2_.here hx rfl (hb hby d_method_3_43) rfl (teq c43).2 k') ?_
        show Runs p.tables e below _ (T2_.setTop (mkF m 46 #[.val (.ref x), .val (.int st), .val (.int cc), .val (.int (1 : Int32)), .val (.int (st >>> ((1 : Int32) &&& 31)))] [(.int (((st >>> ((1 : Int32) &&& 31)) + (1 : Int32)) <<< ((1 : Int32) &&& 31)))]))
        have a4 := c_or (((st >>> ((1 : Int32) &&& 31)) + (1 : Int32)) <<< ((1 : Int32) &&& 31)) (1 : Int32) 1 (by decide) 2 rfl (by omega) (by decide) (by decide)
        have a5 := rng32 ((((st >>> ((1 : Int32) &&& 31)) + (1 : Int32)) <<< ((1 : Int32) &&& 31)) ||| (1 : Int32))
        rw [show (1 : Int32).toInt = 1 from rfl] at a4
        refine Runs.st (fun t' k' => XS.iconst X2_.here hx rfl (hb hby d_method_3_46) k') ?_
        refine Runs.st (fun t' k' => XS.goto X2_.here hx rfl (pc0 := 47) (pc' := 51) rfl (hb hby d_method_3_47) (by decide) (by decide) k') ?_
        refine Runs.st (fun t' k' => XS.ior X2_.here hx rfl (hb hby d_method_3_51) rfl k') ?_
        refine Runs.ret X2_ hlk (v := (some (.int ((((st >>> ((1 : Int32) &&& 31)) + (1 : Int32)) <<< ((1 : Int32) &&& 31)) ||| (1 : Int32))))) (fun h => by rw [hret] at h; cases h) (by decide) (by decide) ?_ (fun fs hr => retI X2_ hx hret (hb hby d_method_3_52) hr)
        try rw [e2_]
        exact ⟨_, rfl, N2_, K, by rw [own_put1 hB c43]; exact V_x, by rw [own_put1 hB c43]; change _ = 2 * (((xs ++ [cc]).length : Nat) : Int) + (1 : Int); rw [List.length_append]; change _ = 2 * ((xs.length + 1 : Nat) : Int) + (1 : Int); omega⟩
      · skip
        refine Runs.st (fun t' k' => XS.icmpYes X2_.here hx rfl (pc0 := 43) (pc' := 50) rfl (hb hby d_method_3_43) rfl (feq c43).2 (by decide) (by decide) k') ?_
        show Runs p.tables e below _ (T2_.setTop (mkF m 50 #[.val (.ref x), .val (.int st), .val (.int cc), .val (.int (1 : Int32)), .val (.int (st >>> ((1 : Int32) &&& 31)))] [(.int (((st >>> ((1 : Int32) &&& 31)) + (1 : Int32)) <<< ((1 : Int32) &&& 31)))]))
        have a4 := c_or (((st >>> ((1 : Int32) &&& 31)) + (1 : Int32)) <<< ((1 : Int32) &&& 31)) (0 : Int32) 1 (by decide) 2 rfl (by omega) (by decide) (by decide)
        have a5 := rng32 ((((st >>> ((1 : Int32) &&& 31)) + (1 : Int32)) <<< ((1 : Int32) &&& 31)) ||| (0 : Int32))
        rw [show (0 : Int32).toInt = 0 from rfl] at a4
        refine Runs.st (fun t' k' => XS.iconst X2_.here hx rfl (hb hby d_method_3_50) k') ?_
        refine Runs.st (fun t' k' => XS.ior X2_.here hx rfl (hb hby d_method_3_51) rfl k') ?_
        refine Runs.ret X2_ hlk (v := (some (.int ((((st >>> ((1 : Int32) &&& 31)) + (1 : Int32)) <<< ((1 : Int32) &&& 31)) ||| (0 : Int32))))) (fun h => by rw [hret] at h; cases h) (by decide) (by decide) ?_ (fun fs hr => retI X2_ hx hret (hb hby d_method_3_52) hr)
        try rw [e2_]
        exact ⟨_, rfl, N2_, K, by rw [own_put0 hB c43]; exact V_x, by rw [own_put0 hB c43]; change _ = 2 * (((xs ++ [cc]).length : Nat) : Int) + (0 : Int); rw [List.length_append]; change _ = 2 * ((xs.length + 1 : Nat) : Int) + (0 : Int); omega⟩
def Q_rmEq (Z : State) (y : Addr) (x : Addr) (iv : Int32) (kv : Int32) (ky kx : ClassId) (ny : Int32) (zs : List Int32) (i : Nat) (h0 : Heap) (n0 : Nat) : Option Value → Heap → List Loc → Prop := (fun v h L => v = some (.int (1 : Int32)) ∧ Fr n0 L ∧ h = h0)
theorem ef_method_4_RRII (m : MethodId) (x0 : Addr) (x1 : Addr) (x2 : Int32) (x3 : Int32)  : entryFrame m #[(.ref x0), (.ref x1), (.int x2), (.int x3)] 4 = mkF m 0 #[.val (.ref x0), .val (.ref x1), .val (.int x2), .val (.int x3)] [] := by first | (simp [entryFrame, mkF, argsToLocals, Value.category]; done) | rfl
theorem d_method_4_0 : decode method_4_code 0 = .ok (.iload_n 2, 1) := by decide +kernel
theorem d_method_4_1 : decode method_4_code 1 = .ok (.iload_n 3, 1) := by decide +kernel
theorem d_method_4_2 : decode method_4_code 2 = .ok (.if_icmp .ge 12, 3) := by decide +kernel
theorem d_method_4_5 : decode method_4_code 5 = .ok (.aload_n 0, 1) := by decide +kernel
theorem d_method_4_6 : decode method_4_code 6 = .ok (.iload_n 2, 1) := by decide +kernel
theorem d_method_4_7 : decode method_4_code 7 = .ok (.baload, 1) := by decide +kernel
theorem d_method_4_8 : decode method_4_code 8 = .ok (.aload_n 1, 1) := by decide +kernel
theorem d_method_4_9 : decode method_4_code 9 = .ok (.iload_n 2, 1) := by decide +kernel
theorem d_method_4_10 : decode method_4_code 10 = .ok (.baload, 1) := by decide +kernel
theorem d_method_4_11 : decode method_4_code 11 = .ok (.if_icmp .ne 7, 3) := by decide +kernel
theorem d_method_4_14 : decode method_4_code 14 = .ok (.iconst 1, 1) := by decide +kernel
theorem d_method_4_15 : decode method_4_code 15 = .ok (.goto 4, 3) := by decide +kernel
theorem d_method_4_19 : decode method_4_code 19 = .ok (.ireturn, 1) := by decide +kernel
set_option maxRecDepth 65536 in
set_option maxHeartbeats 40000000 in
theorem rmEq (l : Launch) (Z : State) (a0 : Array Value) (hw : ∀ d ∈ tables_1, d.before a0 Z = true) (ws : List Jvm.Cond) (y : Addr) (x : Addr) (iv : Int32) (kv : Int32) (ky kx : ClassId) (ny : Int32) (zs : List Int32) (i : Nat) (h0 : Heap) (n0 : Nat) (Z0 : n0 ≤ h0.size) (V_y : Arv Z h0 y ky .byte ny (zs.map Value.int) (.int (0 : Int32))) (V_x : Arv Z h0 x kx .byte (6 : Int32) (zs.map Value.int) (.int (0 : Int32))) (hi : iv.toInt = (i : Int)) (hi6 : i < 6) (hkz : kv.toInt = (zs.length : Int)) (hny : ny.toInt = (zs.length : Int)) :
    MetFree l (⟨"com/example/frozen_stream/frozenstream/rdf/DocumentUnindentedPinLaw", "eqAt", "([B[BII)Z"⟩ : MethodName) (head1 (Jvm.Cond.code (⟨"com/example/frozen_stream/frozenstream/rdf/DocumentUnindentedPinLaw", "eqAt", "([B[BII)Z"⟩ : MethodName) method_4_code 4 (some .boolean) :: ws) ({ frames := 0, cells := 0, slots := 0, locals := 0 } : Room)) (fun ar_ U => ar_ = #[(.ref y), (.ref x), (.int iv), (.int kv)] ∧ Z.Warmed39 U.vm ∧ U.heap = h0) (fun _ _ _ _ _ => True) (fun _ U o U' => Phi U (Q_rmEq Z y x iv kv ky kx ny zs i h0 n0) ({ frames := 0, cells := 0, slots := 0, locals := 0 } : Room).cells ({ frames := 0, cells := 0, slots := 0, locals := 0 } : Room).slots o U') := by
  refine MetFree.of_bodySF (plainFor_of_name pn_com_example_frozen_stream_frozenstream_rdf_DocumentUnindentedPinLaw) hisR ?_
  intro p e s m args below meth c s₁ Bd hml0 hP hK
  obtain ⟨rfl, hZ, hh⟩ := hP
  have hx := Bd.exec
  have hby := Bd.bytes
  have hlk := Bd.notSynchronized
  have hml : c.maxLocals = 4 := hml0
  have hown : s.vm.findClass "com/example/frozen_stream/frozenstream/rdf/DocumentUnindentedPinLaw" = some m.cls := findClass_of_methodNamed Bd.named
  have hown0 := hown
  have hnm := (name_of_methodNamed Bd.named Bd.method).1
  have hret := Bd.returns
  have X0 : Stand p l e ({ frames := 0, cells := 0, slots := 0, locals := 0 } : Room) s m #[(.ref y), (.ref x), (.int iv), (.int kv)] below meth c s₁ [] 0 0 := Stand.of_body Bd
  have e0 : s₁.heap = h0 := by rw [← hh, Bd.state]; rfl
  have N0 := Fr.nil n0
  have sz := Z0
  have K := Keep.refl h0 []
  show Runs p.tables e below (Phi s (Q_rmEq Z y x iv kv ky kx ny zs i h0 n0) ({ frames := 0, cells := 0, slots := 0, locals := 0 } : Room).cells ({ frames := 0, cells := 0, slots := 0, locals := 0 } : Room).slots) _
  refine Runs.st (fun t' k' => castTop (ef_method_4_RRII m y x iv kv ) k') ?_
  show Runs p.tables e below _ (s₁.setTop (mkF m 0 #[.val (.ref y), .val (.ref x), .val (.int iv), .val (.int kv)] []))
  refine Runs.st (fun t' k' => XS.iloadN X0.here hx rfl (hb hby d_method_4_0) rfl k') ?_
  refine Runs.st (fun t' k' => XS.iloadN X0.here hx rfl (hb hby d_method_4_1) rfl k') ?_
  by_cases c2 : iv < kv
  · skip
    refine Runs.st (fun t' k' => XS.icmpNo X0.here hx rfl (hb hby d_method_4_2) rfl (tlt c2).2.1 k') ?_
    show Runs p.tables e below _ (s₁.setTop (mkF m 5 #[.val (.ref y), .val (.ref x), .val (.int iv), .val (.int kv)] []))
    have q0 := Int32.lt_iff_toInt_lt.mp c2
    refine Runs.st (fun t' k' => XS.aloadN X0.here hx rfl (hb hby d_method_4_5) rfl rfl k') ?_
    refine Runs.st (fun t' k' => XS.iloadN X0.here hx rfl (hb hby d_method_4_6) rfl k') ?_
    obtain ⟨cl1_, Ar1_, -, S1_, M1_, Ha1_, -⟩ := id V_y
    have hin1_ : ¬ (iv < 0 ∨ cl1_.slots.size ≤ (iv).toNatClampNeg) := inb_of S1_ ⟨own_nn hi, Int32.lt_iff_toInt_lt.mpr (by omega)⟩
    refine Runs.st (X0.baloadBytes hx (j := iv) (v := (.int (zs.getD i 0))) (by rw [e0]; exact Ar1_.1) (State.isArrayOf_alike hZ.alike Ar1_.2.1) Ar1_.2.2 hin1_ (Ha1_.at hin1_ (own_getD zs i iv hi)) (g := (mkF m 7 #[.val (.ref y), .val (.ref x), .val (.int iv), .val (.int kv)] [(.int iv), (.ref y)])) rfl rfl (hb hby d_method_4_7)) ?_
    show Runs p.tables e below _ (s₁.setTop (mkF m 8 #[.val (.ref y), .val (.ref x), .val (.int iv), .val (.int kv)] [(.int (zs.getD i 0))]))
    refine Runs.st (fun t' k' => XS.aloadN X0.here hx rfl (hb hby d_method_4_8) rfl rfl k') ?_
    refine Runs.st (fun t' k' => XS.iloadN X0.here hx rfl (hb hby d_method_4_9) rfl k') ?_
    obtain ⟨cl2_, Ar2_, -, S2_, M2_, Ha2_, -⟩ := id V_x
    have hin2_ : ¬ (iv < 0 ∨ cl2_.slots.size ≤ (iv).toNatClampNeg) := inb_of S2_ ⟨own_nn hi, Int32.lt_iff_toInt_lt.mpr (by rw [hi]; change _ < (6 : Int); omega)⟩
    refine Runs.st (X0.baloadBytes hx (j := iv) (v := (.int (zs.getD i 0))) (by rw [e0]; exact Ar2_.1) (State.isArrayOf_alike hZ.alike Ar2_.2.1) Ar2_.2.2 hin2_ (Ha2_.at hin2_ (own_getD zs i iv hi)) (g := (mkF m 10 #[.val (.ref y), .val (.ref x), .val (.int iv), .val (.int kv)] [(.int iv), (.ref x), (.int (zs.getD i 0))])) rfl rfl (hb hby d_method_4_10)) ?_
    show Runs p.tables e below _ (s₁.setTop (mkF m 11 #[.val (.ref y), .val (.ref x), .val (.int iv), .val (.int kv)] [(.int (zs.getD i 0)), (.int (zs.getD i 0))]))
    refine Runs.st (fun t' k' => XS.icmpNo X0.here hx rfl (hb hby d_method_4_11) rfl (teq rfl).2 k') ?_
    show Runs p.tables e below _ (s₁.setTop (mkF m 14 #[.val (.ref y), .val (.ref x), .val (.int iv), .val (.int kv)] []))
    refine Runs.st (fun t' k' => XS.iconst X0.here hx rfl (hb hby d_method_4_14) k') ?_
    refine Runs.st (fun t' k' => XS.goto X0.here hx rfl (pc0 := 15) (pc' := 19) rfl (hb hby d_method_4_15) (by decide) (by decide) k') ?_
    refine Runs.ret X0 hlk (v := (some (.int (1 : Int32)))) (fun h => by rw [hret] at h; cases h) (by decide) (by decide) ?_ (fun fs hr => retN X0 hx (t := .boolean) hret (by simp) (hb hby d_method_4_19) hr)
    try rw [e0]
    exact ⟨rfl, N0, rfl⟩
  · skip
    refine Runs.st (fun t' k' => XS.icmpYes X0.here hx rfl (pc0 := 2) (pc' := 14) rfl (hb hby d_method_4_2) rfl (flt c2).2.1 (by decide) (by decide) k') ?_
    show Runs p.tables e below _ (s₁.setTop (mkF m 14 #[.val (.ref y), .val (.ref x), .val (.int iv), .val (.int kv)] []))
    refine Runs.st (fun t' k' => XS.iconst X0.here hx rfl (hb hby d_method_4_14) k') ?_
    refine Runs.st (fun t' k' => XS.goto X0.here hx rfl (pc0 := 15) (pc' := 19) rfl (hb hby d_method_4_15) (by decide) (by decide) k') ?_
    refine Runs.ret X0 hlk (v := (some (.int (1 : Int32)))) (fun h => by rw [hret] at h; cases h) (by decide) (by decide) ?_ (fun fs hr => retN X0 hx (t := .boolean) hret (by simp) (hb hby d_method_4_19) hr)
    try rw [e0]
    exact ⟨rfl, N0, rfl⟩
theorem pd__28_5bB_5bBII_29Z : parseMethodDescriptor "([B[BII)Z" = some ⟨[(.array .byte), (.array .byte), .int, .int], some .boolean⟩ := by decide +kernel
set_option maxRecDepth 65536 in
set_option maxHeartbeats 40000000 in
theorem segA {p : Program} {l : Launch} {e : Env} {s : State} {m : MethodId} {args : Array Value} {below : List Frame} {meth : Method} {c : Code} {T0 : State} {locs : List Loc} {Z : State} {a0 : Array Value} {h0 hq : Heap} {n0 : Nat} (i0 : Int64) (i1 sv tz st : Int32) (b d y x : Addr) (kb ky kx : ClassId) (bs : List Int32) (c0 c1 c2 c3 c4 c5 : Int32) (R2 S : List Int32 × Int32)
    (X0 : Stand p l e room_1 s m args below meth c T0 locs 6 8287) (hx : p.tables.exec = Jvm.exec) (hw : ∀ d ∈ tables_1, d.before a0 Z = true) (hby : c.code = code) (hml : c.maxLocals = 10) (hlk : meth.locks = false) (hret : meth.sig.returnType = ret) (e0 : T0.heap = hq) (N0 : Fr n0 locs) (sz : n0 ≤ hq.size) (K : Keep h0 hq []) (hZ : Z.Warmed39 s.vm) (hown : s.vm.findClass "com/example/frozen_stream/frozenstream/rdf/DocumentUnindentedPinLaw" = some m.cls) (V_b : Arv Z hq b kb .byte (6 : Int32) (bs.map Value.int) (.int (0 : Int32))) (V_y : Arv Z hq y ky .byte tz (R2.1.map Value.int) (.int (0 : Int32))) (V_x : Arv Z hq x kx .byte (6 : Int32) (S.1.map Value.int) (.int (0 : Int32))) (ne_b_x : b ≠ x) (ne_y_x : y ≠ x) (g_x : n0 ≤ x) (sz_x : h0.size ≤ x) (hbs : bs = [c0, c1, c2, c3, c4, c5]) (hc0 : nar .byte c0 = c0) (hc1 : nar .byte c1 = c1) (hc2 : nar .byte c2 = c2) (hc3 : nar .byte c3 = c3) (hc4 : nar .byte c4 = c4) (hc5 : nar .byte c5 = c5) (htl : tz.toInt = (R2.1.length : Int)) (z0 : S.2 = 0 ∨ S.2 = 1) (y0 : S.1.length ≤ 6) (t0 : st.toInt = 2 * (S.1.length : Int) + S.2.toInt) (hS : List.foldl own_step S [] = R2) :
    Runs p.tables e below (Phi s (fun v h L => v = some (.int 1) ∧ Fr n0 L) room_1.cells room_1.slots) (T0.setTop (mkF m 184 #[.val (.long i0), .second, .val (.int i1), .val (.ref b), .val (.int sv), .val (.ref d), .val (.ref y), .val (.ref x), .val (.int st), .unset] [])) := by
  show Runs p.tables e below _ (T0.setTop (mkF m 184 #[.val (.long i0), .second, .val (.int i1), .val (.ref b), .val (.int sv), .val (.ref d), .val (.ref y), .val (.ref x), .val (.int st), .unset] []))
  have hfin : S = R2 := hS
  subst hfin
  refine Runs.st (fun t' k' => XS.iload X0.here hx rfl (hb hby at_184) rfl k') ?_
  refine Runs.st (fun t' k' => XS.iconst X0.here hx rfl (hb hby at_186) k') ?_
  refine Runs.st (fun t' k' => XS.ishr X0.here hx rfl (hb hby at_187) rfl k') ?_
  show Runs p.tables e below _ (T0.setTop (mkF m 188 #[.val (.long i0), .second, .val (.int i1), .val (.ref b), .val (.int sv), .val (.ref d), .val (.ref y), .val (.ref x), .val (.int st), .unset] [(.int (st >>> ((1 : Int32) &&& 31)))]))
  obtain ⟨kv, ekv⟩ : ∃ z : Int32, z = (st >>> ((1 : Int32) &&& 31)) := ⟨_, rfl⟩
  rw [← ekv]
  show Runs p.tables e below _ (T0.setTop (mkF m 188 #[.val (.long i0), .second, .val (.int i1), .val (.ref b), .val (.int sv), .val (.ref d), .val (.ref y), .val (.ref x), .val (.int st), .unset] [(.int kv)]))
  have hkv : kv.toInt = (S.1.length : Int) := by rw [ekv]; exact own_half z0 t0
  refine Runs.st (fun t' k' => XS.istore X0.here hx rfl (hb hby at_188) rfl (l' := #[.val (.long i0), .second, .val (.int i1), .val (.ref b), .val (.int sv), .val (.ref d), .val (.ref y), .val (.ref x), .val (.int st), .val (.int kv)]) rfl k') ?_
  refine Runs.st (fun t' k' => XS.aload X0.here hx rfl (hb hby at_190) rfl rfl k') ?_
  show Runs p.tables e below _ (T0.setTop (mkF m 192 #[.val (.long i0), .second, .val (.int i1), .val (.ref b), .val (.int sv), .val (.ref d), .val (.ref y), .val (.ref x), .val (.int st), .val (.int kv)] [(.ref y)]))
  obtain ⟨cl1_, Ar1_, -, S1_, M1_, -, -⟩ := id V_y
  refine Runs.st (X0.arraylength hx (by rw [e0]; exact Ar1_.1) (State.isArrayOf_alike hZ.alike Ar1_.2.1) (g := (mkF m 192 #[.val (.long i0), .second, .val (.int i1), .val (.ref b), .val (.int sv), .val (.ref d), .val (.ref y), .val (.ref x), .val (.int st), .val (.int kv)] [(.ref y)])) rfl rfl (hb hby at_192)) ?_
  rw [len_of S1_ M1_]
  show Runs p.tables e below _ (T0.setTop (mkF m 193 #[.val (.long i0), .second, .val (.int i1), .val (.ref b), .val (.int sv), .val (.ref d), .val (.ref y), .val (.ref x), .val (.int st), .val (.int kv)] [(.int tz)]))
  refine Runs.st (fun t' k' => XS.iload X0.here hx rfl (hb hby at_193) rfl k') ?_
  refine Runs.st (fun t' k' => XS.icmpYes X0.here hx rfl (pc0 := 195) (pc' := 200) rfl (hb hby at_195) rfl (teq (Int32.toInt_inj.mp (by rw [htl, hkv]))).1 (by decide) (by decide) k') ?_
  show Runs p.tables e below _ (T0.setTop (mkF m 200 #[.val (.long i0), .second, .val (.int i1), .val (.ref b), .val (.int sv), .val (.ref d), .val (.ref y), .val (.ref x), .val (.int st), .val (.int kv)] []))
  refine Runs.st (fun t' k' => XS.aload X0.here hx rfl (hb hby at_200) rfl rfl k') ?_
  refine Runs.st (fun t' k' => XS.aload X0.here hx rfl (hb hby at_202) rfl rfl k') ?_
  refine Runs.st (fun t' k' => XS.iconst X0.here hx rfl (hb hby at_204) k') ?_
  refine Runs.st (fun t' k' => XS.iload X0.here hx rfl (hb hby at_205) rfl k') ?_
  obtain ⟨_, _, ⟨T2_, L2_, k2_, n2_⟩, -, X2_, ⟨Lc2_, hQ2_, l2_, y2_, z2_⟩, st2_⟩ := Jvm.LawKit.callS X0 hx (y := (⟨"com/example/frozen_stream/frozenstream/rdf/DocumentUnindentedPinLaw", "eqAt", "([B[BII)Z"⟩ : MethodName)) hown (mvT hZ (hw _ (List.mem_of_getElem? (i := 70) rfl))) (mvT hZ (hw _ (List.mem_of_getElem? (i := 71) rfl))) (mvT hZ (hw _ (List.mem_of_getElem? (i := 3) rfl))) (mvT hZ (hw _ (List.mem_of_getElem? (i := 72) rfl))) (by decide) (backOf (W := 0) (rmEq l Z a0 hw [] y x (0 : Int32) kv _ _ tz S.1 0 hq n0 sz V_y V_x rfl (by decide) hkv htl) hZ (hw _ (List.mem_of_getElem? (i := 72) rfl)) (hw _ (List.mem_of_getElem? (i := 3) rfl)) (by decide) (by decide)) (g := (mkF m 207 #[.val (.long i0), .second, .val (.int i1), .val (.ref b), .val (.int sv), .val (.ref d), .val (.ref y), .val (.ref x), .val (.int st), .val (.int kv)] [(.int kv), (.int (0 : Int32)), (.ref x), (.ref y)])) rfl (by rw [hml]; rfl) (argsL := [(.ref y), (.ref x), (.int (0 : Int32)), (.int kv)]) (rest := []) (lenOf pd__28_5bB_5bBII_29Z rfl) rfl (by show 2 * 0 + _ ≤ _; exact Nat.le_of_eq rfl) (hb hby at_207) (fun _ _ => ⟨rfl, e0, (by decide : 6 + 0 ≤ _), (by decide : 8287 + 0 ≤ _)⟩)
  dsimp only [Pt.U, Pt.locs, Pt.cells, Pt.slots] at X2_ l2_ y2_ z2_ st2_ hQ2_
  subst l2_ y2_ z2_
  obtain ⟨rfl, N2_q, e2_⟩ := hQ2_
  have N2_ := Fr.app N0 N2_q
  refine Runs.st (st2_) ?_
  replace X2_ := wider X2_ (c' := 6) (s' := 8287) (by decide) (by decide)
  show Runs p.tables e below _ (T2_.setTop (mkF m 210 #[.val (.long i0), .second, .val (.int i1), .val (.ref b), .val (.int sv), .val (.ref d), .val (.ref y), .val (.ref x), .val (.int st), .val (.int kv)] [(.int (1 : Int32))]))
  refine Runs.st (fun t' k' => XS.ifNo X2_.here hx rfl (hb hby at_210) rfl ((if0 _ _).trans (feq (by decide)).1) k') ?_
  show Runs p.tables e below _ (T2_.setTop (mkF m 213 #[.val (.long i0), .second, .val (.int i1), .val (.ref b), .val (.int sv), .val (.ref d), .val (.ref y), .val (.ref x), .val (.int st), .val (.int kv)] []))
  refine Runs.st (fun t' k' => XS.aload X2_.here hx rfl (hb hby at_213) rfl rfl k') ?_
  refine Runs.st (fun t' k' => XS.aload X2_.here hx rfl (hb hby at_215) rfl rfl k') ?_
  refine Runs.st (fun t' k' => XS.iconst X2_.here hx rfl (hb hby at_217) k') ?_
  refine Runs.st (fun t' k' => XS.iload X2_.here hx rfl (hb hby at_218) rfl k') ?_
  obtain ⟨_, _, ⟨T3_, L3_, k3_, n3_⟩, -, X3_, ⟨Lc3_, hQ3_, l3_, y3_, z3_⟩, st3_⟩ := Jvm.LawKit.callS X2_ hx (y := (⟨"com/example/frozen_stream/frozenstream/rdf/DocumentUnindentedPinLaw", "eqAt", "([B[BII)Z"⟩ : MethodName)) hown (mvT hZ (hw _ (List.mem_of_getElem? (i := 70) rfl))) (mvT hZ (hw _ (List.mem_of_getElem? (i := 71) rfl))) (mvT hZ (hw _ (List.mem_of_getElem? (i := 3) rfl))) (mvT hZ (hw _ (List.mem_of_getElem? (i := 72) rfl))) (by decide) (backOf (W := 0) (rmEq l Z a0 hw [] y x (1 : Int32) kv _ _ tz S.1 1 hq n0 sz V_y V_x rfl (by decide) hkv htl) hZ (hw _ (List.mem_of_getElem? (i := 72) rfl)) (hw _ (List.mem_of_getElem? (i := 3) rfl)) (by decide) (by decide)) (g := (mkF m 220 #[.val (.long i0), .second, .val (.int i1), .val (.ref b), .val (.int sv), .val (.ref d), .val (.ref y), .val (.ref x), .val (.int st), .val (.int kv)] [(.int kv), (.int (1 : Int32)), (.ref x), (.ref y)])) rfl (by rw [hml]; rfl) (argsL := [(.ref y), (.ref x), (.int (1 : Int32)), (.int kv)]) (rest := []) (lenOf pd__28_5bB_5bBII_29Z rfl) rfl (by show 2 * 0 + _ ≤ _; exact Nat.le_of_eq rfl) (hb hby at_220) (fun _ _ => ⟨rfl, e2_, (by decide : 6 + 0 ≤ _), (by decide : 8287 + 0 ≤ _)⟩)
  dsimp only [Pt.U, Pt.locs, Pt.cells, Pt.slots] at X3_ l3_ y3_ z3_ st3_ hQ3_
  subst l3_ y3_ z3_
  obtain ⟨rfl, N3_q, e3_⟩ := hQ3_
  have N3_ := Fr.app N2_ N3_q
  refine Runs.st (st3_) ?_
  replace X3_ := wider X3_ (c' := 6) (s' := 8287) (by decide) (by decide)
  show Runs p.tables e below _ (T3_.setTop (mkF m 223 #[.val (.long i0), .second, .val (.int i1), .val (.ref b), .val (.int sv), .val (.ref d), .val (.ref y), .val (.ref x), .val (.int st), .val (.int kv)] [(.int (1 : Int32))]))
  refine Runs.st (fun t' k' => XS.ifNo X3_.here hx rfl (hb hby at_223) rfl ((if0 _ _).trans (feq (by decide)).1) k') ?_
  show Runs p.tables e below _ (T3_.setTop (mkF m 226 #[.val (.long i0), .second, .val (.int i1), .val (.ref b), .val (.int sv), .val (.ref d), .val (.ref y), .val (.ref x), .val (.int st), .val (.int kv)] []))
  refine Runs.st (fun t' k' => XS.aload X3_.here hx rfl (hb hby at_226) rfl rfl k') ?_
  refine Runs.st (fun t' k' => XS.aload X3_.here hx rfl (hb hby at_228) rfl rfl k') ?_
  refine Runs.st (fun t' k' => XS.iconst X3_.here hx rfl (hb hby at_230) k') ?_
  refine Runs.st (fun t' k' => XS.iload X3_.here hx rfl (hb hby at_231) rfl k') ?_
  obtain ⟨_, _, ⟨T4_, L4_, k4_, n4_⟩, -, X4_, ⟨Lc4_, hQ4_, l4_, y4_, z4_⟩, st4_⟩ := Jvm.LawKit.callS X3_ hx (y := (⟨"com/example/frozen_stream/frozenstream/rdf/DocumentUnindentedPinLaw", "eqAt", "([B[BII)Z"⟩ : MethodName)) hown (mvT hZ (hw _ (List.mem_of_getElem? (i := 70) rfl))) (mvT hZ (hw _ (List.mem_of_getElem? (i := 71) rfl))) (mvT hZ (hw _ (List.mem_of_getElem? (i := 3) rfl))) (mvT hZ (hw _ (List.mem_of_getElem? (i := 72) rfl))) (by decide) (backOf (W := 0) (rmEq l Z a0 hw [] y x (2 : Int32) kv _ _ tz S.1 2 hq n0 sz V_y V_x rfl (by decide) hkv htl) hZ (hw _ (List.mem_of_getElem? (i := 72) rfl)) (hw _ (List.mem_of_getElem? (i := 3) rfl)) (by decide) (by decide)) (g := (mkF m 233 #[.val (.long i0), .second, .val (.int i1), .val (.ref b), .val (.int sv), .val (.ref d), .val (.ref y), .val (.ref x), .val (.int st), .val (.int kv)] [(.int kv), (.int (2 : Int32)), (.ref x), (.ref y)])) rfl (by rw [hml]; rfl) (argsL := [(.ref y), (.ref x), (.int (2 : Int32)), (.int kv)]) (rest := []) (lenOf pd__28_5bB_5bBII_29Z rfl) rfl (by show 2 * 0 + _ ≤ _; exact Nat.le_of_eq rfl) (hb hby at_233) (fun _ _ => ⟨rfl, e3_, (by decide : 6 + 0 ≤ _), (by decide : 8287 + 0 ≤ _)⟩)
  dsimp only [Pt.U, Pt.locs, Pt.cells, Pt.slots] at X4_ l4_ y4_ z4_ st4_ hQ4_
  subst l4_ y4_ z4_
  obtain ⟨rfl, N4_q, e4_⟩ := hQ4_
  have N4_ := Fr.app N3_ N4_q
  refine Runs.st (st4_) ?_
  replace X4_ := wider X4_ (c' := 6) (s' := 8287) (by decide) (by decide)
  show Runs p.tables e below _ (T4_.setTop (mkF m 236 #[.val (.long i0), .second, .val (.int i1), .val (.ref b), .val (.int sv), .val (.ref d), .val (.ref y), .val (.ref x), .val (.int st), .val (.int kv)] [(.int (1 : Int32))]))
  refine Runs.st (fun t' k' => XS.ifNo X4_.here hx rfl (hb hby at_236) rfl ((if0 _ _).trans (feq (by decide)).1) k') ?_
  show Runs p.tables e below _ (T4_.setTop (mkF m 239 #[.val (.long i0), .second, .val (.int i1), .val (.ref b), .val (.int sv), .val (.ref d), .val (.ref y), .val (.ref x), .val (.int st), .val (.int kv)] []))
  refine Runs.st (fun t' k' => XS.aload X4_.here hx rfl (hb hby at_239) rfl rfl k') ?_
  refine Runs.st (fun t' k' => XS.aload X4_.here hx rfl (hb hby at_241) rfl rfl k') ?_
  refine Runs.st (fun t' k' => XS.iconst X4_.here hx rfl (hb hby at_243) k') ?_
  refine Runs.st (fun t' k' => XS.iload X4_.here hx rfl (hb hby at_244) rfl k') ?_
  obtain ⟨_, _, ⟨T5_, L5_, k5_, n5_⟩, -, X5_, ⟨Lc5_, hQ5_, l5_, y5_, z5_⟩, st5_⟩ := Jvm.LawKit.callS X4_ hx (y := (⟨"com/example/frozen_stream/frozenstream/rdf/DocumentUnindentedPinLaw", "eqAt", "([B[BII)Z"⟩ : MethodName)) hown (mvT hZ (hw _ (List.mem_of_getElem? (i := 70) rfl))) (mvT hZ (hw _ (List.mem_of_getElem? (i := 71) rfl))) (mvT hZ (hw _ (List.mem_of_getElem? (i := 3) rfl))) (mvT hZ (hw _ (List.mem_of_getElem? (i := 72) rfl))) (by decide) (backOf (W := 0) (rmEq l Z a0 hw [] y x (3 : Int32) kv _ _ tz S.1 3 hq n0 sz V_y V_x rfl (by decide) hkv htl) hZ (hw _ (List.mem_of_getElem? (i := 72) rfl)) (hw _ (List.mem_of_getElem? (i := 3) rfl)) (by decide) (by decide)) (g := (mkF m 246 #[.val (.long i0), .second, .val (.int i1), .val (.ref b), .val (.int sv), .val (.ref d), .val (.ref y), .val (.ref x), .val (.int st), .val (.int kv)] [(.int kv), (.int (3 : Int32)), (.ref x), (.ref y)])) rfl (by rw [hml]; rfl) (argsL := [(.ref y), (.ref x), (.int (3 : Int32)), (.int kv)]) (rest := []) (lenOf pd__28_5bB_5bBII_29Z rfl) rfl (by show 2 * 0 + _ ≤ _; exact Nat.le_of_eq rfl) (hb hby at_246) (fun _ _ => ⟨rfl, e4_, (by decide : 6 + 0 ≤ _), (by decide : 8287 + 0 ≤ _)⟩)
  dsimp only [Pt.U, Pt.locs, Pt.cells, Pt.slots] at X5_ l5_ y5_ z5_ st5_ hQ5_
  subst l5_ y5_ z5_
  obtain ⟨rfl, N5_q, e5_⟩ := hQ5_
  have N5_ := Fr.app N4_ N5_q
  refine Runs.st (st5_) ?_
  replace X5_ := wider X5_ (c' := 6) (s' := 8287) (by decide) (by decide)
  show Runs p.tables e below _ (T5_.setTop (mkF m 249 #[.val (.long i0), .second, .val (.int i1), .val (.ref b), .val (.int sv), .val (.ref d), .val (.ref y), .val (.ref x), .val (.int st), .val (.int kv)] [(.int (1 : Int32))]))
  refine Runs.st (fun t' k' => XS.ifNo X5_.here hx rfl (hb hby at_249) rfl ((if0 _ _).trans (feq (by decide)).1) k') ?_
  show Runs p.tables e below _ (T5_.setTop (mkF m 252 #[.val (.long i0), .second, .val (.int i1), .val (.ref b), .val (.int sv), .val (.ref d), .val (.ref y), .val (.ref x), .val (.int st), .val (.int kv)] []))
  refine Runs.st (fun t' k' => XS.aload X5_.here hx rfl (hb hby at_252) rfl rfl k') ?_
  refine Runs.st (fun t' k' => XS.aload X5_.here hx rfl (hb hby at_254) rfl rfl k') ?_
  refine Runs.st (fun t' k' => XS.iconst X5_.here hx rfl (hb hby at_256) k') ?_
  refine Runs.st (fun t' k' => XS.iload X5_.here hx rfl (hb hby at_257) rfl k') ?_
  obtain ⟨_, _, ⟨T6_, L6_, k6_, n6_⟩, -, X6_, ⟨Lc6_, hQ6_, l6_, y6_, z6_⟩, st6_⟩ := Jvm.LawKit.callS X5_ hx (y := (⟨"com/example/frozen_stream/frozenstream/rdf/DocumentUnindentedPinLaw", "eqAt", "([B[BII)Z"⟩ : MethodName)) hown (mvT hZ (hw _ (List.mem_of_getElem? (i := 70) rfl))) (mvT hZ (hw _ (List.mem_of_getElem? (i := 71) rfl))) (mvT hZ (hw _ (List.mem_of_getElem? (i := 3) rfl))) (mvT hZ (hw _ (List.mem_of_getElem? (i := 72) rfl))) (by decide) (backOf (W := 0) (rmEq l Z a0 hw [] y x (4 : Int32) kv _ _ tz S.1 4 hq n0 sz V_y V_x rfl (by decide) hkv htl) hZ (hw _ (List.mem_of_getElem? (i := 72) rfl)) (hw _ (List.mem_of_getElem? (i := 3) rfl)) (by decide) (by decide)) (g := (mkF m 259 #[.val (.long i0), .second, .val (.int i1), .val (.ref b), .val (.int sv), .val (.ref d), .val (.ref y), .val (.ref x), .val (.int st), .val (.int kv)] [(.int kv), (.int (4 : Int32)), (.ref x), (.ref y)])) rfl (by rw [hml]; rfl) (argsL := [(.ref y), (.ref x), (.int (4 : Int32)), (.int kv)]) (rest := []) (lenOf pd__28_5bB_5bBII_29Z rfl) rfl (by show 2 * 0 + _ ≤ _; exact Nat.le_of_eq rfl) (hb hby at_259) (fun _ _ => ⟨rfl, e5_, (by decide : 6 + 0 ≤ _), (by decide : 8287 + 0 ≤ _)⟩)
  dsimp only [Pt.U, Pt.locs, Pt.cells, Pt.slots] at X6_ l6_ y6_ z6_ st6_ hQ6_
  subst l6_ y6_ z6_
  obtain ⟨rfl, N6_q, e6_⟩ := hQ6_
  have N6_ := Fr.app N5_ N6_q
  refine Runs.st (st6_) ?_
  replace X6_ := wider X6_ (c' := 6) (s' := 8287) (by decide) (by decide)
  show Runs p.tables e below _ (T6_.setTop (mkF m 262 #[.val (.long i0), .second, .val (.int i1), .val (.ref b), .val (.int sv), .val (.ref d), .val (.ref y), .val (.ref x), .val (.int st), .val (.int kv)] [(.int (1 : Int32))]))
  refine Runs.st (fun t' k' => XS.ifNo X6_.here hx rfl (hb hby at_262) rfl ((if0 _ _).trans (feq (by decide)).1) k') ?_
  show Runs p.tables e below _ (T6_.setTop (mkF m 265 #[.val (.long i0), .second, .val (.int i1), .val (.ref b), .val (.int sv), .val (.ref d), .val (.ref y), .val (.ref x), .val (.int st), .val (.int kv)] []))
  refine Runs.st (fun t' k' => XS.aload X6_.here hx rfl (hb hby at_265) rfl rfl k') ?_
  refine Runs.st (fun t' k' => XS.aload X6_.here hx rfl (hb hby at_267) rfl rfl k') ?_
  refine Runs.st (fun t' k' => XS.iconst X6_.here hx rfl (hb hby at_269) k') ?_
  refine Runs.st (fun t' k' => XS.iload X6_.here hx rfl (hb hby at_270) rfl k') ?_
  obtain ⟨_, _, ⟨T7_, L7_, k7_, n7_⟩, -, X7_, ⟨Lc7_, hQ7_, l7_, y7_, z7_⟩, st7_⟩ := Jvm.LawKit.callS X6_ hx (y := (⟨"com/example/frozen_stream/frozenstream/rdf/DocumentUnindentedPinLaw", "eqAt", "([B[BII)Z"⟩ : MethodName)) hown (mvT hZ (hw _ (List.mem_of_getElem? (i := 70) rfl))) (mvT hZ (hw _ (List.mem_of_getElem? (i := 71) rfl))) (mvT hZ (hw _ (List.mem_of_getElem? (i := 3) rfl))) (mvT hZ (hw _ (List.mem_of_getElem? (i := 72) rfl))) (by decide) (backOf (W := 0) (rmEq l Z a0 hw [] y x (5 : Int32) kv _ _ tz S.1 5 hq n0 sz V_y V_x rfl (by decide) hkv htl) hZ (hw _ (List.mem_of_getElem? (i := 72) rfl)) (hw _ (List.mem_of_getElem? (i := 3) rfl)) (by decide) (by decide)) (g := (mkF m 272 #[.val (.long i0), .second, .val (.int i1), .val (.ref b), .val (.int sv), .val (.ref d), .val (.ref y), .val (.ref x), .val (.int st), .val (.int kv)] [(.int kv), (.int (5 : Int32)), (.ref x), (.ref y)])) rfl (by rw [hml]; rfl) (argsL := [(.ref y), (.ref x), (.int (5 : Int32)), (.int kv)]) (rest := []) (lenOf pd__28_5bB_5bBII_29Z rfl) rfl (by show 2 * 0 + _ ≤ _; exact Nat.le_of_eq rfl) (hb hby at_272) (fun _ _ => ⟨rfl, e6_, (by decide : 6 + 0 ≤ _), (by decide : 8287 + 0 ≤ _)⟩)
  dsimp only [Pt.U, Pt.locs, Pt.cells, Pt.slots] at X7_ l7_ y7_ z7_ st7_ hQ7_
  subst l7_ y7_ z7_
  obtain ⟨rfl, N7_q, e7_⟩ := hQ7_
  have N7_ := Fr.app N6_ N7_q
  refine Runs.st (st7_) ?_
  replace X7_ := wider X7_ (c' := 6) (s' := 8287) (by decide) (by decide)
  show Runs p.tables e below _ (T7_.setTop (mkF m 275 #[.val (.long i0), .second, .val (.int i1), .val (.ref b), .val (.int sv), .val (.ref d), .val (.ref y), .val (.ref x), .val (.int st), .val (.int kv)] [(.int (1 : Int32))]))
  refine Runs.st (fun t' k' => XS.ifNo X7_.here hx rfl (hb hby at_275) rfl ((if0 _ _).trans (feq (by decide)).1) k') ?_
  show Runs p.tables e below _ (T7_.setTop (mkF m 278 #[.val (.long i0), .second, .val (.int i1), .val (.ref b), .val (.int sv), .val (.ref d), .val (.ref y), .val (.ref x), .val (.int st), .val (.int kv)] []))
  refine Runs.st (fun t' k' => XS.iconst X7_.here hx rfl (hb hby at_278) k') ?_
  refine Runs.st (fun t' k' => XS.goto X7_.here hx rfl (pc0 := 279) (pc' := 283) rfl (hb hby at_279) (by decide) (by decide) k') ?_
  refine Runs.ret X7_ hlk (v := (some (.int (1 : Int32)))) (fun h => by rw [hret] at h; cases h) (by decide) (by decide) ?_ (fun fs hr => retN X7_ hx (t := .boolean) hret (by simp) (hb hby at_283) hr)
  try rw [e7_]
  exact ⟨rfl, N7_⟩
theorem pd__28_5bBIB_29I : parseMethodDescriptor "([BIB)I" = some ⟨[(.array .byte), .int, .byte], some .int⟩ := by decide +kernel
set_option maxRecDepth 65536 in
set_option maxHeartbeats 40000000 in
theorem segB {p : Program} {l : Launch} {e : Env} {s : State} {m : MethodId} {args : Array Value} {below : List Frame} {meth : Method} {c : Code} {T0 : State} {locs : List Loc} {Z : State} {a0 : Array Value} {h0 hq : Heap} {n0 : Nat} (i0 : Int64) (i1 sv tz st : Int32) (b d y x : Addr) (kb ky kx : ClassId) (bs : List Int32) (c0 c1 c2 c3 c4 c5 : Int32) (R2 S : List Int32 × Int32)
    (X0 : Stand p l e room_1 s m args below meth c T0 locs 6 8287) (hx : p.tables.exec = Jvm.exec) (hw : ∀ d ∈ tables_1, d.before a0 Z = true) (hby : c.code = code) (hml : c.maxLocals = 10) (hlk : meth.locks = false) (hret : meth.sig.returnType = ret) (e0 : T0.heap = hq) (N0 : Fr n0 locs) (sz : n0 ≤ hq.size) (K : Keep h0 hq []) (hZ : Z.Warmed39 s.vm) (hown : s.vm.findClass "com/example/frozen_stream/frozenstream/rdf/DocumentUnindentedPinLaw" = some m.cls) (V_b : Arv Z hq b kb .byte (6 : Int32) (bs.map Value.int) (.int (0 : Int32))) (V_y : Arv Z hq y ky .byte tz (R2.1.map Value.int) (.int (0 : Int32))) (V_x : Arv Z hq x kx .byte (6 : Int32) (S.1.map Value.int) (.int (0 : Int32))) (ne_b_x : b ≠ x) (ne_y_x : y ≠ x) (g_x : n0 ≤ x) (sz_x : h0.size ≤ x) (hbs : bs = [c0, c1, c2, c3, c4, c5]) (hc0 : nar .byte c0 = c0) (hc1 : nar .byte c1 = c1) (hc2 : nar .byte c2 = c2) (hc3 : nar .byte c3 = c3) (hc4 : nar .byte c4 = c4) (hc5 : nar .byte c5 = c5) (htl : tz.toInt = (R2.1.length : Int)) (z0 : S.2 = 0 ∨ S.2 = 1) (y0 : S.1.length ≤ 3) (t0 : st.toInt = 2 * (S.1.length : Int) + S.2.toInt) (hS : List.foldl own_step S [c3, c4, c5] = R2) :
    Runs p.tables e below (Phi s (fun v h L => v = some (.int 1) ∧ Fr n0 L) room_1.cells room_1.slots) (T0.setTop (mkF m 148 #[.val (.long i0), .second, .val (.int i1), .val (.ref b), .val (.int sv), .val (.ref d), .val (.ref y), .val (.ref x), .val (.int st), .unset] [])) := by
  show Runs p.tables e below _ (T0.setTop (mkF m 148 #[.val (.long i0), .second, .val (.int i1), .val (.ref b), .val (.int sv), .val (.ref d), .val (.ref y), .val (.ref x), .val (.int st), .unset] []))
  refine Runs.st (fun t' k' => XS.aload X0.here hx rfl (hb hby at_148) rfl rfl k') ?_
  refine Runs.st (fun t' k' => XS.iload X0.here hx rfl (hb hby at_150) rfl k') ?_
  refine Runs.st (fun t' k' => XS.aloadN X0.here hx rfl (hb hby at_152) rfl rfl k') ?_
  refine Runs.st (fun t' k' => XS.iconst X0.here hx rfl (hb hby at_153) k') ?_
  obtain ⟨cl1_, Ar1_, -, S1_, M1_, Ha1_, -⟩ := id V_b
  have hin1_ : ¬ ((3 : Int32) < 0 ∨ cl1_.slots.size ≤ ((3 : Int32)).toNatClampNeg) := inb_of S1_ ⟨by decide, by decide⟩
  refine Runs.st (X0.baloadBytes hx (j := (3 : Int32)) (v := (.int c3)) (by rw [e0]; exact Ar1_.1) (State.isArrayOf_alike hZ.alike Ar1_.2.1) Ar1_.2.2 hin1_ (Ha1_.at hin1_ (by rw [hbs]; rfl)) (g := (mkF m 154 #[.val (.long i0), .second, .val (.int i1), .val (.ref b), .val (.int sv), .val (.ref d), .val (.ref y), .val (.ref x), .val (.int st), .unset] [(.int (3 : Int32)), (.ref b), (.int st), (.ref x)])) rfl rfl (hb hby at_154)) ?_
  show Runs p.tables e below _ (T0.setTop (mkF m 155 #[.val (.long i0), .second, .val (.int i1), .val (.ref b), .val (.int sv), .val (.ref d), .val (.ref y), .val (.ref x), .val (.int st), .unset] [(.int c3), (.int st), (.ref x)]))
  obtain ⟨_, _, ⟨T2_, L2_, k2_, n2_⟩, -, X2_, ⟨Lc2_, hQ2_, l2_, y2_, z2_⟩, st2_⟩ := Jvm.LawKit.callS X0 hx (y := (⟨"com/example/frozen_stream/frozenstream/rdf/DocumentUnindentedPinLaw", "put", "([BIB)I"⟩ : MethodName)) hown (mvT hZ (hw _ (List.mem_of_getElem? (i := 67) rfl))) (mvT hZ (hw _ (List.mem_of_getElem? (i := 68) rfl))) (mvT hZ (hw _ (List.mem_of_getElem? (i := 3) rfl))) (mvT hZ (hw _ (List.mem_of_getElem? (i := 69) rfl))) (by decide) (backOf (W := 0) (rmPut l Z a0 hw [] x st c3 _ S.1 S.2 hq n0 sz V_x g_x z0 t0 (Nat.lt_of_le_of_lt y0 (by decide)) hc3) hZ (hw _ (List.mem_of_getElem? (i := 69) rfl)) (hw _ (List.mem_of_getElem? (i := 3) rfl)) (by decide) (by decide)) (g := (mkF m 155 #[.val (.long i0), .second, .val (.int i1), .val (.ref b), .val (.int sv), .val (.ref d), .val (.ref y), .val (.ref x), .val (.int st), .unset] [(.int c3), (.int st), (.ref x)])) rfl (by rw [hml]; rfl) (argsL := [(.ref x), (.int st), (.int c3)]) (rest := []) (lenOf pd__28_5bBIB_29I rfl) rfl (by show 2 * 0 + _ ≤ _; exact Nat.le_of_eq rfl) (hb hby at_155) (fun _ _ => ⟨rfl, e0, (by decide : 6 + 0 ≤ _), (by decide : 8287 + 0 ≤ _)⟩)
  dsimp only [Pt.U, Pt.locs, Pt.cells, Pt.slots] at X2_ l2_ y2_ z2_ st2_ hQ2_
  subst l2_ y2_ z2_
  obtain ⟨st1, rfl, N2_q, K2_, V_x, t1⟩ := hQ2_
  have N2_ := Fr.app N0 N2_q
  refine Runs.st (st2_) ?_
  replace X2_ := wider X2_ (c' := 6) (s' := 8287) (by decide) (by decide)
  replace V_b := V_b.keep K2_ (ninS ne_b_x nin0)
  replace V_y := V_y.keep K2_ (ninS ne_y_x nin0)
  replace sz := Nat.le_trans sz K2_.1
  replace K := K.trans K2_ (allS (Or.inr sz_x) all0)
  show Runs p.tables e below _ (T2_.setTop (mkF m 158 #[.val (.long i0), .second, .val (.int i1), .val (.ref b), .val (.int sv), .val (.ref d), .val (.ref y), .val (.ref x), .val (.int st), .unset] [(.int st1)]))
  obtain ⟨S1, eS1⟩ : ∃ z, z = own_step S c3 := ⟨_, rfl⟩
  replace V_x : Arv Z T2_.heap x kx .byte (6 : Int32) (S1.1.map Value.int) (.int (0 : Int32)) := by rw [eS1]; exact V_x
  have z1 : S1.2 = 0 ∨ S1.2 = 1 := by rw [eS1]; exact own_01 S c3 z0
  have y1 : S1.1.length ≤ 4 := by rw [eS1]; exact Nat.le_trans (own_slen S c3) (Nat.succ_le_succ y0)
  replace t1 : st1.toInt = 2 * (S1.1.length : Int) + S1.2.toInt := by rw [eS1]; exact t1
  refine Runs.st (fun t' k' => XS.istore X2_.here hx rfl (hb hby at_158) rfl (l' := #[.val (.long i0), .second, .val (.int i1), .val (.ref b), .val (.int sv), .val (.ref d), .val (.ref y), .val (.ref x), .val (.int st1), .unset]) rfl k') ?_
  refine Runs.st (fun t' k' => XS.aload X2_.here hx rfl (hb hby at_160) rfl rfl k') ?_
  refine Runs.st (fun t' k' => XS.iload X2_.here hx rfl (hb hby at_162) rfl k') ?_
  refine Runs.st (fun t' k' => XS.aloadN X2_.here hx rfl (hb hby at_164) rfl rfl k') ?_
  refine Runs.st (fun t' k' => XS.iconst X2_.here hx rfl (hb hby at_165) k') ?_
  show Runs p.tables e below _ (T2_.setTop (mkF m 166 #[.val (.long i0), .second, .val (.int i1), .val (.ref b), .val (.int sv), .val (.ref d), .val (.ref y), .val (.ref x), .val (.int st1), .unset] [(.int (4 : Int32)), (.ref b), (.int st1), (.ref x)]))
  obtain ⟨cl3_, Ar3_, -, S3_, M3_, Ha3_, -⟩ := id V_b
  have hin3_ : ¬ ((4 : Int32) < 0 ∨ cl3_.slots.size ≤ ((4 : Int32)).toNatClampNeg) := inb_of S3_ ⟨by decide, by decide⟩
  refine Runs.st (X2_.baloadBytes hx (j := (4 : Int32)) (v := (.int c4)) Ar3_.1 (State.isArrayOf_alike hZ.alike Ar3_.2.1) Ar3_.2.2 hin3_ (Ha3_.at hin3_ (by rw [hbs]; rfl)) (g := (mkF m 166 #[.val (.long i0), .second, .val (.int i1), .val (.ref b), .val (.int sv), .val (.ref d), .val (.ref y), .val (.ref x), .val (.int st1), .unset] [(.int (4 : Int32)), (.ref b), (.int st1), (.ref x)])) rfl rfl (hb hby at_166)) ?_
  show Runs p.tables e below _ (T2_.setTop (mkF m 167 #[.val (.long i0), .second, .val (.int i1), .val (.ref b), .val (.int sv), .val (.ref d), .val (.ref y), .val (.ref x), .val (.int st1), .unset] [(.int c4), (.int st1), (.ref x)]))
  obtain ⟨_, _, ⟨T4_, L4_, k4_, n4_⟩, -, X4_, ⟨Lc4_, hQ4_, l4_, y4_, z4_⟩, st4_⟩ := Jvm.LawKit.callS X2_ hx (y := (⟨"com/example/frozen_stream/frozenstream/rdf/DocumentUnindentedPinLaw", "put", "([BIB)I"⟩ : MethodName)) hown (mvT hZ (hw _ (List.mem_of_getElem? (i := 67) rfl))) (mvT hZ (hw _ (List.mem_of_getElem? (i := 68) rfl))) (mvT hZ (hw _ (List.mem_of_getElem? (i := 3) rfl))) (mvT hZ (hw _ (List.mem_of_getElem? (i := 69) rfl))) (by decide) (backOf (W := 0) (rmPut l Z a0 hw [] x st1 c4 _ S1.1 S1.2 T2_.heap n0 sz V_x g_x z1 t1 (Nat.lt_of_le_of_lt y1 (by decide)) hc4) hZ (hw _ (List.mem_of_getElem? (i := 69) rfl)) (hw _ (List.mem_of_getElem? (i := 3) rfl)) (by decide) (by decide)) (g := (mkF m 167 #[.val (.long i0), .second, .val (.int i1), .val (.ref b), .val (.int sv), .val (.ref d), .val (.ref y), .val (.ref x), .val (.int st1), .unset] [(.int c4), (.int st1), (.ref x)])) rfl (by rw [hml]; rfl) (argsL := [(.ref x), (.int st1), (.int c4)]) (rest := []) (lenOf pd__28_5bBIB_29I rfl) rfl (by show 2 * 0 + _ ≤ _; exact Nat.le_of_eq rfl) (hb hby at_167) (fun _ _ => ⟨rfl, rfl, (by decide : 6 + 0 ≤ _), (by decide : 8287 + 0 ≤ _)⟩)
  dsimp only [Pt.U, Pt.locs, Pt.cells, Pt.slots] at X4_ l4_ y4_ z4_ st4_ hQ4_
  subst l4_ y4_ z4_
  obtain ⟨st2, rfl, N4_q, K4_, V_x, t2⟩ := hQ4_
  have N4_ := Fr.app N2_ N4_q
  refine Runs.st (st4_) ?_
  replace X4_ := wider X4_ (c' := 6) (s' := 8287) (by decide) (by decide)
  replace V_b := V_b.keep K4_ (ninS ne_b_x nin0)
  replace V_y := V_y.keep K4_ (ninS ne_y_x nin0)
  replace sz := Nat.le_trans sz K4_.1
  replace K := K.trans K4_ (allS (Or.inr sz_x) all0)
  show Runs p.tables e below _ (T4_.setTop (mkF m 170 #[.val (.long i0), .second, .val (.int i1), .val (.ref b), .val (.int sv), .val (.ref d), .val (.ref y), .val (.ref x), .val (.int st1), .unset] [(.int st2)]))
  obtain ⟨S2, eS2⟩ : ∃ z, z = own_step S1 c4 := ⟨_, rfl⟩
  replace V_x : Arv Z T4_.heap x kx .byte (6 : Int32) (S2.1.map Value.int) (.int (0 : Int32)) := by rw [eS2]; exact V_x
  have z2 : S2.2 = 0 ∨ S2.2 = 1 := by rw [eS2]; exact own_01 S1 c4 z1
  have y2 : S2.1.length ≤ 5 := by rw [eS2]; exact Nat.le_trans (own_slen S1 c4) (Nat.succ_le_succ y1)
  replace t2 : st2.toInt = 2 * (S2.1.length : Int) + S2.2.toInt := by rw [eS2]; exact t2
  refine Runs.st (fun t' k' => XS.istore X4_.here hx rfl (hb hby at_170) rfl (l' := #[.val (.long i0), .second, .val (.int i1), .val (.ref b), .val (.int sv), .val (.ref d), .val (.ref y), .val (.ref x), .val (.int st2), .unset]) rfl k') ?_
  refine Runs.st (fun t' k' => XS.aload X4_.here hx rfl (hb hby at_172) rfl rfl k') ?_
  refine Runs.st (fun t' k' => XS.iload X4_.here hx rfl (hb hby at_174) rfl k') ?_
  refine Runs.st (fun t' k' => XS.aloadN X4_.here hx rfl (hb hby at_176) rfl rfl k') ?_
  refine Runs.st (fun t' k' => XS.iconst X4_.here hx rfl (hb hby at_177) k') ?_
  show Runs p.tables e below _ (T4_.setTop (mkF m 178 #[.val (.long i0), .second, .val (.int i1), .val (.ref b), .val (.int sv), .val (.ref d), .val (.ref y), .val (.ref x), .val (.int st2), .unset] [(.int (5 : Int32)), (.ref b), (.int st2), (.ref x)]))
  obtain ⟨cl5_, Ar5_, -, S5_, M5_, Ha5_, -⟩ := id V_b
  have hin5_ : ¬ ((5 : Int32) < 0 ∨ cl5_.slots.size ≤ ((5 : Int32)).toNatClampNeg) := inb_of S5_ ⟨by decide, by decide⟩
  refine Runs.st (X4_.baloadBytes hx (j := (5 : Int32)) (v := (.int c5)) Ar5_.1 (State.isArrayOf_alike hZ.alike Ar5_.2.1) Ar5_.2.2 hin5_ (Ha5_.at hin5_ (by rw [hbs]; rfl)) (g := (mkF m 178 #[.val (.long i0), .second, .val (.int i1), .val (.ref b), .val (.int sv), .val (.ref d), .val (.ref y), .val (.ref x), .val (.int st2), .unset] [(.int (5 : Int32)), (.ref b), (.int st2), (.ref x)])) rfl rfl (hb hby at_178)) ?_
  show Runs p.tables e below _ (T4_.setTop (mkF m 179 #[.val (.long i0), .second, .val (.int i1), .val (.ref b), .val (.int sv), .val (.ref d), .val (.ref y), .val (.ref x), .val (.int st2), .unset] [(.int c5), (.int st2), (.ref x)]))
  obtain ⟨_, _, ⟨T6_, L6_, k6_, n6_⟩, -, X6_, ⟨Lc6_, hQ6_, l6_, y6_, z6_⟩, st6_⟩ := Jvm.LawKit.callS X4_ hx (y := (⟨"com/example/frozen_stream/frozenstream/rdf/DocumentUnindentedPinLaw", "put", "([BIB)I"⟩ : MethodName)) hown (mvT hZ (hw _ (List.mem_of_getElem? (i := 67) rfl))) (mvT hZ (hw _ (List.mem_of_getElem? (i := 68) rfl))) (mvT hZ (hw _ (List.mem_of_getElem? (i := 3) rfl))) (mvT hZ (hw _ (List.mem_of_getElem? (i := 69) rfl))) (by decide) (backOf (W := 0) (rmPut l Z a0 hw [] x st2 c5 _ S2.1 S2.2 T4_.heap n0 sz V_x g_x z2 t2 (Nat.lt_of_le_of_lt y2 (by decide)) hc5) hZ (hw _ (List.mem_of_getElem? (i := 69) rfl)) (hw _ (List.mem_of_getElem? (i := 3) rfl)) (by decide) (by decide)) (g := (mkF m 179 #[.val (.long i0), .second, .val (.int i1), .val (.ref b), .val (.int sv), .val (.ref d), .val (.ref y), .val (.ref x), .val (.int st2), .unset] [(.int c5), (.int st2), (.ref x)])) rfl (by rw [hml]; rfl) (argsL := [(.ref x), (.int st2), (.int c5)]) (rest := []) (lenOf pd__28_5bBIB_29I rfl) rfl (by show 2 * 0 + _ ≤ _; exact Nat.le_of_eq rfl) (hb hby at_179) (fun _ _ => ⟨rfl, rfl, (by decide : 6 + 0 ≤ _), (by decide : 8287 + 0 ≤ _)⟩)
  dsimp only [Pt.U, Pt.locs, Pt.cells, Pt.slots] at X6_ l6_ y6_ z6_ st6_ hQ6_
  subst l6_ y6_ z6_
  obtain ⟨st3, rfl, N6_q, K6_, V_x, t3⟩ := hQ6_
  have N6_ := Fr.app N4_ N6_q
  refine Runs.st (st6_) ?_
  replace X6_ := wider X6_ (c' := 6) (s' := 8287) (by decide) (by decide)
  replace V_b := V_b.keep K6_ (ninS ne_b_x nin0)
  replace V_y := V_y.keep K6_ (ninS ne_y_x nin0)
  replace sz := Nat.le_trans sz K6_.1
  replace K := K.trans K6_ (allS (Or.inr sz_x) all0)
  show Runs p.tables e below _ (T6_.setTop (mkF m 182 #[.val (.long i0), .second, .val (.int i1), .val (.ref b), .val (.int sv), .val (.ref d), .val (.ref y), .val (.ref x), .val (.int st2), .unset] [(.int st3)]))
  obtain ⟨S3, eS3⟩ : ∃ z, z = own_step S2 c5 := ⟨_, rfl⟩
  replace V_x : Arv Z T6_.heap x kx .byte (6 : Int32) (S3.1.map Value.int) (.int (0 : Int32)) := by rw [eS3]; exact V_x
  have z3 : S3.2 = 0 ∨ S3.2 = 1 := by rw [eS3]; exact own_01 S2 c5 z2
  have y3 : S3.1.length ≤ 6 := by rw [eS3]; exact Nat.le_trans (own_slen S2 c5) (Nat.succ_le_succ y2)
  replace t3 : st3.toInt = 2 * (S3.1.length : Int) + S3.2.toInt := by rw [eS3]; exact t3
  refine Runs.st (fun t' k' => XS.istore X6_.here hx rfl (hb hby at_182) rfl (l' := #[.val (.long i0), .second, .val (.int i1), .val (.ref b), .val (.int sv), .val (.ref d), .val (.ref y), .val (.ref x), .val (.int st3), .unset]) rfl k') ?_
  show Runs p.tables e below _ (T6_.setTop (mkF m 184 #[.val (.long i0), .second, .val (.int i1), .val (.ref b), .val (.int sv), .val (.ref d), .val (.ref y), .val (.ref x), .val (.int st3), .unset] []))
  have hS' : List.foldl own_step S3 [] = R2 := by rw [eS3, eS2, eS1]; simp only [List.foldl_cons, List.foldl_nil] at hS ⊢; exact hS
  exact segA (h0 := h0) i0 i1 sv tz st3 b d y x _ _ _ bs c0 c1 c2 c3 c4 c5 R2 S3 (wider X6_ (c' := 6) (s' := 8287) (by decide) (by decide)) hx hw hby hml hlk hret rfl N6_ sz K hZ hown V_b V_y V_x ne_b_x ne_y_x g_x sz_x hbs hc0 hc1 hc2 hc3 hc4 hc5 htl z3 y3 t3 hS'
set_option maxRecDepth 65536 in
set_option maxHeartbeats 40000000 in
theorem segC {p : Program} {l : Launch} {e : Env} {s : State} {m : MethodId} {args : Array Value} {below : List Frame} {meth : Method} {c : Code} {T0 : State} {locs : List Loc} {Z : State} {a0 : Array Value} {h0 hq : Heap} {n0 : Nat} (i0 : Int64) (i1 sv tz st : Int32) (b d y x : Addr) (kb ky kx : ClassId) (bs : List Int32) (c0 c1 c2 c3 c4 c5 : Int32) (R2 S : List Int32 × Int32)
    (X0 : Stand p l e room_1 s m args below meth c T0 locs 6 8287) (hx : p.tables.exec = Jvm.exec) (hw : ∀ d ∈ tables_1, d.before a0 Z = true) (hby : c.code = code) (hml : c.maxLocals = 10) (hlk : meth.locks = false) (hret : meth.sig.returnType = ret) (e0 : T0.heap = hq) (N0 : Fr n0 locs) (sz : n0 ≤ hq.size) (K : Keep h0 hq []) (hZ : Z.Warmed39 s.vm) (hown : s.vm.findClass "com/example/frozen_stream/frozenstream/rdf/DocumentUnindentedPinLaw" = some m.cls) (V_b : Arv Z hq b kb .byte (6 : Int32) (bs.map Value.int) (.int (0 : Int32))) (V_y : Arv Z hq y ky .byte tz (R2.1.map Value.int) (.int (0 : Int32))) (V_x : Arv Z hq x kx .byte (6 : Int32) (S.1.map Value.int) (.int (0 : Int32))) (ne_b_x : b ≠ x) (ne_y_x : y ≠ x) (g_x : n0 ≤ x) (sz_x : h0.size ≤ x) (hbs : bs = [c0, c1, c2, c3, c4, c5]) (hc0 : nar .byte c0 = c0) (hc1 : nar .byte c1 = c1) (hc2 : nar .byte c2 = c2) (hc3 : nar .byte c3 = c3) (hc4 : nar .byte c4 = c4) (hc5 : nar .byte c5 = c5) (htl : tz.toInt = (R2.1.length : Int)) (z0 : S.2 = 0 ∨ S.2 = 1) (y0 : S.1.length ≤ 0) (t0 : st.toInt = 2 * (S.1.length : Int) + S.2.toInt) (hS : List.foldl own_step S [c0, c1, c2, c3, c4, c5] = R2) :
    Runs p.tables e below (Phi s (fun v h L => v = some (.int 1) ∧ Fr n0 L) room_1.cells room_1.slots) (T0.setTop (mkF m 112 #[.val (.long i0), .second, .val (.int i1), .val (.ref b), .val (.int sv), .val (.ref d), .val (.ref y), .val (.ref x), .val (.int st), .unset] [])) := by
  show Runs p.tables e below _ (T0.setTop (mkF m 112 #[.val (.long i0), .second, .val (.int i1), .val (.ref b), .val (.int sv), .val (.ref d), .val (.ref y), .val (.ref x), .val (.int st), .unset] []))
  refine Runs.st (fun t' k' => XS.aload X0.here hx rfl (hb hby at_112) rfl rfl k') ?_
  refine Runs.st (fun t' k' => XS.iload X0.here hx rfl (hb hby at_114) rfl k') ?_
  refine Runs.st (fun t' k' => XS.aloadN X0.here hx rfl (hb hby at_116) rfl rfl k') ?_
  refine Runs.st (fun t' k' => XS.iconst X0.here hx rfl (hb hby at_117) k') ?_
  obtain ⟨cl1_, Ar1_, -, S1_, M1_, Ha1_, -⟩ := id V_b
  have hin1_ : ¬ ((0 : Int32) < 0 ∨ cl1_.slots.size ≤ ((0 : Int32)).toNatClampNeg) := inb_of S1_ ⟨by decide, by decide⟩
  refine Runs.st (X0.baloadBytes hx (j := (0 : Int32)) (v := (.int c0)) (by rw [e0]; exact Ar1_.1) (State.isArrayOf_alike hZ.alike Ar1_.2.1) Ar1_.2.2 hin1_ (Ha1_.at hin1_ (by rw [hbs]; rfl)) (g := (mkF m 118 #[.val (.long i0), .second, .val (.int i1), .val (.ref b), .val (.int sv), .val (.ref d), .val (.ref y), .val (.ref x), .val (.int st), .unset] [(.int (0 : Int32)), (.ref b), (.int st), (.ref x)])) rfl rfl (hb hby at_118)) ?_
  show Runs p.tables e below _ (T0.setTop (mkF m 119 #[.val (.long i0), .second, .val (.int i1), .val (.ref b), .val (.int sv), .val (.ref d), .val (.ref y), .val (.ref x), .val (.int st), .unset] [(.int c0), (.int st), (.ref x)]))
  obtain ⟨_, _, ⟨T2_, L2_, k2_, n2_⟩, -, X2_, ⟨Lc2_, hQ2_, l2_, y2_, z2_⟩, st2_⟩ := Jvm.LawKit.callS X0 hx (y := (⟨"com/example/frozen_stream/frozenstream/rdf/DocumentUnindentedPinLaw", "put", "([BIB)I"⟩ : MethodName)) hown (mvT hZ (hw _ (List.mem_of_getElem? (i := 67) rfl))) (mvT hZ (hw _ (List.mem_of_getElem? (i := 68) rfl))) (mvT hZ (hw _ (List.mem_of_getElem? (i := 3) rfl))) (mvT hZ (hw _ (List.mem_of_getElem? (i := 69) rfl))) (by decide) (backOf (W := 0) (rmPut l Z a0 hw [] x st c0 _ S.1 S.2 hq n0 sz V_x g_x z0 t0 (Nat.lt_of_le_of_lt y0 (by decide)) hc0) hZ (hw _ (List.mem_of_getElem? (i := 69) rfl)) (hw _ (List.mem_of_getElem? (i := 3) rfl)) (by decide) (by decide)) (g := (mkF m 119 #[.val (.long i0), .second, .val (.int i1), .val (.ref b), .val (.int sv), .val (.ref d), .val (.ref y), .val (.ref x), .val (.int st), .unset] [(.int c0), (.int st), (.ref x)])) rfl (by rw [hml]; rfl) (argsL := [(.ref x), (.int st), (.int c0)]) (rest := []) (lenOf pd__28_5bBIB_29I rfl) rfl (by show 2 * 0 + _ ≤ _; exact Nat.le_of_eq rfl) (hb hby at_119) (fun _ _ => ⟨rfl, e0, (by decide : 6 + 0 ≤ _), (by decide : 8287 + 0 ≤ _)⟩)
  dsimp only [Pt.U, Pt.locs, Pt.cells, Pt.slots] at X2_ l2_ y2_ z2_ st2_ hQ2_
  subst l2_ y2_ z2_
  obtain ⟨st1, rfl, N2_q, K2_, V_x, t1⟩ := hQ2_
  have N2_ := Fr.app N0 N2_q
  refine Runs.st (st2_) ?_
  replace X2_ := wider X2_ (c' := 6) (s' := 8287) (by decide) (by decide)
  replace V_b := V_b.keep K2_ (ninS ne_b_x nin0)
  replace V_y := V_y.keep K2_ (ninS ne_y_x nin0)
  replace sz := Nat.le_trans sz K2_.1
  replace K := K.trans K2_ (allS (Or.inr sz_x) all0)
  show Runs p.tables e below _ (T2_.setTop (mkF m 122 #[.val (.long i0), .second, .val (.int i1), .val (.ref b), .val (.int sv), .val (.ref d), .val (.ref y), .val (.ref x), .val (.int st), .unset] [(.int st1)]))
  obtain ⟨S1, eS1⟩ : ∃ z, z = own_step S c0 := ⟨_, rfl⟩
  replace V_x : Arv Z T2_.heap x kx .byte (6 : Int32) (S1.1.map Value.int) (.int (0 : Int32)) := by rw [eS1]; exact V_x
  have z1 : S1.2 = 0 ∨ S1.2 = 1 := by rw [eS1]; exact own_01 S c0 z0
  have y1 : S1.1.length ≤ 1 := by rw [eS1]; exact Nat.le_trans (own_slen S c0) (Nat.succ_le_succ y0)
  replace t1 : st1.toInt = 2 * (S1.1.length : Int) + S1.2.toInt := by rw [eS1]; exact t1
  refine Runs.st (fun t' k' => XS.istore X2_.here hx rfl (hb hby at_122) rfl (l' := #[.val (.long i0), .second, .val (.int i1), .val (.ref b), .val (.int sv), .val (.ref d), .val (.ref y), .val (.ref x), .val (.int st1), .unset]) rfl k') ?_
  refine Runs.st (fun t' k' => XS.aload X2_.here hx rfl (hb hby at_124) rfl rfl k') ?_
  refine Runs.st (fun t' k' => XS.iload X2_.here hx rfl (hb hby at_126) rfl k') ?_
  refine Runs.st (fun t' k' => XS.aloadN X2_.here hx rfl (hb hby at_128) rfl rfl k') ?_
  refine Runs.st (fun t' k' => XS.iconst X2_.here hx rfl (hb hby at_129) k') ?_
  show Runs p.tables e below _ (T2_.setTop (mkF m 130 #[.val (.long i0), .second, .val (.int i1), .val (.ref b), .val (.int sv), .val (.ref d), .val (.ref y), .val (.ref x), .val (.int st1), .unset] [(.int (1 : Int32)), (.ref b), (.int st1), (.ref x)]))
  obtain ⟨cl3_, Ar3_, -, S3_, M3_, Ha3_, -⟩ := id V_b
  have hin3_ : ¬ ((1 : Int32) < 0 ∨ cl3_.slots.size ≤ ((1 : Int32)).toNatClampNeg) := inb_of S3_ ⟨by decide, by decide⟩
  refine Runs.st (X2_.baloadBytes hx (j := (1 : Int32)) (v := (.int c1)) Ar3_.1 (State.isArrayOf_alike hZ.alike Ar3_.2.1) Ar3_.2.2 hin3_ (Ha3_.at hin3_ (by rw [hbs]; rfl)) (g := (mkF m 130 #[.val (.long i0), .second, .val (.int i1), .val (.ref b), .val (.int sv), .val (.ref d), .val (.ref y), .val (.ref x), .val (.int st1), .unset] [(.int (1 : Int32)), (.ref b), (.int st1), (.ref x)])) rfl rfl (hb hby at_130)) ?_
  show Runs p.tables e below _ (T2_.setTop (mkF m 131 #[.val (.long i0), .second, .val (.int i1), .val (.ref b), .val (.int sv), .val (.ref d), .val (.ref y), .val (.ref x), .val (.int st1), .unset] [(.int c1), (.int st1), (.ref x)]))
  obtain ⟨_, _, ⟨T4_, L4_, k4_, n4_⟩, -, X4_, ⟨Lc4_, hQ4_, l4_, y4_, z4_⟩, st4_⟩ := Jvm.LawKit.callS X2_ hx (y := (⟨"com/example/frozen_stream/frozenstream/rdf/DocumentUnindentedPinLaw", "put", "([BIB)I"⟩ : MethodName)) hown (mvT hZ (hw _ (List.mem_of_getElem? (i := 67) rfl))) (mvT hZ (hw _ (List.mem_of_getElem? (i := 68) rfl))) (mvT hZ (hw _ (List.mem_of_getElem? (i := 3) rfl))) (mvT hZ (hw _ (List.mem_of_getElem? (i := 69) rfl))) (by decide) (backOf (W := 0) (rmPut l Z a0 hw [] x st1 c1 _ S1.1 S1.2 T2_.heap n0 sz V_x g_x z1 t1 (Nat.lt_of_le_of_lt y1 (by decide)) hc1) hZ (hw _ (List.mem_of_getElem? (i := 69) rfl)) (hw _ (List.mem_of_getElem? (i := 3) rfl)) (by decide) (by decide)) (g := (mkF m 131 #[.val (.long i0), .second, .val (.int i1), .val (.ref b), .val (.int sv), .val (.ref d), .val (.ref y), .val (.ref x), .val (.int st1), .unset] [(.int c1), (.int st1), (.ref x)])) rfl (by rw [hml]; rfl) (argsL := [(.ref x), (.int st1), (.int c1)]) (rest := []) (lenOf pd__28_5bBIB_29I rfl) rfl (by show 2 * 0 + _ ≤ _; exact Nat.le_of_eq rfl) (hb hby at_131) (fun _ _ => ⟨rfl, rfl, (by decide : 6 + 0 ≤ _), (by decide : 8287 + 0 ≤ _)⟩)
  dsimp only [Pt.U, Pt.locs, Pt.cells, Pt.slots] at X4_ l4_ y4_ z4_ st4_ hQ4_
  subst l4_ y4_ z4_
  obtain ⟨st2, rfl, N4_q, K4_, V_x, t2⟩ := hQ4_
  have N4_ := Fr.app N2_ N4_q
  refine Runs.st (st4_) ?_
  replace X4_ := wider X4_ (c' := 6) (s' := 8287) (by decide) (by decide)
  replace V_b := V_b.keep K4_ (ninS ne_b_x nin0)
  replace V_y := V_y.keep K4_ (ninS ne_y_x nin0)
  replace sz := Nat.le_trans sz K4_.1
  replace K := K.trans K4_ (allS (Or.inr sz_x) all0)
  show Runs p.tables e below _ (T4_.setTop (mkF m 134 #[.val (.long i0), .second, .val (.int i1), .val (.ref b), .val (.int sv), .val (.ref d), .val (.ref y), .val (.ref x), .val (.int st1), .unset] [(.int st2)]))
  obtain ⟨S2, eS2⟩ : ∃ z, z = own_step S1 c1 := ⟨_, rfl⟩
  replace V_x : Arv Z T4_.heap x kx .byte (6 : Int32) (S2.1.map Value.int) (.int (0 : Int32)) := by rw [eS2]; exact V_x
  have z2 : S2.2 = 0 ∨ S2.2 = 1 := by rw [eS2]; exact own_01 S1 c1 z1
  have y2 : S2.1.length ≤ 2 := by rw [eS2]; exact Nat.le_trans (own_slen S1 c1) (Nat.succ_le_succ y1)
  replace t2 : st2.toInt = 2 * (S2.1.length : Int) + S2.2.toInt := by rw [eS2]; exact t2
  refine Runs.st (fun t' k' => XS.istore X4_.here hx rfl (hb hby at_134) rfl (l' := #[.val (.long i0), .second, .val (.int i1), .val (.ref b), .val (.int sv), .val (.ref d), .val (.ref y), .val (.ref x), .val (.int st2), .unset]) rfl k') ?_
  refine Runs.st (fun t' k' => XS.aload X4_.here hx rfl (hb hby at_136) rfl rfl k') ?_
  refine Runs.st (fun t' k' => XS.iload X4_.here hx rfl (hb hby at_138) rfl k') ?_
  refine Runs.st (fun t' k' => XS.aloadN X4_.here hx rfl (hb hby at_140) rfl rfl k') ?_
  refine Runs.st (fun t' k' => XS.iconst X4_.here hx rfl (hb hby at_141) k') ?_
  show Runs p.tables e below _ (T4_.setTop (mkF m 142 #[.val (.long i0), .second, .val (.int i1), .val (.ref b), .val (.int sv), .val (.ref d), .val (.ref y), .val (.ref x), .val (.int st2), .unset] [(.int (2 : Int32)), (.ref b), (.int st2), (.ref x)]))
  obtain ⟨cl5_, Ar5_, -, S5_, M5_, Ha5_, -⟩ := id V_b
  have hin5_ : ¬ ((2 : Int32) < 0 ∨ cl5_.slots.size ≤ ((2 : Int32)).toNatClampNeg) := inb_of S5_ ⟨by decide, by decide⟩
  refine Runs.st (X4_.baloadBytes hx (j := (2 : Int32)) (v := (.int c2)) Ar5_.1 (State.isArrayOf_alike hZ.alike Ar5_.2.1) Ar5_.2.2 hin5_ (Ha5_.at hin5_ (by rw [hbs]; rfl)) (g := (mkF m 142 #[.val (.long i0), .second, .val (.int i1), .val (.ref b), .val (.int sv), .val (.ref d), .val (.ref y), .val (.ref x), .val (.int st2), .unset] [(.int (2 : Int32)), (.ref b), (.int st2), (.ref x)])) rfl rfl (hb hby at_142)) ?_
  show Runs p.tables e below _ (T4_.setTop (mkF m 143 #[.val (.long i0), .second, .val (.int i1), .val (.ref b), .val (.int sv), .val (.ref d), .val (.ref y), .val (.ref x), .val (.int st2), .unset] [(.int c2), (.int st2), (.ref x)]))
  obtain ⟨_, _, ⟨T6_, L6_, k6_, n6_⟩, -, X6_, ⟨Lc6_, hQ6_, l6_, y6_, z6_⟩, st6_⟩ := Jvm.LawKit.callS X4_ hx (y := (⟨"com/example/frozen_stream/frozenstream/rdf/DocumentUnindentedPinLaw", "put", "([BIB)I"⟩ : MethodName)) hown (mvT hZ (hw _ (List.mem_of_getElem? (i := 67) rfl))) (mvT hZ (hw _ (List.mem_of_getElem? (i := 68) rfl))) (mvT hZ (hw _ (List.mem_of_getElem? (i := 3) rfl))) (mvT hZ (hw _ (List.mem_of_getElem? (i := 69) rfl))) (by decide) (backOf (W := 0) (rmPut l Z a0 hw [] x st2 c2 _ S2.1 S2.2 T4_.heap n0 sz V_x g_x z2 t2 (Nat.lt_of_le_of_lt y2 (by decide)) hc2) hZ (hw _ (List.mem_of_getElem? (i := 69) rfl)) (hw _ (List.mem_of_getElem? (i := 3) rfl)) (by decide) (by decide)) (g := (mkF m 143 #[.val (.long i0), .second, .val (.int i1), .val (.ref b), .val (.int sv), .val (.ref d), .val (.ref y), .val (.ref x), .val (.int st2), .unset] [(.int c2), (.int st2), (.ref x)])) rfl (by rw [hml]; rfl) (argsL := [(.ref x), (.int st2), (.int c2)]) (rest := []) (lenOf pd__28_5bBIB_29I rfl) rfl (by show 2 * 0 + _ ≤ _; exact Nat.le_of_eq rfl) (hb hby at_143) (fun _ _ => ⟨rfl, rfl, (by decide : 6 + 0 ≤ _), (by decide : 8287 + 0 ≤ _)⟩)
  dsimp only [Pt.U, Pt.locs, Pt.cells, Pt.slots] at X6_ l6_ y6_ z6_ st6_ hQ6_
  subst l6_ y6_ z6_
  obtain ⟨st3, rfl, N6_q, K6_, V_x, t3⟩ := hQ6_
  have N6_ := Fr.app N4_ N6_q
  refine Runs.st (st6_) ?_
  replace X6_ := wider X6_ (c' := 6) (s' := 8287) (by decide) (by decide)
  replace V_b := V_b.keep K6_ (ninS ne_b_x nin0)
  replace V_y := V_y.keep K6_ (ninS ne_y_x nin0)
  replace sz := Nat.le_trans sz K6_.1
  replace K := K.trans K6_ (allS (Or.inr sz_x) all0)
  show Runs p.tables e below _ (T6_.setTop (mkF m 146 #[.val (.long i0), .second, .val (.int i1), .val (.ref b), .val (.int sv), .val (.ref d), .val (.ref y), .val (.ref x), .val (.int st2), .unset] [(.int st3)]))
  obtain ⟨S3, eS3⟩ : ∃ z, z = own_step S2 c2 := ⟨_, rfl⟩
  replace V_x : Arv Z T6_.heap x kx .byte (6 : Int32) (S3.1.map Value.int) (.int (0 : Int32)) := by rw [eS3]; exact V_x
  have z3 : S3.2 = 0 ∨ S3.2 = 1 := by rw [eS3]; exact own_01 S2 c2 z2
  have y3 : S3.1.length ≤ 3 := by rw [eS3]; exact Nat.le_trans (own_slen S2 c2) (Nat.succ_le_succ y2)
  replace t3 : st3.toInt = 2 * (S3.1.length : Int) + S3.2.toInt := by rw [eS3]; exact t3
  refine Runs.st (fun t' k' => XS.istore X6_.here hx rfl (hb hby at_146) rfl (l' := #[.val (.long i0), .second, .val (.int i1), .val (.ref b), .val (.int sv), .val (.ref d), .val (.ref y), .val (.ref x), .val (.int st3), .unset]) rfl k') ?_
  show Runs p.tables e below _ (T6_.setTop (mkF m 148 #[.val (.long i0), .second, .val (.int i1), .val (.ref b), .val (.int sv), .val (.ref d), .val (.ref y), .val (.ref x), .val (.int st3), .unset] []))
  have hS' : List.foldl own_step S3 [c3, c4, c5] = R2 := by rw [eS3, eS2, eS1]; simp only [List.foldl_cons, List.foldl_nil] at hS ⊢; exact hS
  exact segB (h0 := h0) i0 i1 sv tz st3 b d y x _ _ _ bs c0 c1 c2 c3 c4 c5 R2 S3 (wider X6_ (c' := 6) (s' := 8287) (by decide) (by decide)) hx hw hby hml hlk hret rfl N6_ sz K hZ hown V_b V_y V_x ne_b_x ne_y_x g_x sz_x hbs hc0 hc1 hc2 hc3 hc4 hc5 htl z3 y3 t3 hS'
theorem ef_0_JI (m : MethodId) (x0 : Int64) (x1 : Int32)  : entryFrame m #[(.long x0), (.int x1)] maxLocals = mkF m 0 #[.val (.long x0), .second, .val (.int x1), .unset, .unset, .unset, .unset, .unset, .unset, .unset] [] := by first | (simp [entryFrame, mkF, argsToLocals, Value.category, maxLocals]; done) | rfl
theorem pd__28JI_29B : parseMethodDescriptor "(JI)B" = some ⟨[.long, .int], some .byte⟩ := by decide +kernel
theorem pd__28J_29V : parseMethodDescriptor "(J)V" = some ⟨[.long], none⟩ := by decide +kernel
theorem pd__28_29_5bB : parseMethodDescriptor "()[B" = some ⟨[], some (.array .byte)⟩ := by decide +kernel
set_option maxRecDepth 65536 in
set_option maxHeartbeats 40000000 in
theorem rm0 (l : Launch) (Z : State) (a0 : Array Value) (hw : ∀ d ∈ tables_1, d.before a0 Z = true) (ws : List Jvm.Cond) (i0 : Int64) (i1 : Int32)  (h0 : Heap) (n0 : Nat) (Z0 : n0 ≤ h0.size)  :
    MetFree l x (head1 (Jvm.Cond.code x code maxLocals ret :: ws) room_1) (fun ar_ U => ar_ = #[(.long i0), (.int i1)] ∧ Z.Warmed39 U.vm ∧ U.heap = h0) (fun _ _ _ _ _ => True) (fun _ U o U' => Phi U (fun v h L => v = some (.int 1) ∧ Fr n0 L) room_1.cells room_1.slots o U') := by
  refine MetFree.of_bodySF (plainFor_of_name pn_com_example_frozen_stream_frozenstream_rdf_DocumentUnindentedPinLaw) hisR ?_
  intro p e s m args below meth c s₁ Bd hml0 hP hK
  obtain ⟨rfl, hZ, hh⟩ := hP
  have hx := Bd.exec
  have hby := Bd.bytes
  have hlk := Bd.notSynchronized
  have hml : c.maxLocals = 10 := hml0
  have hown : s.vm.findClass "com/example/frozen_stream/frozenstream/rdf/DocumentUnindentedPinLaw" = some m.cls := findClass_of_methodNamed Bd.named
  have hown0 := hown
  have hnm := (name_of_methodNamed Bd.named Bd.method).1
  have hret := Bd.returns
  have X0 : Stand p l e room_1 s m #[(.long i0), (.int i1)] below meth c s₁ [] 0 0 := Stand.of_body Bd
  have e0 : s₁.heap = h0 := by rw [← hh, Bd.state]; rfl
  have N0 := Fr.nil n0
  have sz := Z0
  have K := Keep.refl h0 []
  show Runs p.tables e below (Phi s (fun v h L => v = some (.int 1) ∧ Fr n0 L) room_1.cells room_1.slots) _
  refine Runs.st (fun t' k' => castTop (ef_0_JI m i0 i1 ) k') ?_
  show Runs p.tables e below _ (s₁.setTop (mkF m 0 #[.val (.long i0), .second, .val (.int i1), .unset, .unset, .unset, .unset, .unset, .unset, .unset] []))
  refine Runs.st (fun t' k' => XS.bipush X0.here hx rfl (hb hby at_0) k') ?_
  obtain ⟨T1_, h1_, k1_, X1_, e1_, E1_, A1_, st1_⟩ := newP X0 hx hZ (hw _ (List.mem_of_getElem? (i := 0) rfl)) e0 (g := (mkF m 2 #[.val (.long i0), .second, .val (.int i1), .unset, .unset, .unset, .unset, .unset, .unset, .unset] [(.int (6 : Int32))])) rfl (hb hby at_2) rfl (by decide) (cap := 6) (by decide) (by decide) (by decide) (by decide)
  refine Runs.st (st1_) ?_
  obtain ⟨b, g1_⟩ : ∃ z, z = h0.size := ⟨_, rfl⟩
  rw [← g1_] at A1_
  try rw [← g1_]
  have g_b : n0 ≤ b := Nat.le_trans sz (Nat.le_of_eq g1_.symm)
  have sz_b : h0.size ≤ b := Nat.le_trans K.1 (Nat.le_of_eq g1_.symm)
  replace sz := Nat.le_trans sz E1_.1
  replace K := K.ext E1_
  have V_b : Arv Z h1_ b k1_ .byte (6 : Int32) [(.int (0 : Int32)), (.int (0 : Int32)), (.int (0 : Int32)), (.int (0 : Int32)), (.int (0 : Int32)), (.int (0 : Int32))] (.int (0 : Int32)) := (Arv.new A1_ (by decide)).pad (pad_rep [] (.int (0 : Int32)) 6)
  show Runs p.tables e below _ (T1_.setTop (mkF m 4 #[.val (.long i0), .second, .val (.int i1), .unset, .unset, .unset, .unset, .unset, .unset, .unset] [(.ref b)]))
  refine Runs.st (fun t' k' => XS.astoreN X1_.here hx rfl (hb hby at_4) rfl rfl (l' := #[.val (.long i0), .second, .val (.int i1), .val (.ref b), .unset, .unset, .unset, .unset, .unset, .unset]) rfl k') ?_
  refine Runs.st (fun t' k' => XS.aloadN X1_.here hx rfl (hb hby at_5) rfl rfl k') ?_
  refine Runs.st (fun t' k' => XS.iconst X1_.here hx rfl (hb hby at_6) k') ?_
  refine Runs.st (fun t' k' => XS.lloadN X1_.here hx rfl (hb hby at_7) rfl k') ?_
  refine Runs.st (fun t' k' => XS.iconst X1_.here hx rfl (hb hby at_8) k') ?_
  show Runs p.tables e below _ (T1_.setTop (mkF m 9 #[.val (.long i0), .second, .val (.int i1), .val (.ref b), .unset, .unset, .unset, .unset, .unset, .unset] [(.int (0 : Int32)), (.long i0), (.int (0 : Int32)), (.ref b)]))
  obtain ⟨_, _, ⟨T2_, L2_, k2_, n2_⟩, -, X2_, ⟨Lc2_, hQ2_, l2_, y2_, z2_⟩, st2_⟩ := Jvm.LawKit.callS X1_ hx (y := (⟨"com/example/frozen_stream/frozenstream/rdf/DocumentUnindentedPinLaw", "draw", "(JI)B"⟩ : MethodName)) hown (mvT hZ (hw _ (List.mem_of_getElem? (i := 1) rfl))) (mvT hZ (hw _ (List.mem_of_getElem? (i := 2) rfl))) (mvT hZ (hw _ (List.mem_of_getElem? (i := 3) rfl))) (mvT hZ (hw _ (List.mem_of_getElem? (i := 4) rfl))) (by decide) (backOf (W := 2) (rmDraw l Z a0 hw [] i0 (0 : Int32) h1_ n0 sz) hZ (hw _ (List.mem_of_getElem? (i := 4) rfl)) (hw _ (List.mem_of_getElem? (i := 3) rfl)) (by decide) (by decide)) (g := (mkF m 9 #[.val (.long i0), .second, .val (.int i1), .val (.ref b), .unset, .unset, .unset, .unset, .unset, .unset] [(.int (0 : Int32)), (.long i0), (.int (0 : Int32)), (.ref b)])) rfl (by rw [hml]; rfl) (argsL := [(.long i0), (.int (0 : Int32))]) (rest := [(.int (0 : Int32)), (.ref b)]) (lenOf pd__28JI_29B rfl) rfl (by show 2 * 0 + _ ≤ _; exact Nat.le_of_eq rfl) (hb hby at_9) (fun _ _ => ⟨rfl, e1_, (by decide : 1 + 0 ≤ _), (by decide : 6 + 0 ≤ _)⟩)
  dsimp only [Pt.U, Pt.locs, Pt.cells, Pt.slots] at X2_ l2_ y2_ z2_ st2_ hQ2_
  subst l2_ y2_ z2_
  obtain ⟨c0, rfl, N2_q, e2_, hc0⟩ := hQ2_
  have N2_ := Fr.app N0 N2_q
  refine Runs.st (st2_) ?_
  replace X2_ := wider X2_ (c' := 1) (s' := 6) (by decide) (by decide)
  show Runs p.tables e below _ (T2_.setTop (mkF m 12 #[.val (.long i0), .second, .val (.int i1), .val (.ref b), .unset, .unset, .unset, .unset, .unset, .unset] [(.int c0), (.int (0 : Int32)), (.ref b)]))
  obtain ⟨cl3_, Ar3_, q3_, S3_, M3_, Ha3_, G3_⟩ := V_b
  have hin3_ : ¬ ((0 : Int32) < 0 ∨ cl3_.slots.size ≤ ((0 : Int32)).toNatClampNeg) := inb_of S3_ ⟨by decide, by decide⟩
  obtain ⟨T3_, h3_, X3_, e3_, W3_, st3_⟩ := stB X2_ hx hZ e2_ Ar3_ (j := (0 : Int32)) hin3_ (g := (mkF m 12 #[.val (.long i0), .second, .val (.int i1), .val (.ref b), .unset, .unset, .unset, .unset, .unset, .unset] [(.int c0), (.int (0 : Int32)), (.ref b)])) rfl rfl (hb hby at_12)
  refine Runs.st (st3_) ?_
  have V_b := Arv.set Ar3_ q3_ S3_ M3_ Ha3_ G3_ (fits_nar_byte _) W3_ 0 rfl (Nat.le_of_ble_eq_true rfl)
  replace sz := Nat.le_trans sz (Keep.of_wr W3_).1
  have N3_ := Fr.snoc X3_ N2_ g_b
  replace K := K.wr W3_ (Or.inr sz_b)
  show Runs p.tables e below _ (T3_.setTop (mkF m 13 #[.val (.long i0), .second, .val (.int i1), .val (.ref b), .unset, .unset, .unset, .unset, .unset, .unset] []))
  rw [show c0.toInt8.toInt32 = c0 from hc0] at V_b
  refine Runs.st (fun t' k' => XS.aloadN X3_.here hx rfl (hb hby at_13) rfl rfl k') ?_
  refine Runs.st (fun t' k' => XS.iconst X3_.here hx rfl (hb hby at_14) k') ?_
  refine Runs.st (fun t' k' => XS.lloadN X3_.here hx rfl (hb hby at_15) rfl k') ?_
  refine Runs.st (fun t' k' => XS.iconst X3_.here hx rfl (hb hby at_16) k') ?_
  obtain ⟨_, _, ⟨T4_, L4_, k4_, n4_⟩, -, X4_, ⟨Lc4_, hQ4_, l4_, y4_, z4_⟩, st4_⟩ := Jvm.LawKit.callS X3_ hx (y := (⟨"com/example/frozen_stream/frozenstream/rdf/DocumentUnindentedPinLaw", "draw", "(JI)B"⟩ : MethodName)) hown (mvT hZ (hw _ (List.mem_of_getElem? (i := 1) rfl))) (mvT hZ (hw _ (List.mem_of_getElem? (i := 2) rfl))) (mvT hZ (hw _ (List.mem_of_getElem? (i := 3) rfl))) (mvT hZ (hw _ (List.mem_of_getElem? (i := 4) rfl))) (by decide) (backOf (W := 2) (rmDraw l Z a0 hw [] i0 (1 : Int32) h3_ n0 sz) hZ (hw _ (List.mem_of_getElem? (i := 4) rfl)) (hw _ (List.mem_of_getElem? (i := 3) rfl)) (by decide) (by decide)) (g := (mkF m 17 #[.val (.long i0), .second, .val (.int i1), .val (.ref b), .unset, .unset, .unset, .unset, .unset, .unset] [(.int (1 : Int32)), (.long i0), (.int (1 : Int32)), (.ref b)])) rfl (by rw [hml]; rfl) (argsL := [(.long i0), (.int (1 : Int32))]) (rest := [(.int (1 : Int32)), (.ref b)]) (lenOf pd__28JI_29B rfl) rfl (by show 2 * 0 + _ ≤ _; exact Nat.le_of_eq rfl) (hb hby at_17) (fun _ _ => ⟨rfl, e3_, (by decide : 1 + 0 ≤ _), (by decide : 6 + 0 ≤ _)⟩)
  dsimp only [Pt.U, Pt.locs, Pt.cells, Pt.slots] at X4_ l4_ y4_ z4_ st4_ hQ4_
  subst l4_ y4_ z4_
  obtain ⟨c1, rfl, N4_q, e4_, hc1⟩ := hQ4_
  have N4_ := Fr.app N3_ N4_q
  refine Runs.st (st4_) ?_
  replace X4_ := wider X4_ (c' := 1) (s' := 6) (by decide) (by decide)
  show Runs p.tables e below _ (T4_.setTop (mkF m 20 #[.val (.long i0), .second, .val (.int i1), .val (.ref b), .unset, .unset, .unset, .unset, .unset, .unset] [(.int c1), (.int (1 : Int32)), (.ref b)]))
  obtain ⟨cl5_, Ar5_, q5_, S5_, M5_, Ha5_, G5_⟩ := V_b
  have hin5_ : ¬ ((1 : Int32) < 0 ∨ cl5_.slots.size ≤ ((1 : Int32)).toNatClampNeg) := inb_of S5_ ⟨by decide, by decide⟩
  obtain ⟨T5_, h5_, X5_, e5_, W5_, st5_⟩ := stB X4_ hx hZ e4_ Ar5_ (j := (1 : Int32)) hin5_ (g := (mkF m 20 #[.val (.long i0), .second, .val (.int i1), .val (.ref b), .unset, .unset, .unset, .unset, .unset, .unset] [(.int c1), (.int (1 : Int32)), (.ref b)])) rfl rfl (hb hby at_20)
  refine Runs.st (st5_) ?_
  have V_b := Arv.set Ar5_ q5_ S5_ M5_ Ha5_ G5_ (fits_nar_byte _) W5_ 1 rfl (Nat.le_of_ble_eq_true rfl)
  replace sz := Nat.le_trans sz (Keep.of_wr W5_).1
  have N5_ := Fr.snoc X5_ N4_ g_b
  replace K := K.wr W5_ (Or.inr sz_b)
  show Runs p.tables e below _ (T5_.setTop (mkF m 21 #[.val (.long i0), .second, .val (.int i1), .val (.ref b), .unset, .unset, .unset, .unset, .unset, .unset] []))
  rw [show c1.toInt8.toInt32 = c1 from hc1] at V_b
  refine Runs.st (fun t' k' => XS.aloadN X5_.here hx rfl (hb hby at_21) rfl rfl k') ?_
  refine Runs.st (fun t' k' => XS.iconst X5_.here hx rfl (hb hby at_22) k') ?_
  refine Runs.st (fun t' k' => XS.lloadN X5_.here hx rfl (hb hby at_23) rfl k') ?_
  refine Runs.st (fun t' k' => XS.iconst X5_.here hx rfl (hb hby at_24) k') ?_
  obtain ⟨_, _, ⟨T6_, L6_, k6_, n6_⟩, -, X6_, ⟨Lc6_, hQ6_, l6_, y6_, z6_⟩, st6_⟩ := Jvm.LawKit.callS X5_ hx (y := (⟨"com/example/frozen_stream/frozenstream/rdf/DocumentUnindentedPinLaw", "draw", "(JI)B"⟩ : MethodName)) hown (mvT hZ (hw _ (List.mem_of_getElem? (i := 1) rfl))) (mvT hZ (hw _ (List.mem_of_getElem? (i := 2) rfl))) (mvT hZ (hw _ (List.mem_of_getElem? (i := 3) rfl))) (mvT hZ (hw _ (List.mem_of_getElem? (i := 4) rfl))) (by decide) (backOf (W := 2) (rmDraw l Z a0 hw [] i0 (2 : Int32) h5_ n0 sz) hZ (hw _ (List.mem_of_getElem? (i := 4) rfl)) (hw _ (List.mem_of_getElem? (i := 3) rfl)) (by decide) (by decide)) (g := (mkF m 25 #[.val (.long i0), .second, .val (.int i1), .val (.ref b), .unset, .unset, .unset, .unset, .unset, .unset] [(.int (2 : Int32)), (.long i0), (.int (2 : Int32)), (.ref b)])) rfl (by rw [hml]; rfl) (argsL := [(.long i0), (.int (2 : Int32))]) (rest := [(.int (2 : Int32)), (.ref b)]) (lenOf pd__28JI_29B rfl) rfl (by show 2 * 0 + _ ≤ _; exact Nat.le_of_eq rfl) (hb hby at_25) (fun _ _ => ⟨rfl, e5_, (by decide : 1 + 0 ≤ _), (by decide : 6 + 0 ≤ _)⟩)
  dsimp only [Pt.U, Pt.locs, Pt.cells, Pt.slots] at X6_ l6_ y6_ z6_ st6_ hQ6_
  subst l6_ y6_ z6_
  obtain ⟨c2, rfl, N6_q, e6_, hc2⟩ := hQ6_
  have N6_ := Fr.app N5_ N6_q
  refine Runs.st (st6_) ?_
  replace X6_ := wider X6_ (c' := 1) (s' := 6) (by decide) (by decide)
  show Runs p.tables e below _ (T6_.setTop (mkF m 28 #[.val (.long i0), .second, .val (.int i1), .val (.ref b), .unset, .unset, .unset, .unset, .unset, .unset] [(.int c2), (.int (2 : Int32)), (.ref b)]))
  obtain ⟨cl7_, Ar7_, q7_, S7_, M7_, Ha7_, G7_⟩ := V_b
  have hin7_ : ¬ ((2 : Int32) < 0 ∨ cl7_.slots.size ≤ ((2 : Int32)).toNatClampNeg) := inb_of S7_ ⟨by decide, by decide⟩
  obtain ⟨T7_, h7_, X7_, e7_, W7_, st7_⟩ := stB X6_ hx hZ e6_ Ar7_ (j := (2 : Int32)) hin7_ (g := (mkF m 28 #[.val (.long i0), .second, .val (.int i1), .val (.ref b), .unset, .unset, .unset, .unset, .unset, .unset] [(.int c2), (.int (2 : Int32)), (.ref b)])) rfl rfl (hb hby at_28)
  refine Runs.st (st7_) ?_
  have V_b := Arv.set Ar7_ q7_ S7_ M7_ Ha7_ G7_ (fits_nar_byte _) W7_ 2 rfl (Nat.le_of_ble_eq_true rfl)
  replace sz := Nat.le_trans sz (Keep.of_wr W7_).1
  have N7_ := Fr.snoc X7_ N6_ g_b
  replace K := K.wr W7_ (Or.inr sz_b)
  show Runs p.tables e below _ (T7_.setTop (mkF m 29 #[.val (.long i0), .second, .val (.int i1), .val (.ref b), .unset, .unset, .unset, .unset, .unset, .unset] []))
  rw [show c2.toInt8.toInt32 = c2 from hc2] at V_b
  refine Runs.st (fun t' k' => XS.aloadN X7_.here hx rfl (hb hby at_29) rfl rfl k') ?_
  refine Runs.st (fun t' k' => XS.iconst X7_.here hx rfl (hb hby at_30) k') ?_
  refine Runs.st (fun t' k' => XS.lloadN X7_.here hx rfl (hb hby at_31) rfl k') ?_
  refine Runs.st (fun t' k' => XS.iconst X7_.here hx rfl (hb hby at_32) k') ?_
  obtain ⟨_, _, ⟨T8_, L8_, k8_, n8_⟩, -, X8_, ⟨Lc8_, hQ8_, l8_, y8_, z8_⟩, st8_⟩ := Jvm.LawKit.callS X7_ hx (y := (⟨"com/example/frozen_stream/frozenstream/rdf/DocumentUnindentedPinLaw", "draw", "(JI)B"⟩ : MethodName)) hown (mvT hZ (hw _ (List.mem_of_getElem? (i := 1) rfl))) (mvT hZ (hw _ (List.mem_of_getElem? (i := 2) rfl))) (mvT hZ (hw _ (List.mem_of_getElem? (i := 3) rfl))) (mvT hZ (hw _ (List.mem_of_getElem? (i := 4) rfl))) (by decide) (backOf (W := 2) (rmDraw l Z a0 hw [] i0 (3 : Int32) h7_ n0 sz) hZ (hw _ (List.mem_of_getElem? (i := 4) rfl)) (hw _ (List.mem_of_getElem? (i := 3) rfl)) (by decide) (by decide)) (g := (mkF m 33 #[.val (.long i0), .second, .val (.int i1), .val (.ref b), .unset, .unset, .unset, .unset, .unset, .unset] [(.int (3 : Int32)), (.long i0), (.int (3 : Int32)), (.ref b)])) rfl (by rw [hml]; rfl) (argsL := [(.long i0), (.int (3 : Int32))]) (rest := [(.int (3 : Int32)), (.ref b)]) (lenOf pd__28JI_29B rfl) rfl (by show 2 * 0 + _ ≤ _; exact Nat.le_of_eq rfl) (hb hby at_33) (fun _ _ => ⟨rfl, e7_, (by decide : 1 + 0 ≤ _), (by decide : 6 + 0 ≤ _)⟩)
  dsimp only [Pt.U, Pt.locs, Pt.cells, Pt.slots] at X8_ l8_ y8_ z8_ st8_ hQ8_
  subst l8_ y8_ z8_
  obtain ⟨c3, rfl, N8_q, e8_, hc3⟩ := hQ8_
  have N8_ := Fr.app N7_ N8_q
  refine Runs.st (st8_) ?_
  replace X8_ := wider X8_ (c' := 1) (s' := 6) (by decide) (by decide)
  show Runs p.tables e below _ (T8_.setTop (mkF m 36 #[.val (.long i0), .second, .val (.int i1), .val (.ref b), .unset, .unset, .unset, .unset, .unset, .unset] [(.int c3), (.int (3 : Int32)), (.ref b)]))
  obtain ⟨cl9_, Ar9_, q9_, S9_, M9_, Ha9_, G9_⟩ := V_b
  have hin9_ : ¬ ((3 : Int32) < 0 ∨ cl9_.slots.size ≤ ((3 : Int32)).toNatClampNeg) := inb_of S9_ ⟨by decide, by decide⟩
  obtain ⟨T9_, h9_, X9_, e9_, W9_, st9_⟩ := stB X8_ hx hZ e8_ Ar9_ (j := (3 : Int32)) hin9_ (g := (mkF m 36 #[.val (.long i0), .second, .val (.int i1), .val (.ref b), .unset, .unset, .unset, .unset, .unset, .unset] [(.int c3), (.int (3 : Int32)), (.ref b)])) rfl rfl (hb hby at_36)
  refine Runs.st (st9_) ?_
  have V_b := Arv.set Ar9_ q9_ S9_ M9_ Ha9_ G9_ (fits_nar_byte _) W9_ 3 rfl (Nat.le_of_ble_eq_true rfl)
  replace sz := Nat.le_trans sz (Keep.of_wr W9_).1
  have N9_ := Fr.snoc X9_ N8_ g_b
  replace K := K.wr W9_ (Or.inr sz_b)
  show Runs p.tables e below _ (T9_.setTop (mkF m 37 #[.val (.long i0), .second, .val (.int i1), .val (.ref b), .unset, .unset, .unset, .unset, .unset, .unset] []))
  rw [show c3.toInt8.toInt32 = c3 from hc3] at V_b
  refine Runs.st (fun t' k' => XS.aloadN X9_.here hx rfl (hb hby at_37) rfl rfl k') ?_
  refine Runs.st (fun t' k' => XS.iconst X9_.here hx rfl (hb hby at_38) k') ?_
  refine Runs.st (fun t' k' => XS.lloadN X9_.here hx rfl (hb hby at_39) rfl k') ?_
  refine Runs.st (fun t' k' => XS.iconst X9_.here hx rfl (hb hby at_40) k') ?_
  obtain ⟨_, _, ⟨T10_, L10_, k10_, n10_⟩, -, X10_, ⟨Lc10_, hQ10_, l10_, y10_, z10_⟩, st10_⟩ := Jvm.LawKit.callS X9_ hx (y := (⟨"com/example/frozen_stream/frozenstream/rdf/DocumentUnindentedPinLaw", "draw", "(JI)B"⟩ : MethodName)) hown (mvT hZ (hw _ (List.mem_of_getElem? (i := 1) rfl))) (mvT hZ (hw _ (List.mem_of_getElem? (i := 2) rfl))) (mvT hZ (hw _ (List.mem_of_getElem? (i := 3) rfl))) (mvT hZ (hw _ (List.mem_of_getElem? (i := 4) rfl))) (by decide) (backOf (W := 2) (rmDraw l Z a0 hw [] i0 (4 : Int32) h9_ n0 sz) hZ (hw _ (List.mem_of_getElem? (i := 4) rfl)) (hw _ (List.mem_of_getElem? (i := 3) rfl)) (by decide) (by decide)) (g := (mkF m 41 #[.val (.long i0), .second, .val (.int i1), .val (.ref b), .unset, .unset, .unset, .unset, .unset, .unset] [(.int (4 : Int32)), (.long i0), (.int (4 : Int32)), (.ref b)])) rfl (by rw [hml]; rfl) (argsL := [(.long i0), (.int (4 : Int32))]) (rest := [(.int (4 : Int32)), (.ref b)]) (lenOf pd__28JI_29B rfl) rfl (by show 2 * 0 + _ ≤ _; exact Nat.le_of_eq rfl) (hb hby at_41) (fun _ _ => ⟨rfl, e9_, (by decide : 1 + 0 ≤ _), (by decide : 6 + 0 ≤ _)⟩)
  dsimp only [Pt.U, Pt.locs, Pt.cells, Pt.slots] at X10_ l10_ y10_ z10_ st10_ hQ10_
  subst l10_ y10_ z10_
  obtain ⟨c4, rfl, N10_q, e10_, hc4⟩ := hQ10_
  have N10_ := Fr.app N9_ N10_q
  refine Runs.st (st10_) ?_
  replace X10_ := wider X10_ (c' := 1) (s' := 6) (by decide) (by decide)
  show Runs p.tables e below _ (T10_.setTop (mkF m 44 #[.val (.long i0), .second, .val (.int i1), .val (.ref b), .unset, .unset, .unset, .unset, .unset, .unset] [(.int c4), (.int (4 : Int32)), (.ref b)]))
  obtain ⟨cl11_, Ar11_, q11_, S11_, M11_, Ha11_, G11_⟩ := V_b
  have hin11_ : ¬ ((4 : Int32) < 0 ∨ cl11_.slots.size ≤ ((4 : Int32)).toNatClampNeg) := inb_of S11_ ⟨by decide, by decide⟩
  obtain ⟨T11_, h11_, X11_, e11_, W11_, st11_⟩ := stB X10_ hx hZ e10_ Ar11_ (j := (4 : Int32)) hin11_ (g := (mkF m 44 #[.val (.long i0), .second, .val (.int i1), .val (.ref b), .unset, .unset, .unset, .unset, .unset, .unset] [(.int c4), (.int (4 : Int32)), (.ref b)])) rfl rfl (hb hby at_44)
  refine Runs.st (st11_) ?_
  have V_b := Arv.set Ar11_ q11_ S11_ M11_ Ha11_ G11_ (fits_nar_byte _) W11_ 4 rfl (Nat.le_of_ble_eq_true rfl)
  replace sz := Nat.le_trans sz (Keep.of_wr W11_).1
  have N11_ := Fr.snoc X11_ N10_ g_b
  replace K := K.wr W11_ (Or.inr sz_b)
  show Runs p.tables e below _ (T11_.setTop (mkF m 45 #[.val (.long i0), .second, .val (.int i1), .val (.ref b), .unset, .unset, .unset, .unset, .unset, .unset] []))
  rw [show c4.toInt8.toInt32 = c4 from hc4] at V_b
  refine Runs.st (fun t' k' => XS.aloadN X11_.here hx rfl (hb hby at_45) rfl rfl k') ?_
  refine Runs.st (fun t' k' => XS.iconst X11_.here hx rfl (hb hby at_46) k') ?_
  refine Runs.st (fun t' k' => XS.lloadN X11_.here hx rfl (hb hby at_47) rfl k') ?_
  refine Runs.st (fun t' k' => XS.iconst X11_.here hx rfl (hb hby at_48) k') ?_
  obtain ⟨_, _, ⟨T12_, L12_, k12_, n12_⟩, -, X12_, ⟨Lc12_, hQ12_, l12_, y12_, z12_⟩, st12_⟩ := Jvm.LawKit.callS X11_ hx (y := (⟨"com/example/frozen_stream/frozenstream/rdf/DocumentUnindentedPinLaw", "draw", "(JI)B"⟩ : MethodName)) hown (mvT hZ (hw _ (List.mem_of_getElem? (i := 1) rfl))) (mvT hZ (hw _ (List.mem_of_getElem? (i := 2) rfl))) (mvT hZ (hw _ (List.mem_of_getElem? (i := 3) rfl))) (mvT hZ (hw _ (List.mem_of_getElem? (i := 4) rfl))) (by decide) (backOf (W := 2) (rmDraw l Z a0 hw [] i0 (5 : Int32) h11_ n0 sz) hZ (hw _ (List.mem_of_getElem? (i := 4) rfl)) (hw _ (List.mem_of_getElem? (i := 3) rfl)) (by decide) (by decide)) (g := (mkF m 49 #[.val (.long i0), .second, .val (.int i1), .val (.ref b), .unset, .unset, .unset, .unset, .unset, .unset] [(.int (5 : Int32)), (.long i0), (.int (5 : Int32)), (.ref b)])) rfl (by rw [hml]; rfl) (argsL := [(.long i0), (.int (5 : Int32))]) (rest := [(.int (5 : Int32)), (.ref b)]) (lenOf pd__28JI_29B rfl) rfl (by show 2 * 0 + _ ≤ _; exact Nat.le_of_eq rfl) (hb hby at_49) (fun _ _ => ⟨rfl, e11_, (by decide : 1 + 0 ≤ _), (by decide : 6 + 0 ≤ _)⟩)
  dsimp only [Pt.U, Pt.locs, Pt.cells, Pt.slots] at X12_ l12_ y12_ z12_ st12_ hQ12_
  subst l12_ y12_ z12_
  obtain ⟨c5, rfl, N12_q, e12_, hc5⟩ := hQ12_
  have N12_ := Fr.app N11_ N12_q
  refine Runs.st (st12_) ?_
  replace X12_ := wider X12_ (c' := 1) (s' := 6) (by decide) (by decide)
  show Runs p.tables e below _ (T12_.setTop (mkF m 52 #[.val (.long i0), .second, .val (.int i1), .val (.ref b), .unset, .unset, .unset, .unset, .unset, .unset] [(.int c5), (.int (5 : Int32)), (.ref b)]))
  obtain ⟨cl13_, Ar13_, q13_, S13_, M13_, Ha13_, G13_⟩ := V_b
  have hin13_ : ¬ ((5 : Int32) < 0 ∨ cl13_.slots.size ≤ ((5 : Int32)).toNatClampNeg) := inb_of S13_ ⟨by decide, by decide⟩
  obtain ⟨T13_, h13_, X13_, e13_, W13_, st13_⟩ := stB X12_ hx hZ e12_ Ar13_ (j := (5 : Int32)) hin13_ (g := (mkF m 52 #[.val (.long i0), .second, .val (.int i1), .val (.ref b), .unset, .unset, .unset, .unset, .unset, .unset] [(.int c5), (.int (5 : Int32)), (.ref b)])) rfl rfl (hb hby at_52)
  refine Runs.st (st13_) ?_
  have V_b := Arv.set Ar13_ q13_ S13_ M13_ Ha13_ G13_ (fits_nar_byte _) W13_ 5 rfl (Nat.le_of_ble_eq_true rfl)
  replace sz := Nat.le_trans sz (Keep.of_wr W13_).1
  have N13_ := Fr.snoc X13_ N12_ g_b
  replace K := K.wr W13_ (Or.inr sz_b)
  show Runs p.tables e below _ (T13_.setTop (mkF m 53 #[.val (.long i0), .second, .val (.int i1), .val (.ref b), .unset, .unset, .unset, .unset, .unset, .unset] []))
  rw [show c5.toInt8.toInt32 = c5 from hc5] at V_b
  obtain ⟨bs, hbs⟩ : ∃ z : List Int32, z = [c0, c1, c2, c3, c4, c5] := ⟨_, rfl⟩
  replace V_b : Arv Z h13_ b k1_ .byte (6 : Int32) (bs.map Value.int) (.int (0 : Int32)) := by rw [hbs]; exact V_b
  have hbl : bs.length = 6 := by rw [hbs]; rfl
  refine Runs.st (fun t' k' => XS.iloadN X13_.here hx rfl (hb hby at_53) rfl k') ?_
  refine Runs.st (fun t' k' => X13_.ldcInt hx hown (mvT hZ (hw _ (List.mem_of_getElem? (i := 5) rfl))) (g := (mkF m 54 #[.val (.long i0), .second, .val (.int i1), .val (.ref b), .unset, .unset, .unset, .unset, .unset, .unset] [(.int i1)])) rfl (hb hby at_54) t' k') ?_
  refine Runs.st (fun t' k' => XS.iand X13_.here hx rfl (hb hby at_56) rfl k') ?_
  refine Runs.st (fun t' k' => XS.bipush X13_.here hx rfl (hb hby at_57) k') ?_
  refine Runs.st (fun t' k' => iremM X13_ hx rfl (hb hby at_59) rfl (by decide) k') ?_
  show Runs p.tables e below _ (T13_.setTop (mkF m 60 #[.val (.long i0), .second, .val (.int i1), .val (.ref b), .unset, .unset, .unset, .unset, .unset, .unset] [(.int ((i1 &&& (2147483647 : Int32)) % (7 : Int32)))]))
  show Runs p.tables e below _ (T13_.setTop (mkF m 60 #[.val (.long i0), .second, .val (.int i1), .val (.ref b), .unset, .unset, .unset, .unset, .unset, .unset] [(.int ((i1 &&& (2147483647 : Int32)) % (7 : Int32)))]))
  obtain ⟨sv, esv⟩ : ∃ z : Int32, z = ((i1 &&& (2147483647 : Int32)) % (7 : Int32)) := ⟨_, rfl⟩
  rw [← esv]
  show Runs p.tables e below _ (T13_.setTop (mkF m 60 #[.val (.long i0), .second, .val (.int i1), .val (.ref b), .unset, .unset, .unset, .unset, .unset, .unset] [(.int sv)]))
  obtain ⟨sn, hsn, hs6⟩ : ∃ z : Nat, sv.toInt = (z : Int) ∧ z ≤ 6 := by
    have x1 := c_and i1 (2147483647 : Int32) (by decide)
    have x2 := (c_irem (i1 &&& (2147483647 : Int32)) (7 : Int32) 7 rfl).1 x1.1
    rw [← esv] at x2
    exact ⟨sv.toInt.toNat, by omega, by omega⟩
  have hd6 := own_sub (show (6 : Int32).toInt = ((6 : Nat) : Int) from rfl) hsn hs6
  refine Runs.st (fun t' k' => XS.istore X13_.here hx rfl (hb hby at_60) rfl (l' := #[.val (.long i0), .second, .val (.int i1), .val (.ref b), .val (.int sv), .unset, .unset, .unset, .unset, .unset]) rfl k') ?_
  obtain ⟨T14_, h14_, X14_, e14_, E14_, A14_, D14_, -, st14_⟩ := newO X13_ hx hZ hown (hw _ (List.mem_of_getElem? (i := 6) rfl)) (hw _ (List.mem_of_getElem? (i := 7) rfl)) (hw _ (List.mem_of_getElem? (i := 8) rfl)) e13_ (g := (mkF m 62 #[.val (.long i0), .second, .val (.int i1), .val (.ref b), .val (.int sv), .unset, .unset, .unset, .unset, .unset] [])) rfl (hb hby at_62) (by decide) (by decide)
  refine Runs.st (st14_) ?_
  obtain ⟨d, g14_⟩ : ∃ z, z = h13_.size := ⟨_, rfl⟩
  rw [← g14_] at A14_ D14_
  try rw [← g14_]
  have g_d : n0 ≤ d := Nat.le_trans sz (Nat.le_of_eq g14_.symm)
  have sz_d : h0.size ≤ d := Nat.le_trans K.1 (Nat.le_of_eq g14_.symm)
  have ne_b_d : b ≠ d := Nat.ne_of_lt (Nat.lt_of_lt_of_le V_b.lt (Nat.le_of_eq g14_.symm))
  replace V_b := V_b.ext E14_
  replace sz := Nat.le_trans sz E14_.1
  replace K := K.ext E14_
  have E_d := A14_
  have F_d_text : Fld Z h14_ d "com/example/frozen_stream/frozenstream/rdf/Document" "text" "[B" .null := D14_ (Or.inl (hw _ (List.mem_of_getElem? (i := 22) rfl))) (ty := (.array .byte)) (by decide)
  have F_d_indents : Fld Z h14_ d "com/example/frozen_stream/frozenstream/rdf/Document" "indents" "[I" .null := D14_ (Or.inl (hw _ (List.mem_of_getElem? (i := 25) rfl))) (ty := (.array .int)) (by decide)
  have F_d_lines : Fld Z h14_ d "com/example/frozen_stream/frozenstream/rdf/Document" "lines" "I" (.int (0 : Int32)) := D14_ (Or.inl (hw _ (List.mem_of_getElem? (i := 27) rfl))) (ty := .int) (by decide)
  have F_d_indenting : Fld Z h14_ d "com/example/frozen_stream/frozenstream/rdf/Document" "indenting" "Z" (.int (0 : Int32)) := D14_ (Or.inl (hw _ (List.mem_of_getElem? (i := 29) rfl))) (ty := .boolean) (by decide)
  have F_d_most : Fld Z h14_ d "com/example/frozen_stream/frozenstream/rdf/Document" "most" "J" (.long (0 : Int64)) := D14_ (Or.inr (hw _ (List.mem_of_getElem? (i := 36) rfl))) (ty := .long) (by decide)
  have F_d_length : Fld Z h14_ d "com/example/frozen_stream/frozenstream/rdf/Document" "length" "J" (.long (0 : Int64)) := D14_ (Or.inl (hw _ (List.mem_of_getElem? (i := 43) rfl))) (ty := .long) (by decide)
  have F_d_textLength : Fld Z h14_ d "com/example/frozen_stream/frozenstream/rdf/Document" "textLength" "I" (.int (0 : Int32)) := D14_ (Or.inl (hw _ (List.mem_of_getElem? (i := 49) rfl))) (ty := .int) (by decide)
  show Runs p.tables e below _ (T14_.setTop (mkF m 65 #[.val (.long i0), .second, .val (.int i1), .val (.ref b), .val (.int sv), .unset, .unset, .unset, .unset, .unset] [(.ref d)]))
  refine Runs.st (fun t' k' => XS.dup X14_.here hx rfl (hb hby at_65) rfl rfl k') ?_
  refine Runs.st (fun t' k' => X14_.ldc2Long hx hown (mvT hZ (hw _ (List.mem_of_getElem? (i := 9) rfl))) (g := (mkF m 66 #[.val (.long i0), .second, .val (.int i1), .val (.ref b), .val (.int sv), .unset, .unset, .unset, .unset, .unset] [(.ref d), (.ref d)])) rfl (hb hby at_66) t' k') ?_
  have kz15_ := K.1
  have gz15_ := sz
  have lt15__b := V_b.lt
  have lt15__d := E_d.lt
  obtain ⟨_, _, ⟨T15_, L15_, k15_, n15_⟩, -, X15_, ⟨Lc15_, hQ15_, l15_, y15_, z15_⟩, st15_⟩ := X14_.specialBack hx (y := (⟨"com/example/frozen_stream/frozenstream/rdf/Document", "<init>", "(J)V"⟩ : MethodName)) rfl hown (mvT hZ (hw _ (List.mem_of_getElem? (i := 10) rfl))) (mvT hZ (hw _ (List.mem_of_getElem? (i := 11) rfl))) (mvT hZ (hw _ (List.mem_of_getElem? (i := 12) rfl))) (by decide) (backOf (W := 1) (rmInit l Z a0 hw [] d h14_ n0 sz E_d F_d_text F_d_indents F_d_lines F_d_indenting F_d_most F_d_length F_d_textLength g_d) hZ (hw _ (List.mem_of_getElem? (i := 12) rfl)) (hw _ (List.mem_of_getElem? (i := 8) rfl)) (by decide) (by decide)) (g := (mkF m 69 #[.val (.long i0), .second, .val (.int i1), .val (.ref b), .val (.int sv), .unset, .unset, .unset, .unset, .unset] [(.long (1000 : Int64)), (.ref d), (.ref d)])) rfl (by rw [hml]; rfl) (Steps.refl _) (a := d) (argsL := [(.long (1000 : Int64))]) (rest := [(.ref d)]) (lenOf pd__28J_29V rfl) rfl (by show 2 * 0 + _ ≤ _; exact Nat.le_of_eq rfl) (hb hby at_69) (fun _ _ => ⟨rfl, e14_, (by decide : 2 + 2 ≤ _), (by decide : 13 + 8256 ≤ _)⟩)
  dsimp only [Pt.U, Pt.locs, Pt.cells, Pt.slots] at X15_ l15_ y15_ z15_ st15_ hQ15_
  subst l15_ y15_ z15_
  obtain ⟨tx, ix, kt, ki, rfl, N15_q, K15_, sz15_t, sz15_i, ne_tx_ix, E_d, F_d_text, F_d_indents, F_d_lines, F_d_indenting, F_d_most, F_d_length, F_d_textLength, V_tx, V_ix⟩ := hQ15_
  have N15_ := Fr.app N13_ N15_q
  refine Runs.tr st15_ ?_
  replace X15_ := wider X15_ (c' := 4) (s' := 8269) (by decide) (by decide)
  replace V_b := V_b.keep K15_ (ninS ne_b_d nin0)
  replace sz := Nat.le_trans sz K15_.1
  replace K := K.trans K15_ (allS (Or.inr sz_d) all0)
  have sz_tx : h0.size ≤ tx := Nat.le_trans kz15_ sz15_t
  have g_tx : n0 ≤ tx := Nat.le_trans gz15_ sz15_t
  have ne_b_tx : b ≠ tx := Nat.ne_of_lt (Nat.lt_of_lt_of_le lt15__b sz15_t)
  have ne_d_tx : d ≠ tx := Nat.ne_of_lt (Nat.lt_of_lt_of_le lt15__d sz15_t)
  have sz_ix : h0.size ≤ ix := Nat.le_trans kz15_ sz15_i
  have g_ix : n0 ≤ ix := Nat.le_trans gz15_ sz15_i
  have ne_b_ix : b ≠ ix := Nat.ne_of_lt (Nat.lt_of_lt_of_le lt15__b sz15_i)
  have ne_d_ix : d ≠ ix := Nat.ne_of_lt (Nat.lt_of_lt_of_le lt15__d sz15_i)
  show Runs p.tables e below _ (T15_.setTop (mkF m 72 #[.val (.long i0), .second, .val (.int i1), .val (.ref b), .val (.int sv), .unset, .unset, .unset, .unset, .unset] [(.ref d)]))
  refine Runs.st (fun t' k' => XS.astore X15_.here hx rfl (hb hby at_72) rfl rfl (l' := #[.val (.long i0), .second, .val (.int i1), .val (.ref b), .val (.int sv), .val (.ref d), .unset, .unset, .unset, .unset]) rfl k') ?_
  refine Runs.st (fun t' k' => XS.aload X15_.here hx rfl (hb hby at_74) rfl rfl k') ?_
  refine Runs.st (fun t' k' => XS.aloadN X15_.here hx rfl (hb hby at_76) rfl rfl k') ?_
  refine Runs.st (fun t' k' => XS.iconst X15_.here hx rfl (hb hby at_77) k') ?_
  refine Runs.st (fun t' k' => XS.iload X15_.here hx rfl (hb hby at_78) rfl k') ?_
  show Runs p.tables e below _ (T15_.setTop (mkF m 80 #[.val (.long i0), .second, .val (.int i1), .val (.ref b), .val (.int sv), .val (.ref d), .unset, .unset, .unset, .unset] [(.int sv), (.int (0 : Int32)), (.ref b), (.ref d)]))
  obtain ⟨R1, hR1⟩ : ∃ z, List.foldl own_step (([] : List Int32), (1 : Int32)) ((bs.drop 0).take sn) = z := ⟨_, rfl⟩
  have lR1 := own_flen ((bs.drop 0).take sn) (([] : List Int32), (1 : Int32))
  rw [hR1, List.length_take, List.length_drop, hbl, List.length_nil] at lR1
  have l64 := c_i2l sv
  have l65 := c_ladd (0 : Int64) (sv.toInt64)
  rw [show (0 : Int64).toInt = 0 from rfl] at l65
  have l66 := rng64 ((0 : Int64) + sv.toInt64)
  have l67 := rng32 sv
  have hL1 : ¬ ((1000 : Int64) < (0 : Int64) + sv.toInt64) := fun q => by
    have q' := Int64.lt_iff_toInt_lt.mp q
    change (1000 : Int) < _ at q'
    omega
  obtain ⟨cq16_, kq16_, q16_a, q16_b, q16_c⟩ := isOf hZ rfl E_d
  obtain ⟨_, _, ⟨T16_, L16_, k16_, n16_⟩, -, X16_, ⟨Lc16_, hQ16_, l16_, y16_, z16_⟩, st16_⟩ := X15_.virtualBack hx (y := (⟨"com/example/frozen_stream/frozenstream/rdf/Document", "write", "([BII)V"⟩ : MethodName)) (z := (⟨"com/example/frozen_stream/frozenstream/rdf/Document", "write", "([BII)V"⟩ : MethodName)) hown (mvT hZ (hw _ (List.mem_of_getElem? (i := 37) rfl))) (mvT hZ (hw _ (List.mem_of_getElem? (i := 38) rfl))) (notFace_of_selects (args := #[]) (mvT hZ (hw _ (List.mem_of_getElem? (i := 40) rfl)))) (mvT hZ (hw _ (List.mem_of_getElem? (i := 40) rfl))) (mvT hZ (hw _ (List.mem_of_getElem? (i := 39) rfl))) (by decide) (backOf (W := 0) (rmW l Z a0 hw [] d b (0 : Int32) sv tx ix kt ki _ bs [] (List.replicate 64 (0 : Int32)) (1 : Int32) (1 : Int32) (0 : Int32) (0 : Int64) 0 sn 7 R1 T15_.heap n0 sz E_d F_d_text F_d_indents F_d_lines F_d_indenting F_d_most F_d_length F_d_textLength V_tx V_ix V_b ne_d_tx ne_d_ix ne_tx_ix ne_b_d ne_b_tx ne_b_ix g_d g_tx g_ix hbl rfl hsn (by omega) (by decide) (by simp) rfl (by simp; omega) (by decide) (by change (1 : Int) + _ ≤ (7 : Int); omega) hL1 hR1) hZ (hw _ (List.mem_of_getElem? (i := 41) rfl)) (hw _ (List.mem_of_getElem? (i := 8) rfl)) (by decide) (by decide)) q16_a q16_c (g := (mkF m 80 #[.val (.long i0), .second, .val (.int i1), .val (.ref b), .val (.int sv), .val (.ref d), .unset, .unset, .unset, .unset] [(.int sv), (.int (0 : Int32)), (.ref b), (.ref d)])) rfl (by rw [hml]; rfl) (Steps.refl _) (argsL := [(.ref b), (.int (0 : Int32)), (.int sv)]) (rest := []) (lenOf pd__28_5bBII_29V rfl) rfl (by show 2 * 0 + _ ≤ _; exact Nat.le_of_eq rfl) (hb hby at_80) (fun _ _ => ⟨rfl, rfl, (by decide : 4 + 0 ≤ _), (by decide : 8269 + 0 ≤ _)⟩)
  dsimp only [Pt.U, Pt.locs, Pt.cells, Pt.slots] at X16_ l16_ y16_ z16_ st16_ hQ16_
  subst l16_ y16_ z16_
  obtain ⟨lz1, cz1, tz1, rfl, N16_q, K16_, E_d, F_d_text, F_d_indents, F_d_lines, F_d_indenting, F_d_most, F_d_length, F_d_textLength, V_tx, V_ix, hcl1, htl1, hl1, hm1⟩ := hQ16_
  have N16_ := Fr.app N15_ N16_q
  refine Runs.tr st16_ ?_
  replace X16_ := wider X16_ (c' := 4) (s' := 8269) (by decide) (by decide)
  replace V_b := V_b.keep K16_ (ninS ne_b_d (ninS ne_b_tx (ninS ne_b_ix nin0)))
  replace sz := Nat.le_trans sz K16_.1
  replace K := K.trans K16_ (allS (Or.inr sz_d) (allS (Or.inr sz_tx) (allS (Or.inr sz_ix) all0)))
  show Runs p.tables e below _ (T16_.setTop (mkF m 83 #[.val (.long i0), .second, .val (.int i1), .val (.ref b), .val (.int sv), .val (.ref d), .unset, .unset, .unset, .unset] []))
  refine Runs.st (fun t' k' => XS.aload X16_.here hx rfl (hb hby at_83) rfl rfl k') ?_
  refine Runs.st (fun t' k' => XS.aloadN X16_.here hx rfl (hb hby at_85) rfl rfl k') ?_
  refine Runs.st (fun t' k' => XS.iload X16_.here hx rfl (hb hby at_86) rfl k') ?_
  refine Runs.st (fun t' k' => XS.bipush X16_.here hx rfl (hb hby at_88) k') ?_
  refine Runs.st (fun t' k' => XS.iload X16_.here hx rfl (hb hby at_90) rfl k') ?_
  show Runs p.tables e below _ (T16_.setTop (mkF m 92 #[.val (.long i0), .second, .val (.int i1), .val (.ref b), .val (.int sv), .val (.ref d), .unset, .unset, .unset, .unset] [(.int sv), (.int (6 : Int32)), (.int sv), (.ref b), (.ref d)]))
  refine Runs.st (fun t' k' => XS.isub X16_.here hx rfl (hb hby at_92) rfl k') ?_
  obtain ⟨R2, hR2⟩ : ∃ z, List.foldl own_step R1 ((bs.drop sn).take (6 - sn)) = z := ⟨_, rfl⟩
  have lR2 := own_flen ((bs.drop sn).take (6 - sn)) R1
  rw [hR2, List.length_take, List.length_drop, hbl] at lR2
  have hL2 : ¬ ((1000 : Int64) < ((0 : Int64) + sv.toInt64) + ((6 : Int32) - sv).toInt64) := fun q => by
    have q' := Int64.lt_iff_toInt_lt.mp q
    change (1000 : Int) < _ at q'
    have x1 := c_ladd ((0 : Int64) + sv.toInt64) ((6 : Int32) - sv).toInt64
    have x2 := c_i2l ((6 : Int32) - sv)
    have x3 := rng64 (((0 : Int64) + sv.toInt64) + ((6 : Int32) - sv).toInt64)
    omega
  obtain ⟨cq17_, kq17_, q17_a, q17_b, q17_c⟩ := isOf hZ rfl E_d
  obtain ⟨_, _, ⟨T17_, L17_, k17_, n17_⟩, -, X17_, ⟨Lc17_, hQ17_, l17_, y17_, z17_⟩, st17_⟩ := X16_.virtualBack hx (y := (⟨"com/example/frozen_stream/frozenstream/rdf/Document", "write", "([BII)V"⟩ : MethodName)) (z := (⟨"com/example/frozen_stream/frozenstream/rdf/Document", "write", "([BII)V"⟩ : MethodName)) hown (mvT hZ (hw _ (List.mem_of_getElem? (i := 37) rfl))) (mvT hZ (hw _ (List.mem_of_getElem? (i := 38) rfl))) (notFace_of_selects (args := #[]) (mvT hZ (hw _ (List.mem_of_getElem? (i := 40) rfl)))) (mvT hZ (hw _ (List.mem_of_getElem? (i := 40) rfl))) (mvT hZ (hw _ (List.mem_of_getElem? (i := 39) rfl))) (by decide) (backOf (W := 0) (rmW l Z a0 hw [] d b sv ((6 : Int32) - sv) tx ix kt ki _ bs R1.1 cz1 lz1 R1.2 tz1 ((0 : Int64) + sv.toInt64) sn (6 - sn) 20 R2 T16_.heap n0 sz E_d F_d_text F_d_indents F_d_lines F_d_indenting F_d_most F_d_length F_d_textLength V_tx V_ix V_b ne_d_tx ne_d_ix ne_tx_ix ne_b_d ne_b_tx ne_b_ix g_d g_tx g_ix hbl hsn hd6 (by omega) (by decide) hcl1 htl1 (by omega) hl1 (by omega) hL2 hR2) hZ (hw _ (List.mem_of_getElem? (i := 41) rfl)) (hw _ (List.mem_of_getElem? (i := 8) rfl)) (by decide) (by decide)) q17_a q17_c (g := (mkF m 93 #[.val (.long i0), .second, .val (.int i1), .val (.ref b), .val (.int sv), .val (.ref d), .unset, .unset, .unset, .unset] [(.int ((6 : Int32) - sv)), (.int sv), (.ref b), (.ref d)])) rfl (by rw [hml]; rfl) (Steps.refl _) (argsL := [(.ref b), (.int sv), (.int ((6 : Int32) - sv))]) (rest := []) (lenOf pd__28_5bBII_29V rfl) rfl (by show 2 * 0 + _ ≤ _; exact Nat.le_of_eq rfl) (hb hby at_93) (fun _ _ => ⟨rfl, rfl, (by decide : 4 + 0 ≤ _), (by decide : 8269 + 0 ≤ _)⟩)
  dsimp only [Pt.U, Pt.locs, Pt.cells, Pt.slots] at X17_ l17_ y17_ z17_ st17_ hQ17_
  subst l17_ y17_ z17_
  obtain ⟨lz2, cz2, tz2, rfl, N17_q, K17_, E_d, F_d_text, F_d_indents, F_d_lines, F_d_indenting, F_d_most, F_d_length, F_d_textLength, V_tx, V_ix, hcl2, htl2, hl2, hm2⟩ := hQ17_
  have N17_ := Fr.app N16_ N17_q
  refine Runs.tr st17_ ?_
  replace X17_ := wider X17_ (c' := 4) (s' := 8269) (by decide) (by decide)
  replace V_b := V_b.keep K17_ (ninS ne_b_d (ninS ne_b_tx (ninS ne_b_ix nin0)))
  replace sz := Nat.le_trans sz K17_.1
  replace K := K.trans K17_ (allS (Or.inr sz_d) (allS (Or.inr sz_tx) (allS (Or.inr sz_ix) all0)))
  show Runs p.tables e below _ (T17_.setTop (mkF m 96 #[.val (.long i0), .second, .val (.int i1), .val (.ref b), .val (.int sv), .val (.ref d), .unset, .unset, .unset, .unset] []))
  refine Runs.st (fun t' k' => XS.aload X17_.here hx rfl (hb hby at_96) rfl rfl k') ?_
  have kz18_ := K.1
  have gz18_ := sz
  have lt18__b := V_b.lt
  have lt18__d := E_d.lt
  have lt18__tx := V_tx.lt
  have lt18__ix := V_ix.lt
  obtain ⟨cq18_, kq18_, q18_a, q18_b, q18_c⟩ := isOf hZ rfl E_d
  obtain ⟨_, _, ⟨T18_, L18_, k18_, n18_⟩, -, X18_, ⟨Lc18_, hQ18_, l18_, y18_, z18_⟩, st18_⟩ := X17_.virtualBack hx (y := (⟨"com/example/frozen_stream/frozenstream/rdf/Document", "unindented", "()[B"⟩ : MethodName)) (z := (⟨"com/example/frozen_stream/frozenstream/rdf/Document", "unindented", "()[B"⟩ : MethodName)) hown (mvT hZ (hw _ (List.mem_of_getElem? (i := 54) rfl))) (mvT hZ (hw _ (List.mem_of_getElem? (i := 55) rfl))) (notFace_of_selects (args := #[]) (mvT hZ (hw _ (List.mem_of_getElem? (i := 57) rfl)))) (mvT hZ (hw _ (List.mem_of_getElem? (i := 57) rfl))) (mvT hZ (hw _ (List.mem_of_getElem? (i := 56) rfl))) (by decide) (backOf (W := 0) (rmUn l Z a0 hw [] d tx kt R2.1 tz2 T17_.heap n0 sz F_d_text F_d_textLength V_tx htl2 (by omega)) hZ (hw _ (List.mem_of_getElem? (i := 58) rfl)) (hw _ (List.mem_of_getElem? (i := 8) rfl)) (by decide) (by decide)) q18_a q18_c (g := (mkF m 98 #[.val (.long i0), .second, .val (.int i1), .val (.ref b), .val (.int sv), .val (.ref d), .unset, .unset, .unset, .unset] [(.ref d)])) rfl (by rw [hml]; rfl) (Steps.refl _) (argsL := []) (rest := []) (lenOf pd__28_29_5bB rfl) rfl (by show 2 * 0 + _ ≤ _; exact Nat.le_of_eq rfl) (hb hby at_98) (fun _ _ => ⟨rfl, rfl, (by decide : 4 + 1 ≤ _), (by decide : 8269 + 12 ≤ _)⟩)
  dsimp only [Pt.U, Pt.locs, Pt.cells, Pt.slots] at X18_ l18_ y18_ z18_ st18_ hQ18_
  subst l18_ y18_ z18_
  obtain ⟨y, ky, rfl, N18_q, K18_, sy18_, V_y⟩ := hQ18_
  have N18_ := Fr.app N17_ N18_q
  refine Runs.tr st18_ ?_
  replace X18_ := wider X18_ (c' := 5) (s' := 8281) (by decide) (by decide)
  replace V_b := V_b.keep K18_ nin0
  replace E_d := E_d.keep K18_
  replace F_d_text := F_d_text.keep K18_ nin0
  replace F_d_indents := F_d_indents.keep K18_ nin0
  replace F_d_lines := F_d_lines.keep K18_ nin0
  replace F_d_indenting := F_d_indenting.keep K18_ nin0
  replace F_d_most := F_d_most.keep K18_ nin0
  replace F_d_length := F_d_length.keep K18_ nin0
  replace F_d_textLength := F_d_textLength.keep K18_ nin0
  replace V_tx := V_tx.keep K18_ nin0
  replace V_ix := V_ix.keep K18_ nin0
  replace sz := Nat.le_trans sz K18_.1
  replace K := K.trans K18_ all0
  have sz_y : h0.size ≤ y := Nat.le_trans kz18_ sy18_
  have g_y : n0 ≤ y := Nat.le_trans gz18_ sy18_
  have ne_b_y : b ≠ y := Nat.ne_of_lt (Nat.lt_of_lt_of_le lt18__b sy18_)
  have ne_d_y : d ≠ y := Nat.ne_of_lt (Nat.lt_of_lt_of_le lt18__d sy18_)
  have ne_tx_y : tx ≠ y := Nat.ne_of_lt (Nat.lt_of_lt_of_le lt18__tx sy18_)
  have ne_ix_y : ix ≠ y := Nat.ne_of_lt (Nat.lt_of_lt_of_le lt18__ix sy18_)
  show Runs p.tables e below _ (T18_.setTop (mkF m 101 #[.val (.long i0), .second, .val (.int i1), .val (.ref b), .val (.int sv), .val (.ref d), .unset, .unset, .unset, .unset] [(.ref y)]))
  refine Runs.st (fun t' k' => XS.astore X18_.here hx rfl (hb hby at_101) rfl rfl (l' := #[.val (.long i0), .second, .val (.int i1), .val (.ref b), .val (.int sv), .val (.ref d), .val (.ref y), .unset, .unset, .unset]) rfl k') ?_
  refine Runs.st (fun t' k' => XS.bipush X18_.here hx rfl (hb hby at_103) k') ?_
  obtain ⟨T19_, h19_, k19_, X19_, e19_, E19_, A19_, st19_⟩ := newP X18_ hx hZ (hw _ (List.mem_of_getElem? (i := 0) rfl)) rfl (g := (mkF m 105 #[.val (.long i0), .second, .val (.int i1), .val (.ref b), .val (.int sv), .val (.ref d), .val (.ref y), .unset, .unset, .unset] [(.int (6 : Int32))])) rfl (hb hby at_105) rfl (by decide) (cap := 6) (by decide) (by decide) (by decide) (by decide)
  refine Runs.st (st19_) ?_
  obtain ⟨x, g19_⟩ : ∃ z, z = T18_.heap.size := ⟨_, rfl⟩
  rw [← g19_] at A19_
  try rw [← g19_]
  have g_x : n0 ≤ x := Nat.le_trans sz (Nat.le_of_eq g19_.symm)
  have sz_x : h0.size ≤ x := Nat.le_trans K.1 (Nat.le_of_eq g19_.symm)
  have ne_b_x : b ≠ x := Nat.ne_of_lt (Nat.lt_of_lt_of_le V_b.lt (Nat.le_of_eq g19_.symm))
  have ne_y_x : y ≠ x := Nat.ne_of_lt (Nat.lt_of_lt_of_le V_y.lt (Nat.le_of_eq g19_.symm))
  replace V_b := V_b.ext E19_
  replace V_y := V_y.ext E19_
  replace sz := Nat.le_trans sz E19_.1
  replace K := K.ext E19_
  have V_x := Arv.new A19_ (by decide)
  show Runs p.tables e below _ (T19_.setTop (mkF m 107 #[.val (.long i0), .second, .val (.int i1), .val (.ref b), .val (.int sv), .val (.ref d), .val (.ref y), .unset, .unset, .unset] [(.ref x)]))
  replace V_x : Arv Z h19_ x k19_ .byte (6 : Int32) (([] : List Int32).map Value.int) (.int (0 : Int32)) := V_x
  refine Runs.st (fun t' k' => XS.astore X19_.here hx rfl (hb hby at_107) rfl rfl (l' := #[.val (.long i0), .second, .val (.int i1), .val (.ref b), .val (.int sv), .val (.ref d), .val (.ref y), .val (.ref x), .unset, .unset]) rfl k') ?_
  refine Runs.st (fun t' k' => XS.iconst X19_.here hx rfl (hb hby at_109) k') ?_
  refine Runs.st (fun t' k' => XS.istore X19_.here hx rfl (hb hby at_110) rfl (l' := #[.val (.long i0), .second, .val (.int i1), .val (.ref b), .val (.int sv), .val (.ref d), .val (.ref y), .val (.ref x), .val (.int (1 : Int32)), .unset]) rfl k') ?_
  show Runs p.tables e below _ (T19_.setTop (mkF m 112 #[.val (.long i0), .second, .val (.int i1), .val (.ref b), .val (.int sv), .val (.ref d), .val (.ref y), .val (.ref x), .val (.int (1 : Int32)), .unset] []))
  have hfin : List.foldl own_step (([] : List Int32), (1 : Int32)) [c0, c1, c2, c3, c4, c5] = R2 := by
    rw [← hR2, ← hR1, ← List.foldl_append, List.drop_zero, ← hbs]
    rw [show bs.take sn ++ (bs.drop sn).take (6 - sn) = bs by rw [List.take_of_length_le (l := bs.drop sn) (by rw [List.length_drop, hbl]; exact Nat.le_refl _), List.take_append_drop]]
  exact segC (h0 := h0) i0 i1 sv tz2 (1 : Int32) b d y x _ _ _ bs c0 c1 c2 c3 c4 c5 R2 ([], 1) (wider X19_ (c' := 6) (s' := 8287) (by decide) (by decide)) hx hw hby hml hlk hret e19_ N18_ sz K hZ hown V_b V_y V_x ne_b_x ne_y_x g_x sz_x hbs hc0 hc1 hc2 hc3 hc4 hc5 htl2 (Or.inr rfl) (Nat.le_refl _) rfl hfin
set_option maxRecDepth 65536 in
set_option maxHeartbeats 40000000 in
theorem comes_1 {Post : Tables → Env → Array Value → State → Outcome → State → Prop} (hpost : ∀ tb e args s v u, (limb_1_1.after args s (.returned v) u = true ∧ limb_1_2.after args s (.returned v) u = true ∧ True) → FrameEnd s (.returned v) u (Jvm.fieldLocs frame_1_writes args s ++ Jvm.arrayLocs frame_1_arrays args s ++ Jvm.staticLocs frame_1_statics s) 24 16640 → Post tb e args s (.returned v) u) :
    ArmFor flags0 classFile x code maxLocals ret World_1 tables_1 room_1 Calls_1 rest_1 Pre_1 Post := by
  intro l hfl _ _ p e ha hc hk s m args below hf hA hF happ hP
  obtain ⟨hcalls, hrest, hpre⟩ := hP
  obtain ⟨-, -, -, hnamed, -, -, -, hat⟩ := (Spec.applies_iff hf).mp happ
  obtain ⟨hg, hn⟩ := and_e (Cond.before_iff.mp (show (Jvm.Cond.and given_1 narrow_1).before args s = true from hpre))
  obtain ⟨gc, gr⟩ := and_e hg
  obtain ⟨gi0, gr⟩ := and_e gr
  have gi1 := gr
  obtain ⟨w0, w1, rfl⟩ : ∃ w0 w1 : Value, args = #[w0, w1] := by
    have hs : args.size = 2 := by simpa [Cond.value, given_1] using gc
    obtain ⟨L⟩ := args
    match L, hs with
    | [w0, w1], _ => exact ⟨w0, w1, rfl⟩
  have hw := fun d (hd : d ∈ tables_1) => atoms_spec (ws := Jvm.Cond.code x code maxLocals ret :: tables_1) hat d (List.mem_cons_of_mem _ hd)
  have hfit : Fit s := fun {y c} hc i hi => by
    obtain ⟨ha, rfl⟩ := Array.getElem?_eq_some_iff.mp hc
    have q := List.all_eq_true.mp ((Array.all_eq_true_iff_forall_mem.mp hF) _ (Array.getElem_mem ha)) i (List.mem_range.mpr hi)
    simpa [Array.getElem?_eq_getElem hi] using q
  obtain ⟨i0, ei0⟩ := isL_v gi0
  obtain rfl : w0 = (.long i0) := Option.some.inj ei0
  obtain ⟨i1, ei1⟩ := is_v gi1
  obtain rfl : w1 = (.int i1) := Option.some.inj ei1
  obtain ⟨n, o, h1, h2, h3, _, L, rfl, ⟨rfl, N⟩, hq⟩ := rm0 l s _ hw tables_1 i0 i1 s.heap s.heap.size (Nat.le_refl _)  p e ha hc hk s m _ below hf ((Spec.applies_iff_loose hf).mp happ).1 ⟨rfl, State.Warmed39.refl s, rfl⟩ trivial
  refine ⟨n, _, h1, h2, h3, hpost _ _ _ _ _ _ ⟨Cond.after_iff.mpr rfl, Cond.after_iff.mpr (eq_i res_at (Term.int_eval (1)) rfl), trivial⟩ ⟨hq.1, hq.2.1, (hq.2.2.sift fun y hy => Or.inr (N y hy)).mono (by decide) (by decide)⟩⟩
theorem main_1_1 : Claimed_1_1 := comes_1 fun _ _ _ _ _ _ h hF => ⟨h.1, hF⟩
theorem main_1_2 : Claimed_1_2 := comes_1 fun _ _ _ _ _ _ h hF => ⟨h.2.1, hF⟩
end Jvm.Pilot.@@N@@
namespace Jvm.Pilot.@@N@@
open Jvm Jvm.ClassFile Sem Op Lib Jvm.Free Jvm.Stand Jvm.Pilot.@@N@@.Jvm.D
/-! MADE BY PROGRAM (witnessworld.py) out of the Statement's table words and the real class files: 16 classes; the members and pool entries that the words name. The judged class is class 1, her method 4. -/
namespace start1
open Jvm.ClassFile
def u (s : String) : CpInfo := .utf8 (stringToUtf16 s)
/-- a pool by its gaps: so many unusable entries, then the entry; so many at the end -/
def gap : Nat → List CpInfo → List CpInfo
  | 0, r => r
  | n + 1, r => .unusable :: gap n r
def poolList (es : List (Nat × CpInfo)) (last : Nat) : List CpInfo := es.foldr (fun e r => gap e.1 (e.2 :: r)) (gap last [])
def pool (es : List (Nat × CpInfo)) (last : Nat) : Array CpInfo := ⟨poolList es last⟩
def fileOf (pool : Array CpInfo) (this : Nat) (attrs : Array Attribute := #[]) (ms : Array MethodInfo := #[]) (fl : Nat := 33) (sup : Nat := 0) (ifs : Array Nat := #[]) (fds : Array FieldInfo := #[]) : ClassFile where
  minorVersion := 0
  majorVersion := 65
  constantPool := pool
  accessFlags := fl
  thisClass := this
  superClass := sup
  interfaces := ifs
  fields := fds
  methods := ms
  attributes := attrs
def plain (name : String) (sup : Option ClassId) : Class where
  name := name
  kind := .ordinary
  loader := none
  accessFlags := 33
  super := sup
  interfaces := #[]
  cf := none
  fields := #[]
  methods := #[]
  instanceTypes := #[]
  staticTypes := #[]
  resolved := #[]
  callSites := []
  init := .initialized
  statics := none
  mirror := none

def pool0 : Array CpInfo := pool [(5, u "<init>"), (0, u "()V"), (1, .class_ 10), (1, u "java/lang/Object")] 113

def k0c0 : Code := { maxStack := 0, maxLocals := 1, code := object_method_1_code, exceptionTable := #[], attributes := #[] }
def k0m0 : Method := { name := "<init>", desc := "()V", sig := { parameters := [], returnType := none }, accessFlags := 1, code := some k0c0 }
/-- java/lang/Object -/
def k0 : Class := { plain "java/lang/Object" none with
  accessFlags := 33
  interfaces := #[]
  cf := some (fileOf pool0 8 #[] #[{ accessFlags := 1, nameIndex := 5, descriptorIndex := 6, attributes := #[] }] 33 0 #[] #[])
  fields := #[]
  methods := #[k0m0]
  instanceTypes := #[]
  staticTypes := #[]
  resolved := Array.replicate 124 none
  statics := none }

def pool1 : Array CpInfo := pool [(2, .class_ 4), (1, u "java/lang/Object"), (0, u "<init>"), (0, u "()V"), (0, .methodref 8 9), (0, .class_ 10), (0, .nameAndType 11 12), (0, u "com/example/frozen_stream/frozenstream/rdf/DocumentUnindentedPinLaw"), (0, u "draw"), (0, u "(JI)B"), (0, .integer 2147483647), (0, .class_ 15), (0, u "com/example/frozen_stream/frozenstream/rdf/Document"), (0, .long 1000), (1, .methodref 14 19), (0, .nameAndType 5 20), (0, u "(J)V"), (0, .methodref 14 22), (0, .nameAndType 23 24), (0, u "write"), (0, u "([BII)V"), (0, .methodref 14 26), (0, .nameAndType 27 28), (0, u "unindented"), (0, u "()[B"), (0, .methodref 8 30), (0, .nameAndType 31 32), (0, u "put"), (0, u "([BIB)I"), (0, .methodref 8 34), (0, .nameAndType 35 36), (0, u "eqAt"), (0, u "([B[BII)Z"), (5, u "law"), (0, u "(JI)Z")] 2

def k1m0 : Method := { name := "<init>", desc := "()V", sig := { parameters := [], returnType := none }, accessFlags := 1, code := none }
def k1c1 : Code := { maxStack := 4, maxLocals := 5, code := method_2_code, exceptionTable := #[], attributes := #[] }
def k1m1 : Method := { name := "draw", desc := "(JI)B", sig := { parameters := [.long, .int], returnType := some .byte }, accessFlags := 10, code := some k1c1 }
def k1c2 : Code := { maxStack := 3, maxLocals := 5, code := method_3_code, exceptionTable := #[], attributes := #[] }
def k1m2 : Method := { name := "put", desc := "([BIB)I", sig := { parameters := [(.array .byte), .int, .byte], returnType := some .int }, accessFlags := 10, code := some k1c2 }
def k1c3 : Code := { maxStack := 3, maxLocals := 4, code := method_4_code, exceptionTable := #[], attributes := #[] }
def k1m3 : Method := { name := "eqAt", desc := "([B[BII)Z", sig := { parameters := [(.array .byte), (.array .byte), .int, .int], returnType := some .boolean }, accessFlags := 10, code := some k1c3 }
def k1c4 : Code := { maxStack := 5, maxLocals := 10, code := code, exceptionTable := #[], attributes := #[] }
def k1m4 : Method := { name := "law", desc := "(JI)Z", sig := { parameters := [.long, .int], returnType := some .boolean }, accessFlags := 9, code := some k1c4 }
/-- com/example/frozen_stream/frozenstream/rdf/DocumentUnindentedPinLaw -/
def k1 : Class := { plain "com/example/frozen_stream/frozenstream/rdf/DocumentUnindentedPinLaw" (some 0) with
  accessFlags := 49
  interfaces := #[]
  cf := some (fileOf pool1 8 #[] #[{ accessFlags := 1, nameIndex := 5, descriptorIndex := 6, attributes := #[] }, { accessFlags := 10, nameIndex := 11, descriptorIndex := 12, attributes := #[] }, { accessFlags := 10, nameIndex := 31, descriptorIndex := 32, attributes := #[] }, { accessFlags := 10, nameIndex := 35, descriptorIndex := 36, attributes := #[] }, { accessFlags := 9, nameIndex := 42, descriptorIndex := 43, attributes := #[] }] 49 2 #[] #[])
  fields := #[]
  methods := #[k1m0, k1m1, k1m2, k1m3, k1m4]
  instanceTypes := #[]
  staticTypes := #[]
  resolved := Array.replicate 46 none
  statics := none }

def pool2 : Array CpInfo := pool [(1, .class_ 2), (0, u "java/lang/AutoCloseable"), (0, .class_ 4), (0, u "java/lang/Object")] 7

/-- java/lang/AutoCloseable -/
def k2 : Class := { plain "java/lang/AutoCloseable" (some 0) with
  accessFlags := 1537
  interfaces := #[]
  cf := some (fileOf pool2 1 #[] #[] 1537 3 #[] #[])
  fields := #[]
  methods := #[]
  instanceTypes := #[]
  staticTypes := #[]
  resolved := Array.replicate 12 none
  statics := none }

def pool3 : Array CpInfo := pool [(1, .class_ 2), (0, u "java/io/Closeable"), (0, .class_ 4), (0, u "java/lang/Object"), (0, .class_ 6), (0, u "java/lang/AutoCloseable")] 7

/-- java/io/Closeable -/
def k3 : Class := { plain "java/io/Closeable" (some 0) with
  accessFlags := 1537
  interfaces := #[2]
  cf := some (fileOf pool3 1 #[] #[] 1537 3 #[5] #[])
  fields := #[]
  methods := #[]
  instanceTypes := #[]
  staticTypes := #[]
  resolved := Array.replicate 14 none
  statics := none }

def pool4 : Array CpInfo := pool [(1, .class_ 2), (0, u "java/io/Flushable"), (0, .class_ 4), (0, u "java/lang/Object")] 7

/-- java/io/Flushable -/
def k4 : Class := { plain "java/io/Flushable" (some 0) with
  accessFlags := 1537
  interfaces := #[]
  cf := some (fileOf pool4 1 #[] #[] 1537 3 #[] #[])
  fields := #[]
  methods := #[]
  instanceTypes := #[]
  staticTypes := #[]
  resolved := Array.replicate 12 none
  statics := none }

def pool5 : Array CpInfo := pool [(1, .methodref 2 3), (0, .class_ 4), (0, .nameAndType 5 6), (0, u "java/lang/Object"), (0, u "<init>"), (0, u "()V"), (0, .class_ 8), (0, u "java/io/OutputStream$1"), (2, .class_ 13), (1, u "java/io/OutputStream"), (11, .class_ 26), (0, u "java/io/Closeable"), (0, .class_ 28), (0, u "java/io/Flushable")] 24

def k5c0 : Code := { maxStack := 1, maxLocals := 1, code := jdk_2038_method_1_code, exceptionTable := #[], attributes := #[] }
def k5m0 : Method := { name := "<init>", desc := "()V", sig := { parameters := [], returnType := none }, accessFlags := 1, code := some k5c0 }
/-- java/io/OutputStream -/
def k5 : Class := { plain "java/io/OutputStream" (some 0) with
  accessFlags := 1057
  interfaces := #[3, 4]
  cf := some (fileOf pool5 11 #[.nestMembers #[7]] #[{ accessFlags := 1, nameIndex := 5, descriptorIndex := 6, attributes := #[] }] 1057 2 #[25, 27] #[])
  fields := #[]
  methods := #[k5m0]
  instanceTypes := #[]
  staticTypes := #[]
  resolved := Array.replicate 53 none
  statics := none }

def pool6 : Array CpInfo := pool [(3, .methodref 4 5), (0, .class_ 6), (0, .nameAndType 7 8), (0, u "java/io/OutputStream"), (0, u "<init>"), (0, u "()V"), (0, .fieldref 10 11), (0, .class_ 12), (0, .nameAndType 13 14), (0, u "com/example/frozen_stream/frozenstream/rdf/Document"), (0, u "text"), (0, u "[B"), (0, .fieldref 10 16), (0, .nameAndType 17 18), (0, u "indents"), (0, u "[I"), (0, .fieldref 10 20), (0, .nameAndType 21 22), (0, u "lines"), (0, u "I"), (0, .fieldref 10 24), (0, .nameAndType 25 26), (0, u "indenting"), (0, u "Z"), (0, .long 2147483639), (1, .methodref 30 31), (0, .class_ 32), (0, .nameAndType 33 34), (0, u "java/lang/Math"), (0, u "min"), (0, u "(JJ)J"), (0, .fieldref 10 36), (0, .nameAndType 37 38), (0, u "most"), (0, u "J"), (0, .fieldref 10 40), (0, .nameAndType 41 38), (0, u "length"), (1, .class_ 45), (1, u "java/util/Arrays"), (2, .fieldref 10 49), (0, .nameAndType 50 22), (0, u "textLength"), (3, .methodref 55 56), (0, .class_ 57), (0, .nameAndType 58 59), (0, u "java/lang/System"), (0, u "arraycopy"), (0, u "(Ljava/lang/Object;ILjava/lang/Object;II)V"), (0, .methodref 43 61), (0, .nameAndType 62 63), (0, u "copyOf"), (0, u "([BI)[B"), (2, u "write"), (0, u "([BII)V"), (0, .class_ 69), (0, u "com/example/frozen_stream/frozenstream/rdf/Document$TooLong"), (1, .methodref 10 72), (0, .nameAndType 73 67), (0, u "keep"), (0, .methodref 10 75), (0, .nameAndType 76 8), (0, u "beginLine"), (0, .long 2), (7, u "LONGEST"), (1, u "(J)V"), (4, u "()[B"), (2, u "unindented")] 6

def k6c0 : Code := { maxStack := 5, maxLocals := 3, code := prog_8_method_1_code, exceptionTable := #[], attributes := #[] }
def k6m0 : Method := { name := "<init>", desc := "(J)V", sig := { parameters := [.long], returnType := none }, accessFlags := 0, code := some k6c0 }
def k6c1 : Code := { maxStack := 2, maxLocals := 1, code := prog_8_method_4_code, exceptionTable := #[], attributes := #[] }
def k6m1 : Method := { name := "unindented", desc := "()[B", sig := { parameters := [], returnType := some (.array .byte) }, accessFlags := 0, code := some k6c1 }
def k6c2 : Code := { maxStack := 5, maxLocals := 6, code := prog_8_method_6_code, exceptionTable := #[], attributes := #[] }
def k6m2 : Method := { name := "write", desc := "([BII)V", sig := { parameters := [(.array .byte), .int, .int], returnType := none }, accessFlags := 1, code := some k6c2 }
def k6c3 : Code := { maxStack := 6, maxLocals := 1, code := prog_8_method_7_code, exceptionTable := #[], attributes := #[] }
def k6m3 : Method := { name := "beginLine", desc := "()V", sig := { parameters := [], returnType := none }, accessFlags := 2, code := some k6c3 }
def k6c4 : Code := { maxStack := 6, maxLocals := 6, code := prog_8_method_8_code, exceptionTable := #[], attributes := #[] }
def k6m4 : Method := { name := "keep", desc := "([BII)V", sig := { parameters := [(.array .byte), .int, .int], returnType := none }, accessFlags := 2, code := some k6c4 }
/-- com/example/frozen_stream/frozenstream/rdf/Document -/
def k6 : Class := { plain "com/example/frozen_stream/frozenstream/rdf/Document" (some 5) with
  accessFlags := 32
  interfaces := #[]
  cf := some (fileOf pool6 10 #[.nestMembers #[68]] #[{ accessFlags := 0, nameIndex := 7, descriptorIndex := 87, attributes := #[] }, { accessFlags := 0, nameIndex := 95, descriptorIndex := 92, attributes := #[] }, { accessFlags := 1, nameIndex := 66, descriptorIndex := 67, attributes := #[] }, { accessFlags := 2, nameIndex := 76, descriptorIndex := 8, attributes := #[] }, { accessFlags := 2, nameIndex := 73, descriptorIndex := 67, attributes := #[] }] 32 4 #[] #[{ accessFlags := 24, nameIndex := 85, descriptorIndex := 38, attributes := #[] }, { accessFlags := 18, nameIndex := 37, descriptorIndex := 38, attributes := #[] }, { accessFlags := 2, nameIndex := 13, descriptorIndex := 14, attributes := #[] }, { accessFlags := 2, nameIndex := 50, descriptorIndex := 22, attributes := #[] }, { accessFlags := 2, nameIndex := 17, descriptorIndex := 18, attributes := #[] }, { accessFlags := 2, nameIndex := 21, descriptorIndex := 22, attributes := #[] }, { accessFlags := 2, nameIndex := 25, descriptorIndex := 26, attributes := #[] }, { accessFlags := 2, nameIndex := 41, descriptorIndex := 38, attributes := #[] }])
  fields := #[{ name := "LONGEST", type := .long, accessFlags := 24, slot := 0, constantValue := 0 }, { name := "most", type := .long, accessFlags := 18, slot := 0, constantValue := 0 }, { name := "text", type := (.array .byte), accessFlags := 2, slot := 1, constantValue := 0 }, { name := "textLength", type := .int, accessFlags := 2, slot := 2, constantValue := 0 }, { name := "indents", type := (.array .int), accessFlags := 2, slot := 3, constantValue := 0 }, { name := "lines", type := .int, accessFlags := 2, slot := 4, constantValue := 0 }, { name := "indenting", type := .boolean, accessFlags := 2, slot := 5, constantValue := 0 }, { name := "length", type := .long, accessFlags := 2, slot := 6, constantValue := 0 }]
  methods := #[k6m0, k6m1, k6m2, k6m3, k6m4]
  instanceTypes := #[.long, (.array .byte), .int, (.array .int), .int, .boolean, .long]
  staticTypes := #[.long]
  resolved := Array.replicate 102 none
  statics := none }

def pool7 : Array CpInfo := pool [(1, .class_ 2), (0, u "java/lang/Math"), (1, .class_ 6), (1, u "java/lang/Object"), (0, u "<init>"), (0, u "()V"), (89, .class_ 100), (1, u "java/lang/Math$RandomNumberGeneratorHolder"), (20, u "(JJ)J"), (50, u "negativeZeroFloatBits"), (0, u "J"), (2, u "negativeZeroDoubleBits"), (24, u "min"), (43, u "$assertionsDisabled"), (0, u "Z"), (88, u "(II)I"), (2, u "twoToTheDoubleScaleDown"), (0, u "D"), (4, u "twoToTheDoubleScaleUp"), (9, u "E"), (3, u "PI"), (2, u "TAU"), (2, u "DEGREES_TO_RADIANS"), (0, u "RADIANS_TO_DEGREES")] 94

def k7m0 : Method := { name := "<init>", desc := "()V", sig := { parameters := [], returnType := none }, accessFlags := 2, code := none }
def k7c1 : Code := { maxStack := 2, maxLocals := 2, code := jdk_29_method_69_code, exceptionTable := #[], attributes := #[] }
def k7m1 : Method := { name := "min", desc := "(II)I", sig := { parameters := [.int, .int], returnType := some .int }, accessFlags := 9, code := some k7c1 }
def k7c2 : Code := { maxStack := 4, maxLocals := 4, code := jdk_29_method_70_code, exceptionTable := #[], attributes := #[] }
def k7m2 : Method := { name := "min", desc := "(JJ)J", sig := { parameters := [.long, .long], returnType := some .long }, accessFlags := 9, code := some k7c2 }
/-- java/lang/Math -/
def k7 : Class := { plain "java/lang/Math" (some 0) with
  accessFlags := 49
  interfaces := #[]
  cf := some (fileOf pool7 1 #[.nestMembers #[98]] #[{ accessFlags := 2, nameIndex := 7, descriptorIndex := 8, attributes := #[] }, { accessFlags := 9, nameIndex := 201, descriptorIndex := 335, attributes := #[] }, { accessFlags := 9, nameIndex := 201, descriptorIndex := 121, attributes := #[] }] 49 4 #[] #[{ accessFlags := 25, nameIndex := 354, descriptorIndex := 339, attributes := #[] }, { accessFlags := 25, nameIndex := 358, descriptorIndex := 339, attributes := #[] }, { accessFlags := 25, nameIndex := 361, descriptorIndex := 339, attributes := #[] }, { accessFlags := 26, nameIndex := 364, descriptorIndex := 339, attributes := #[] }, { accessFlags := 26, nameIndex := 365, descriptorIndex := 339, attributes := #[] }, { accessFlags := 26, nameIndex := 172, descriptorIndex := 173, attributes := #[] }, { accessFlags := 26, nameIndex := 176, descriptorIndex := 173, attributes := #[] }, { accessFlags := 8, nameIndex := 344, descriptorIndex := 339, attributes := #[] }, { accessFlags := 8, nameIndex := 338, descriptorIndex := 339, attributes := #[] }, { accessFlags := 4120, nameIndex := 245, descriptorIndex := 246, attributes := #[] }])
  fields := #[{ name := "E", type := .double, accessFlags := 25, slot := 0, constantValue := 0 }, { name := "PI", type := .double, accessFlags := 25, slot := 1, constantValue := 0 }, { name := "TAU", type := .double, accessFlags := 25, slot := 2, constantValue := 0 }, { name := "DEGREES_TO_RADIANS", type := .double, accessFlags := 26, slot := 3, constantValue := 0 }, { name := "RADIANS_TO_DEGREES", type := .double, accessFlags := 26, slot := 4, constantValue := 0 }, { name := "negativeZeroFloatBits", type := .long, accessFlags := 26, slot := 5, constantValue := 0 }, { name := "negativeZeroDoubleBits", type := .long, accessFlags := 26, slot := 6, constantValue := 0 }, { name := "twoToTheDoubleScaleUp", type := .double, accessFlags := 8, slot := 7, constantValue := 0 }, { name := "twoToTheDoubleScaleDown", type := .double, accessFlags := 8, slot := 8, constantValue := 0 }, { name := "$assertionsDisabled", type := .boolean, accessFlags := 4120, slot := 9, constantValue := 0 }]
  methods := #[k7m0, k7m1, k7m2]
  instanceTypes := #[]
  staticTypes := #[.double, .double, .double, .double, .double, .long, .long, .double, .double, .boolean]
  resolved := Array.replicate 460 none
  statics := none }

def pool8 : Array CpInfo := pool [(2, .class_ 4), (1, u "java/lang/Object"), (0, u "<init>"), (0, u "()V"), (1, .class_ 10), (1, u "java/lang/System"), (0, u "allowSecurityManager"), (0, u "I"), (16, u "cons"), (0, u "Ljava/io/Console;"), (77, .class_ 110), (1, u "java/lang/System$CallersHolder"), (43, u "initialErrStream"), (0, u "Ljava/io/PrintStream;"), (19, u "security"), (0, u "Ljava/lang/SecurityManager;"), (31, .class_ 209), (0, u "java/lang/System$1"), (7, u "props"), (0, u "Ljava/util/Properties;"), (2, u "lineSeparator"), (0, u "Ljava/lang/String;"), (96, .class_ 321), (1, u "java/lang/System$LoggerFinder"), (5, .class_ 328), (0, u "java/lang/System$Logger"), (67, u "err"), (2, u "out"), (91, u "notSupportedJnuEncoding"), (15, u "in"), (17, u "initialIn"), (0, u "Ljava/io/InputStream;"), (35, u "bootLayer"), (0, u "Ljava/lang/ModuleLayer;"), (99, .class_ 664), (0, u "java/lang/System$2"), (9, u "NEVER"), (2, u "MAYBE"), (49, u "arraycopy"), (0, u "(Ljava/lang/Object;ILjava/lang/Object;II)V"), (72, .class_ 802), (0, u "java/lang/System$Logger$Level")] 31

def k8m0 : Method := { name := "<init>", desc := "()V", sig := { parameters := [], returnType := none }, accessFlags := 2, code := none }
def k8m1 : Method := { name := "arraycopy", desc := "(Ljava/lang/Object;ILjava/lang/Object;II)V", sig := { parameters := [(.object "java/lang/Object"), .int, (.object "java/lang/Object"), .int, .int], returnType := none }, accessFlags := 265, code := none }
/-- java/lang/System -/
def k8 : Class := { plain "java/lang/System" (some 0) with
  accessFlags := 49
  interfaces := #[]
  cf := some (fileOf pool8 8 #[.nestMembers #[319, 327, 801, 108, 663, 208]] #[{ accessFlags := 2, nameIndex := 5, descriptorIndex := 6, attributes := #[] }, { accessFlags := 265, nameIndex := 727, descriptorIndex := 728, attributes := #[] }] 49 2 #[] #[{ accessFlags := 25, nameIndex := 507, descriptorIndex := 526, attributes := #[] }, { accessFlags := 25, nameIndex := 399, descriptorIndex := 155, attributes := #[] }, { accessFlags := 25, nameIndex := 396, descriptorIndex := 155, attributes := #[] }, { accessFlags := 10, nameIndex := 525, descriptorIndex := 526, attributes := #[] }, { accessFlags := 26, nameIndex := 674, descriptorIndex := 12, attributes := #[] }, { accessFlags := 26, nameIndex := 677, descriptorIndex := 12, attributes := #[] }, { accessFlags := 10, nameIndex := 11, descriptorIndex := 12, attributes := #[] }, { accessFlags := 74, nameIndex := 175, descriptorIndex := 176, attributes := #[] }, { accessFlags := 10, nameIndex := 491, descriptorIndex := 222, attributes := #[] }, { accessFlags := 74, nameIndex := 29, descriptorIndex := 30, attributes := #[] }, { accessFlags := 74, nameIndex := 154, descriptorIndex := 155, attributes := #[] }, { accessFlags := 10, nameIndex := 217, descriptorIndex := 218, attributes := #[] }, { accessFlags := 10, nameIndex := 221, descriptorIndex := 222, attributes := #[] }, { accessFlags := 8, nameIndex := 562, descriptorIndex := 563, attributes := #[] }])
  fields := #[{ name := "in", type := (.object "java/io/InputStream"), accessFlags := 25, slot := 0, constantValue := 0 }, { name := "out", type := (.object "java/io/PrintStream"), accessFlags := 25, slot := 1, constantValue := 0 }, { name := "err", type := (.object "java/io/PrintStream"), accessFlags := 25, slot := 2, constantValue := 0 }, { name := "initialIn", type := (.object "java/io/InputStream"), accessFlags := 10, slot := 3, constantValue := 0 }, { name := "NEVER", type := .int, accessFlags := 26, slot := 4, constantValue := 0 }, { name := "MAYBE", type := .int, accessFlags := 26, slot := 5, constantValue := 0 }, { name := "allowSecurityManager", type := .int, accessFlags := 10, slot := 6, constantValue := 0 }, { name := "security", type := (.object "java/lang/SecurityManager"), accessFlags := 74, slot := 7, constantValue := 0 }, { name := "notSupportedJnuEncoding", type := (.object "java/lang/String"), accessFlags := 10, slot := 8, constantValue := 0 }, { name := "cons", type := (.object "java/io/Console"), accessFlags := 74, slot := 9, constantValue := 0 }, { name := "initialErrStream", type := (.object "java/io/PrintStream"), accessFlags := 74, slot := 10, constantValue := 0 }, { name := "props", type := (.object "java/util/Properties"), accessFlags := 10, slot := 11, constantValue := 0 }, { name := "lineSeparator", type := (.object "java/lang/String"), accessFlags := 10, slot := 12, constantValue := 0 }, { name := "bootLayer", type := (.object "java/lang/ModuleLayer"), accessFlags := 8, slot := 13, constantValue := 0 }]
  methods := #[k8m0, k8m1]
  instanceTypes := #[]
  staticTypes := #[(.object "java/io/InputStream"), (.object "java/io/PrintStream"), (.object "java/io/PrintStream"), (.object "java/io/InputStream"), .int, .int, .int, (.object "java/lang/SecurityManager"), (.object "java/lang/String"), (.object "java/io/Console"), (.object "java/io/PrintStream"), (.object "java/util/Properties"), (.object "java/lang/String"), (.object "java/lang/ModuleLayer")]
  resolved := Array.replicate 834 none
  statics := none }

def pool9 : Array CpInfo := pool [(2, .class_ 4), (1, u "java/lang/Object"), (0, u "<init>"), (0, u "()V"), (7, .class_ 16), (1, u "java/util/Arrays"), (57, .class_ 76), (1, u "java/util/Arrays$NaturalOrder"), (36, .class_ 115), (1, u "java/util/Arrays$LegacyMergeSort"), (1, u "Z"), (32, .methodref 151 152), (0, .class_ 153), (0, .nameAndType 154 155), (0, u "java/lang/System"), (0, u "arraycopy"), (0, u "(Ljava/lang/Object;ILjava/lang/Object;II)V"), (146, u "copyOf"), (1, .methodref 305 306), (0, .class_ 307), (0, .nameAndType 308 309), (0, u "java/lang/Math"), (0, u "min"), (0, u "(II)I"), (65, .class_ 376), (0, u "java/util/Arrays$ArrayList"), (68, u "$assertionsDisabled"), (269, u "MIN_ARRAY_SORT_GRAN"), (0, u "I"), (2, u "INSERTIONSORT_THRESHOLD"), (149, u "([BI)[B"), (105, .class_ 976), (0, u "java/util/Arrays$ArrayItr")] 52

def k9m0 : Method := { name := "<init>", desc := "()V", sig := { parameters := [], returnType := none }, accessFlags := 2, code := none }
def k9c1 : Code := { maxStack := 6, maxLocals := 3, code := jdk_65_method_121_code, exceptionTable := #[], attributes := #[] }
def k9m1 : Method := { name := "copyOf", desc := "([BI)[B", sig := { parameters := [(.array .byte), .int], returnType := some (.array .byte) }, accessFlags := 9, code := some k9c1 }
/-- java/util/Arrays -/
def k9 : Class := { plain "java/util/Arrays" (some 0) with
  accessFlags := 49
  interfaces := #[]
  cf := some (fileOf pool9 14 #[.nestMembers #[975, 375, 113, 74]] #[{ accessFlags := 2, nameIndex := 5, descriptorIndex := 6, attributes := #[] }, { accessFlags := 9, nameIndex := 302, descriptorIndex := 869, attributes := #[] }] 49 2 #[] #[{ accessFlags := 26, nameIndex := 715, descriptorIndex := 716, attributes := #[] }, { accessFlags := 26, nameIndex := 719, descriptorIndex := 716, attributes := #[] }, { accessFlags := 4120, nameIndex := 445, descriptorIndex := 117, attributes := #[] }])
  fields := #[{ name := "MIN_ARRAY_SORT_GRAN", type := .int, accessFlags := 26, slot := 0, constantValue := 0 }, { name := "INSERTIONSORT_THRESHOLD", type := .int, accessFlags := 26, slot := 1, constantValue := 0 }, { name := "$assertionsDisabled", type := .boolean, accessFlags := 4120, slot := 2, constantValue := 0 }]
  methods := #[k9m0, k9m1]
  instanceTypes := #[]
  staticTypes := #[.int, .int, .boolean]
  resolved := Array.replicate 1029 none
  statics := none }

def pool10 : Array CpInfo := pool [(1, u "java/lang/Cloneable"), (0, .class_ 1), (0, u "java/lang/Object"), (0, .class_ 3)] 3

/-- java/lang/Cloneable -/
def k10 : Class := { plain "java/lang/Cloneable" (some 0) with
  accessFlags := 1537
  interfaces := #[]
  cf := some (fileOf pool10 2 #[] #[] 1537 4 #[] #[])
  fields := #[]
  methods := #[]
  instanceTypes := #[]
  staticTypes := #[]
  resolved := Array.replicate 8 none
  statics := none }

def pool11 : Array CpInfo := pool [(1, u "java/io/Serializable"), (0, .class_ 1), (0, u "java/lang/Object"), (0, .class_ 3)] 3

/-- java/io/Serializable -/
def k11 : Class := { plain "java/io/Serializable" (some 0) with
  accessFlags := 1537
  interfaces := #[]
  cf := some (fileOf pool11 2 #[] #[] 1537 4 #[] #[])
  fields := #[]
  methods := #[]
  instanceTypes := #[]
  staticTypes := #[]
  resolved := Array.replicate 8 none
  statics := none }

/-- the primitive byte -/
def k12 : Class := { plain "byte" none with kind := .primitive 'B', accessFlags := 0x411 }
/-- [B -/
def k13 : Class := { plain "[B" (some 0) with kind := .array 12 .byte, interfaces := #[10, 11], accessFlags := 1041 }

/-- the primitive int -/
def k14 : Class := { plain "int" none with kind := .primitive 'I', accessFlags := 0x411 }
/-- [I -/
def k15 : Class := { plain "[I" (some 0) with kind := .array 14 .int, interfaces := #[10, 11], accessFlags := 1041 }

def heap : Heap := #[]
def classes : Array Class := #[k0, k1, k2, k3, k4, k5, k6, k7, k8, k9, k10, k11, k12, k13, k14, k15]
def interned : List (Array UInt16 × Addr) := []
def slotsUsed : Nat := 0
def theMethod : MethodId := ⟨1, 4⟩
def args0 : Array Value := #[.long 5, .int 3]
def aboutOver (below : List Frame) : State where
  vm := { classes := classes, interned := interned.toArray }
  heap := heap
  slotsUsed := slotsUsed
  threads := #[{ frames := .invoking theMethod args0 :: below }]
def below0 : List Frame := [.native { method := ⟨0, 0⟩, args := #[] }]
def about1 : State := aboutOver below0
def p0 : Program := .bare "" "" ""
def e0 : Env := launch0.env 0 0 0
theorem w_frames : about1.frames = Frame.invoking theMethod args0 :: below0 := rfl
set_option maxRecDepth 65536 in
theorem w_args : argsFit about1.vm theMethod args0 = true := by decide +kernel
set_option maxRecDepth 65536 in
theorem w_heap : heapFits about1 = true := by decide +kernel
set_option maxRecDepth 65536 in
theorem w_runnable : about1.curStatus? = some .runnable := by decide +kernel
set_option maxRecDepth 65536 in
theorem w_alone : about1.alone = true := by decide +kernel
set_option maxRecDepth 65536 in
theorem w_named : about1.methodNamed? x = some theMethod := by decide +kernel
set_option maxRecDepth 65536 in
theorem w_hears : about1.hears theMethod below0 = true := by decide +kernel
set_option maxRecDepth 65536 in
theorem w_ripe : about1.ripe theMethod args0 below0 = true := by decide +kernel
theorem w_running : about1.status = .running := rfl
set_option maxRecDepth 65536 in
theorem w_room : about1.hasRoom e0.platform room_1 = true :=
  launch0.hasRoom_least _ room_1 (by decide +kernel) (by decide +kernel) (by decide +kernel) (by decide +kernel) (by decide +kernel) (by decide +kernel)
theorem allAtoms_all (ts : List Jvm.Cond) (a : Array Jvm.Value) (st : Jvm.State) : (allAtoms ts).before a st = ts.all (fun c => c.before a st) := by
  induction ts with
  | nil => rfl
  | cons c t ih =>
    show (Jvm.Cond.and c (allAtoms t)).before a st = _
    rw [Jvm.Cond.before_and, ih, List.all_cons]
def words1 : List Jvm.Cond := Jvm.Cond.code x code maxLocals ret :: tables_1
/-- a 'code' word, met by the world's own term for the bytes: nothing is compared byte by byte -/
theorem code_word {y : MethodName} {bytes : ByteArray} {mx : Nat} {rt : Option FieldType} {a : Array Value} {s : State} {m : MethodId} {meth : Method} {c : Code} (h1 : s.methodNamed? y = some m) (h2 : s.vm.method? m = some meth) (h3 : meth.code = some c) (h4 : c.code = bytes)
    (h5 : (c.maxLocals == mx && c.exceptionTable.isEmpty && decide (c.maxStack ≤ mostOperands) && decide (meth.sig.returnType = rt) && !meth.locks && decide (parseMethodDescriptor y.desc = some meth.sig)) = true) : (Jvm.Cond.code y bytes mx rt).before a s = true := by
  simp only [Bool.and_eq_true, beq_iff_eq, Bool.not_eq_true', decide_eq_true_eq] at h5
  obtain ⟨⟨⟨⟨⟨g1, g2⟩, g3⟩, g4⟩, g5⟩, g6⟩ := h5
  simp [Cond.before, Cond.holds, Cond.value, h1, h2, h3, h4, g1, g2, g3, g4, g5, g6]
def isCode : Jvm.Cond → Bool
  | .code _ _ _ _ => true
  | _ => false
theorem all_split {L : List Jvm.Cond} {P : Jvm.Cond → Bool} (h1 : L.all (fun c => isCode c || P c) = true) (h2 : ∀ c ∈ L.filter isCode, P c = true) : L.all P = true := by
  refine List.all_eq_true.mpr fun c hc => ?_
  have h := List.all_eq_true.mp h1 c hc
  rcases Bool.eq_false_or_eq_true (isCode c) with hi | hi
  · exact h2 c (List.mem_filter.mpr ⟨hc, hi⟩)
  · simpa [hi] using h
set_option maxRecDepth 65536 in
theorem w_c0 : (Jvm.Cond.code x code maxLocals ret).before args0 about1 = true := code_word (m := ⟨1, 4⟩) (meth := k1m4) (c := k1c4) (by decide +kernel) rfl rfl rfl (by decide +kernel)
set_option maxRecDepth 65536 in
theorem w_c1 : (Jvm.Cond.code ({ cls := "com/example/frozen_stream/frozenstream/rdf/DocumentUnindentedPinLaw", name := "draw", desc := "(JI)B" } : Jvm.MethodName) method_2_code (5 : Nat) (Option.some Jvm.ClassFile.FieldType.byte)).before args0 about1 = true := code_word (m := ⟨1, 1⟩) (meth := k1m1) (c := k1c1) (by decide +kernel) rfl rfl rfl (by decide +kernel)
set_option maxRecDepth 65536 in
theorem w_c2 : (Jvm.Cond.code ({ cls := "com/example/frozen_stream/frozenstream/rdf/Document", name := "<init>", desc := "(J)V" } : Jvm.MethodName) prog_8_method_1_code (3 : Nat) (Option.none : Option Jvm.ClassFile.FieldType)).before args0 about1 = true := code_word (m := ⟨6, 0⟩) (meth := k6m0) (c := k6c0) (by decide +kernel) rfl rfl rfl (by decide +kernel)
set_option maxRecDepth 65536 in
theorem w_c3 : (Jvm.Cond.code ({ cls := "java/io/OutputStream", name := "<init>", desc := "()V" } : Jvm.MethodName) jdk_2038_method_1_code (1 : Nat) (Option.none : Option Jvm.ClassFile.FieldType)).before args0 about1 = true := code_word (m := ⟨5, 0⟩) (meth := k5m0) (c := k5c0) (by decide +kernel) rfl rfl rfl (by decide +kernel)
set_option maxRecDepth 65536 in
theorem w_c4 : (Jvm.Cond.code ({ cls := "java/lang/Object", name := "<init>", desc := "()V" } : Jvm.MethodName) object_method_1_code (1 : Nat) (Option.none : Option Jvm.ClassFile.FieldType)).before args0 about1 = true := code_word (m := ⟨0, 0⟩) (meth := k0m0) (c := k0c0) (by decide +kernel) rfl rfl rfl (by decide +kernel)
set_option maxRecDepth 65536 in
theorem w_c5 : (Jvm.Cond.code ({ cls := "java/lang/Math", name := "min", desc := "(JJ)J" } : Jvm.MethodName) jdk_29_method_70_code (4 : Nat) (Option.some Jvm.ClassFile.FieldType.long)).before args0 about1 = true := code_word (m := ⟨7, 2⟩) (meth := k7m2) (c := k7c2) (by decide +kernel) rfl rfl rfl (by decide +kernel)
set_option maxRecDepth 65536 in
theorem w_c6 : (Jvm.Cond.code ({ cls := "com/example/frozen_stream/frozenstream/rdf/Document", name := "write", desc := "([BII)V" } : Jvm.MethodName) prog_8_method_6_code (6 : Nat) (Option.none : Option Jvm.ClassFile.FieldType)).before args0 about1 = true := code_word (m := ⟨6, 2⟩) (meth := k6m2) (c := k6c2) (by decide +kernel) rfl rfl rfl (by decide +kernel)
set_option maxRecDepth 65536 in
theorem w_c7 : (Jvm.Cond.code ({ cls := "com/example/frozen_stream/frozenstream/rdf/Document", name := "keep", desc := "([BII)V" } : Jvm.MethodName) prog_8_method_8_code (6 : Nat) (Option.none : Option Jvm.ClassFile.FieldType)).before args0 about1 = true := code_word (m := ⟨6, 4⟩) (meth := k6m4) (c := k6c4) (by decide +kernel) rfl rfl rfl (by decide +kernel)
set_option maxRecDepth 65536 in
theorem w_c8 : (Jvm.Cond.code ({ cls := "com/example/frozen_stream/frozenstream/rdf/Document", name := "unindented", desc := "()[B" } : Jvm.MethodName) prog_8_method_4_code (1 : Nat) (Option.some (Jvm.ClassFile.FieldType.array Jvm.ClassFile.FieldType.byte))).before args0 about1 = true := code_word (m := ⟨6, 1⟩) (meth := k6m1) (c := k6c1) (by decide +kernel) rfl rfl rfl (by decide +kernel)
set_option maxRecDepth 65536 in
theorem w_c9 : (Jvm.Cond.code ({ cls := "java/util/Arrays", name := "copyOf", desc := "([BI)[B" } : Jvm.MethodName) jdk_65_method_121_code (3 : Nat) (Option.some (Jvm.ClassFile.FieldType.array Jvm.ClassFile.FieldType.byte))).before args0 about1 = true := code_word (m := ⟨9, 1⟩) (meth := k9m1) (c := k9c1) (by decide +kernel) rfl rfl rfl (by decide +kernel)
set_option maxRecDepth 65536 in
theorem w_c10 : (Jvm.Cond.code ({ cls := "java/lang/Math", name := "min", desc := "(II)I" } : Jvm.MethodName) jdk_29_method_69_code (2 : Nat) (Option.some Jvm.ClassFile.FieldType.int)).before args0 about1 = true := code_word (m := ⟨7, 1⟩) (meth := k7m1) (c := k7c1) (by decide +kernel) rfl rfl rfl (by decide +kernel)
set_option maxRecDepth 65536 in
theorem w_c11 : (Jvm.Cond.code ({ cls := "com/example/frozen_stream/frozenstream/rdf/DocumentUnindentedPinLaw", name := "put", desc := "([BIB)I" } : Jvm.MethodName) method_3_code (5 : Nat) (Option.some Jvm.ClassFile.FieldType.int)).before args0 about1 = true := code_word (m := ⟨1, 2⟩) (meth := k1m2) (c := k1c2) (by decide +kernel) rfl rfl rfl (by decide +kernel)
set_option maxRecDepth 65536 in
theorem w_c12 : (Jvm.Cond.code ({ cls := "com/example/frozen_stream/frozenstream/rdf/DocumentUnindentedPinLaw", name := "eqAt", desc := "([B[BII)Z" } : Jvm.MethodName) method_4_code (4 : Nat) (Option.some Jvm.ClassFile.FieldType.boolean)).before args0 about1 = true := code_word (m := ⟨1, 3⟩) (meth := k1m3) (c := k1c3) (by decide +kernel) rfl rfl rfl (by decide +kernel)
set_option maxRecDepth 65536 in
theorem w_c13 : (Jvm.Cond.code ({ cls := "com/example/frozen_stream/frozenstream/rdf/Document", name := "beginLine", desc := "()V" } : Jvm.MethodName) prog_8_method_7_code (1 : Nat) (Option.none : Option Jvm.ClassFile.FieldType)).before args0 about1 = true := code_word (m := ⟨6, 3⟩) (meth := k6m3) (c := k6c3) (by decide +kernel) rfl rfl rfl (by decide +kernel)
def codes1 : List Jvm.Cond := [Jvm.Cond.code x code maxLocals ret, Jvm.Cond.code ({ cls := "com/example/frozen_stream/frozenstream/rdf/DocumentUnindentedPinLaw", name := "draw", desc := "(JI)B" } : Jvm.MethodName) method_2_code (5 : Nat) (Option.some Jvm.ClassFile.FieldType.byte), Jvm.Cond.code ({ cls := "com/example/frozen_stream/frozenstream/rdf/Document", name := "<init>", desc := "(J)V" } : Jvm.MethodName) prog_8_method_1_code (3 : Nat) (Option.none : Option Jvm.ClassFile.FieldType), Jvm.Cond.code ({ cls := "java/io/OutputStream", name := "<init>", desc := "()V" } : Jvm.MethodName) jdk_2038_method_1_code (1 : Nat) (Option.none : Option Jvm.ClassFile.FieldType), Jvm.Cond.code ({ cls := "java/lang/Object", name := "<init>", desc := "()V" } : Jvm.MethodName) object_method_1_code (1 : Nat) (Option.none : Option Jvm.ClassFile.FieldType), Jvm.Cond.code ({ cls := "java/lang/Math", name := "min", desc := "(JJ)J" } : Jvm.MethodName) jdk_29_method_70_code (4 : Nat) (Option.some Jvm.ClassFile.FieldType.long), Jvm.Cond.code ({ cls := "com/example/frozen_stream/frozenstream/rdf/Document", name := "write", desc := "([BII)V" } : Jvm.MethodName) prog_8_method_6_code (6 : Nat) (Option.none : Option Jvm.ClassFile.FieldType), Jvm.Cond.code ({ cls := "com/example/frozen_stream/frozenstream/rdf/Document", name := "keep", desc := "([BII)V" } : Jvm.MethodName) prog_8_method_8_code (6 : Nat) (Option.none : Option Jvm.ClassFile.FieldType), Jvm.Cond.code ({ cls := "com/example/frozen_stream/frozenstream/rdf/Document", name := "unindented", desc := "()[B" } : Jvm.MethodName) prog_8_method_4_code (1 : Nat) (Option.some (Jvm.ClassFile.FieldType.array Jvm.ClassFile.FieldType.byte)), Jvm.Cond.code ({ cls := "java/util/Arrays", name := "copyOf", desc := "([BI)[B" } : Jvm.MethodName) jdk_65_method_121_code (3 : Nat) (Option.some (Jvm.ClassFile.FieldType.array Jvm.ClassFile.FieldType.byte)), Jvm.Cond.code ({ cls := "java/lang/Math", name := "min", desc := "(II)I" } : Jvm.MethodName) jdk_29_method_69_code (2 : Nat) (Option.some Jvm.ClassFile.FieldType.int), Jvm.Cond.code ({ cls := "com/example/frozen_stream/frozenstream/rdf/DocumentUnindentedPinLaw", name := "put", desc := "([BIB)I" } : Jvm.MethodName) method_3_code (5 : Nat) (Option.some Jvm.ClassFile.FieldType.int), Jvm.Cond.code ({ cls := "com/example/frozen_stream/frozenstream/rdf/DocumentUnindentedPinLaw", name := "eqAt", desc := "([B[BII)Z" } : Jvm.MethodName) method_4_code (4 : Nat) (Option.some Jvm.ClassFile.FieldType.boolean), Jvm.Cond.code ({ cls := "com/example/frozen_stream/frozenstream/rdf/Document", name := "beginLine", desc := "()V" } : Jvm.MethodName) prog_8_method_7_code (1 : Nat) (Option.none : Option Jvm.ClassFile.FieldType)]
set_option maxRecDepth 65536 in
theorem codes_eq : words1.filter isCode = codes1 := rfl
theorem w_codes : ∀ c ∈ words1.filter isCode, c.before args0 about1 = true := by
  rw [codes_eq]
  intro c hc
  simp only [codes1, List.mem_cons, List.not_mem_nil, or_false] at hc
  rcases hc with rfl | rfl | rfl | rfl | rfl | rfl | rfl | rfl | rfl | rfl | rfl | rfl | rfl | rfl
  · exact w_c0
  · exact w_c1
  · exact w_c2
  · exact w_c3
  · exact w_c4
  · exact w_c5
  · exact w_c6
  · exact w_c7
  · exact w_c8
  · exact w_c9
  · exact w_c10
  · exact w_c11
  · exact w_c12
  · exact w_c13
set_option maxRecDepth 65536 in
theorem w_t1 : (words1.take 24).all (fun c => isCode c || c.before args0 about1) = true := by decide +kernel
set_option maxRecDepth 65536 in
theorem w_t2 : ((words1.drop 24).take 24).all (fun c => isCode c || c.before args0 about1) = true := by decide +kernel
set_option maxRecDepth 65536 in
theorem w_t3 : (((words1.drop 24).drop 24).take 24).all (fun c => isCode c || c.before args0 about1) = true := by decide +kernel
set_option maxRecDepth 65536 in
theorem w_t4 : (((words1.drop 24).drop 24).drop 24).all (fun c => isCode c || c.before args0 about1) = true := by decide +kernel
theorem w_tables : (allAtoms (Jvm.Cond.code x code maxLocals ret :: tables_1)).before args0 about1 = true := by
  rw [allAtoms_all]
  show words1.all (fun c => c.before args0 about1) = true
  refine all_split ?_ w_codes
  rw [← List.take_append_drop 24 words1, List.all_append, w_t1, ← List.take_append_drop 24 (words1.drop 24), List.all_append, w_t2, ← List.take_append_drop 24 ((words1.drop 24).drop 24), List.all_append, w_t3, w_t4]
  rfl
set_option maxRecDepth 65536 in
theorem w_case : (Jvm.Cond.and given_1 narrow_1).before args0 about1 = true := by decide +kernel
theorem w_applies : (headSpec (Jvm.Cond.code x code maxLocals ret :: tables_1) room_1).applies x e0.platform about1 = true :=
  (Spec.applies_iff w_frames).mpr ⟨w_running, w_runnable, w_alone, w_named, w_hears, w_ripe, w_room, w_tables⟩
theorem atStart : AtStart classFile x code maxLocals ret World_1 tables_1 room_1 Calls_1 rest_1 Pre_1 launch0 p0 e0 about1 theMethod args0 below0 :=
  ⟨lists_1, trivial, launch0.admits_env _ _ _, launch0.least_env, fairChoices_fair.cas, fairChoices_fair.clock, w_frames, w_args, w_heap, w_applies, trivial, trivial, w_case⟩
end start1
theorem witness_1 : WitnessClaimed_1 := ⟨start1.p0, start1.e0, start1.about1, start1.theMethod, start1.args0, start1.below0, start1.atStart⟩
end Jvm.Pilot.@@N@@
