import JvmDerived
import JvmDerived.Pilot.@@N@@Statement
import JvmDerived.Pilot.@@N@@Code
set_option linter.unusedVariables false
set_option linter.unusedSimpArgs false
@@BLOCK:NumsL.lean.txt@@
namespace Jvm.RoadKit
open Sem ClassFile Op Lib Jvm.Stand Jvm.Free Jvm.LawKit
section New
variable {p : Program} {l : Launch} {e : Env} {R : Room} {s : State} {m : MethodId} {args : Array Value} {below : List Frame} {meth : Method} {c : Code} {T : State} {locs : List Loc} {cells slots : Nat}
theorem retI (X : Stand p l e R s m args below meth c T locs cells slots) (hx : p.tables.exec = Jvm.exec) {pc : Nat} {Ls : Array Slot} {z : Int32} {rest : List Value} (hret : meth.sig.returnType = some .int) (hd : decode c.code pc = .ok (.ireturn, 1)) {fs : List Frame}
    (hl : ∀ (f : JFrame) (acts : List Action), f.method = m → f.locked = none → f.entered = [] → (doReturn e (T.setTop f) acts (some (.int z))).1 = T.setFrames fs) : Steps p.tables e below (T.setTop (mkF m pc Ls (.int z :: rest))) (T.setFrames fs) := by
  have hm' : T.vm.method? m = some meth := X.method'
  have hn : narrow .int (.int z) = .int z := rfl
  show Steps p.tables e below (T.setTop { method := m, pc := pc, locals := Ls, stack := _ :: rest, locked := none }) _
  jvm_step X.here [X.here.top, hx, hd, hm', hret, hn]
  first | (intro acts; rw [hl _ acts rfl rfl rfl]) | rw [hl _ _ rfl rfl rfl]
  exact Steps.refl _
end New
end Jvm.RoadKit
namespace Jvm.OwnRuns
open Jvm Sem ClassFile Op Lib Jvm.Stand Jvm.Free Jvm.LawKit Jvm.RoadKit
/-- from the state T the invocation comes to its end, and there Φ holds -/
def Runs (tb : Tables) (e : Env) (below : List Frame) (Φ : Outcome → State → Prop) (T : State) : Prop := ∃ s₂ o, Steps tb e below T s₂ ∧ s₂.status = .running ∧ Ended s₂ below o ∧ Φ o s₂
abbrev Phi (s : State) (Q : Option Value → Heap → List Loc → Prop) (k n : Nat) (o : Outcome) (U' : State) : Prop := ∃ v L, o = .returned v ∧ Q v U'.heap L ∧ FrameEnd s o U' L k n
theorem Runs.st {tb : Tables} {e : Env} {below : List Frame} {Φ : Outcome → State → Prop} {T T' : State} (h : ∀ t, Steps tb e below T' t → Steps tb e below T t) (r : Runs tb e below Φ T') : Runs tb e below Φ T := by
  obtain ⟨a, o, h1, h2⟩ := r
  exact ⟨a, o, h a h1, h2⟩
theorem Runs.tr {tb : Tables} {e : Env} {below : List Frame} {Φ : Outcome → State → Prop} {T T' : State} (h : Steps tb e below T T') (r : Runs tb e below Φ T') : Runs tb e below Φ T := Runs.st (fun _ k => h.trans k) r
section Laws
variable {p : Program} {l : Launch} {e : Env} {R : Room} {s : State} {m : MethodId} {args : Array Value} {below : List Frame} {meth : Method} {c : Code} {T : State} {locs : List Loc} {cells slots : Nat}
theorem Runs.ret (X : Stand p l e R s m args below meth c T locs cells slots) (hlk : meth.locks = false) {v : Option Value} (hv : meth.sig.returnType = none → v = none) {Q : Option Value → Heap → List Loc → Prop} {k n : Nat} (hk : cells ≤ k) (hn : slots ≤ n) (hQ : Q v T.heap locs) {T0 : State}
    (hst : ∀ fs : List Frame, (∀ (f : JFrame) (acts : List Action), f.method = m → f.locked = none → f.entered = [] → (doReturn e (T.setTop f) acts v).1 = T.setFrames fs) → Steps p.tables e below T0 (T.setFrames fs)) : Runs p.tables e below (Phi s Q k n) T0 := by
  obtain ⟨fs, hr, hrun, hended, hW, hsame⟩ := X.leave hv hlk
  exact ⟨_, _, hst fs hr, hrun, hended, _, _, rfl, hQ, ⟨_, rfl⟩, hW, hsame.mono hk hn⟩
theorem wider (X : Stand p l e R s m args below meth c T locs cells slots) {c' s' : Nat} (hc : cells ≤ c') (hs : slots ≤ s') : Stand p l e R s m args below meth c T locs c' s' := { X with same := X.same.mono hc hs }
abbrev PhiW (s : State) (Q : Option Value → Heap → List Loc → Prop) (k n : Nat) (o : Outcome) (U' : State) : Prop := ∃ v L, o = .returned v ∧ Q v U'.heap L ∧ ReturnedEndW s o U' L k n
theorem Runs.retW {vm₁ : Vm} (X : Stand p l e R (s.setVm vm₁) m args below meth c T locs cells slots) {n1 : Nat} (hS : s.Since vm₁ n1) (hk1 : n1 ≤ T.heap.size) (hlk : meth.locks = false) {v : Option Value} (hv : meth.sig.returnType = none → v = none) {Q : Option Value → Heap → List Loc → Prop} {k n : Nat} (hk : cells ≤ k) (hn : slots ≤ n) (hQ : Q v T.heap locs) {T0 : State}
    (hst : ∀ fs : List Frame, (∀ (f : JFrame) (acts : List Action), f.method = m → f.locked = none → f.entered = [] → (doReturn e (T.setTop f) acts v).1 = T.setFrames fs) → Steps p.tables e below T0 (T.setFrames fs)) : Runs p.tables e below (PhiW s Q k n) T0 := by
  obtain ⟨fs, hr, hrun, hended, hW⟩ := (wider X hk hn).leaveW hS hk1 hv hlk
  exact ⟨_, _, hst fs hr, hrun, hended, _, _, rfl, hQ, hW⟩
abbrev PhiH (Z : State) (EL : List (String × Nat)) (s : State) (Q : Option Value → Heap → List Loc → Prop) (k n : Nat) (o : Outcome) (U' : State) : Prop := ∃ v L, o = .returned v ∧ Q v U'.heap L ∧ CHr Z EL s.vm s.heap U'.vm U'.heap ∧ ReturnedEndW s o U' L k n
theorem Runs.retH {Z : State} {EL : List (String × Nat)} {vm₁ : Vm} (X : Stand p l e R (s.setVm vm₁) m args below meth c T locs cells slots) {n1 : Nat} (hS : s.Since vm₁ n1) (hk1 : n1 ≤ T.heap.size) (hlk : meth.locks = false) {v : Option Value} (hv : meth.sig.returnType = none → v = none) {Q : Option Value → Heap → List Loc → Prop} {k n : Nat} (hk : cells ≤ k) (hn : slots ≤ n) (hQ : Q v T.heap locs) (hC : CHr Z EL s.vm s.heap T.vm T.heap) {T0 : State}
    (hst : ∀ fs : List Frame, (∀ (f : JFrame) (acts : List Action), f.method = m → f.locked = none → f.entered = [] → (doReturn e (T.setTop f) acts v).1 = T.setFrames fs) → Steps p.tables e below T0 (T.setFrames fs)) : Runs p.tables e below (PhiH Z EL s Q k n) T0 := by
  obtain ⟨fs, hr, hrun, hended, hW⟩ := (wider X hk hn).leaveW hS hk1 hv hlk
  exact ⟨_, _, hst fs hr, hrun, hended, _, _, rfl, hQ, hC, hW⟩
end Laws
section Facts
variable {Z : State} {h h' : Heap} {a : Addr} {C n d : String} {v : Value} {bo : Bool} {ws : List Addr}
theorem Ins_keep (F : Ins Z h a C bo) (K : Keep h h' ws) : Ins Z h' a C bo := by
  obtain ⟨cell, cT, h1, h2, h3⟩ := F
  obtain ⟨c', e1, e2, e3, -⟩ := K.2.2 _ _ h1
  exact ⟨c', cT, e1, h2, by rw [e2, e3]; exact h3⟩
theorem narrow_ref {t : FieldType} {v : Value} (h : v.isRef = true) : narrow t v = v := by rcases ref_cases h with rfl | ⟨_, rfl⟩ <;> cases t <;> rfl
end Facts
end Jvm.OwnRuns
namespace Jvm.Pilot.@@N@@
open Jvm Jvm.ClassFile Sem Op Lib Jvm.Free Jvm.Stand Jvm.LawKit Jvm.RoadKit Bundle Jvm.OwnRuns Jvm.Pilot.@@N@@.Jvm.D
def Q_rm1 (Z : State) (i0 : Int32) (i1 : Int32)  (h0 : Heap) (n0 : Nat) : Option Value → Heap → List Loc → Prop := (fun v h L => v = some (.long ((((16 : Int64) + ((i0.toInt64) * (i1.toInt64))) + (7 : Int64)) &&& (-8 : Int64))) ∧ Fr n0 L ∧ h = h0)
theorem pn_com_example_attribute_to_audience_attributetoaudience_model_Weights : plainName "com/example/attribute_to_audience/attributetoaudience/model/Weights" = true := by first | (simp [plainName, overriddenIn]; done) | decide +kernel
theorem ef_prog_68_method_4_II (m : MethodId) (x0 : Int32) (x1 : Int32)  : entryFrame m #[(.int x0), (.int x1)] 2 = mkF m 0 #[.val (.int x0), .val (.int x1)] [] := by first | (simp [entryFrame, mkF, argsToLocals, Value.category]; done) | rfl
theorem d_prog_68_method_4_0 : decode prog_68_method_4_code 0 = .ok (.ldc2_w 43, 3) := by decide +kernel
theorem d_prog_68_method_4_3 : decode prog_68_method_4_code 3 = .ok (.iload_n 0, 1) := by decide +kernel
theorem d_prog_68_method_4_4 : decode prog_68_method_4_code 4 = .ok (.i2l, 1) := by decide +kernel
theorem d_prog_68_method_4_5 : decode prog_68_method_4_code 5 = .ok (.iload_n 1, 1) := by decide +kernel
theorem d_prog_68_method_4_6 : decode prog_68_method_4_code 6 = .ok (.i2l, 1) := by decide +kernel
theorem d_prog_68_method_4_7 : decode prog_68_method_4_code 7 = .ok (.lmul, 1) := by decide +kernel
theorem d_prog_68_method_4_8 : decode prog_68_method_4_code 8 = .ok (.ladd, 1) := by decide +kernel
theorem d_prog_68_method_4_9 : decode prog_68_method_4_code 9 = .ok (.ldc2_w 45, 3) := by decide +kernel
theorem d_prog_68_method_4_12 : decode prog_68_method_4_code 12 = .ok (.ladd, 1) := by decide +kernel
theorem d_prog_68_method_4_13 : decode prog_68_method_4_code 13 = .ok (.ldc2_w 47, 3) := by decide +kernel
theorem d_prog_68_method_4_16 : decode prog_68_method_4_code 16 = .ok (.land, 1) := by decide +kernel
theorem d_prog_68_method_4_17 : decode prog_68_method_4_code 17 = .ok (.lreturn, 1) := by decide +kernel
set_option maxRecDepth 65536 in
set_option maxHeartbeats 40000000 in
theorem rm1 (l : Launch) (Z : State) (a0 : Array Value) (hw : ∀ d ∈ tables_1, d.before a0 Z = true) (ws : List Jvm.Cond) (i0 : Int32) (i1 : Int32)  (h0 : Heap) (n0 : Nat) (Z0 : n0 ≤ h0.size)  :
    MetFree l (⟨"com/example/attribute_to_audience/attributetoaudience/model/Weights", "array", "(II)J"⟩ : MethodName) (head1 (Jvm.Cond.code (⟨"com/example/attribute_to_audience/attributetoaudience/model/Weights", "array", "(II)J"⟩ : MethodName) prog_68_method_4_code 2 (some .long) :: ws) ({ frames := 0, cells := 0, slots := 0, locals := 0 } : Room)) (fun ar_ U => ar_ = #[(.int i0), (.int i1)] ∧ Z.Warmed39 U.vm ∧ U.heap = h0) (fun _ _ _ _ _ => True) (fun _ U o U' => Phi U (Q_rm1 Z i0 i1 h0 n0) ({ frames := 0, cells := 0, slots := 0, locals := 0 } : Room).cells ({ frames := 0, cells := 0, slots := 0, locals := 0 } : Room).slots o U') := by
  refine MetFree.of_bodySF (plainFor_of_name pn_com_example_attribute_to_audience_attributetoaudience_model_Weights) hisR ?_
  intro p e s m args below meth c s₁ Bd hml0 hP hK
  obtain ⟨rfl, hZ, hh⟩ := hP
  have hx := Bd.exec
  have hby := Bd.bytes
  have hlk := Bd.notSynchronized
  have hml : c.maxLocals = 2 := hml0
  have hown : s.vm.findClass "com/example/attribute_to_audience/attributetoaudience/model/Weights" = some m.cls := findClass_of_methodNamed Bd.named
  have hown0 := hown
  have hnm := (name_of_methodNamed Bd.named Bd.method).1
  have hret := Bd.returns
  have X0 : Stand p l e ({ frames := 0, cells := 0, slots := 0, locals := 0 } : Room) s m #[(.int i0), (.int i1)] below meth c s₁ [] 0 0 := Stand.of_body Bd
  have e0 : s₁.heap = h0 := by rw [← hh, Bd.state]; rfl
  have N0 := Fr.nil n0
  have sz := Z0
  have K := Keep.refl h0 []
  show Runs p.tables e below (Phi s (Q_rm1 Z i0 i1 h0 n0) ({ frames := 0, cells := 0, slots := 0, locals := 0 } : Room).cells ({ frames := 0, cells := 0, slots := 0, locals := 0 } : Room).slots) _
  refine Runs.st (fun t' k' => castTop (ef_prog_68_method_4_II m i0 i1 ) k') ?_
  show Runs p.tables e below _ (s₁.setTop (mkF m 0 #[.val (.int i0), .val (.int i1)] []))
  refine Runs.st (fun t' k' => X0.ldc2Long hx hown (mvT hZ (hw _ (List.mem_of_getElem? (i := 5) rfl))) (g := (mkF m 0 #[.val (.int i0), .val (.int i1)] [])) rfl (hb hby d_prog_68_method_4_0) t' k') ?_
  show Runs p.tables e below _ (s₁.setTop (mkF m 3 #[.val (.int i0), .val (.int i1)] [(.long (16 : Int64))]))
  refine Runs.st (fun t' k' => XS.iloadN X0.here hx rfl (hb hby d_prog_68_method_4_3) rfl k') ?_
  show Runs p.tables e below _ (s₁.setTop (mkF m 4 #[.val (.int i0), .val (.int i1)] [(.int i0), (.long (16 : Int64))]))
  refine Runs.st (fun t' k' => XS.i2l X0.here hx rfl (hb hby d_prog_68_method_4_4) rfl k') ?_
  show Runs p.tables e below _ (s₁.setTop (mkF m 5 #[.val (.int i0), .val (.int i1)] [(.long (i0.toInt64)), (.long (16 : Int64))]))
  refine Runs.st (fun t' k' => XS.iloadN X0.here hx rfl (hb hby d_prog_68_method_4_5) rfl k') ?_
  show Runs p.tables e below _ (s₁.setTop (mkF m 6 #[.val (.int i0), .val (.int i1)] [(.int i1), (.long (i0.toInt64)), (.long (16 : Int64))]))
  refine Runs.st (fun t' k' => XS.i2l X0.here hx rfl (hb hby d_prog_68_method_4_6) rfl k') ?_
  show Runs p.tables e below _ (s₁.setTop (mkF m 7 #[.val (.int i0), .val (.int i1)] [(.long (i1.toInt64)), (.long (i0.toInt64)), (.long (16 : Int64))]))
  refine Runs.st (fun t' k' => XS.lmul X0.here hx rfl (hb hby d_prog_68_method_4_7) rfl k') ?_
  show Runs p.tables e below _ (s₁.setTop (mkF m 8 #[.val (.int i0), .val (.int i1)] [(.long ((i0.toInt64) * (i1.toInt64))), (.long (16 : Int64))]))
  refine Runs.st (fun t' k' => XS.ladd X0.here hx rfl (hb hby d_prog_68_method_4_8) rfl k') ?_
  show Runs p.tables e below _ (s₁.setTop (mkF m 9 #[.val (.int i0), .val (.int i1)] [(.long ((16 : Int64) + ((i0.toInt64) * (i1.toInt64))))]))
  refine Runs.st (fun t' k' => X0.ldc2Long hx hown (mvT hZ (hw _ (List.mem_of_getElem? (i := 6) rfl))) (g := (mkF m 9 #[.val (.int i0), .val (.int i1)] [(.long ((16 : Int64) + ((i0.toInt64) * (i1.toInt64))))])) rfl (hb hby d_prog_68_method_4_9) t' k') ?_
  show Runs p.tables e below _ (s₁.setTop (mkF m 12 #[.val (.int i0), .val (.int i1)] [(.long (7 : Int64)), (.long ((16 : Int64) + ((i0.toInt64) * (i1.toInt64))))]))
  refine Runs.st (fun t' k' => XS.ladd X0.here hx rfl (hb hby d_prog_68_method_4_12) rfl k') ?_
  show Runs p.tables e below _ (s₁.setTop (mkF m 13 #[.val (.int i0), .val (.int i1)] [(.long (((16 : Int64) + ((i0.toInt64) * (i1.toInt64))) + (7 : Int64)))]))
  refine Runs.st (fun t' k' => X0.ldc2Long hx hown (mvT hZ (hw _ (List.mem_of_getElem? (i := 7) rfl))) (g := (mkF m 13 #[.val (.int i0), .val (.int i1)] [(.long (((16 : Int64) + ((i0.toInt64) * (i1.toInt64))) + (7 : Int64)))])) rfl (hb hby d_prog_68_method_4_13) t' k') ?_
  show Runs p.tables e below _ (s₁.setTop (mkF m 16 #[.val (.int i0), .val (.int i1)] [(.long (-8 : Int64)), (.long (((16 : Int64) + ((i0.toInt64) * (i1.toInt64))) + (7 : Int64)))]))
  refine Runs.st (fun t' k' => XS.land X0.here hx rfl (hb hby d_prog_68_method_4_16) rfl k') ?_
  show Runs p.tables e below _ (s₁.setTop (mkF m 17 #[.val (.int i0), .val (.int i1)] [(.long ((((16 : Int64) + ((i0.toInt64) * (i1.toInt64))) + (7 : Int64)) &&& (-8 : Int64)))]))
  refine Runs.ret X0 hlk (v := (some (.long ((((16 : Int64) + ((i0.toInt64) * (i1.toInt64))) + (7 : Int64)) &&& (-8 : Int64))))) (fun h => by rw [hret] at h; cases h) (by decide) (by decide) ?_ (fun fs hr => retOut X0 hx hret rfl (Or.inr (Or.inl ⟨rfl, rfl, _, rfl⟩)) (hb hby d_prog_68_method_4_17) hr)
  try rw [e0]
  exact ⟨rfl, N0, rfl⟩
theorem own_split (x : Int64) : x &&& (-8) = x - (x &&& 7) := by
  have h : (x.toBitVec &&& 7#64) + (x.toBitVec &&& ~~~(7#64)) = x.toBitVec := by
    rw [BitVec.add_eq_or_of_and_eq_zero]
    · rw [← BitVec.and_or_distrib_left]; exact BitVec.and_allOnes
    · rw [BitVec.and_assoc, BitVec.and_comm (7#64), BitVec.and_assoc]; simp
  apply Int64.toBitVec_inj.mp
  show x.toBitVec &&& ~~~(7#64) = x.toBitVec - (x.toBitVec &&& 7#64)
  rw [BitVec.eq_sub_iff_add_eq, BitVec.add_comm]
  exact h
theorem own_zero (x : Int64) : (x &&& (-8)) &&& 7 = 0 := by
  apply Int64.toBitVec_inj.mp
  show (x.toBitVec &&& ~~~(7#64)) &&& 7#64 = 0#64
  rw [BitVec.and_assoc]; simp
theorem own_raw (a b : Int32) : ((16 : Int64) + a.toInt64 * b.toInt64).toInt = 16 + a.toInt * b.toInt ∧ -2 ^ 62 ≤ a.toInt * b.toInt ∧ a.toInt * b.toInt ≤ 2 ^ 62 := by
  have h1 := rng32 a
  have h2 := rng32 b
  have m := mc h1.1 (Int.le_of_lt h1.2) h2.1 (Int.le_of_lt h2.2)
  have e1 : (a.toInt64 * b.toInt64).toInt = a.toInt * b.toInt := by
    rw [Jvm.Kit.i64_mul] <;> rw [c_i2l, c_i2l] <;> omega
  refine ⟨?_, by omega, by omega⟩
  rw [Jvm.Kit.i64_add] <;> rw [e1] <;> first | rfl | (show _ ≤ (16 : Int) + _; omega) | (show (16 : Int) + _ < _; omega)
theorem own_slack (x : Int64) (h1 : -2 ^ 62 ≤ x.toInt) (h2 : x.toInt ≤ 2 ^ 62 + 16) : ((x + 7 &&& (-8)) - x).toInt = 7 - (x.toInt + 7) % 8 := by
  have e1 : (x + 7).toInt = x.toInt + 7 := Jvm.Kit.i64_add (by show _ ≤ x.toInt + (7 : Int); omega) (by show x.toInt + (7 : Int) < _; omega)
  have e2 : ((x + 7) &&& 7).toInt = (x + 7).toInt % 2 ^ 3 := Jvm.Kit.i64_mask _ 7 (k := 3) (by decide) (by decide)
  rw [own_split, Jvm.Kit.i64_sub, Jvm.Kit.i64_sub, e2, e1] <;> (try rw [Jvm.Kit.i64_sub]) <;> (try rw [e2, e1]) <;> omega
theorem pn_com_example_attribute_to_audience_attributetoaudience_model_WeightsArrayPinLaw : plainName "com/example/attribute_to_audience/attributetoaudience/model/WeightsArrayPinLaw" = true := by first | (simp [plainName, overriddenIn]; done) | decide +kernel
theorem ef_0_II (m : MethodId) (x0 : Int32) (x1 : Int32)  : entryFrame m #[(.int x0), (.int x1)] maxLocals = mkF m 0 #[.val (.int x0), .val (.int x1), .unset, .unset, .unset, .unset, .unset, .unset, .unset, .unset, .unset] [] := by first | (simp [entryFrame, mkF, argsToLocals, Value.category, maxLocals]; done) | rfl
theorem pd__28II_29J : parseMethodDescriptor "(II)J" = some ⟨[.int, .int], some .long⟩ := by decide +kernel
set_option maxRecDepth 65536 in
set_option maxHeartbeats 40000000 in
theorem rm0 (l : Launch) (Z : State) (a0 : Array Value) (hw : ∀ d ∈ tables_1, d.before a0 Z = true) (ws : List Jvm.Cond) (i0 : Int32) (i1 : Int32)  (h0 : Heap) (n0 : Nat) (Z0 : n0 ≤ h0.size)  :
    MetFree l x (head1 (Jvm.Cond.code x code maxLocals ret :: ws) room_1) (fun ar_ U => ar_ = #[(.int i0), (.int i1)] ∧ Z.Warmed39 U.vm ∧ U.heap = h0) (fun _ _ _ _ _ => True) (fun _ U o U' => Phi U (fun v h L => v = some (.int 1) ∧ Fr n0 L) room_1.cells room_1.slots o U') := by
  refine MetFree.of_bodySF (plainFor_of_name pn_com_example_attribute_to_audience_attributetoaudience_model_WeightsArrayPinLaw) hisR ?_
  intro p e s m args below meth c s₁ Bd hml0 hP hK
  obtain ⟨rfl, hZ, hh⟩ := hP
  have hx := Bd.exec
  have hby := Bd.bytes
  have hlk := Bd.notSynchronized
  have hml : c.maxLocals = 11 := hml0
  have hown : s.vm.findClass "com/example/attribute_to_audience/attributetoaudience/model/WeightsArrayPinLaw" = some m.cls := findClass_of_methodNamed Bd.named
  have hown0 := hown
  have hnm := (name_of_methodNamed Bd.named Bd.method).1
  have hret := Bd.returns
  have X0 : Stand p l e room_1 s m #[(.int i0), (.int i1)] below meth c s₁ [] 0 0 := Stand.of_body Bd
  have e0 : s₁.heap = h0 := by rw [← hh, Bd.state]; rfl
  have N0 := Fr.nil n0
  have sz := Z0
  have K := Keep.refl h0 []
  show Runs p.tables e below (Phi s (fun v h L => v = some (.int 1) ∧ Fr n0 L) room_1.cells room_1.slots) _
  refine Runs.st (fun t' k' => castTop (ef_0_II m i0 i1 ) k') ?_
  show Runs p.tables e below _ (s₁.setTop (mkF m 0 #[.val (.int i0), .val (.int i1), .unset, .unset, .unset, .unset, .unset, .unset, .unset, .unset, .unset] []))
  obtain ⟨o1, o2, o3⟩ := own_raw i0 i1
  have s1 := own_slack ((16 : Int64) + i0.toInt64 * i1.toInt64) (by rw [o1]; omega) (by rw [o1]; omega)
  have q1 : ((((16 : Int64) + ((i0.toInt64) * (i1.toInt64))) + (7 : Int64)) &&& (-8 : Int64)) &&& (7 : Int64) = (0 : Int64) := own_zero _
  have q2 : ¬ (((((16 : Int64) + ((i0.toInt64) * (i1.toInt64))) + (7 : Int64)) &&& (-8 : Int64)) - ((16 : Int64) + ((i0.toInt64) * (i1.toInt64))) < (0 : Int64)) := by rw [Int64.lt_iff_toInt_lt]; show ¬ ((((((16 : Int64) + ((i0.toInt64) * (i1.toInt64))) + (7 : Int64)) &&& (-8 : Int64)) - ((16 : Int64) + ((i0.toInt64) * (i1.toInt64)))).toInt < (0 : Int)); rw [s1]; omega
  have q3 : ¬ ((7 : Int64) < ((((16 : Int64) + ((i0.toInt64) * (i1.toInt64))) + (7 : Int64)) &&& (-8 : Int64)) - ((16 : Int64) + ((i0.toInt64) * (i1.toInt64)))) := by rw [Int64.lt_iff_toInt_lt]; show ¬ ((7 : Int) < (((((16 : Int64) + ((i0.toInt64) * (i1.toInt64))) + (7 : Int64)) &&& (-8 : Int64)) - ((16 : Int64) + ((i0.toInt64) * (i1.toInt64)))).toInt); rw [s1]; omega
  refine Runs.st (fun t' k' => X0.ldc2Long hx hown (mvT hZ (hw _ (List.mem_of_getElem? (i := 0) rfl))) (g := (mkF m 0 #[.val (.int i0), .val (.int i1), .unset, .unset, .unset, .unset, .unset, .unset, .unset, .unset, .unset] [])) rfl (hb hby at_0) t' k') ?_
  show Runs p.tables e below _ (s₁.setTop (mkF m 3 #[.val (.int i0), .val (.int i1), .unset, .unset, .unset, .unset, .unset, .unset, .unset, .unset, .unset] [(.long (16 : Int64))]))
  refine Runs.st (fun t' k' => XS.iloadN X0.here hx rfl (hb hby at_3) rfl k') ?_
  show Runs p.tables e below _ (s₁.setTop (mkF m 4 #[.val (.int i0), .val (.int i1), .unset, .unset, .unset, .unset, .unset, .unset, .unset, .unset, .unset] [(.int i0), (.long (16 : Int64))]))
  refine Runs.st (fun t' k' => XS.i2l X0.here hx rfl (hb hby at_4) rfl k') ?_
  show Runs p.tables e below _ (s₁.setTop (mkF m 5 #[.val (.int i0), .val (.int i1), .unset, .unset, .unset, .unset, .unset, .unset, .unset, .unset, .unset] [(.long (i0.toInt64)), (.long (16 : Int64))]))
  refine Runs.st (fun t' k' => XS.iloadN X0.here hx rfl (hb hby at_5) rfl k') ?_
  show Runs p.tables e below _ (s₁.setTop (mkF m 6 #[.val (.int i0), .val (.int i1), .unset, .unset, .unset, .unset, .unset, .unset, .unset, .unset, .unset] [(.int i1), (.long (i0.toInt64)), (.long (16 : Int64))]))
  refine Runs.st (fun t' k' => XS.i2l X0.here hx rfl (hb hby at_6) rfl k') ?_
  show Runs p.tables e below _ (s₁.setTop (mkF m 7 #[.val (.int i0), .val (.int i1), .unset, .unset, .unset, .unset, .unset, .unset, .unset, .unset, .unset] [(.long (i1.toInt64)), (.long (i0.toInt64)), (.long (16 : Int64))]))
  refine Runs.st (fun t' k' => XS.lmul X0.here hx rfl (hb hby at_7) rfl k') ?_
  show Runs p.tables e below _ (s₁.setTop (mkF m 8 #[.val (.int i0), .val (.int i1), .unset, .unset, .unset, .unset, .unset, .unset, .unset, .unset, .unset] [(.long ((i0.toInt64) * (i1.toInt64))), (.long (16 : Int64))]))
  refine Runs.st (fun t' k' => XS.ladd X0.here hx rfl (hb hby at_8) rfl k') ?_
  show Runs p.tables e below _ (s₁.setTop (mkF m 9 #[.val (.int i0), .val (.int i1), .unset, .unset, .unset, .unset, .unset, .unset, .unset, .unset, .unset] [(.long ((16 : Int64) + ((i0.toInt64) * (i1.toInt64))))]))
  refine Runs.st (fun t' k' => XS.lstoreN X0.here hx rfl (hb hby at_9) rfl (l' := #[.val (.int i0), .val (.int i1), .val (.long ((16 : Int64) + ((i0.toInt64) * (i1.toInt64)))), .second, .unset, .unset, .unset, .unset, .unset, .unset, .unset]) rfl k') ?_
  show Runs p.tables e below _ (s₁.setTop (mkF m 10 #[.val (.int i0), .val (.int i1), .val (.long ((16 : Int64) + ((i0.toInt64) * (i1.toInt64)))), .second, .unset, .unset, .unset, .unset, .unset, .unset, .unset] []))
  refine Runs.st (fun t' k' => XS.iloadN X0.here hx rfl (hb hby at_10) rfl k') ?_
  show Runs p.tables e below _ (s₁.setTop (mkF m 11 #[.val (.int i0), .val (.int i1), .val (.long ((16 : Int64) + ((i0.toInt64) * (i1.toInt64)))), .second, .unset, .unset, .unset, .unset, .unset, .unset, .unset] [(.int i0)]))
  refine Runs.st (fun t' k' => XS.iloadN X0.here hx rfl (hb hby at_11) rfl k') ?_
  show Runs p.tables e below _ (s₁.setTop (mkF m 12 #[.val (.int i0), .val (.int i1), .val (.long ((16 : Int64) + ((i0.toInt64) * (i1.toInt64)))), .second, .unset, .unset, .unset, .unset, .unset, .unset, .unset] [(.int i1), (.int i0)]))
  obtain ⟨_, _, ⟨T1_, L1_, k1_, n1_⟩, -, X1_, ⟨Lc1_, hQ1_, l1_, y1_, z1_⟩, st1_⟩ := Jvm.LawKit.callS X0 hx (y := (⟨"com/example/attribute_to_audience/attributetoaudience/model/Weights", "array", "(II)J"⟩ : MethodName)) hown (mvT hZ (hw _ (List.mem_of_getElem? (i := 1) rfl))) (mvT hZ (hw _ (List.mem_of_getElem? (i := 2) rfl))) (mvT hZ (hw _ (List.mem_of_getElem? (i := 3) rfl))) (mvT hZ (hw _ (List.mem_of_getElem? (i := 4) rfl))) (by decide) (backOf (W := 0) (rm1 l Z a0 hw [] i0 i1 h0 n0 sz) hZ (hw _ (List.mem_of_getElem? (i := 4) rfl)) (hw _ (List.mem_of_getElem? (i := 3) rfl)) (by decide) (by decide)) (g := (mkF m 12 #[.val (.int i0), .val (.int i1), .val (.long ((16 : Int64) + ((i0.toInt64) * (i1.toInt64)))), .second, .unset, .unset, .unset, .unset, .unset, .unset, .unset] [(.int i1), (.int i0)])) rfl (by rw [hml]; rfl) (argsL := [(.int i0), (.int i1)]) (rest := []) (lenOf pd__28II_29J rfl) rfl (by show 2 * 0 + _ ≤ _; exact Nat.le_of_eq rfl) (hb hby at_12) (fun _ _ => ⟨rfl, e0, (by decide : 0 + 0 ≤ _), (by decide : 0 + 0 ≤ _)⟩)
  dsimp only [Pt.U, Pt.locs, Pt.cells, Pt.slots] at X1_ l1_ y1_ z1_ st1_ hQ1_
  subst l1_ y1_ z1_
  obtain ⟨rfl, N1_q, e1_⟩ := hQ1_
  have N1_ := Fr.app N0 N1_q
  refine Runs.st (st1_) ?_
  replace X1_ := wider X1_ (c' := 0) (s' := 0) (by decide) (by decide)
  show Runs p.tables e below _ (T1_.setTop (mkF m 15 #[.val (.int i0), .val (.int i1), .val (.long ((16 : Int64) + ((i0.toInt64) * (i1.toInt64)))), .second, .unset, .unset, .unset, .unset, .unset, .unset, .unset] [(.long ((((16 : Int64) + ((i0.toInt64) * (i1.toInt64))) + (7 : Int64)) &&& (-8 : Int64)))]))
  refine Runs.st (fun t' k' => XS.lstore X1_.here hx rfl (hb hby at_15) rfl (l' := #[.val (.int i0), .val (.int i1), .val (.long ((16 : Int64) + ((i0.toInt64) * (i1.toInt64)))), .second, .val (.long ((((16 : Int64) + ((i0.toInt64) * (i1.toInt64))) + (7 : Int64)) &&& (-8 : Int64))), .second, .unset, .unset, .unset, .unset, .unset]) rfl k') ?_
  show Runs p.tables e below _ (T1_.setTop (mkF m 17 #[.val (.int i0), .val (.int i1), .val (.long ((16 : Int64) + ((i0.toInt64) * (i1.toInt64)))), .second, .val (.long ((((16 : Int64) + ((i0.toInt64) * (i1.toInt64))) + (7 : Int64)) &&& (-8 : Int64))), .second, .unset, .unset, .unset, .unset, .unset] []))
  refine Runs.st (fun t' k' => XS.lload X1_.here hx rfl (hb hby at_17) rfl k') ?_
  show Runs p.tables e below _ (T1_.setTop (mkF m 19 #[.val (.int i0), .val (.int i1), .val (.long ((16 : Int64) + ((i0.toInt64) * (i1.toInt64)))), .second, .val (.long ((((16 : Int64) + ((i0.toInt64) * (i1.toInt64))) + (7 : Int64)) &&& (-8 : Int64))), .second, .unset, .unset, .unset, .unset, .unset] [(.long ((((16 : Int64) + ((i0.toInt64) * (i1.toInt64))) + (7 : Int64)) &&& (-8 : Int64)))]))
  refine Runs.st (fun t' k' => XS.lloadN X1_.here hx rfl (hb hby at_19) rfl k') ?_
  show Runs p.tables e below _ (T1_.setTop (mkF m 20 #[.val (.int i0), .val (.int i1), .val (.long ((16 : Int64) + ((i0.toInt64) * (i1.toInt64)))), .second, .val (.long ((((16 : Int64) + ((i0.toInt64) * (i1.toInt64))) + (7 : Int64)) &&& (-8 : Int64))), .second, .unset, .unset, .unset, .unset, .unset] [(.long ((16 : Int64) + ((i0.toInt64) * (i1.toInt64)))), (.long ((((16 : Int64) + ((i0.toInt64) * (i1.toInt64))) + (7 : Int64)) &&& (-8 : Int64)))]))
  refine Runs.st (fun t' k' => XS.lsub X1_.here hx rfl (hb hby at_20) rfl k') ?_
  show Runs p.tables e below _ (T1_.setTop (mkF m 21 #[.val (.int i0), .val (.int i1), .val (.long ((16 : Int64) + ((i0.toInt64) * (i1.toInt64)))), .second, .val (.long ((((16 : Int64) + ((i0.toInt64) * (i1.toInt64))) + (7 : Int64)) &&& (-8 : Int64))), .second, .unset, .unset, .unset, .unset, .unset] [(.long (((((16 : Int64) + ((i0.toInt64) * (i1.toInt64))) + (7 : Int64)) &&& (-8 : Int64)) - ((16 : Int64) + ((i0.toInt64) * (i1.toInt64)))))]))
  refine Runs.st (fun t' k' => XS.lstore X1_.here hx rfl (hb hby at_21) rfl (l' := #[.val (.int i0), .val (.int i1), .val (.long ((16 : Int64) + ((i0.toInt64) * (i1.toInt64)))), .second, .val (.long ((((16 : Int64) + ((i0.toInt64) * (i1.toInt64))) + (7 : Int64)) &&& (-8 : Int64))), .second, .val (.long (((((16 : Int64) + ((i0.toInt64) * (i1.toInt64))) + (7 : Int64)) &&& (-8 : Int64)) - ((16 : Int64) + ((i0.toInt64) * (i1.toInt64))))), .second, .unset, .unset, .unset]) rfl k') ?_
  show Runs p.tables e below _ (T1_.setTop (mkF m 23 #[.val (.int i0), .val (.int i1), .val (.long ((16 : Int64) + ((i0.toInt64) * (i1.toInt64)))), .second, .val (.long ((((16 : Int64) + ((i0.toInt64) * (i1.toInt64))) + (7 : Int64)) &&& (-8 : Int64))), .second, .val (.long (((((16 : Int64) + ((i0.toInt64) * (i1.toInt64))) + (7 : Int64)) &&& (-8 : Int64)) - ((16 : Int64) + ((i0.toInt64) * (i1.toInt64))))), .second, .unset, .unset, .unset] []))
  refine Runs.st (fun t' k' => XS.lload X1_.here hx rfl (hb hby at_23) rfl k') ?_
  show Runs p.tables e below _ (T1_.setTop (mkF m 25 #[.val (.int i0), .val (.int i1), .val (.long ((16 : Int64) + ((i0.toInt64) * (i1.toInt64)))), .second, .val (.long ((((16 : Int64) + ((i0.toInt64) * (i1.toInt64))) + (7 : Int64)) &&& (-8 : Int64))), .second, .val (.long (((((16 : Int64) + ((i0.toInt64) * (i1.toInt64))) + (7 : Int64)) &&& (-8 : Int64)) - ((16 : Int64) + ((i0.toInt64) * (i1.toInt64))))), .second, .unset, .unset, .unset] [(.long ((((16 : Int64) + ((i0.toInt64) * (i1.toInt64))) + (7 : Int64)) &&& (-8 : Int64)))]))
  refine Runs.st (fun t' k' => X1_.ldc2Long hx hown (mvT hZ (hw _ (List.mem_of_getElem? (i := 8) rfl))) (g := (mkF m 25 #[.val (.int i0), .val (.int i1), .val (.long ((16 : Int64) + ((i0.toInt64) * (i1.toInt64)))), .second, .val (.long ((((16 : Int64) + ((i0.toInt64) * (i1.toInt64))) + (7 : Int64)) &&& (-8 : Int64))), .second, .val (.long (((((16 : Int64) + ((i0.toInt64) * (i1.toInt64))) + (7 : Int64)) &&& (-8 : Int64)) - ((16 : Int64) + ((i0.toInt64) * (i1.toInt64))))), .second, .unset, .unset, .unset] [(.long ((((16 : Int64) + ((i0.toInt64) * (i1.toInt64))) + (7 : Int64)) &&& (-8 : Int64)))])) rfl (hb hby at_25) t' k') ?_
  show Runs p.tables e below _ (T1_.setTop (mkF m 28 #[.val (.int i0), .val (.int i1), .val (.long ((16 : Int64) + ((i0.toInt64) * (i1.toInt64)))), .second, .val (.long ((((16 : Int64) + ((i0.toInt64) * (i1.toInt64))) + (7 : Int64)) &&& (-8 : Int64))), .second, .val (.long (((((16 : Int64) + ((i0.toInt64) * (i1.toInt64))) + (7 : Int64)) &&& (-8 : Int64)) - ((16 : Int64) + ((i0.toInt64) * (i1.toInt64))))), .second, .unset, .unset, .unset] [(.long (7 : Int64)), (.long ((((16 : Int64) + ((i0.toInt64) * (i1.toInt64))) + (7 : Int64)) &&& (-8 : Int64)))]))
  refine Runs.st (fun t' k' => XS.land X1_.here hx rfl (hb hby at_28) rfl k') ?_
  show Runs p.tables e below _ (T1_.setTop (mkF m 29 #[.val (.int i0), .val (.int i1), .val (.long ((16 : Int64) + ((i0.toInt64) * (i1.toInt64)))), .second, .val (.long ((((16 : Int64) + ((i0.toInt64) * (i1.toInt64))) + (7 : Int64)) &&& (-8 : Int64))), .second, .val (.long (((((16 : Int64) + ((i0.toInt64) * (i1.toInt64))) + (7 : Int64)) &&& (-8 : Int64)) - ((16 : Int64) + ((i0.toInt64) * (i1.toInt64))))), .second, .unset, .unset, .unset] [(.long (((((16 : Int64) + ((i0.toInt64) * (i1.toInt64))) + (7 : Int64)) &&& (-8 : Int64)) &&& (7 : Int64)))]))
  refine Runs.st (fun t' k' => XS.lconst X1_.here hx rfl (hb hby at_29) k') ?_
  show Runs p.tables e below _ (T1_.setTop (mkF m 30 #[.val (.int i0), .val (.int i1), .val (.long ((16 : Int64) + ((i0.toInt64) * (i1.toInt64)))), .second, .val (.long ((((16 : Int64) + ((i0.toInt64) * (i1.toInt64))) + (7 : Int64)) &&& (-8 : Int64))), .second, .val (.long (((((16 : Int64) + ((i0.toInt64) * (i1.toInt64))) + (7 : Int64)) &&& (-8 : Int64)) - ((16 : Int64) + ((i0.toInt64) * (i1.toInt64))))), .second, .unset, .unset, .unset] [(.long (0 : Int64)), (.long (((((16 : Int64) + ((i0.toInt64) * (i1.toInt64))) + (7 : Int64)) &&& (-8 : Int64)) &&& (7 : Int64)))]))
  refine Runs.st (fun t' k' => XS.lcmp X1_.here hx rfl (hb hby at_30) rfl k') ?_
  show Runs p.tables e below _ (T1_.setTop (mkF m 31 #[.val (.int i0), .val (.int i1), .val (.long ((16 : Int64) + ((i0.toInt64) * (i1.toInt64)))), .second, .val (.long ((((16 : Int64) + ((i0.toInt64) * (i1.toInt64))) + (7 : Int64)) &&& (-8 : Int64))), .second, .val (.long (((((16 : Int64) + ((i0.toInt64) * (i1.toInt64))) + (7 : Int64)) &&& (-8 : Int64)) - ((16 : Int64) + ((i0.toInt64) * (i1.toInt64))))), .second, .unset, .unset, .unset] [(.int (lcmpW (((((16 : Int64) + ((i0.toInt64) * (i1.toInt64))) + (7 : Int64)) &&& (-8 : Int64)) &&& (7 : Int64)) (0 : Int64)))]))
  refine Runs.st (fun t' k' => XS.ifNo X1_.here hx rfl (hb hby at_31) rfl ((if0 _ _).trans (teq ((lw_eq _ _).mpr q1)).2) k') ?_
  show Runs p.tables e below _ (T1_.setTop (mkF m 34 #[.val (.int i0), .val (.int i1), .val (.long ((16 : Int64) + ((i0.toInt64) * (i1.toInt64)))), .second, .val (.long ((((16 : Int64) + ((i0.toInt64) * (i1.toInt64))) + (7 : Int64)) &&& (-8 : Int64))), .second, .val (.long (((((16 : Int64) + ((i0.toInt64) * (i1.toInt64))) + (7 : Int64)) &&& (-8 : Int64)) - ((16 : Int64) + ((i0.toInt64) * (i1.toInt64))))), .second, .unset, .unset, .unset] []))
  refine Runs.st (fun t' k' => XS.iconst X1_.here hx rfl (hb hby at_34) k') ?_
  show Runs p.tables e below _ (T1_.setTop (mkF m 35 #[.val (.int i0), .val (.int i1), .val (.long ((16 : Int64) + ((i0.toInt64) * (i1.toInt64)))), .second, .val (.long ((((16 : Int64) + ((i0.toInt64) * (i1.toInt64))) + (7 : Int64)) &&& (-8 : Int64))), .second, .val (.long (((((16 : Int64) + ((i0.toInt64) * (i1.toInt64))) + (7 : Int64)) &&& (-8 : Int64)) - ((16 : Int64) + ((i0.toInt64) * (i1.toInt64))))), .second, .unset, .unset, .unset] [(.int (1 : Int32))]))
  refine Runs.st (fun t' k' => XS.goto X1_.here hx rfl (pc0 := 35) (pc' := 39) rfl (hb hby at_35) (by decide) (by decide) k') ?_
  show Runs p.tables e below _ (T1_.setTop (mkF m 39 #[.val (.int i0), .val (.int i1), .val (.long ((16 : Int64) + ((i0.toInt64) * (i1.toInt64)))), .second, .val (.long ((((16 : Int64) + ((i0.toInt64) * (i1.toInt64))) + (7 : Int64)) &&& (-8 : Int64))), .second, .val (.long (((((16 : Int64) + ((i0.toInt64) * (i1.toInt64))) + (7 : Int64)) &&& (-8 : Int64)) - ((16 : Int64) + ((i0.toInt64) * (i1.toInt64))))), .second, .unset, .unset, .unset] [(.int (1 : Int32))]))
  refine Runs.st (fun t' k' => XS.istore X1_.here hx rfl (hb hby at_39) rfl (l' := #[.val (.int i0), .val (.int i1), .val (.long ((16 : Int64) + ((i0.toInt64) * (i1.toInt64)))), .second, .val (.long ((((16 : Int64) + ((i0.toInt64) * (i1.toInt64))) + (7 : Int64)) &&& (-8 : Int64))), .second, .val (.long (((((16 : Int64) + ((i0.toInt64) * (i1.toInt64))) + (7 : Int64)) &&& (-8 : Int64)) - ((16 : Int64) + ((i0.toInt64) * (i1.toInt64))))), .second, .val (.int (1 : Int32)), .unset, .unset]) rfl k') ?_
  show Runs p.tables e below _ (T1_.setTop (mkF m 41 #[.val (.int i0), .val (.int i1), .val (.long ((16 : Int64) + ((i0.toInt64) * (i1.toInt64)))), .second, .val (.long ((((16 : Int64) + ((i0.toInt64) * (i1.toInt64))) + (7 : Int64)) &&& (-8 : Int64))), .second, .val (.long (((((16 : Int64) + ((i0.toInt64) * (i1.toInt64))) + (7 : Int64)) &&& (-8 : Int64)) - ((16 : Int64) + ((i0.toInt64) * (i1.toInt64))))), .second, .val (.int (1 : Int32)), .unset, .unset] []))
  refine Runs.st (fun t' k' => XS.lload X1_.here hx rfl (hb hby at_41) rfl k') ?_
  show Runs p.tables e below _ (T1_.setTop (mkF m 43 #[.val (.int i0), .val (.int i1), .val (.long ((16 : Int64) + ((i0.toInt64) * (i1.toInt64)))), .second, .val (.long ((((16 : Int64) + ((i0.toInt64) * (i1.toInt64))) + (7 : Int64)) &&& (-8 : Int64))), .second, .val (.long (((((16 : Int64) + ((i0.toInt64) * (i1.toInt64))) + (7 : Int64)) &&& (-8 : Int64)) - ((16 : Int64) + ((i0.toInt64) * (i1.toInt64))))), .second, .val (.int (1 : Int32)), .unset, .unset] [(.long (((((16 : Int64) + ((i0.toInt64) * (i1.toInt64))) + (7 : Int64)) &&& (-8 : Int64)) - ((16 : Int64) + ((i0.toInt64) * (i1.toInt64)))))]))
  refine Runs.st (fun t' k' => XS.lconst X1_.here hx rfl (hb hby at_43) k') ?_
  show Runs p.tables e below _ (T1_.setTop (mkF m 44 #[.val (.int i0), .val (.int i1), .val (.long ((16 : Int64) + ((i0.toInt64) * (i1.toInt64)))), .second, .val (.long ((((16 : Int64) + ((i0.toInt64) * (i1.toInt64))) + (7 : Int64)) &&& (-8 : Int64))), .second, .val (.long (((((16 : Int64) + ((i0.toInt64) * (i1.toInt64))) + (7 : Int64)) &&& (-8 : Int64)) - ((16 : Int64) + ((i0.toInt64) * (i1.toInt64))))), .second, .val (.int (1 : Int32)), .unset, .unset] [(.long (0 : Int64)), (.long (((((16 : Int64) + ((i0.toInt64) * (i1.toInt64))) + (7 : Int64)) &&& (-8 : Int64)) - ((16 : Int64) + ((i0.toInt64) * (i1.toInt64)))))]))
  refine Runs.st (fun t' k' => XS.lcmp X1_.here hx rfl (hb hby at_44) rfl k') ?_
  show Runs p.tables e below _ (T1_.setTop (mkF m 45 #[.val (.int i0), .val (.int i1), .val (.long ((16 : Int64) + ((i0.toInt64) * (i1.toInt64)))), .second, .val (.long ((((16 : Int64) + ((i0.toInt64) * (i1.toInt64))) + (7 : Int64)) &&& (-8 : Int64))), .second, .val (.long (((((16 : Int64) + ((i0.toInt64) * (i1.toInt64))) + (7 : Int64)) &&& (-8 : Int64)) - ((16 : Int64) + ((i0.toInt64) * (i1.toInt64))))), .second, .val (.int (1 : Int32)), .unset, .unset] [(.int (lcmpW (((((16 : Int64) + ((i0.toInt64) * (i1.toInt64))) + (7 : Int64)) &&& (-8 : Int64)) - ((16 : Int64) + ((i0.toInt64) * (i1.toInt64)))) (0 : Int64)))]))
  refine Runs.st (fun t' k' => XS.ifNo X1_.here hx rfl (hb hby at_45) rfl ((if0 _ _).trans (flt (fun q => q2 ((lw_lt _ _).mp q))).1) k') ?_
  show Runs p.tables e below _ (T1_.setTop (mkF m 48 #[.val (.int i0), .val (.int i1), .val (.long ((16 : Int64) + ((i0.toInt64) * (i1.toInt64)))), .second, .val (.long ((((16 : Int64) + ((i0.toInt64) * (i1.toInt64))) + (7 : Int64)) &&& (-8 : Int64))), .second, .val (.long (((((16 : Int64) + ((i0.toInt64) * (i1.toInt64))) + (7 : Int64)) &&& (-8 : Int64)) - ((16 : Int64) + ((i0.toInt64) * (i1.toInt64))))), .second, .val (.int (1 : Int32)), .unset, .unset] []))
  refine Runs.st (fun t' k' => XS.iconst X1_.here hx rfl (hb hby at_48) k') ?_
  show Runs p.tables e below _ (T1_.setTop (mkF m 49 #[.val (.int i0), .val (.int i1), .val (.long ((16 : Int64) + ((i0.toInt64) * (i1.toInt64)))), .second, .val (.long ((((16 : Int64) + ((i0.toInt64) * (i1.toInt64))) + (7 : Int64)) &&& (-8 : Int64))), .second, .val (.long (((((16 : Int64) + ((i0.toInt64) * (i1.toInt64))) + (7 : Int64)) &&& (-8 : Int64)) - ((16 : Int64) + ((i0.toInt64) * (i1.toInt64))))), .second, .val (.int (1 : Int32)), .unset, .unset] [(.int (1 : Int32))]))
  refine Runs.st (fun t' k' => XS.goto X1_.here hx rfl (pc0 := 49) (pc' := 53) rfl (hb hby at_49) (by decide) (by decide) k') ?_
  show Runs p.tables e below _ (T1_.setTop (mkF m 53 #[.val (.int i0), .val (.int i1), .val (.long ((16 : Int64) + ((i0.toInt64) * (i1.toInt64)))), .second, .val (.long ((((16 : Int64) + ((i0.toInt64) * (i1.toInt64))) + (7 : Int64)) &&& (-8 : Int64))), .second, .val (.long (((((16 : Int64) + ((i0.toInt64) * (i1.toInt64))) + (7 : Int64)) &&& (-8 : Int64)) - ((16 : Int64) + ((i0.toInt64) * (i1.toInt64))))), .second, .val (.int (1 : Int32)), .unset, .unset] [(.int (1 : Int32))]))
  refine Runs.st (fun t' k' => XS.istore X1_.here hx rfl (hb hby at_53) rfl (l' := #[.val (.int i0), .val (.int i1), .val (.long ((16 : Int64) + ((i0.toInt64) * (i1.toInt64)))), .second, .val (.long ((((16 : Int64) + ((i0.toInt64) * (i1.toInt64))) + (7 : Int64)) &&& (-8 : Int64))), .second, .val (.long (((((16 : Int64) + ((i0.toInt64) * (i1.toInt64))) + (7 : Int64)) &&& (-8 : Int64)) - ((16 : Int64) + ((i0.toInt64) * (i1.toInt64))))), .second, .val (.int (1 : Int32)), .val (.int (1 : Int32)), .unset]) rfl k') ?_
  show Runs p.tables e below _ (T1_.setTop (mkF m 55 #[.val (.int i0), .val (.int i1), .val (.long ((16 : Int64) + ((i0.toInt64) * (i1.toInt64)))), .second, .val (.long ((((16 : Int64) + ((i0.toInt64) * (i1.toInt64))) + (7 : Int64)) &&& (-8 : Int64))), .second, .val (.long (((((16 : Int64) + ((i0.toInt64) * (i1.toInt64))) + (7 : Int64)) &&& (-8 : Int64)) - ((16 : Int64) + ((i0.toInt64) * (i1.toInt64))))), .second, .val (.int (1 : Int32)), .val (.int (1 : Int32)), .unset] []))
  refine Runs.st (fun t' k' => XS.lload X1_.here hx rfl (hb hby at_55) rfl k') ?_
  show Runs p.tables e below _ (T1_.setTop (mkF m 57 #[.val (.int i0), .val (.int i1), .val (.long ((16 : Int64) + ((i0.toInt64) * (i1.toInt64)))), .second, .val (.long ((((16 : Int64) + ((i0.toInt64) * (i1.toInt64))) + (7 : Int64)) &&& (-8 : Int64))), .second, .val (.long (((((16 : Int64) + ((i0.toInt64) * (i1.toInt64))) + (7 : Int64)) &&& (-8 : Int64)) - ((16 : Int64) + ((i0.toInt64) * (i1.toInt64))))), .second, .val (.int (1 : Int32)), .val (.int (1 : Int32)), .unset] [(.long (((((16 : Int64) + ((i0.toInt64) * (i1.toInt64))) + (7 : Int64)) &&& (-8 : Int64)) - ((16 : Int64) + ((i0.toInt64) * (i1.toInt64)))))]))
  refine Runs.st (fun t' k' => X1_.ldc2Long hx hown (mvT hZ (hw _ (List.mem_of_getElem? (i := 8) rfl))) (g := (mkF m 57 #[.val (.int i0), .val (.int i1), .val (.long ((16 : Int64) + ((i0.toInt64) * (i1.toInt64)))), .second, .val (.long ((((16 : Int64) + ((i0.toInt64) * (i1.toInt64))) + (7 : Int64)) &&& (-8 : Int64))), .second, .val (.long (((((16 : Int64) + ((i0.toInt64) * (i1.toInt64))) + (7 : Int64)) &&& (-8 : Int64)) - ((16 : Int64) + ((i0.toInt64) * (i1.toInt64))))), .second, .val (.int (1 : Int32)), .val (.int (1 : Int32)), .unset] [(.long (((((16 : Int64) + ((i0.toInt64) * (i1.toInt64))) + (7 : Int64)) &&& (-8 : Int64)) - ((16 : Int64) + ((i0.toInt64) * (i1.toInt64)))))])) rfl (hb hby at_57) t' k') ?_
  show Runs p.tables e below _ (T1_.setTop (mkF m 60 #[.val (.int i0), .val (.int i1), .val (.long ((16 : Int64) + ((i0.toInt64) * (i1.toInt64)))), .second, .val (.long ((((16 : Int64) + ((i0.toInt64) * (i1.toInt64))) + (7 : Int64)) &&& (-8 : Int64))), .second, .val (.long (((((16 : Int64) + ((i0.toInt64) * (i1.toInt64))) + (7 : Int64)) &&& (-8 : Int64)) - ((16 : Int64) + ((i0.toInt64) * (i1.toInt64))))), .second, .val (.int (1 : Int32)), .val (.int (1 : Int32)), .unset] [(.long (7 : Int64)), (.long (((((16 : Int64) + ((i0.toInt64) * (i1.toInt64))) + (7 : Int64)) &&& (-8 : Int64)) - ((16 : Int64) + ((i0.toInt64) * (i1.toInt64)))))]))
  refine Runs.st (fun t' k' => XS.lcmp X1_.here hx rfl (hb hby at_60) rfl k') ?_
  show Runs p.tables e below _ (T1_.setTop (mkF m 61 #[.val (.int i0), .val (.int i1), .val (.long ((16 : Int64) + ((i0.toInt64) * (i1.toInt64)))), .second, .val (.long ((((16 : Int64) + ((i0.toInt64) * (i1.toInt64))) + (7 : Int64)) &&& (-8 : Int64))), .second, .val (.long (((((16 : Int64) + ((i0.toInt64) * (i1.toInt64))) + (7 : Int64)) &&& (-8 : Int64)) - ((16 : Int64) + ((i0.toInt64) * (i1.toInt64))))), .second, .val (.int (1 : Int32)), .val (.int (1 : Int32)), .unset] [(.int (lcmpW (((((16 : Int64) + ((i0.toInt64) * (i1.toInt64))) + (7 : Int64)) &&& (-8 : Int64)) - ((16 : Int64) + ((i0.toInt64) * (i1.toInt64)))) (7 : Int64)))]))
  refine Runs.st (fun t' k' => XS.ifNo X1_.here hx rfl (hb hby at_61) rfl ((if0 _ _).trans (flt (fun q => q3 ((lw_gt _ _).mp q))).2.2.1) k') ?_
  show Runs p.tables e below _ (T1_.setTop (mkF m 64 #[.val (.int i0), .val (.int i1), .val (.long ((16 : Int64) + ((i0.toInt64) * (i1.toInt64)))), .second, .val (.long ((((16 : Int64) + ((i0.toInt64) * (i1.toInt64))) + (7 : Int64)) &&& (-8 : Int64))), .second, .val (.long (((((16 : Int64) + ((i0.toInt64) * (i1.toInt64))) + (7 : Int64)) &&& (-8 : Int64)) - ((16 : Int64) + ((i0.toInt64) * (i1.toInt64))))), .second, .val (.int (1 : Int32)), .val (.int (1 : Int32)), .unset] []))
  refine Runs.st (fun t' k' => XS.iconst X1_.here hx rfl (hb hby at_64) k') ?_
  show Runs p.tables e below _ (T1_.setTop (mkF m 65 #[.val (.int i0), .val (.int i1), .val (.long ((16 : Int64) + ((i0.toInt64) * (i1.toInt64)))), .second, .val (.long ((((16 : Int64) + ((i0.toInt64) * (i1.toInt64))) + (7 : Int64)) &&& (-8 : Int64))), .second, .val (.long (((((16 : Int64) + ((i0.toInt64) * (i1.toInt64))) + (7 : Int64)) &&& (-8 : Int64)) - ((16 : Int64) + ((i0.toInt64) * (i1.toInt64))))), .second, .val (.int (1 : Int32)), .val (.int (1 : Int32)), .unset] [(.int (1 : Int32))]))
  refine Runs.st (fun t' k' => XS.goto X1_.here hx rfl (pc0 := 65) (pc' := 69) rfl (hb hby at_65) (by decide) (by decide) k') ?_
  show Runs p.tables e below _ (T1_.setTop (mkF m 69 #[.val (.int i0), .val (.int i1), .val (.long ((16 : Int64) + ((i0.toInt64) * (i1.toInt64)))), .second, .val (.long ((((16 : Int64) + ((i0.toInt64) * (i1.toInt64))) + (7 : Int64)) &&& (-8 : Int64))), .second, .val (.long (((((16 : Int64) + ((i0.toInt64) * (i1.toInt64))) + (7 : Int64)) &&& (-8 : Int64)) - ((16 : Int64) + ((i0.toInt64) * (i1.toInt64))))), .second, .val (.int (1 : Int32)), .val (.int (1 : Int32)), .unset] [(.int (1 : Int32))]))
  refine Runs.st (fun t' k' => XS.istore X1_.here hx rfl (hb hby at_69) rfl (l' := #[.val (.int i0), .val (.int i1), .val (.long ((16 : Int64) + ((i0.toInt64) * (i1.toInt64)))), .second, .val (.long ((((16 : Int64) + ((i0.toInt64) * (i1.toInt64))) + (7 : Int64)) &&& (-8 : Int64))), .second, .val (.long (((((16 : Int64) + ((i0.toInt64) * (i1.toInt64))) + (7 : Int64)) &&& (-8 : Int64)) - ((16 : Int64) + ((i0.toInt64) * (i1.toInt64))))), .second, .val (.int (1 : Int32)), .val (.int (1 : Int32)), .val (.int (1 : Int32))]) rfl k') ?_
  show Runs p.tables e below _ (T1_.setTop (mkF m 71 #[.val (.int i0), .val (.int i1), .val (.long ((16 : Int64) + ((i0.toInt64) * (i1.toInt64)))), .second, .val (.long ((((16 : Int64) + ((i0.toInt64) * (i1.toInt64))) + (7 : Int64)) &&& (-8 : Int64))), .second, .val (.long (((((16 : Int64) + ((i0.toInt64) * (i1.toInt64))) + (7 : Int64)) &&& (-8 : Int64)) - ((16 : Int64) + ((i0.toInt64) * (i1.toInt64))))), .second, .val (.int (1 : Int32)), .val (.int (1 : Int32)), .val (.int (1 : Int32))] []))
  refine Runs.st (fun t' k' => XS.iload X1_.here hx rfl (hb hby at_71) rfl k') ?_
  show Runs p.tables e below _ (T1_.setTop (mkF m 73 #[.val (.int i0), .val (.int i1), .val (.long ((16 : Int64) + ((i0.toInt64) * (i1.toInt64)))), .second, .val (.long ((((16 : Int64) + ((i0.toInt64) * (i1.toInt64))) + (7 : Int64)) &&& (-8 : Int64))), .second, .val (.long (((((16 : Int64) + ((i0.toInt64) * (i1.toInt64))) + (7 : Int64)) &&& (-8 : Int64)) - ((16 : Int64) + ((i0.toInt64) * (i1.toInt64))))), .second, .val (.int (1 : Int32)), .val (.int (1 : Int32)), .val (.int (1 : Int32))] [(.int (1 : Int32))]))
  refine Runs.st (fun t' k' => XS.ifNo X1_.here hx rfl (hb hby at_73) rfl ((if0 _ _).trans (feq (by decide)).1) k') ?_
  show Runs p.tables e below _ (T1_.setTop (mkF m 76 #[.val (.int i0), .val (.int i1), .val (.long ((16 : Int64) + ((i0.toInt64) * (i1.toInt64)))), .second, .val (.long ((((16 : Int64) + ((i0.toInt64) * (i1.toInt64))) + (7 : Int64)) &&& (-8 : Int64))), .second, .val (.long (((((16 : Int64) + ((i0.toInt64) * (i1.toInt64))) + (7 : Int64)) &&& (-8 : Int64)) - ((16 : Int64) + ((i0.toInt64) * (i1.toInt64))))), .second, .val (.int (1 : Int32)), .val (.int (1 : Int32)), .val (.int (1 : Int32))] []))
  refine Runs.st (fun t' k' => XS.iload X1_.here hx rfl (hb hby at_76) rfl k') ?_
  show Runs p.tables e below _ (T1_.setTop (mkF m 78 #[.val (.int i0), .val (.int i1), .val (.long ((16 : Int64) + ((i0.toInt64) * (i1.toInt64)))), .second, .val (.long ((((16 : Int64) + ((i0.toInt64) * (i1.toInt64))) + (7 : Int64)) &&& (-8 : Int64))), .second, .val (.long (((((16 : Int64) + ((i0.toInt64) * (i1.toInt64))) + (7 : Int64)) &&& (-8 : Int64)) - ((16 : Int64) + ((i0.toInt64) * (i1.toInt64))))), .second, .val (.int (1 : Int32)), .val (.int (1 : Int32)), .val (.int (1 : Int32))] [(.int (1 : Int32))]))
  refine Runs.st (fun t' k' => XS.ifNo X1_.here hx rfl (hb hby at_78) rfl ((if0 _ _).trans (feq (by decide)).1) k') ?_
  show Runs p.tables e below _ (T1_.setTop (mkF m 81 #[.val (.int i0), .val (.int i1), .val (.long ((16 : Int64) + ((i0.toInt64) * (i1.toInt64)))), .second, .val (.long ((((16 : Int64) + ((i0.toInt64) * (i1.toInt64))) + (7 : Int64)) &&& (-8 : Int64))), .second, .val (.long (((((16 : Int64) + ((i0.toInt64) * (i1.toInt64))) + (7 : Int64)) &&& (-8 : Int64)) - ((16 : Int64) + ((i0.toInt64) * (i1.toInt64))))), .second, .val (.int (1 : Int32)), .val (.int (1 : Int32)), .val (.int (1 : Int32))] []))
  refine Runs.st (fun t' k' => XS.iload X1_.here hx rfl (hb hby at_81) rfl k') ?_
  show Runs p.tables e below _ (T1_.setTop (mkF m 83 #[.val (.int i0), .val (.int i1), .val (.long ((16 : Int64) + ((i0.toInt64) * (i1.toInt64)))), .second, .val (.long ((((16 : Int64) + ((i0.toInt64) * (i1.toInt64))) + (7 : Int64)) &&& (-8 : Int64))), .second, .val (.long (((((16 : Int64) + ((i0.toInt64) * (i1.toInt64))) + (7 : Int64)) &&& (-8 : Int64)) - ((16 : Int64) + ((i0.toInt64) * (i1.toInt64))))), .second, .val (.int (1 : Int32)), .val (.int (1 : Int32)), .val (.int (1 : Int32))] [(.int (1 : Int32))]))
  refine Runs.st (fun t' k' => XS.ifNo X1_.here hx rfl (hb hby at_83) rfl ((if0 _ _).trans (feq (by decide)).1) k') ?_
  show Runs p.tables e below _ (T1_.setTop (mkF m 86 #[.val (.int i0), .val (.int i1), .val (.long ((16 : Int64) + ((i0.toInt64) * (i1.toInt64)))), .second, .val (.long ((((16 : Int64) + ((i0.toInt64) * (i1.toInt64))) + (7 : Int64)) &&& (-8 : Int64))), .second, .val (.long (((((16 : Int64) + ((i0.toInt64) * (i1.toInt64))) + (7 : Int64)) &&& (-8 : Int64)) - ((16 : Int64) + ((i0.toInt64) * (i1.toInt64))))), .second, .val (.int (1 : Int32)), .val (.int (1 : Int32)), .val (.int (1 : Int32))] []))
  refine Runs.st (fun t' k' => XS.iconst X1_.here hx rfl (hb hby at_86) k') ?_
  show Runs p.tables e below _ (T1_.setTop (mkF m 87 #[.val (.int i0), .val (.int i1), .val (.long ((16 : Int64) + ((i0.toInt64) * (i1.toInt64)))), .second, .val (.long ((((16 : Int64) + ((i0.toInt64) * (i1.toInt64))) + (7 : Int64)) &&& (-8 : Int64))), .second, .val (.long (((((16 : Int64) + ((i0.toInt64) * (i1.toInt64))) + (7 : Int64)) &&& (-8 : Int64)) - ((16 : Int64) + ((i0.toInt64) * (i1.toInt64))))), .second, .val (.int (1 : Int32)), .val (.int (1 : Int32)), .val (.int (1 : Int32))] [(.int (1 : Int32))]))
  refine Runs.st (fun t' k' => XS.goto X1_.here hx rfl (pc0 := 87) (pc' := 91) rfl (hb hby at_87) (by decide) (by decide) k') ?_
  show Runs p.tables e below _ (T1_.setTop (mkF m 91 #[.val (.int i0), .val (.int i1), .val (.long ((16 : Int64) + ((i0.toInt64) * (i1.toInt64)))), .second, .val (.long ((((16 : Int64) + ((i0.toInt64) * (i1.toInt64))) + (7 : Int64)) &&& (-8 : Int64))), .second, .val (.long (((((16 : Int64) + ((i0.toInt64) * (i1.toInt64))) + (7 : Int64)) &&& (-8 : Int64)) - ((16 : Int64) + ((i0.toInt64) * (i1.toInt64))))), .second, .val (.int (1 : Int32)), .val (.int (1 : Int32)), .val (.int (1 : Int32))] [(.int (1 : Int32))]))
  refine Runs.ret X1_ hlk (v := (some (.int (1 : Int32)))) (fun h => by rw [hret] at h; cases h) (by decide) (by decide) ?_ (fun fs hr => retN X1_ hx (t := .boolean) hret (by simp) (hb hby at_91) hr)
  try rw [e1_]
  exact ⟨rfl, N1_⟩
set_option maxRecDepth 65536 in
set_option maxHeartbeats 40000000 in
theorem comes_1 {Post : Tables → Env → Array Value → State → Outcome → State → Prop} (hpost : ∀ tb e args s v u, (limb_1_1.after args s (.returned v) u = true ∧ limb_1_2.after args s (.returned v) u = true ∧ True) → FrameEnd s (.returned v) u (Jvm.fieldLocs frame_1_writes args s ++ Jvm.arrayLocs frame_1_arrays args s ++ Jvm.staticLocs frame_1_statics s) 0 0 → Post tb e args s (.returned v) u) :
    ArmFor flags0 classFile x code maxLocals ret World_1 tables_1 room_1 Calls_1 rest_1 Pre_1 Post := by
  intro l hfl _ _ p e ha hc hk s m args below hf hA hF happ hP
  obtain ⟨hcalls, hrest, hpre⟩ := hP
  obtain ⟨-, -, -, hnamed, -, -, -, hat⟩ := (Spec.applies_iff hf).mp happ
  obtain ⟨hg, hn⟩ := and_e (Cond.before_iff.mp (show (Jvm.Cond.and given_1 narrow_1).before args s = true from hpre))
  obtain ⟨gc, gr⟩ := and_e hg
  obtain ⟨gi0, gr⟩ := and_e gr
  have gi1 := gr
  obtain ⟨w0, w1, rfl⟩ : ∃ w0 w1 : Value, args = #[w0, w1] := by
    have hs : args.size = 2 := by simpa [Cond.value, given_1] using gc
    obtain ⟨L⟩ := args
    match L, hs with
    | [w0, w1], _ => exact ⟨w0, w1, rfl⟩
  have hw := fun d (hd : d ∈ tables_1) => atoms_spec (ws := Jvm.Cond.code x code maxLocals ret :: tables_1) hat d (List.mem_cons_of_mem _ hd)
  have hfit : Fit s := fun {y c} hc i hi => by
    obtain ⟨ha, rfl⟩ := Array.getElem?_eq_some_iff.mp hc
    have q := List.all_eq_true.mp ((Array.all_eq_true_iff_forall_mem.mp hF) _ (Array.getElem_mem ha)) i (List.mem_range.mpr hi)
    simpa [Array.getElem?_eq_getElem hi] using q
  obtain ⟨i0, ei0⟩ := is_v gi0
  obtain rfl : w0 = (.int i0) := Option.some.inj ei0
  obtain ⟨i1, ei1⟩ := is_v gi1
  obtain rfl : w1 = (.int i1) := Option.some.inj ei1
  obtain ⟨n, o, h1, h2, h3, _, L, rfl, ⟨rfl, N⟩, hq⟩ := rm0 l s _ hw tables_1 i0 i1 s.heap s.heap.size (Nat.le_refl _)  p e ha hc hk s m _ below hf ((Spec.applies_iff_loose hf).mp happ).1 ⟨rfl, State.Warmed39.refl s, rfl⟩ trivial
  refine ⟨n, _, h1, h2, h3, hpost _ _ _ _ _ _ ⟨Cond.after_iff.mpr rfl, Cond.after_iff.mpr (eq_i res_at (Term.int_eval (1)) rfl), trivial⟩ ⟨hq.1, hq.2.1, (hq.2.2.sift fun y hy => Or.inr (N y hy)).mono (by decide) (by decide)⟩⟩
theorem main_1_1 : Claimed_1_1 := comes_1 fun _ _ _ _ _ _ h hF => ⟨h.1, hF⟩
theorem main_1_2 : Claimed_1_2 := comes_1 fun _ _ _ _ _ _ h hF => ⟨h.2.1, hF⟩
end Jvm.Pilot.@@N@@
namespace Jvm.Pilot.@@N@@
open Jvm Jvm.ClassFile Sem Op Lib Jvm.Free Jvm.Stand Jvm.Pilot.@@N@@.Jvm.D
/-! MADE BY PROGRAM (witnessworld.py) out of the Statement's table words and the real class files: 9 classes; the members and pool entries that the words name. The judged class is class 1, her method 1. -/
namespace start1
open Jvm.ClassFile
def u (s : String) : CpInfo := .utf8 (stringToUtf16 s)
/-- a pool by its gaps: so many unusable entries, then the entry; so many at the end -/
def gap : Nat → List CpInfo → List CpInfo
  | 0, r => r
  | n + 1, r => .unusable :: gap n r
def poolList (es : List (Nat × CpInfo)) (last : Nat) : List CpInfo := es.foldr (fun e r => gap e.1 (e.2 :: r)) (gap last [])
def pool (es : List (Nat × CpInfo)) (last : Nat) : Array CpInfo := ⟨poolList es last⟩
def fileOf (pool : Array CpInfo) (this : Nat) (attrs : Array Attribute := #[]) (ms : Array MethodInfo := #[]) (fl : Nat := 33) (sup : Nat := 0) (ifs : Array Nat := #[]) (fds : Array FieldInfo := #[]) : ClassFile where
  minorVersion := 0
  majorVersion := 65
  constantPool := pool
  accessFlags := fl
  thisClass := this
  superClass := sup
  interfaces := ifs
  fields := fds
  methods := ms
  attributes := attrs
def plain (name : String) (sup : Option ClassId) : Class where
  name := name
  kind := .ordinary
  loader := none
  accessFlags := 33
  super := sup
  interfaces := #[]
  cf := none
  fields := #[]
  methods := #[]
  instanceTypes := #[]
  staticTypes := #[]
  resolved := #[]
  callSites := []
  init := .initialized
  statics := none
  mirror := none

def pool0 : Array CpInfo := pool [(5, u "<init>"), (0, u "()V"), (1, .class_ 10), (1, u "java/lang/Object")] 113

def k0m0 : Method := { name := "<init>", desc := "()V", sig := { parameters := [], returnType := none }, accessFlags := 1, code := none }
/-- java/lang/Object -/
def k0 : Class := { plain "java/lang/Object" none with
  accessFlags := 33
  interfaces := #[]
  cf := some (fileOf pool0 8 #[] #[{ accessFlags := 1, nameIndex := 5, descriptorIndex := 6, attributes := #[] }] 33 0 #[] #[])
  fields := #[]
  methods := #[k0m0]
  instanceTypes := #[]
  staticTypes := #[]
  resolved := Array.replicate 124 none
  statics := none }

def pool1 : Array CpInfo := pool [(2, .class_ 4), (1, u "java/lang/Object"), (0, u "<init>"), (0, u "()V"), (0, .long 16), (1, .methodref 10 11), (0, .class_ 12), (0, .nameAndType 13 14), (0, u "com/example/attribute_to_audience/attributetoaudience/model/Weights"), (0, u "array"), (0, u "(II)J"), (0, .long 7), (1, .class_ 18), (0, u "com/example/attribute_to_audience/attributetoaudience/model/WeightsArrayPinLaw"), (2, u "law"), (0, u "(II)Z")] 3

def k1m0 : Method := { name := "<init>", desc := "()V", sig := { parameters := [], returnType := none }, accessFlags := 2, code := none }
def k1c1 : Code := { maxStack := 6, maxLocals := 11, code := code, exceptionTable := #[], attributes := #[] }
def k1m1 : Method := { name := "law", desc := "(II)Z", sig := { parameters := [.int, .int], returnType := some .boolean }, accessFlags := 9, code := some k1c1 }
/-- com/example/attribute_to_audience/attributetoaudience/model/WeightsArrayPinLaw -/
def k1 : Class := { plain "com/example/attribute_to_audience/attributetoaudience/model/WeightsArrayPinLaw" (some 0) with
  accessFlags := 49
  interfaces := #[]
  cf := some (fileOf pool1 17 #[] #[{ accessFlags := 2, nameIndex := 5, descriptorIndex := 6, attributes := #[] }, { accessFlags := 9, nameIndex := 21, descriptorIndex := 22, attributes := #[] }] 49 2 #[] #[])
  fields := #[]
  methods := #[k1m0, k1m1]
  instanceTypes := #[]
  staticTypes := #[]
  resolved := Array.replicate 26 none
  statics := none }

def pool2 : Array CpInfo := pool [(2, .class_ 4), (1, u "java/lang/Object"), (0, u "<init>"), (0, u "()V"), (10, .class_ 18), (0, u "com/example/attribute_to_audience/attributetoaudience/model/Weights"), (14, u "STRING"), (9, .long 16), (1, .long 7), (1, .long 18446744073709551608), (1, u "FILTER"), (0, u "J"), (3, u "CONSTRAINT"), (0, u "LITERAL"), (0, u "PLACE"), (2, u "OBJECT"), (0, u "REFERENCE"), (0, u "I"), (1, u "HEADER"), (0, u "LATIN_1"), (0, u "C"), (5, u "array"), (0, u "(II)J")] 2

def k2m0 : Method := { name := "<init>", desc := "()V", sig := { parameters := [], returnType := none }, accessFlags := 2, code := none }
def k2c1 : Code := { maxStack := 6, maxLocals := 2, code := prog_68_method_4_code, exceptionTable := #[], attributes := #[] }
def k2m1 : Method := { name := "array", desc := "(II)J", sig := { parameters := [.int, .int], returnType := some .long }, accessFlags := 8, code := some k2c1 }
/-- com/example/attribute_to_audience/attributetoaudience/model/Weights -/
def k2 : Class := { plain "com/example/attribute_to_audience/attributetoaudience/model/Weights" (some 0) with
  accessFlags := 32
  interfaces := #[]
  cf := some (fileOf pool2 17 #[] #[{ accessFlags := 2, nameIndex := 5, descriptorIndex := 6, attributes := #[] }, { accessFlags := 8, nameIndex := 71, descriptorIndex := 72, attributes := #[] }] 32 2 #[] #[{ accessFlags := 24, nameIndex := 49, descriptorIndex := 50, attributes := #[] }, { accessFlags := 24, nameIndex := 54, descriptorIndex := 50, attributes := #[] }, { accessFlags := 24, nameIndex := 55, descriptorIndex := 50, attributes := #[] }, { accessFlags := 24, nameIndex := 56, descriptorIndex := 50, attributes := #[] }, { accessFlags := 24, nameIndex := 59, descriptorIndex := 50, attributes := #[] }, { accessFlags := 24, nameIndex := 60, descriptorIndex := 61, attributes := #[] }, { accessFlags := 26, nameIndex := 63, descriptorIndex := 50, attributes := #[] }, { accessFlags := 26, nameIndex := 33, descriptorIndex := 50, attributes := #[] }, { accessFlags := 26, nameIndex := 64, descriptorIndex := 65, attributes := #[] }])
  fields := #[{ name := "FILTER", type := .long, accessFlags := 24, slot := 0, constantValue := 0 }, { name := "CONSTRAINT", type := .long, accessFlags := 24, slot := 1, constantValue := 0 }, { name := "LITERAL", type := .long, accessFlags := 24, slot := 2, constantValue := 0 }, { name := "PLACE", type := .long, accessFlags := 24, slot := 3, constantValue := 0 }, { name := "OBJECT", type := .long, accessFlags := 24, slot := 4, constantValue := 0 }, { name := "REFERENCE", type := .int, accessFlags := 24, slot := 5, constantValue := 0 }, { name := "HEADER", type := .long, accessFlags := 26, slot := 6, constantValue := 0 }, { name := "STRING", type := .long, accessFlags := 26, slot := 7, constantValue := 0 }, { name := "LATIN_1", type := .char, accessFlags := 26, slot := 8, constantValue := 0 }]
  methods := #[k2m0, k2m1]
  instanceTypes := #[]
  staticTypes := #[.long, .long, .long, .long, .long, .int, .long, .long, .char]
  resolved := Array.replicate 75 none
  statics := none }

def pool3 : Array CpInfo := pool [(1, u "java/lang/Cloneable"), (0, .class_ 1), (0, u "java/lang/Object"), (0, .class_ 3)] 3

/-- java/lang/Cloneable -/
def k3 : Class := { plain "java/lang/Cloneable" (some 0) with
  accessFlags := 1537
  interfaces := #[]
  cf := some (fileOf pool3 2 #[] #[] 1537 4 #[] #[])
  fields := #[]
  methods := #[]
  instanceTypes := #[]
  staticTypes := #[]
  resolved := Array.replicate 8 none
  statics := none }

def pool4 : Array CpInfo := pool [(1, u "java/io/Serializable"), (0, .class_ 1), (0, u "java/lang/Object"), (0, .class_ 3)] 3

/-- java/io/Serializable -/
def k4 : Class := { plain "java/io/Serializable" (some 0) with
  accessFlags := 1537
  interfaces := #[]
  cf := some (fileOf pool4 2 #[] #[] 1537 4 #[] #[])
  fields := #[]
  methods := #[]
  instanceTypes := #[]
  staticTypes := #[]
  resolved := Array.replicate 8 none
  statics := none }

/-- the primitive byte -/
def k5 : Class := { plain "byte" none with kind := .primitive 'B', accessFlags := 0x411 }
/-- [B -/
def k6 : Class := { plain "[B" (some 0) with kind := .array 5 .byte, interfaces := #[3, 4], accessFlags := 1041 }

/-- the primitive int -/
def k7 : Class := { plain "int" none with kind := .primitive 'I', accessFlags := 0x411 }
/-- [I -/
def k8 : Class := { plain "[I" (some 0) with kind := .array 7 .int, interfaces := #[3, 4], accessFlags := 1041 }

def heap : Heap := #[]
def classes : Array Class := #[k0, k1, k2, k3, k4, k5, k6, k7, k8]
def interned : List (Array UInt16 × Addr) := []
def slotsUsed : Nat := 0
def theMethod : MethodId := ⟨1, 1⟩
def args0 : Array Value := #[.int 5, .int 3]
def aboutOver (below : List Frame) : State where
  vm := { classes := classes, interned := interned.toArray }
  heap := heap
  slotsUsed := slotsUsed
  threads := #[{ frames := .invoking theMethod args0 :: below }]
def below0 : List Frame := [.native { method := ⟨0, 0⟩, args := #[] }]
def about1 : State := aboutOver below0
def p0 : Program := .bare "" "" ""
def e0 : Env := launch0.env 0 0 0
theorem w_frames : about1.frames = Frame.invoking theMethod args0 :: below0 := rfl
set_option maxRecDepth 65536 in
theorem w_args : argsFit about1.vm theMethod args0 = true := by decide +kernel
set_option maxRecDepth 65536 in
theorem w_heap : heapFits about1 = true := by decide +kernel
set_option maxRecDepth 65536 in
theorem w_runnable : about1.curStatus? = some .runnable := by decide +kernel
set_option maxRecDepth 65536 in
theorem w_alone : about1.alone = true := by decide +kernel
set_option maxRecDepth 65536 in
theorem w_named : about1.methodNamed? x = some theMethod := by decide +kernel
set_option maxRecDepth 65536 in
theorem w_hears : about1.hears theMethod below0 = true := by decide +kernel
set_option maxRecDepth 65536 in
theorem w_ripe : about1.ripe theMethod args0 below0 = true := by decide +kernel
theorem w_running : about1.status = .running := rfl
set_option maxRecDepth 65536 in
theorem w_room : about1.hasRoom e0.platform room_1 = true :=
  launch0.hasRoom_least _ room_1 (by decide +kernel) (by decide +kernel) (by decide +kernel) (by decide +kernel) (by decide +kernel) (by decide +kernel)
theorem allAtoms_all (ts : List Jvm.Cond) (a : Array Jvm.Value) (st : Jvm.State) : (allAtoms ts).before a st = ts.all (fun c => c.before a st) := by
  induction ts with
  | nil => rfl
  | cons c t ih =>
    show (Jvm.Cond.and c (allAtoms t)).before a st = _
    rw [Jvm.Cond.before_and, ih, List.all_cons]
def words1 : List Jvm.Cond := Jvm.Cond.code x code maxLocals ret :: tables_1
/-- a 'code' word, met by the world's own term for the bytes: nothing is compared byte by byte -/
theorem code_word {y : MethodName} {bytes : ByteArray} {mx : Nat} {rt : Option FieldType} {a : Array Value} {s : State} {m : MethodId} {meth : Method} {c : Code} (h1 : s.methodNamed? y = some m) (h2 : s.vm.method? m = some meth) (h3 : meth.code = some c) (h4 : c.code = bytes)
    (h5 : (c.maxLocals == mx && c.exceptionTable.isEmpty && decide (c.maxStack ≤ mostOperands) && decide (meth.sig.returnType = rt) && !meth.locks && decide (parseMethodDescriptor y.desc = some meth.sig)) = true) : (Jvm.Cond.code y bytes mx rt).before a s = true := by
  simp only [Bool.and_eq_true, beq_iff_eq, Bool.not_eq_true', decide_eq_true_eq] at h5
  obtain ⟨⟨⟨⟨⟨g1, g2⟩, g3⟩, g4⟩, g5⟩, g6⟩ := h5
  simp [Cond.before, Cond.holds, Cond.value, h1, h2, h3, h4, g1, g2, g3, g4, g5, g6]
def isCode : Jvm.Cond → Bool
  | .code _ _ _ _ => true
  | _ => false
theorem all_split {L : List Jvm.Cond} {P : Jvm.Cond → Bool} (h1 : L.all (fun c => isCode c || P c) = true) (h2 : ∀ c ∈ L.filter isCode, P c = true) : L.all P = true := by
  refine List.all_eq_true.mpr fun c hc => ?_
  have h := List.all_eq_true.mp h1 c hc
  rcases Bool.eq_false_or_eq_true (isCode c) with hi | hi
  · exact h2 c (List.mem_filter.mpr ⟨hc, hi⟩)
  · simpa [hi] using h
set_option maxRecDepth 65536 in
theorem w_c0 : (Jvm.Cond.code x code maxLocals ret).before args0 about1 = true := code_word (m := ⟨1, 1⟩) (meth := k1m1) (c := k1c1) (by decide +kernel) rfl rfl rfl (by decide +kernel)
set_option maxRecDepth 65536 in
theorem w_c1 : (Jvm.Cond.code ({ cls := "com/example/attribute_to_audience/attributetoaudience/model/Weights", name := "array", desc := "(II)J" } : Jvm.MethodName) prog_68_method_4_code (2 : Nat) (Option.some Jvm.ClassFile.FieldType.long)).before args0 about1 = true := code_word (m := ⟨2, 1⟩) (meth := k2m1) (c := k2c1) (by decide +kernel) rfl rfl rfl (by decide +kernel)
def codes1 : List Jvm.Cond := [Jvm.Cond.code x code maxLocals ret, Jvm.Cond.code ({ cls := "com/example/attribute_to_audience/attributetoaudience/model/Weights", name := "array", desc := "(II)J" } : Jvm.MethodName) prog_68_method_4_code (2 : Nat) (Option.some Jvm.ClassFile.FieldType.long)]
set_option maxRecDepth 65536 in
theorem codes_eq : words1.filter isCode = codes1 := rfl
theorem w_codes : ∀ c ∈ words1.filter isCode, c.before args0 about1 = true := by
  rw [codes_eq]
  intro c hc
  simp only [codes1, List.mem_cons, List.not_mem_nil, or_false] at hc
  rcases hc with rfl | rfl
  · exact w_c0
  · exact w_c1
set_option maxRecDepth 65536 in
theorem w_t1 : words1.all (fun c => isCode c || c.before args0 about1) = true := by decide +kernel
theorem w_tables : (allAtoms (Jvm.Cond.code x code maxLocals ret :: tables_1)).before args0 about1 = true := by
  rw [allAtoms_all]
  show words1.all (fun c => c.before args0 about1) = true
  refine all_split ?_ w_codes
  rw [w_t1]
set_option maxRecDepth 65536 in
theorem w_case : (Jvm.Cond.and given_1 narrow_1).before args0 about1 = true := by decide +kernel
theorem w_applies : (headSpec (Jvm.Cond.code x code maxLocals ret :: tables_1) room_1).applies x e0.platform about1 = true :=
  (Spec.applies_iff w_frames).mpr ⟨w_running, w_runnable, w_alone, w_named, w_hears, w_ripe, w_room, w_tables⟩
theorem atStart : AtStart classFile x code maxLocals ret World_1 tables_1 room_1 Calls_1 rest_1 Pre_1 launch0 p0 e0 about1 theMethod args0 below0 :=
  ⟨lists_1, trivial, launch0.admits_env _ _ _, launch0.least_env, fairChoices_fair.cas, fairChoices_fair.clock, w_frames, w_args, w_heap, w_applies, trivial, trivial, w_case⟩
end start1
theorem witness_1 : WitnessClaimed_1 := ⟨start1.p0, start1.e0, start1.about1, start1.theMethod, start1.args0, start1.below0, start1.atStart⟩
end Jvm.Pilot.@@N@@
