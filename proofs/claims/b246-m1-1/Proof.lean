import JvmDerived
import JvmDerived.Pilot.@@N@@Statement
import JvmDerived.Pilot.@@N@@Code
set_option linter.unusedVariables false
set_option linter.unusedSimpArgs false
@@BLOCK:NumsL.lean.txt@@
namespace Jvm.RoadKit
open Sem ClassFile Op Lib Jvm.Stand Jvm.Free Jvm.LawKit
section New
variable {p : Program} {l : Launch} {e : Env} {R : Room} {s : State} {m : MethodId} {args : Array Value} {below : List Frame} {meth : Method} {c : Code} {T : State} {locs : List Loc} {cells slots : Nat}
theorem retI (X : Stand p l e R s m args below meth c T locs cells slots) (hx : p.tables.exec = Jvm.exec) {pc : Nat} {Ls : Array Slot} {z : Int32} {rest : List Value} (hret : meth.sig.returnType = some .int) (hd : decode c.code pc = .ok (.ireturn, 1)) {fs : List Frame}
    (hl : ∀ (f : JFrame) (acts : List Action), f.method = m → f.locked = none → f.entered = [] → (doReturn e (T.setTop f) acts (some (.int z))).1 = T.setFrames fs) : Steps p.tables e below (T.setTop (mkF m pc Ls (.int z :: rest))) (T.setFrames fs) := by
  have hm' : T.vm.method? m = some meth := X.method'
  have hn : narrow .int (.int z) = .int z := rfl
  show Steps p.tables e below (T.setTop { method := m, pc := pc, locals := Ls, stack := _ :: rest, locked := none }) _
  jvm_step X.here [X.here.top, hx, hd, hm', hret, hn]
  first | (intro acts; rw [hl _ acts rfl rfl rfl]) | rw [hl _ _ rfl rfl rfl]
  exact Steps.refl _
end New
end Jvm.RoadKit
namespace Jvm.OwnRuns
open Jvm Sem ClassFile Op Lib Jvm.Stand Jvm.Free Jvm.LawKit Jvm.RoadKit
/-- from the state T the invocation comes to its end, and there Φ holds -/
def Runs (tb : Tables) (e : Env) (below : List Frame) (Φ : Outcome → State → Prop) (T : State) : Prop := ∃ s₂ o, Steps tb e below T s₂ ∧ s₂.status = .running ∧ Ended s₂ below o ∧ Φ o s₂
abbrev Phi (s : State) (Q : Option Value → Heap → List Loc → Prop) (k n : Nat) (o : Outcome) (U' : State) : Prop := ∃ v L, o = .returned v ∧ Q v U'.heap L ∧ FrameEnd s o U' L k n
theorem Runs.st {tb : Tables} {e : Env} {below : List Frame} {Φ : Outcome → State → Prop} {T T' : State} (h : ∀ t, Steps tb e below T' t → Steps tb e below T t) (r : Runs tb e below Φ T') : Runs tb e below Φ T := by
  obtain ⟨a, o, h1, h2⟩ := r
  exact ⟨a, o, h a h1, h2⟩
theorem Runs.tr {tb : Tables} {e : Env} {below : List Frame} {Φ : Outcome → State → Prop} {T T' : State} (h : Steps tb e below T T') (r : Runs tb e below Φ T') : Runs tb e below Φ T := Runs.st (fun _ k => h.trans k) r
section Laws
variable {p : Program} {l : Launch} {e : Env} {R : Room} {s : State} {m : MethodId} {args : Array Value} {below : List Frame} {meth : Method} {c : Code} {T : State} {locs : List Loc} {cells slots : Nat}
theorem Runs.ret (X : Stand p l e R s m args below meth c T locs cells slots) (hlk : meth.locks = false) {v : Option Value} (hv : meth.sig.returnType = none → v = none) {Q : Option Value → Heap → List Loc → Prop} {k n : Nat} (hk : cells ≤ k) (hn : slots ≤ n) (hQ : Q v T.heap locs) {T0 : State}
    (hst : ∀ fs : List Frame, (∀ (f : JFrame) (acts : List Action), f.method = m → f.locked = none → f.entered = [] → (doReturn e (T.setTop f) acts v).1 = T.setFrames fs) → Steps p.tables e below T0 (T.setFrames fs)) : Runs p.tables e below (Phi s Q k n) T0 := by
  obtain ⟨fs, hr, hrun, hended, hW, hsame⟩ := X.leave hv hlk
  exact ⟨_, _, hst fs hr, hrun, hended, _, _, rfl, hQ, ⟨_, rfl⟩, hW, hsame.mono hk hn⟩
theorem wider (X : Stand p l e R s m args below meth c T locs cells slots) {c' s' : Nat} (hc : cells ≤ c') (hs : slots ≤ s') : Stand p l e R s m args below meth c T locs c' s' := { X with same := X.same.mono hc hs }
abbrev PhiW (s : State) (Q : Option Value → Heap → List Loc → Prop) (k n : Nat) (o : Outcome) (U' : State) : Prop := ∃ v L, o = .returned v ∧ Q v U'.heap L ∧ ReturnedEndW s o U' L k n
theorem Runs.retW {vm₁ : Vm} (X : Stand p l e R (s.setVm vm₁) m args below meth c T locs cells slots) {n1 : Nat} (hS : s.Since vm₁ n1) (hk1 : n1 ≤ T.heap.size) (hlk : meth.locks = false) {v : Option Value} (hv : meth.sig.returnType = none → v = none) {Q : Option Value → Heap → List Loc → Prop} {k n : Nat} (hk : cells ≤ k) (hn : slots ≤ n) (hQ : Q v T.heap locs) {T0 : State}
    (hst : ∀ fs : List Frame, (∀ (f : JFrame) (acts : List Action), f.method = m → f.locked = none → f.entered = [] → (doReturn e (T.setTop f) acts v).1 = T.setFrames fs) → Steps p.tables e below T0 (T.setFrames fs)) : Runs p.tables e below (PhiW s Q k n) T0 := by
  obtain ⟨fs, hr, hrun, hended, hW⟩ := (wider X hk hn).leaveW hS hk1 hv hlk
  exact ⟨_, _, hst fs hr, hrun, hended, _, _, rfl, hQ, hW⟩
abbrev PhiH (Z : State) (EL : List (String × Nat)) (s : State) (Q : Option Value → Heap → List Loc → Prop) (k n : Nat) (o : Outcome) (U' : State) : Prop := ∃ v L, o = .returned v ∧ Q v U'.heap L ∧ CHr Z EL s.vm s.heap U'.vm U'.heap ∧ ReturnedEndW s o U' L k n
theorem Runs.retH {Z : State} {EL : List (String × Nat)} {vm₁ : Vm} (X : Stand p l e R (s.setVm vm₁) m args below meth c T locs cells slots) {n1 : Nat} (hS : s.Since vm₁ n1) (hk1 : n1 ≤ T.heap.size) (hlk : meth.locks = false) {v : Option Value} (hv : meth.sig.returnType = none → v = none) {Q : Option Value → Heap → List Loc → Prop} {k n : Nat} (hk : cells ≤ k) (hn : slots ≤ n) (hQ : Q v T.heap locs) (hC : CHr Z EL s.vm s.heap T.vm T.heap) {T0 : State}
    (hst : ∀ fs : List Frame, (∀ (f : JFrame) (acts : List Action), f.method = m → f.locked = none → f.entered = [] → (doReturn e (T.setTop f) acts v).1 = T.setFrames fs) → Steps p.tables e below T0 (T.setFrames fs)) : Runs p.tables e below (PhiH Z EL s Q k n) T0 := by
  obtain ⟨fs, hr, hrun, hended, hW⟩ := (wider X hk hn).leaveW hS hk1 hv hlk
  exact ⟨_, _, hst fs hr, hrun, hended, _, _, rfl, hQ, hC, hW⟩
end Laws
section Facts
variable {Z : State} {h h' : Heap} {a : Addr} {C n d : String} {v : Value} {bo : Bool} {ws : List Addr}
theorem Ins_keep (F : Ins Z h a C bo) (K : Keep h h' ws) : Ins Z h' a C bo := by
  obtain ⟨cell, cT, h1, h2, h3⟩ := F
  obtain ⟨c', e1, e2, e3, -⟩ := K.2.2 _ _ h1
  exact ⟨c', cT, e1, h2, by rw [e2, e3]; exact h3⟩
theorem narrow_ref {t : FieldType} {v : Value} (h : v.isRef = true) : narrow t v = v := by rcases ref_cases h with rfl | ⟨_, rfl⟩ <;> cases t <;> rfl
end Facts
end Jvm.OwnRuns
namespace Jvm.Pilot.@@N@@
open Jvm Jvm.ClassFile Sem Op Lib Jvm.Free Jvm.Stand Jvm.LawKit Jvm.RoadKit Bundle Jvm.OwnRuns Jvm.Pilot.@@N@@.Jvm.D
theorem own_lt (a b : Int32) : a < b ↔ a.toInt < b.toInt := Int32.lt_iff_toInt_lt
theorem own_x (k : Int32) (h1 : 1 ≤ k.toInt) (h2 : k.toInt ≤ 1000) : ((k - (1 : Int32)) / (100 : Int32)).toInt = (k.toInt - 1) / 100 ∧ ((k - (1 : Int32)) % (100 : Int32)).toInt = (k.toInt - 1) % 100 := by
  have e : (k - (1 : Int32)).toInt = k.toInt - 1 := Jvm.Kit.i32_sub (by show _ ≤ k.toInt - (1 : Int); omega) (by show k.toInt - (1 : Int) < _; omega)
  have d := (c_idiv (k - (1 : Int32)) (100 : Int32) 100 rfl (by decide)).1 (by omega)
  have r := (c_irem (k - (1 : Int32)) (100 : Int32) 100 rfl).1 (by omega)
  rw [e] at d r
  exact ⟨d, r⟩
theorem own_e0 (k : Int32) (h1 : 1 ≤ k.toInt) (h2 : k.toInt ≤ 1000) : ((((((k - (1 : Int32)) / (100 : Int32)) + (1 : Int32)) * (100 : Int32)) + ((k - (1 : Int32)) % (100 : Int32))) + (1 : Int32)) = k + (100 : Int32) := by
  obtain ⟨a, b⟩ := own_x k h1 h2
  have m1 := c_iadd ((k - (1 : Int32)) / (100 : Int32)) (1 : Int32)
  have m2 := c_imul (((k - (1 : Int32)) / (100 : Int32)) + (1 : Int32)) (100 : Int32)
  have m3 := c_iadd ((((k - (1 : Int32)) / (100 : Int32)) + (1 : Int32)) * (100 : Int32)) ((k - (1 : Int32)) % (100 : Int32))
  have m4 := c_iadd (((((k - (1 : Int32)) / (100 : Int32)) + (1 : Int32)) * (100 : Int32)) + ((k - (1 : Int32)) % (100 : Int32))) (1 : Int32)
  have m5 := c_iadd k (100 : Int32)
  have t1 : (1 : Int32).toInt = 1 := rfl
  have t2 : (100 : Int32).toInt = 100 := rfl
  have r1 := rng32 (((k - (1 : Int32)) / (100 : Int32)) + (1 : Int32))
  have r2 := rng32 ((((k - (1 : Int32)) / (100 : Int32)) + (1 : Int32)) * (100 : Int32))
  have r3 := rng32 (((((k - (1 : Int32)) / (100 : Int32)) + (1 : Int32)) * (100 : Int32)) + ((k - (1 : Int32)) % (100 : Int32)))
  have r4 := rng32 ((((((k - (1 : Int32)) / (100 : Int32)) + (1 : Int32)) * (100 : Int32)) + ((k - (1 : Int32)) % (100 : Int32))) + (1 : Int32))
  have r5 := rng32 (k + (100 : Int32))
  rw [t1] at m1 m4
  rw [t2] at m2 m5
  apply Int32.toInt_inj.mp
  omega
theorem own_e1 (k : Int32) (h1 : 1 ≤ k.toInt) (h2 : k.toInt ≤ 1000) : ((((((k - (1 : Int32)) / (100 : Int32)) + (1 : Int32)) * (100 : Int32)) + ((((k - (1 : Int32)) % (100 : Int32)) + (1 : Int32)) % (100 : Int32))) + (1 : Int32)) = if k % (100 : Int32) = (0 : Int32) then k + (1 : Int32) else k + (101 : Int32) := by
  obtain ⟨a, b⟩ := own_x k h1 h2
  have m0 := c_iadd ((k - (1 : Int32)) % (100 : Int32)) (1 : Int32)
  have r0 := rng32 (((k - (1 : Int32)) % (100 : Int32)) + (1 : Int32))
  have t1 : (1 : Int32).toInt = 1 := rfl
  have t2 : (100 : Int32).toInt = 100 := rfl
  rw [t1] at m0
  have n0 : (((k - (1 : Int32)) % (100 : Int32)) + (1 : Int32)).toInt = (k.toInt - 1) % 100 + 1 := by omega
  have d0 := (c_irem (((k - (1 : Int32)) % (100 : Int32)) + (1 : Int32)) (100 : Int32) 100 rfl).1 (by omega)
  have dk := (c_irem k (100 : Int32) 100 rfl).1 (by omega)
  have m1 := c_iadd ((k - (1 : Int32)) / (100 : Int32)) (1 : Int32)
  have m2 := c_imul (((k - (1 : Int32)) / (100 : Int32)) + (1 : Int32)) (100 : Int32)
  have m3 := c_iadd ((((k - (1 : Int32)) / (100 : Int32)) + (1 : Int32)) * (100 : Int32)) ((((k - (1 : Int32)) % (100 : Int32)) + (1 : Int32)) % (100 : Int32))
  have m4 := c_iadd (((((k - (1 : Int32)) / (100 : Int32)) + (1 : Int32)) * (100 : Int32)) + ((((k - (1 : Int32)) % (100 : Int32)) + (1 : Int32)) % (100 : Int32))) (1 : Int32)
  have r1 := rng32 (((k - (1 : Int32)) / (100 : Int32)) + (1 : Int32))
  have r2 := rng32 ((((k - (1 : Int32)) / (100 : Int32)) + (1 : Int32)) * (100 : Int32))
  have r3 := rng32 (((((k - (1 : Int32)) / (100 : Int32)) + (1 : Int32)) * (100 : Int32)) + ((((k - (1 : Int32)) % (100 : Int32)) + (1 : Int32)) % (100 : Int32)))
  have r4 := rng32 ((((((k - (1 : Int32)) / (100 : Int32)) + (1 : Int32)) * (100 : Int32)) + ((((k - (1 : Int32)) % (100 : Int32)) + (1 : Int32)) % (100 : Int32))) + (1 : Int32))
  rw [t1] at m1 m4
  rw [t2] at m2
  rw [n0] at d0
  by_cases c : k % (100 : Int32) = (0 : Int32)
  · rw [if_pos c]
    have c' : (k % (100 : Int32)).toInt = 0 := by rw [c]; rfl
    have m5 := c_iadd k (1 : Int32)
    have r5 := rng32 (k + (1 : Int32))
    rw [t1] at m5
    apply Int32.toInt_inj.mp
    omega
  · rw [if_neg c]
    have c' : (k % (100 : Int32)).toInt ≠ 0 := fun q => c (Int32.toInt_inj.mp q)
    have m5 := c_iadd k (101 : Int32)
    have t3 : (101 : Int32).toInt = 101 := rfl
    have r5 := rng32 (k + (101 : Int32))
    rw [t3] at m5
    apply Int32.toInt_inj.mp
    omega
def Q_rmA (Z : State) (k : Int32)  (h0 : Heap) (n0 : Nat) : Option Value → Heap → List Loc → Prop := (fun v h L => ∃ b kk, v = some (.ref b) ∧ Fr n0 L ∧ Keep h0 h [] ∧ Arv Z h b kk .int (0 : Int32) [] (.int (0 : Int32)))
theorem pn_com_example_kori_bench_StartupGraph : plainName "com/example/kori/bench/StartupGraph" = true := by first | (simp [plainName, overriddenIn]; done) | decide +kernel
theorem ef_prog_4_method_2_I (m : MethodId) (x0 : Int32)  : entryFrame m #[(.int x0)] 5 = mkF m 0 #[.val (.int x0), .unset, .unset, .unset, .unset] [] := by first | (simp [entryFrame, mkF, argsToLocals, Value.category]; done) | rfl
theorem d_prog_4_method_2_0 : decode prog_4_method_2_code 0 = .ok (.iload_n 0, 1) := by decide +kernel
theorem d_prog_4_method_2_1 : decode prog_4_method_2_code 1 = .ok (.iconst 1, 1) := by decide +kernel
theorem d_prog_4_method_2_2 : decode prog_4_method_2_code 2 = .ok (.if_icmp .lt 10, 3) := by decide +kernel
theorem d_prog_4_method_2_5 : decode prog_4_method_2_code 5 = .ok (.iload_n 0, 1) := by decide +kernel
theorem d_prog_4_method_2_6 : decode prog_4_method_2_code 6 = .ok (.sipush 1000, 3) := by decide +kernel
theorem d_prog_4_method_2_9 : decode prog_4_method_2_code 9 = .ok (.if_icmp .le 17, 3) := by decide +kernel
theorem d_prog_4_method_2_26 : decode prog_4_method_2_code 26 = .ok (.iload_n 0, 1) := by decide +kernel
theorem d_prog_4_method_2_27 : decode prog_4_method_2_code 27 = .ok (.iconst 1, 1) := by decide +kernel
theorem d_prog_4_method_2_28 : decode prog_4_method_2_code 28 = .ok (.isub, 1) := by decide +kernel
theorem d_prog_4_method_2_29 : decode prog_4_method_2_code 29 = .ok (.bipush 100, 2) := by decide +kernel
theorem d_prog_4_method_2_31 : decode prog_4_method_2_code 31 = .ok (.idiv, 1) := by decide +kernel
theorem d_prog_4_method_2_32 : decode prog_4_method_2_code 32 = .ok (.istore_n 1, 1) := by decide +kernel
theorem d_prog_4_method_2_33 : decode prog_4_method_2_code 33 = .ok (.iload_n 0, 1) := by decide +kernel
theorem d_prog_4_method_2_34 : decode prog_4_method_2_code 34 = .ok (.iconst 1, 1) := by decide +kernel
theorem d_prog_4_method_2_35 : decode prog_4_method_2_code 35 = .ok (.isub, 1) := by decide +kernel
theorem d_prog_4_method_2_36 : decode prog_4_method_2_code 36 = .ok (.bipush 100, 2) := by decide +kernel
theorem d_prog_4_method_2_38 : decode prog_4_method_2_code 38 = .ok (.irem, 1) := by decide +kernel
theorem d_prog_4_method_2_39 : decode prog_4_method_2_code 39 = .ok (.istore_n 2, 1) := by decide +kernel
theorem d_prog_4_method_2_40 : decode prog_4_method_2_code 40 = .ok (.iload_n 1, 1) := by decide +kernel
theorem d_prog_4_method_2_41 : decode prog_4_method_2_code 41 = .ok (.bipush 9, 2) := by decide +kernel
theorem d_prog_4_method_2_43 : decode prog_4_method_2_code 43 = .ok (.if_icmp .ne 10, 3) := by decide +kernel
theorem d_prog_4_method_2_46 : decode prog_4_method_2_code 46 = .ok (.iconst 0, 1) := by decide +kernel
theorem d_prog_4_method_2_47 : decode prog_4_method_2_code 47 = .ok (.newarray .int, 2) := by decide +kernel
theorem d_prog_4_method_2_49 : decode prog_4_method_2_code 49 = .ok (.astore_n 3, 1) := by decide +kernel
theorem d_prog_4_method_2_50 : decode prog_4_method_2_code 50 = .ok (.goto 38, 3) := by decide +kernel
theorem d_prog_4_method_2_88 : decode prog_4_method_2_code 88 = .ok (.aload_n 3, 1) := by decide +kernel
theorem d_prog_4_method_2_89 : decode prog_4_method_2_code 89 = .ok (.areturn, 1) := by decide +kernel
set_option maxRecDepth 65536 in
set_option maxHeartbeats 40000000 in
theorem rmA (l : Launch) (Z : State) (a0 : Array Value) (hw : ∀ d ∈ tables_1, d.before a0 Z = true) (ws : List Jvm.Cond) (k : Int32)  (h0 : Heap) (n0 : Nat) (Z0 : n0 ≤ h0.size) (h1 : 901 ≤ k.toInt) (h2 : k.toInt ≤ 1000) :
    MetFree l (⟨"com/example/kori/bench/StartupGraph", "dependencies", "(I)[I"⟩ : MethodName) (head1 (Jvm.Cond.code (⟨"com/example/kori/bench/StartupGraph", "dependencies", "(I)[I"⟩ : MethodName) prog_4_method_2_code 5 (some (.array .int)) :: ws) ({ frames := 0, cells := 1, slots := 2, locals := 0 } : Room)) (fun ar_ U => ar_ = #[(.int k)] ∧ Z.Warmed39 U.vm ∧ U.heap = h0) (fun _ _ _ _ _ => True) (fun _ U o U' => Phi U (Q_rmA Z k h0 n0) ({ frames := 0, cells := 1, slots := 2, locals := 0 } : Room).cells ({ frames := 0, cells := 1, slots := 2, locals := 0 } : Room).slots o U') := by
  refine MetFree.of_bodySF (plainFor_of_name pn_com_example_kori_bench_StartupGraph) hisR ?_
  intro p e s m args below meth c s₁ Bd hml0 hP hK
  obtain ⟨rfl, hZ, hh⟩ := hP
  have hx := Bd.exec
  have hby := Bd.bytes
  have hlk := Bd.notSynchronized
  have hml : c.maxLocals = 5 := hml0
  have hown : s.vm.findClass "com/example/kori/bench/StartupGraph" = some m.cls := findClass_of_methodNamed Bd.named
  have hown0 := hown
  have hnm := (name_of_methodNamed Bd.named Bd.method).1
  have hret := Bd.returns
  have X0 : Stand p l e ({ frames := 0, cells := 1, slots := 2, locals := 0 } : Room) s m #[(.int k)] below meth c s₁ [] 0 0 := Stand.of_body Bd
  have e0 : s₁.heap = h0 := by rw [← hh, Bd.state]; rfl
  have N0 := Fr.nil n0
  have sz := Z0
  have K := Keep.refl h0 []
  show Runs p.tables e below (Phi s (Q_rmA Z k h0 n0) ({ frames := 0, cells := 1, slots := 2, locals := 0 } : Room).cells ({ frames := 0, cells := 1, slots := 2, locals := 0 } : Room).slots) _
  refine Runs.st (fun t' k' => castTop (ef_prog_4_method_2_I m k ) k') ?_
  show Runs p.tables e below _ (s₁.setTop (mkF m 0 #[.val (.int k), .unset, .unset, .unset, .unset] []))
  replace h1 : 1 ≤ k.toInt ∧ 901 ≤ k.toInt := ⟨by omega, h1⟩
  obtain ⟨h1, h3⟩ := h1
  obtain ⟨x1, x2⟩ := own_x k h1 h2
  refine Runs.st (fun t' k' => XS.iloadN X0.here hx rfl (hb hby d_prog_4_method_2_0) rfl k') ?_
  show Runs p.tables e below _ (s₁.setTop (mkF m 1 #[.val (.int k), .unset, .unset, .unset, .unset] [(.int k)]))
  refine Runs.st (fun t' k' => XS.iconst X0.here hx rfl (hb hby d_prog_4_method_2_1) k') ?_
  show Runs p.tables e below _ (s₁.setTop (mkF m 2 #[.val (.int k), .unset, .unset, .unset, .unset] [(.int (1 : Int32)), (.int k)]))
  refine Runs.st (fun t' k' => XS.icmpNo X0.here hx rfl (hb hby d_prog_4_method_2_2) rfl (flt (by rw [own_lt]; show ¬ (k.toInt < (1 : Int)); omega)).1 k') ?_
  show Runs p.tables e below _ (s₁.setTop (mkF m 5 #[.val (.int k), .unset, .unset, .unset, .unset] []))
  refine Runs.st (fun t' k' => XS.iloadN X0.here hx rfl (hb hby d_prog_4_method_2_5) rfl k') ?_
  show Runs p.tables e below _ (s₁.setTop (mkF m 6 #[.val (.int k), .unset, .unset, .unset, .unset] [(.int k)]))
  refine Runs.st (fun t' k' => XS.sipush X0.here hx rfl (hb hby d_prog_4_method_2_6) k') ?_
  show Runs p.tables e below _ (s₁.setTop (mkF m 9 #[.val (.int k), .unset, .unset, .unset, .unset] [(.int (1000 : Int32)), (.int k)]))
  refine Runs.st (fun t' k' => XS.icmpYes X0.here hx rfl (pc0 := 9) (pc' := 26) rfl (hb hby d_prog_4_method_2_9) rfl (flt (by rw [own_lt]; show ¬ ((1000 : Int) < k.toInt); omega)).2.2.2 (by decide) (by decide) k') ?_
  show Runs p.tables e below _ (s₁.setTop (mkF m 26 #[.val (.int k), .unset, .unset, .unset, .unset] []))
  refine Runs.st (fun t' k' => XS.iloadN X0.here hx rfl (hb hby d_prog_4_method_2_26) rfl k') ?_
  show Runs p.tables e below _ (s₁.setTop (mkF m 27 #[.val (.int k), .unset, .unset, .unset, .unset] [(.int k)]))
  refine Runs.st (fun t' k' => XS.iconst X0.here hx rfl (hb hby d_prog_4_method_2_27) k') ?_
  show Runs p.tables e below _ (s₁.setTop (mkF m 28 #[.val (.int k), .unset, .unset, .unset, .unset] [(.int (1 : Int32)), (.int k)]))
  refine Runs.st (fun t' k' => XS.isub X0.here hx rfl (hb hby d_prog_4_method_2_28) rfl k') ?_
  show Runs p.tables e below _ (s₁.setTop (mkF m 29 #[.val (.int k), .unset, .unset, .unset, .unset] [(.int (k - (1 : Int32)))]))
  refine Runs.st (fun t' k' => XS.bipush X0.here hx rfl (hb hby d_prog_4_method_2_29) k') ?_
  show Runs p.tables e below _ (s₁.setTop (mkF m 31 #[.val (.int k), .unset, .unset, .unset, .unset] [(.int (100 : Int32)), (.int (k - (1 : Int32)))]))
  refine Runs.st (fun t' k' => XS.idiv X0.here hx rfl (hb hby d_prog_4_method_2_31) rfl (by decide) k') ?_
  show Runs p.tables e below _ (s₁.setTop (mkF m 32 #[.val (.int k), .unset, .unset, .unset, .unset] [(.int ((k - (1 : Int32)) / (100 : Int32)))]))
  refine Runs.st (fun t' k' => XS.istoreN X0.here hx rfl (hb hby d_prog_4_method_2_32) rfl (l' := #[.val (.int k), .val (.int ((k - (1 : Int32)) / (100 : Int32))), .unset, .unset, .unset]) rfl k') ?_
  show Runs p.tables e below _ (s₁.setTop (mkF m 33 #[.val (.int k), .val (.int ((k - (1 : Int32)) / (100 : Int32))), .unset, .unset, .unset] []))
  refine Runs.st (fun t' k' => XS.iloadN X0.here hx rfl (hb hby d_prog_4_method_2_33) rfl k') ?_
  show Runs p.tables e below _ (s₁.setTop (mkF m 34 #[.val (.int k), .val (.int ((k - (1 : Int32)) / (100 : Int32))), .unset, .unset, .unset] [(.int k)]))
  refine Runs.st (fun t' k' => XS.iconst X0.here hx rfl (hb hby d_prog_4_method_2_34) k') ?_
  show Runs p.tables e below _ (s₁.setTop (mkF m 35 #[.val (.int k), .val (.int ((k - (1 : Int32)) / (100 : Int32))), .unset, .unset, .unset] [(.int (1 : Int32)), (.int k)]))
  refine Runs.st (fun t' k' => XS.isub X0.here hx rfl (hb hby d_prog_4_method_2_35) rfl k') ?_
  show Runs p.tables e below _ (s₁.setTop (mkF m 36 #[.val (.int k), .val (.int ((k - (1 : Int32)) / (100 : Int32))), .unset, .unset, .unset] [(.int (k - (1 : Int32)))]))
  refine Runs.st (fun t' k' => XS.bipush X0.here hx rfl (hb hby d_prog_4_method_2_36) k') ?_
  show Runs p.tables e below _ (s₁.setTop (mkF m 38 #[.val (.int k), .val (.int ((k - (1 : Int32)) / (100 : Int32))), .unset, .unset, .unset] [(.int (100 : Int32)), (.int (k - (1 : Int32)))]))
  refine Runs.st (fun t' k' => iremM X0 hx rfl (hb hby d_prog_4_method_2_38) rfl (by decide) k') ?_
  show Runs p.tables e below _ (s₁.setTop (mkF m 39 #[.val (.int k), .val (.int ((k - (1 : Int32)) / (100 : Int32))), .unset, .unset, .unset] [(.int ((k - (1 : Int32)) % (100 : Int32)))]))
  refine Runs.st (fun t' k' => XS.istoreN X0.here hx rfl (hb hby d_prog_4_method_2_39) rfl (l' := #[.val (.int k), .val (.int ((k - (1 : Int32)) / (100 : Int32))), .val (.int ((k - (1 : Int32)) % (100 : Int32))), .unset, .unset]) rfl k') ?_
  show Runs p.tables e below _ (s₁.setTop (mkF m 40 #[.val (.int k), .val (.int ((k - (1 : Int32)) / (100 : Int32))), .val (.int ((k - (1 : Int32)) % (100 : Int32))), .unset, .unset] []))
  refine Runs.st (fun t' k' => XS.iloadN X0.here hx rfl (hb hby d_prog_4_method_2_40) rfl k') ?_
  show Runs p.tables e below _ (s₁.setTop (mkF m 41 #[.val (.int k), .val (.int ((k - (1 : Int32)) / (100 : Int32))), .val (.int ((k - (1 : Int32)) % (100 : Int32))), .unset, .unset] [(.int ((k - (1 : Int32)) / (100 : Int32)))]))
  refine Runs.st (fun t' k' => XS.bipush X0.here hx rfl (hb hby d_prog_4_method_2_41) k') ?_
  show Runs p.tables e below _ (s₁.setTop (mkF m 43 #[.val (.int k), .val (.int ((k - (1 : Int32)) / (100 : Int32))), .val (.int ((k - (1 : Int32)) % (100 : Int32))), .unset, .unset] [(.int (9 : Int32)), (.int ((k - (1 : Int32)) / (100 : Int32)))]))
  refine Runs.st (fun t' k' => XS.icmpNo X0.here hx rfl (hb hby d_prog_4_method_2_43) rfl (teq (Int32.toInt_inj.mp (by show _ = (9 : Int); omega))).2 k') ?_
  show Runs p.tables e below _ (s₁.setTop (mkF m 46 #[.val (.int k), .val (.int ((k - (1 : Int32)) / (100 : Int32))), .val (.int ((k - (1 : Int32)) % (100 : Int32))), .unset, .unset] []))
  refine Runs.st (fun t' k' => XS.iconst X0.here hx rfl (hb hby d_prog_4_method_2_46) k') ?_
  show Runs p.tables e below _ (s₁.setTop (mkF m 47 #[.val (.int k), .val (.int ((k - (1 : Int32)) / (100 : Int32))), .val (.int ((k - (1 : Int32)) % (100 : Int32))), .unset, .unset] [(.int (0 : Int32))]))
  obtain ⟨T1_, h1_, k1_, X1_, e1_, E1_, A1_, st1_⟩ := newP X0 hx hZ (hw _ (List.mem_of_getElem? (i := 5) rfl)) e0 (g := (mkF m 47 #[.val (.int k), .val (.int ((k - (1 : Int32)) / (100 : Int32))), .val (.int ((k - (1 : Int32)) % (100 : Int32))), .unset, .unset] [(.int (0 : Int32))])) rfl (hb hby d_prog_4_method_2_47) rfl (by decide) (cap := 0) (by decide) (by decide) (by decide) (by decide)
  refine Runs.st (st1_) ?_
  obtain ⟨b1, g1_⟩ : ∃ z, z = h0.size := ⟨_, rfl⟩
  rw [← g1_] at A1_
  try rw [← g1_]
  have g_b1 : n0 ≤ b1 := Nat.le_trans sz (Nat.le_of_eq g1_.symm)
  have sz_b1 : h0.size ≤ b1 := Nat.le_trans K.1 (Nat.le_of_eq g1_.symm)
  replace sz := Nat.le_trans sz E1_.1
  replace K := K.ext E1_
  have V_b1 : Arv Z h1_ b1 k1_ .int (0 : Int32) [] (.int (0 : Int32)) := (Arv.new A1_ (by decide)).pad (pad_rep [] (.int (0 : Int32)) 0)
  show Runs p.tables e below _ (T1_.setTop (mkF m 49 #[.val (.int k), .val (.int ((k - (1 : Int32)) / (100 : Int32))), .val (.int ((k - (1 : Int32)) % (100 : Int32))), .unset, .unset] [(.ref b1)]))
  refine Runs.st (fun t' k' => XS.astoreN X1_.here hx rfl (hb hby d_prog_4_method_2_49) rfl rfl (l' := #[.val (.int k), .val (.int ((k - (1 : Int32)) / (100 : Int32))), .val (.int ((k - (1 : Int32)) % (100 : Int32))), .val (.ref b1), .unset]) rfl k') ?_
  show Runs p.tables e below _ (T1_.setTop (mkF m 50 #[.val (.int k), .val (.int ((k - (1 : Int32)) / (100 : Int32))), .val (.int ((k - (1 : Int32)) % (100 : Int32))), .val (.ref b1), .unset] []))
  refine Runs.st (fun t' k' => XS.goto X1_.here hx rfl (pc0 := 50) (pc' := 88) rfl (hb hby d_prog_4_method_2_50) (by decide) (by decide) k') ?_
  show Runs p.tables e below _ (T1_.setTop (mkF m 88 #[.val (.int k), .val (.int ((k - (1 : Int32)) / (100 : Int32))), .val (.int ((k - (1 : Int32)) % (100 : Int32))), .val (.ref b1), .unset] []))
  refine Runs.st (fun t' k' => XS.aloadN X1_.here hx rfl (hb hby d_prog_4_method_2_88) rfl rfl k') ?_
  show Runs p.tables e below _ (T1_.setTop (mkF m 89 #[.val (.int k), .val (.int ((k - (1 : Int32)) / (100 : Int32))), .val (.int ((k - (1 : Int32)) % (100 : Int32))), .val (.ref b1), .unset] [(.ref b1)]))
  refine Runs.ret X1_ hlk (v := (some (.ref b1))) (fun h => by rw [hret] at h; cases h) (by decide) (by decide) ?_ (fun fs hr => retOut X1_ hx hret rfl (Or.inr (Or.inr (Or.inr (Or.inr ⟨rfl, rfl, rfl⟩)))) (hb hby d_prog_4_method_2_89) hr)
  try rw [e1_]
  exact ⟨b1, _, rfl, N0, K, V_b1⟩
def Q_rmB (Z : State) (k : Int32) (e1 : Int32) (h0 : Heap) (n0 : Nat) : Option Value → Heap → List Loc → Prop := (fun v h L => ∃ b kk, v = some (.ref b) ∧ Fr n0 L ∧ Keep h0 h [] ∧ Arv Z h b kk .int (2 : Int32) [(.int (k + (100 : Int32))), (.int e1)] (.int (0 : Int32)))
theorem d_prog_4_method_2_53 : decode prog_4_method_2_code 53 = .ok (.iload_n 1, 1) := by decide +kernel
theorem d_prog_4_method_2_54 : decode prog_4_method_2_code 54 = .ok (.iconst 1, 1) := by decide +kernel
theorem d_prog_4_method_2_55 : decode prog_4_method_2_code 55 = .ok (.iadd, 1) := by decide +kernel
theorem d_prog_4_method_2_56 : decode prog_4_method_2_code 56 = .ok (.bipush 100, 2) := by decide +kernel
theorem d_prog_4_method_2_58 : decode prog_4_method_2_code 58 = .ok (.imul, 1) := by decide +kernel
theorem d_prog_4_method_2_59 : decode prog_4_method_2_code 59 = .ok (.istore 4, 2) := by decide +kernel
theorem d_prog_4_method_2_61 : decode prog_4_method_2_code 61 = .ok (.iconst 2, 1) := by decide +kernel
theorem d_prog_4_method_2_62 : decode prog_4_method_2_code 62 = .ok (.newarray .int, 2) := by decide +kernel
theorem d_prog_4_method_2_64 : decode prog_4_method_2_code 64 = .ok (.dup, 1) := by decide +kernel
theorem d_prog_4_method_2_65 : decode prog_4_method_2_code 65 = .ok (.iconst 0, 1) := by decide +kernel
theorem d_prog_4_method_2_66 : decode prog_4_method_2_code 66 = .ok (.iload 4, 2) := by decide +kernel
theorem d_prog_4_method_2_68 : decode prog_4_method_2_code 68 = .ok (.iload_n 2, 1) := by decide +kernel
theorem d_prog_4_method_2_69 : decode prog_4_method_2_code 69 = .ok (.iadd, 1) := by decide +kernel
theorem d_prog_4_method_2_70 : decode prog_4_method_2_code 70 = .ok (.iconst 1, 1) := by decide +kernel
theorem d_prog_4_method_2_71 : decode prog_4_method_2_code 71 = .ok (.iadd, 1) := by decide +kernel
theorem d_prog_4_method_2_72 : decode prog_4_method_2_code 72 = .ok (.iastore, 1) := by decide +kernel
theorem d_prog_4_method_2_73 : decode prog_4_method_2_code 73 = .ok (.dup, 1) := by decide +kernel
theorem d_prog_4_method_2_74 : decode prog_4_method_2_code 74 = .ok (.iconst 1, 1) := by decide +kernel
theorem d_prog_4_method_2_75 : decode prog_4_method_2_code 75 = .ok (.iload 4, 2) := by decide +kernel
theorem d_prog_4_method_2_77 : decode prog_4_method_2_code 77 = .ok (.iload_n 2, 1) := by decide +kernel
theorem d_prog_4_method_2_78 : decode prog_4_method_2_code 78 = .ok (.iconst 1, 1) := by decide +kernel
theorem d_prog_4_method_2_79 : decode prog_4_method_2_code 79 = .ok (.iadd, 1) := by decide +kernel
theorem d_prog_4_method_2_80 : decode prog_4_method_2_code 80 = .ok (.bipush 100, 2) := by decide +kernel
theorem d_prog_4_method_2_82 : decode prog_4_method_2_code 82 = .ok (.irem, 1) := by decide +kernel
theorem d_prog_4_method_2_83 : decode prog_4_method_2_code 83 = .ok (.iadd, 1) := by decide +kernel
theorem d_prog_4_method_2_84 : decode prog_4_method_2_code 84 = .ok (.iconst 1, 1) := by decide +kernel
theorem d_prog_4_method_2_85 : decode prog_4_method_2_code 85 = .ok (.iadd, 1) := by decide +kernel
theorem d_prog_4_method_2_86 : decode prog_4_method_2_code 86 = .ok (.iastore, 1) := by decide +kernel
theorem d_prog_4_method_2_87 : decode prog_4_method_2_code 87 = .ok (.astore_n 3, 1) := by decide +kernel
set_option maxRecDepth 65536 in
set_option maxHeartbeats 40000000 in
theorem rmB (l : Launch) (Z : State) (a0 : Array Value) (hw : ∀ d ∈ tables_1, d.before a0 Z = true) (ws : List Jvm.Cond) (k : Int32) (e1 : Int32) (h0 : Heap) (n0 : Nat) (Z0 : n0 ≤ h0.size) (h1 : 1 ≤ k.toInt) (h2 : k.toInt ≤ 900) (hE : e1 = if k % (100 : Int32) = (0 : Int32) then k + (1 : Int32) else k + (101 : Int32)) :
    MetFree l (⟨"com/example/kori/bench/StartupGraph", "dependencies", "(I)[I"⟩ : MethodName) (head1 (Jvm.Cond.code (⟨"com/example/kori/bench/StartupGraph", "dependencies", "(I)[I"⟩ : MethodName) prog_4_method_2_code 5 (some (.array .int)) :: ws) ({ frames := 0, cells := 1, slots := 2, locals := 0 } : Room)) (fun ar_ U => ar_ = #[(.int k)] ∧ Z.Warmed39 U.vm ∧ U.heap = h0) (fun _ _ _ _ _ => True) (fun _ U o U' => Phi U (Q_rmB Z k e1 h0 n0) ({ frames := 0, cells := 1, slots := 2, locals := 0 } : Room).cells ({ frames := 0, cells := 1, slots := 2, locals := 0 } : Room).slots o U') := by
  refine MetFree.of_bodySF (plainFor_of_name pn_com_example_kori_bench_StartupGraph) hisR ?_
  intro p e s m args below meth c s₁ Bd hml0 hP hK
  obtain ⟨rfl, hZ, hh⟩ := hP
  have hx := Bd.exec
  have hby := Bd.bytes
  have hlk := Bd.notSynchronized
  have hml : c.maxLocals = 5 := hml0
  have hown : s.vm.findClass "com/example/kori/bench/StartupGraph" = some m.cls := findClass_of_methodNamed Bd.named
  have hown0 := hown
  have hnm := (name_of_methodNamed Bd.named Bd.method).1
  have hret := Bd.returns
  have X0 : Stand p l e ({ frames := 0, cells := 1, slots := 2, locals := 0 } : Room) s m #[(.int k)] below meth c s₁ [] 0 0 := Stand.of_body Bd
  have e0 : s₁.heap = h0 := by rw [← hh, Bd.state]; rfl
  have N0 := Fr.nil n0
  have sz := Z0
  have K := Keep.refl h0 []
  show Runs p.tables e below (Phi s (Q_rmB Z k e1 h0 n0) ({ frames := 0, cells := 1, slots := 2, locals := 0 } : Room).cells ({ frames := 0, cells := 1, slots := 2, locals := 0 } : Room).slots) _
  refine Runs.st (fun t' k' => castTop (ef_prog_4_method_2_I m k ) k') ?_
  show Runs p.tables e below _ (s₁.setTop (mkF m 0 #[.val (.int k), .unset, .unset, .unset, .unset] []))
  replace h2 : k.toInt ≤ 1000 ∧ k.toInt ≤ 900 := ⟨by omega, h2⟩
  obtain ⟨h2, h3⟩ := h2
  have q0 : ((((((k - (1 : Int32)) / (100 : Int32)) + (1 : Int32)) * (100 : Int32)) + ((k - (1 : Int32)) % (100 : Int32))) + (1 : Int32)) = k + (100 : Int32) := own_e0 k h1 h2
  have q1 : ((((((k - (1 : Int32)) / (100 : Int32)) + (1 : Int32)) * (100 : Int32)) + ((((k - (1 : Int32)) % (100 : Int32)) + (1 : Int32)) % (100 : Int32))) + (1 : Int32)) = e1 := (own_e1 k h1 h2).trans hE.symm
  obtain ⟨x1, x2⟩ := own_x k h1 h2
  refine Runs.st (fun t' k' => XS.iloadN X0.here hx rfl (hb hby d_prog_4_method_2_0) rfl k') ?_
  show Runs p.tables e below _ (s₁.setTop (mkF m 1 #[.val (.int k), .unset, .unset, .unset, .unset] [(.int k)]))
  refine Runs.st (fun t' k' => XS.iconst X0.here hx rfl (hb hby d_prog_4_method_2_1) k') ?_
  show Runs p.tables e below _ (s₁.setTop (mkF m 2 #[.val (.int k), .unset, .unset, .unset, .unset] [(.int (1 : Int32)), (.int k)]))
  refine Runs.st (fun t' k' => XS.icmpNo X0.here hx rfl (hb hby d_prog_4_method_2_2) rfl (flt (by rw [own_lt]; show ¬ (k.toInt < (1 : Int)); omega)).1 k') ?_
  show Runs p.tables e below _ (s₁.setTop (mkF m 5 #[.val (.int k), .unset, .unset, .unset, .unset] []))
  refine Runs.st (fun t' k' => XS.iloadN X0.here hx rfl (hb hby d_prog_4_method_2_5) rfl k') ?_
  show Runs p.tables e below _ (s₁.setTop (mkF m 6 #[.val (.int k), .unset, .unset, .unset, .unset] [(.int k)]))
  refine Runs.st (fun t' k' => XS.sipush X0.here hx rfl (hb hby d_prog_4_method_2_6) k') ?_
  show Runs p.tables e below _ (s₁.setTop (mkF m 9 #[.val (.int k), .unset, .unset, .unset, .unset] [(.int (1000 : Int32)), (.int k)]))
  refine Runs.st (fun t' k' => XS.icmpYes X0.here hx rfl (pc0 := 9) (pc' := 26) rfl (hb hby d_prog_4_method_2_9) rfl (flt (by rw [own_lt]; show ¬ ((1000 : Int) < k.toInt); omega)).2.2.2 (by decide) (by decide) k') ?_
  show Runs p.tables e below _ (s₁.setTop (mkF m 26 #[.val (.int k), .unset, .unset, .unset, .unset] []))
  refine Runs.st (fun t' k' => XS.iloadN X0.here hx rfl (hb hby d_prog_4_method_2_26) rfl k') ?_
  show Runs p.tables e below _ (s₁.setTop (mkF m 27 #[.val (.int k), .unset, .unset, .unset, .unset] [(.int k)]))
  refine Runs.st (fun t' k' => XS.iconst X0.here hx rfl (hb hby d_prog_4_method_2_27) k') ?_
  show Runs p.tables e below _ (s₁.setTop (mkF m 28 #[.val (.int k), .unset, .unset, .unset, .unset] [(.int (1 : Int32)), (.int k)]))
  refine Runs.st (fun t' k' => XS.isub X0.here hx rfl (hb hby d_prog_4_method_2_28) rfl k') ?_
  show Runs p.tables e below _ (s₁.setTop (mkF m 29 #[.val (.int k), .unset, .unset, .unset, .unset] [(.int (k - (1 : Int32)))]))
  refine Runs.st (fun t' k' => XS.bipush X0.here hx rfl (hb hby d_prog_4_method_2_29) k') ?_
  show Runs p.tables e below _ (s₁.setTop (mkF m 31 #[.val (.int k), .unset, .unset, .unset, .unset] [(.int (100 : Int32)), (.int (k - (1 : Int32)))]))
  refine Runs.st (fun t' k' => XS.idiv X0.here hx rfl (hb hby d_prog_4_method_2_31) rfl (by decide) k') ?_
  show Runs p.tables e below _ (s₁.setTop (mkF m 32 #[.val (.int k), .unset, .unset, .unset, .unset] [(.int ((k - (1 : Int32)) / (100 : Int32)))]))
  refine Runs.st (fun t' k' => XS.istoreN X0.here hx rfl (hb hby d_prog_4_method_2_32) rfl (l' := #[.val (.int k), .val (.int ((k - (1 : Int32)) / (100 : Int32))), .unset, .unset, .unset]) rfl k') ?_
  show Runs p.tables e below _ (s₁.setTop (mkF m 33 #[.val (.int k), .val (.int ((k - (1 : Int32)) / (100 : Int32))), .unset, .unset, .unset] []))
  refine Runs.st (fun t' k' => XS.iloadN X0.here hx rfl (hb hby d_prog_4_method_2_33) rfl k') ?_
  show Runs p.tables e below _ (s₁.setTop (mkF m 34 #[.val (.int k), .val (.int ((k - (1 : Int32)) / (100 : Int32))), .unset, .unset, .unset] [(.int k)]))
  refine Runs.st (fun t' k' => XS.iconst X0.here hx rfl (hb hby d_prog_4_method_2_34) k') ?_
  show Runs p.tables e below _ (s₁.setTop (mkF m 35 #[.val (.int k), .val (.int ((k - (1 : Int32)) / (100 : Int32))), .unset, .unset, .unset] [(.int (1 : Int32)), (.int k)]))
  refine Runs.st (fun t' k' => XS.isub X0.here hx rfl (hb hby d_prog_4_method_2_35) rfl k') ?_
  show Runs p.tables e below _ (s₁.setTop (mkF m 36 #[.val (.int k), .val (.int ((k - (1 : Int32)) / (100 : Int32))), .unset, .unset, .unset] [(.int (k - (1 : Int32)))]))
  refine Runs.st (fun t' k' => XS.bipush X0.here hx rfl (hb hby d_prog_4_method_2_36) k') ?_
  show Runs p.tables e below _ (s₁.setTop (mkF m 38 #[.val (.int k), .val (.int ((k - (1 : Int32)) / (100 : Int32))), .unset, .unset, .unset] [(.int (100 : Int32)), (.int (k - (1 : Int32)))]))
  refine Runs.st (fun t' k' => iremM X0 hx rfl (hb hby d_prog_4_method_2_38) rfl (by decide) k') ?_
  show Runs p.tables e below _ (s₁.setTop (mkF m 39 #[.val (.int k), .val (.int ((k - (1 : Int32)) / (100 : Int32))), .unset, .unset, .unset] [(.int ((k - (1 : Int32)) % (100 : Int32)))]))
  refine Runs.st (fun t' k' => XS.istoreN X0.here hx rfl (hb hby d_prog_4_method_2_39) rfl (l' := #[.val (.int k), .val (.int ((k - (1 : Int32)) / (100 : Int32))), .val (.int ((k - (1 : Int32)) % (100 : Int32))), .unset, .unset]) rfl k') ?_
  show Runs p.tables e below _ (s₁.setTop (mkF m 40 #[.val (.int k), .val (.int ((k - (1 : Int32)) / (100 : Int32))), .val (.int ((k - (1 : Int32)) % (100 : Int32))), .unset, .unset] []))
  refine Runs.st (fun t' k' => XS.iloadN X0.here hx rfl (hb hby d_prog_4_method_2_40) rfl k') ?_
  show Runs p.tables e below _ (s₁.setTop (mkF m 41 #[.val (.int k), .val (.int ((k - (1 : Int32)) / (100 : Int32))), .val (.int ((k - (1 : Int32)) % (100 : Int32))), .unset, .unset] [(.int ((k - (1 : Int32)) / (100 : Int32)))]))
  refine Runs.st (fun t' k' => XS.bipush X0.here hx rfl (hb hby d_prog_4_method_2_41) k') ?_
  show Runs p.tables e below _ (s₁.setTop (mkF m 43 #[.val (.int k), .val (.int ((k - (1 : Int32)) / (100 : Int32))), .val (.int ((k - (1 : Int32)) % (100 : Int32))), .unset, .unset] [(.int (9 : Int32)), (.int ((k - (1 : Int32)) / (100 : Int32)))]))
  refine Runs.st (fun t' k' => XS.icmpYes X0.here hx rfl (pc0 := 43) (pc' := 53) rfl (hb hby d_prog_4_method_2_43) rfl (feq (fun q => by have q' := congrArg Int32.toInt q; rw [x1] at q'; change _ = (9 : Int) at q'; omega)).2 (by decide) (by decide) k') ?_
  show Runs p.tables e below _ (s₁.setTop (mkF m 53 #[.val (.int k), .val (.int ((k - (1 : Int32)) / (100 : Int32))), .val (.int ((k - (1 : Int32)) % (100 : Int32))), .unset, .unset] []))
  refine Runs.st (fun t' k' => XS.iloadN X0.here hx rfl (hb hby d_prog_4_method_2_53) rfl k') ?_
  show Runs p.tables e below _ (s₁.setTop (mkF m 54 #[.val (.int k), .val (.int ((k - (1 : Int32)) / (100 : Int32))), .val (.int ((k - (1 : Int32)) % (100 : Int32))), .unset, .unset] [(.int ((k - (1 : Int32)) / (100 : Int32)))]))
  refine Runs.st (fun t' k' => XS.iconst X0.here hx rfl (hb hby d_prog_4_method_2_54) k') ?_
  show Runs p.tables e below _ (s₁.setTop (mkF m 55 #[.val (.int k), .val (.int ((k - (1 : Int32)) / (100 : Int32))), .val (.int ((k - (1 : Int32)) % (100 : Int32))), .unset, .unset] [(.int (1 : Int32)), (.int ((k - (1 : Int32)) / (100 : Int32)))]))
  refine Runs.st (fun t' k' => XS.iadd X0.here hx rfl (hb hby d_prog_4_method_2_55) rfl k') ?_
  show Runs p.tables e below _ (s₁.setTop (mkF m 56 #[.val (.int k), .val (.int ((k - (1 : Int32)) / (100 : Int32))), .val (.int ((k - (1 : Int32)) % (100 : Int32))), .unset, .unset] [(.int (((k - (1 : Int32)) / (100 : Int32)) + (1 : Int32)))]))
  refine Runs.st (fun t' k' => XS.bipush X0.here hx rfl (hb hby d_prog_4_method_2_56) k') ?_
  show Runs p.tables e below _ (s₁.setTop (mkF m 58 #[.val (.int k), .val (.int ((k - (1 : Int32)) / (100 : Int32))), .val (.int ((k - (1 : Int32)) % (100 : Int32))), .unset, .unset] [(.int (100 : Int32)), (.int (((k - (1 : Int32)) / (100 : Int32)) + (1 : Int32)))]))
  refine Runs.st (fun t' k' => XS.imul X0.here hx rfl (hb hby d_prog_4_method_2_58) rfl k') ?_
  show Runs p.tables e below _ (s₁.setTop (mkF m 59 #[.val (.int k), .val (.int ((k - (1 : Int32)) / (100 : Int32))), .val (.int ((k - (1 : Int32)) % (100 : Int32))), .unset, .unset] [(.int ((((k - (1 : Int32)) / (100 : Int32)) + (1 : Int32)) * (100 : Int32)))]))
  refine Runs.st (fun t' k' => XS.istore X0.here hx rfl (hb hby d_prog_4_method_2_59) rfl (l' := #[.val (.int k), .val (.int ((k - (1 : Int32)) / (100 : Int32))), .val (.int ((k - (1 : Int32)) % (100 : Int32))), .unset, .val (.int ((((k - (1 : Int32)) / (100 : Int32)) + (1 : Int32)) * (100 : Int32)))]) rfl k') ?_
  show Runs p.tables e below _ (s₁.setTop (mkF m 61 #[.val (.int k), .val (.int ((k - (1 : Int32)) / (100 : Int32))), .val (.int ((k - (1 : Int32)) % (100 : Int32))), .unset, .val (.int ((((k - (1 : Int32)) / (100 : Int32)) + (1 : Int32)) * (100 : Int32)))] []))
  refine Runs.st (fun t' k' => XS.iconst X0.here hx rfl (hb hby d_prog_4_method_2_61) k') ?_
  show Runs p.tables e below _ (s₁.setTop (mkF m 62 #[.val (.int k), .val (.int ((k - (1 : Int32)) / (100 : Int32))), .val (.int ((k - (1 : Int32)) % (100 : Int32))), .unset, .val (.int ((((k - (1 : Int32)) / (100 : Int32)) + (1 : Int32)) * (100 : Int32)))] [(.int (2 : Int32))]))
  obtain ⟨T1_, h1_, k1_, X1_, e1_, E1_, A1_, st1_⟩ := newP X0 hx hZ (hw _ (List.mem_of_getElem? (i := 5) rfl)) e0 (g := (mkF m 62 #[.val (.int k), .val (.int ((k - (1 : Int32)) / (100 : Int32))), .val (.int ((k - (1 : Int32)) % (100 : Int32))), .unset, .val (.int ((((k - (1 : Int32)) / (100 : Int32)) + (1 : Int32)) * (100 : Int32)))] [(.int (2 : Int32))])) rfl (hb hby d_prog_4_method_2_62) rfl (by decide) (cap := 2) (by decide) (by decide) (by decide) (by decide)
  refine Runs.st (st1_) ?_
  obtain ⟨b1, g1_⟩ : ∃ z, z = h0.size := ⟨_, rfl⟩
  rw [← g1_] at A1_
  try rw [← g1_]
  have g_b1 : n0 ≤ b1 := Nat.le_trans sz (Nat.le_of_eq g1_.symm)
  have sz_b1 : h0.size ≤ b1 := Nat.le_trans K.1 (Nat.le_of_eq g1_.symm)
  replace sz := Nat.le_trans sz E1_.1
  replace K := K.ext E1_
  have V_b1 : Arv Z h1_ b1 k1_ .int (2 : Int32) [(.int (0 : Int32)), (.int (0 : Int32))] (.int (0 : Int32)) := (Arv.new A1_ (by decide)).pad (pad_rep [] (.int (0 : Int32)) 2)
  show Runs p.tables e below _ (T1_.setTop (mkF m 64 #[.val (.int k), .val (.int ((k - (1 : Int32)) / (100 : Int32))), .val (.int ((k - (1 : Int32)) % (100 : Int32))), .unset, .val (.int ((((k - (1 : Int32)) / (100 : Int32)) + (1 : Int32)) * (100 : Int32)))] [(.ref b1)]))
  refine Runs.st (fun t' k' => XS.dup X1_.here hx rfl (hb hby d_prog_4_method_2_64) rfl rfl k') ?_
  show Runs p.tables e below _ (T1_.setTop (mkF m 65 #[.val (.int k), .val (.int ((k - (1 : Int32)) / (100 : Int32))), .val (.int ((k - (1 : Int32)) % (100 : Int32))), .unset, .val (.int ((((k - (1 : Int32)) / (100 : Int32)) + (1 : Int32)) * (100 : Int32)))] [(.ref b1), (.ref b1)]))
  refine Runs.st (fun t' k' => XS.iconst X1_.here hx rfl (hb hby d_prog_4_method_2_65) k') ?_
  show Runs p.tables e below _ (T1_.setTop (mkF m 66 #[.val (.int k), .val (.int ((k - (1 : Int32)) / (100 : Int32))), .val (.int ((k - (1 : Int32)) % (100 : Int32))), .unset, .val (.int ((((k - (1 : Int32)) / (100 : Int32)) + (1 : Int32)) * (100 : Int32)))] [(.int (0 : Int32)), (.ref b1), (.ref b1)]))
  refine Runs.st (fun t' k' => XS.iload X1_.here hx rfl (hb hby d_prog_4_method_2_66) rfl k') ?_
  show Runs p.tables e below _ (T1_.setTop (mkF m 68 #[.val (.int k), .val (.int ((k - (1 : Int32)) / (100 : Int32))), .val (.int ((k - (1 : Int32)) % (100 : Int32))), .unset, .val (.int ((((k - (1 : Int32)) / (100 : Int32)) + (1 : Int32)) * (100 : Int32)))] [(.int ((((k - (1 : Int32)) / (100 : Int32)) + (1 : Int32)) * (100 : Int32))), (.int (0 : Int32)), (.ref b1), (.ref b1)]))
  refine Runs.st (fun t' k' => XS.iloadN X1_.here hx rfl (hb hby d_prog_4_method_2_68) rfl k') ?_
  show Runs p.tables e below _ (T1_.setTop (mkF m 69 #[.val (.int k), .val (.int ((k - (1 : Int32)) / (100 : Int32))), .val (.int ((k - (1 : Int32)) % (100 : Int32))), .unset, .val (.int ((((k - (1 : Int32)) / (100 : Int32)) + (1 : Int32)) * (100 : Int32)))] [(.int ((k - (1 : Int32)) % (100 : Int32))), (.int ((((k - (1 : Int32)) / (100 : Int32)) + (1 : Int32)) * (100 : Int32))), (.int (0 : Int32)), (.ref b1), (.ref b1)]))
  refine Runs.st (fun t' k' => XS.iadd X1_.here hx rfl (hb hby d_prog_4_method_2_69) rfl k') ?_
  show Runs p.tables e below _ (T1_.setTop (mkF m 70 #[.val (.int k), .val (.int ((k - (1 : Int32)) / (100 : Int32))), .val (.int ((k - (1 : Int32)) % (100 : Int32))), .unset, .val (.int ((((k - (1 : Int32)) / (100 : Int32)) + (1 : Int32)) * (100 : Int32)))] [(.int (((((k - (1 : Int32)) / (100 : Int32)) + (1 : Int32)) * (100 : Int32)) + ((k - (1 : Int32)) % (100 : Int32)))), (.int (0 : Int32)), (.ref b1), (.ref b1)]))
  refine Runs.st (fun t' k' => XS.iconst X1_.here hx rfl (hb hby d_prog_4_method_2_70) k') ?_
  show Runs p.tables e below _ (T1_.setTop (mkF m 71 #[.val (.int k), .val (.int ((k - (1 : Int32)) / (100 : Int32))), .val (.int ((k - (1 : Int32)) % (100 : Int32))), .unset, .val (.int ((((k - (1 : Int32)) / (100 : Int32)) + (1 : Int32)) * (100 : Int32)))] [(.int (1 : Int32)), (.int (((((k - (1 : Int32)) / (100 : Int32)) + (1 : Int32)) * (100 : Int32)) + ((k - (1 : Int32)) % (100 : Int32)))), (.int (0 : Int32)), (.ref b1), (.ref b1)]))
  refine Runs.st (fun t' k' => XS.iadd X1_.here hx rfl (hb hby d_prog_4_method_2_71) rfl k') ?_
  show Runs p.tables e below _ (T1_.setTop (mkF m 72 #[.val (.int k), .val (.int ((k - (1 : Int32)) / (100 : Int32))), .val (.int ((k - (1 : Int32)) % (100 : Int32))), .unset, .val (.int ((((k - (1 : Int32)) / (100 : Int32)) + (1 : Int32)) * (100 : Int32)))] [(.int ((((((k - (1 : Int32)) / (100 : Int32)) + (1 : Int32)) * (100 : Int32)) + ((k - (1 : Int32)) % (100 : Int32))) + (1 : Int32))), (.int (0 : Int32)), (.ref b1), (.ref b1)]))
  obtain ⟨cl2_, Ar2_, q2_, S2_, M2_, Ha2_, G2_⟩ := V_b1
  have hin2_ : ¬ ((0 : Int32) < 0 ∨ cl2_.slots.size ≤ ((0 : Int32)).toNatClampNeg) := inb_of S2_ ⟨by decide, by decide⟩
  obtain ⟨T2_, h2_, X2_, e2_, W2_, st2_⟩ := stI X1_ hx hZ e1_ Ar2_ (j := (0 : Int32)) hin2_ (g := (mkF m 72 #[.val (.int k), .val (.int ((k - (1 : Int32)) / (100 : Int32))), .val (.int ((k - (1 : Int32)) % (100 : Int32))), .unset, .val (.int ((((k - (1 : Int32)) / (100 : Int32)) + (1 : Int32)) * (100 : Int32)))] [(.int ((((((k - (1 : Int32)) / (100 : Int32)) + (1 : Int32)) * (100 : Int32)) + ((k - (1 : Int32)) % (100 : Int32))) + (1 : Int32))), (.int (0 : Int32)), (.ref b1), (.ref b1)])) rfl rfl (hb hby d_prog_4_method_2_72)
  refine Runs.st (st2_) ?_
  have V_b1 := Arv.set Ar2_ q2_ S2_ M2_ Ha2_ G2_ rfl W2_ 0 rfl (Nat.le_of_ble_eq_true rfl)
  replace sz := Nat.le_trans sz (Keep.of_wr W2_).1
  have N2_ := Fr.snoc X2_ N0 g_b1
  replace K := K.wr W2_ (Or.inr sz_b1)
  show Runs p.tables e below _ (T2_.setTop (mkF m 73 #[.val (.int k), .val (.int ((k - (1 : Int32)) / (100 : Int32))), .val (.int ((k - (1 : Int32)) % (100 : Int32))), .unset, .val (.int ((((k - (1 : Int32)) / (100 : Int32)) + (1 : Int32)) * (100 : Int32)))] [(.ref b1)]))
  refine Runs.st (fun t' k' => XS.dup X2_.here hx rfl (hb hby d_prog_4_method_2_73) rfl rfl k') ?_
  show Runs p.tables e below _ (T2_.setTop (mkF m 74 #[.val (.int k), .val (.int ((k - (1 : Int32)) / (100 : Int32))), .val (.int ((k - (1 : Int32)) % (100 : Int32))), .unset, .val (.int ((((k - (1 : Int32)) / (100 : Int32)) + (1 : Int32)) * (100 : Int32)))] [(.ref b1), (.ref b1)]))
  refine Runs.st (fun t' k' => XS.iconst X2_.here hx rfl (hb hby d_prog_4_method_2_74) k') ?_
  show Runs p.tables e below _ (T2_.setTop (mkF m 75 #[.val (.int k), .val (.int ((k - (1 : Int32)) / (100 : Int32))), .val (.int ((k - (1 : Int32)) % (100 : Int32))), .unset, .val (.int ((((k - (1 : Int32)) / (100 : Int32)) + (1 : Int32)) * (100 : Int32)))] [(.int (1 : Int32)), (.ref b1), (.ref b1)]))
  refine Runs.st (fun t' k' => XS.iload X2_.here hx rfl (hb hby d_prog_4_method_2_75) rfl k') ?_
  show Runs p.tables e below _ (T2_.setTop (mkF m 77 #[.val (.int k), .val (.int ((k - (1 : Int32)) / (100 : Int32))), .val (.int ((k - (1 : Int32)) % (100 : Int32))), .unset, .val (.int ((((k - (1 : Int32)) / (100 : Int32)) + (1 : Int32)) * (100 : Int32)))] [(.int ((((k - (1 : Int32)) / (100 : Int32)) + (1 : Int32)) * (100 : Int32))), (.int (1 : Int32)), (.ref b1), (.ref b1)]))
  refine Runs.st (fun t' k' => XS.iloadN X2_.here hx rfl (hb hby d_prog_4_method_2_77) rfl k') ?_
  show Runs p.tables e below _ (T2_.setTop (mkF m 78 #[.val (.int k), .val (.int ((k - (1 : Int32)) / (100 : Int32))), .val (.int ((k - (1 : Int32)) % (100 : Int32))), .unset, .val (.int ((((k - (1 : Int32)) / (100 : Int32)) + (1 : Int32)) * (100 : Int32)))] [(.int ((k - (1 : Int32)) % (100 : Int32))), (.int ((((k - (1 : Int32)) / (100 : Int32)) + (1 : Int32)) * (100 : Int32))), (.int (1 : Int32)), (.ref b1), (.ref b1)]))
  refine Runs.st (fun t' k' => XS.iconst X2_.here hx rfl (hb hby d_prog_4_method_2_78) k') ?_
  show Runs p.tables e below _ (T2_.setTop (mkF m 79 #[.val (.int k), .val (.int ((k - (1 : Int32)) / (100 : Int32))), .val (.int ((k - (1 : Int32)) % (100 : Int32))), .unset, .val (.int ((((k - (1 : Int32)) / (100 : Int32)) + (1 : Int32)) * (100 : Int32)))] [(.int (1 : Int32)), (.int ((k - (1 : Int32)) % (100 : Int32))), (.int ((((k - (1 : Int32)) / (100 : Int32)) + (1 : Int32)) * (100 : Int32))), (.int (1 : Int32)), (.ref b1), (.ref b1)]))
  refine Runs.st (fun t' k' => XS.iadd X2_.here hx rfl (hb hby d_prog_4_method_2_79) rfl k') ?_
  show Runs p.tables e below _ (T2_.setTop (mkF m 80 #[.val (.int k), .val (.int ((k - (1 : Int32)) / (100 : Int32))), .val (.int ((k - (1 : Int32)) % (100 : Int32))), .unset, .val (.int ((((k - (1 : Int32)) / (100 : Int32)) + (1 : Int32)) * (100 : Int32)))] [(.int (((k - (1 : Int32)) % (100 : Int32)) + (1 : Int32))), (.int ((((k - (1 : Int32)) / (100 : Int32)) + (1 : Int32)) * (100 : Int32))), (.int (1 : Int32)), (.ref b1), (.ref b1)]))
  refine Runs.st (fun t' k' => XS.bipush X2_.here hx rfl (hb hby d_prog_4_method_2_80) k') ?_
  show Runs p.tables e below _ (T2_.setTop (mkF m 82 #[.val (.int k), .val (.int ((k - (1 : Int32)) / (100 : Int32))), .val (.int ((k - (1 : Int32)) % (100 : Int32))), .unset, .val (.int ((((k - (1 : Int32)) / (100 : Int32)) + (1 : Int32)) * (100 : Int32)))] [(.int (100 : Int32)), (.int (((k - (1 : Int32)) % (100 : Int32)) + (1 : Int32))), (.int ((((k - (1 : Int32)) / (100 : Int32)) + (1 : Int32)) * (100 : Int32))), (.int (1 : Int32)), (.ref b1), (.ref b1)]))
  refine Runs.st (fun t' k' => iremM X2_ hx rfl (hb hby d_prog_4_method_2_82) rfl (by decide) k') ?_
  show Runs p.tables e below _ (T2_.setTop (mkF m 83 #[.val (.int k), .val (.int ((k - (1 : Int32)) / (100 : Int32))), .val (.int ((k - (1 : Int32)) % (100 : Int32))), .unset, .val (.int ((((k - (1 : Int32)) / (100 : Int32)) + (1 : Int32)) * (100 : Int32)))] [(.int ((((k - (1 : Int32)) % (100 : Int32)) + (1 : Int32)) % (100 : Int32))), (.int ((((k - (1 : Int32)) / (100 : Int32)) + (1 : Int32)) * (100 : Int32))), (.int (1 : Int32)), (.ref b1), (.ref b1)]))
  refine Runs.st (fun t' k' => XS.iadd X2_.here hx rfl (hb hby d_prog_4_method_2_83) rfl k') ?_
  show Runs p.tables e below _ (T2_.setTop (mkF m 84 #[.val (.int k), .val (.int ((k - (1 : Int32)) / (100 : Int32))), .val (.int ((k - (1 : Int32)) % (100 : Int32))), .unset, .val (.int ((((k - (1 : Int32)) / (100 : Int32)) + (1 : Int32)) * (100 : Int32)))] [(.int (((((k - (1 : Int32)) / (100 : Int32)) + (1 : Int32)) * (100 : Int32)) + ((((k - (1 : Int32)) % (100 : Int32)) + (1 : Int32)) % (100 : Int32)))), (.int (1 : Int32)), (.ref b1), (.ref b1)]))
  refine Runs.st (fun t' k' => XS.iconst X2_.here hx rfl (hb hby d_prog_4_method_2_84) k') ?_
  show Runs p.tables e below _ (T2_.setTop (mkF m 85 #[.val (.int k), .val (.int ((k - (1 : Int32)) / (100 : Int32))), .val (.int ((k - (1 : Int32)) % (100 : Int32))), .unset, .val (.int ((((k - (1 : Int32)) / (100 : Int32)) + (1 : Int32)) * (100 : Int32)))] [(.int (1 : Int32)), (.int (((((k - (1 : Int32)) / (100 : Int32)) + (1 : Int32)) * (100 : Int32)) + ((((k - (1 : Int32)) % (100 : Int32)) + (1 : Int32)) % (100 : Int32)))), (.int (1 : Int32)), (.ref b1), (.ref b1)]))
  refine Runs.st (fun t' k' => XS.iadd X2_.here hx rfl (hb hby d_prog_4_method_2_85) rfl k') ?_
  show Runs p.tables e below _ (T2_.setTop (mkF m 86 #[.val (.int k), .val (.int ((k - (1 : Int32)) / (100 : Int32))), .val (.int ((k - (1 : Int32)) % (100 : Int32))), .unset, .val (.int ((((k - (1 : Int32)) / (100 : Int32)) + (1 : Int32)) * (100 : Int32)))] [(.int ((((((k - (1 : Int32)) / (100 : Int32)) + (1 : Int32)) * (100 : Int32)) + ((((k - (1 : Int32)) % (100 : Int32)) + (1 : Int32)) % (100 : Int32))) + (1 : Int32))), (.int (1 : Int32)), (.ref b1), (.ref b1)]))
  obtain ⟨cl3_, Ar3_, q3_, S3_, M3_, Ha3_, G3_⟩ := V_b1
  have hin3_ : ¬ ((1 : Int32) < 0 ∨ cl3_.slots.size ≤ ((1 : Int32)).toNatClampNeg) := inb_of S3_ ⟨by decide, by decide⟩
  obtain ⟨T3_, h3_, X3_, e3_, W3_, st3_⟩ := stI X2_ hx hZ e2_ Ar3_ (j := (1 : Int32)) hin3_ (g := (mkF m 86 #[.val (.int k), .val (.int ((k - (1 : Int32)) / (100 : Int32))), .val (.int ((k - (1 : Int32)) % (100 : Int32))), .unset, .val (.int ((((k - (1 : Int32)) / (100 : Int32)) + (1 : Int32)) * (100 : Int32)))] [(.int ((((((k - (1 : Int32)) / (100 : Int32)) + (1 : Int32)) * (100 : Int32)) + ((((k - (1 : Int32)) % (100 : Int32)) + (1 : Int32)) % (100 : Int32))) + (1 : Int32))), (.int (1 : Int32)), (.ref b1), (.ref b1)])) rfl rfl (hb hby d_prog_4_method_2_86)
  refine Runs.st (st3_) ?_
  have V_b1 := Arv.set Ar3_ q3_ S3_ M3_ Ha3_ G3_ rfl W3_ 1 rfl (Nat.le_of_ble_eq_true rfl)
  replace sz := Nat.le_trans sz (Keep.of_wr W3_).1
  have N3_ := Fr.snoc X3_ N2_ g_b1
  replace K := K.wr W3_ (Or.inr sz_b1)
  show Runs p.tables e below _ (T3_.setTop (mkF m 87 #[.val (.int k), .val (.int ((k - (1 : Int32)) / (100 : Int32))), .val (.int ((k - (1 : Int32)) % (100 : Int32))), .unset, .val (.int ((((k - (1 : Int32)) / (100 : Int32)) + (1 : Int32)) * (100 : Int32)))] [(.ref b1)]))
  refine Runs.st (fun t' k' => XS.astoreN X3_.here hx rfl (hb hby d_prog_4_method_2_87) rfl rfl (l' := #[.val (.int k), .val (.int ((k - (1 : Int32)) / (100 : Int32))), .val (.int ((k - (1 : Int32)) % (100 : Int32))), .val (.ref b1), .val (.int ((((k - (1 : Int32)) / (100 : Int32)) + (1 : Int32)) * (100 : Int32)))]) rfl k') ?_
  show Runs p.tables e below _ (T3_.setTop (mkF m 88 #[.val (.int k), .val (.int ((k - (1 : Int32)) / (100 : Int32))), .val (.int ((k - (1 : Int32)) % (100 : Int32))), .val (.ref b1), .val (.int ((((k - (1 : Int32)) / (100 : Int32)) + (1 : Int32)) * (100 : Int32)))] []))
  rw [q0] at V_b1
  rw [q1] at V_b1
  refine Runs.st (fun t' k' => XS.aloadN X3_.here hx rfl (hb hby d_prog_4_method_2_88) rfl rfl k') ?_
  show Runs p.tables e below _ (T3_.setTop (mkF m 89 #[.val (.int k), .val (.int ((k - (1 : Int32)) / (100 : Int32))), .val (.int ((k - (1 : Int32)) % (100 : Int32))), .val (.ref b1), .val (.int ((((k - (1 : Int32)) / (100 : Int32)) + (1 : Int32)) * (100 : Int32)))] [(.ref b1)]))
  refine Runs.ret X3_ hlk (v := (some (.ref b1))) (fun h => by rw [hret] at h; cases h) (by decide) (by decide) ?_ (fun fs hr => retOut X3_ hx hret rfl (Or.inr (Or.inr (Or.inr (Or.inr ⟨rfl, rfl, rfl⟩)))) (hb hby d_prog_4_method_2_89) hr)
  try rw [e3_]
  exact ⟨b1, _, rfl, N3_, K, V_b1⟩
theorem pn_com_example_kori_bench_StartupGraphDependenciesPinLaw : plainName "com/example/kori/bench/StartupGraphDependenciesPinLaw" = true := by first | (simp [plainName, overriddenIn]; done) | decide +kernel
theorem ef_0_I (m : MethodId) (x0 : Int32)  : entryFrame m #[(.int x0)] maxLocals = mkF m 0 #[.val (.int x0), .unset, .unset, .unset] [] := by first | (simp [entryFrame, mkF, argsToLocals, Value.category, maxLocals]; done) | rfl
theorem pd__28I_29_5bI : parseMethodDescriptor "(I)[I" = some ⟨[.int], some (.array .int)⟩ := by decide +kernel
set_option maxRecDepth 65536 in
set_option maxHeartbeats 40000000 in
theorem rm0 (l : Launch) (Z : State) (a0 : Array Value) (hw : ∀ d ∈ tables_1, d.before a0 Z = true) (ws : List Jvm.Cond) (i0 : Int32)  (h0 : Heap) (n0 : Nat) (Z0 : n0 ≤ h0.size)  :
    MetFree l x (head1 (Jvm.Cond.code x code maxLocals ret :: ws) room_1) (fun ar_ U => ar_ = #[(.int i0)] ∧ Z.Warmed39 U.vm ∧ U.heap = h0) (fun _ _ _ _ _ => True) (fun _ U o U' => Phi U (fun v h L => v = some (.int 1) ∧ Fr n0 L) room_1.cells room_1.slots o U') := by
  refine MetFree.of_bodySF (plainFor_of_name pn_com_example_kori_bench_StartupGraphDependenciesPinLaw) hisR ?_
  intro p e s m args below meth c s₁ Bd hml0 hP hK
  obtain ⟨rfl, hZ, hh⟩ := hP
  have hx := Bd.exec
  have hby := Bd.bytes
  have hlk := Bd.notSynchronized
  have hml : c.maxLocals = 4 := hml0
  have hown : s.vm.findClass "com/example/kori/bench/StartupGraphDependenciesPinLaw" = some m.cls := findClass_of_methodNamed Bd.named
  have hown0 := hown
  have hnm := (name_of_methodNamed Bd.named Bd.method).1
  have hret := Bd.returns
  have X0 : Stand p l e room_1 s m #[(.int i0)] below meth c s₁ [] 0 0 := Stand.of_body Bd
  have e0 : s₁.heap = h0 := by rw [← hh, Bd.state]; rfl
  have N0 := Fr.nil n0
  have sz := Z0
  have K := Keep.refl h0 []
  show Runs p.tables e below (Phi s (fun v h L => v = some (.int 1) ∧ Fr n0 L) room_1.cells room_1.slots) _
  refine Runs.st (fun t' k' => castTop (ef_0_I m i0 ) k') ?_
  show Runs p.tables e below _ (s₁.setTop (mkF m 0 #[.val (.int i0), .unset, .unset, .unset] []))
  refine Runs.st (fun t' k' => XS.iloadN X0.here hx rfl (hb hby at_0) rfl k') ?_
  show Runs p.tables e below _ (s₁.setTop (mkF m 1 #[.val (.int i0), .unset, .unset, .unset] [(.int i0)]))
  refine Runs.st (fun t' k' => X0.ldcInt hx hown (mvT hZ (hw _ (List.mem_of_getElem? (i := 0) rfl))) (g := (mkF m 1 #[.val (.int i0), .unset, .unset, .unset] [(.int i0)])) rfl (hb hby at_1) t' k') ?_
  show Runs p.tables e below _ (s₁.setTop (mkF m 3 #[.val (.int i0), .unset, .unset, .unset] [(.int (2147483647 : Int32)), (.int i0)]))
  refine Runs.st (fun t' k' => XS.iand X0.here hx rfl (hb hby at_3) rfl k') ?_
  show Runs p.tables e below _ (s₁.setTop (mkF m 4 #[.val (.int i0), .unset, .unset, .unset] [(.int (i0 &&& (2147483647 : Int32)))]))
  refine Runs.st (fun t' k' => XS.sipush X0.here hx rfl (hb hby at_4) k') ?_
  show Runs p.tables e below _ (s₁.setTop (mkF m 7 #[.val (.int i0), .unset, .unset, .unset] [(.int (1000 : Int32)), (.int (i0 &&& (2147483647 : Int32)))]))
  refine Runs.st (fun t' k' => iremM X0 hx rfl (hb hby at_7) rfl (by decide) k') ?_
  show Runs p.tables e below _ (s₁.setTop (mkF m 8 #[.val (.int i0), .unset, .unset, .unset] [(.int ((i0 &&& (2147483647 : Int32)) % (1000 : Int32)))]))
  refine Runs.st (fun t' k' => XS.iconst X0.here hx rfl (hb hby at_8) k') ?_
  show Runs p.tables e below _ (s₁.setTop (mkF m 9 #[.val (.int i0), .unset, .unset, .unset] [(.int (1 : Int32)), (.int ((i0 &&& (2147483647 : Int32)) % (1000 : Int32)))]))
  refine Runs.st (fun t' k' => XS.iadd X0.here hx rfl (hb hby at_9) rfl k') ?_
  show Runs p.tables e below _ (s₁.setTop (mkF m 10 #[.val (.int i0), .unset, .unset, .unset] [(.int (((i0 &&& (2147483647 : Int32)) % (1000 : Int32)) + (1 : Int32)))]))
  obtain ⟨k, hk⟩ : ∃ z : Int32, z = (((i0 &&& (2147483647 : Int32)) % (1000 : Int32)) + (1 : Int32)) := ⟨_, rfl⟩
  rw [← hk]
  show Runs p.tables e below _ (s₁.setTop (mkF m 10 #[.val (.int i0), .unset, .unset, .unset] [(.int k)]))
  have kb : 1 ≤ k.toInt ∧ k.toInt ≤ 1000 := by
    have a : (i0 &&& (2147483647 : Int32)).toInt = i0.toInt % 2 ^ 31 := Jvm.Kit.i32_mask i0 2147483647 (k := 31) (by decide) (by decide)
    have b := (c_irem (i0 &&& (2147483647 : Int32)) (1000 : Int32) 1000 rfl).1 (by omega)
    have c1 : (((i0 &&& (2147483647 : Int32)) % (1000 : Int32)) + (1 : Int32)).toInt = ((i0 &&& (2147483647 : Int32)) % (1000 : Int32)).toInt + 1 := Jvm.Kit.i32_add (by show _ ≤ _ + (1 : Int); omega) (by show _ + (1 : Int) < _; omega)
    rw [hk, c1]; omega
  refine Runs.st (fun t' k' => XS.istoreN X0.here hx rfl (hb hby at_10) rfl (l' := #[.val (.int i0), .val (.int k), .unset, .unset]) rfl k') ?_
  show Runs p.tables e below _ (s₁.setTop (mkF m 11 #[.val (.int i0), .val (.int k), .unset, .unset] []))
  refine Runs.st (fun t' k' => XS.iloadN X0.here hx rfl (hb hby at_11) rfl k') ?_
  show Runs p.tables e below _ (s₁.setTop (mkF m 12 #[.val (.int i0), .val (.int k), .unset, .unset] [(.int k)]))
  rcases (show 901 ≤ k.toInt ∨ k.toInt ≤ 900 by omega) with hbg | hbg
  · skip
    show Runs p.tables e below _ (s₁.setTop (mkF m 12 #[.val (.int i0), .val (.int k), .unset, .unset] [(.int k)]))
    obtain ⟨_, _, ⟨T1_, L1_, k1_, n1_⟩, -, X1_, ⟨Lc1_, hQ1_, l1_, y1_, z1_⟩, st1_⟩ := Jvm.LawKit.callS X0 hx (y := (⟨"com/example/kori/bench/StartupGraph", "dependencies", "(I)[I"⟩ : MethodName)) hown (mvT hZ (hw _ (List.mem_of_getElem? (i := 1) rfl))) (mvT hZ (hw _ (List.mem_of_getElem? (i := 2) rfl))) (mvT hZ (hw _ (List.mem_of_getElem? (i := 3) rfl))) (mvT hZ (hw _ (List.mem_of_getElem? (i := 4) rfl))) (by decide) (backOf (W := 0) (rmA l Z a0 hw [] k h0 n0 sz (by omega) kb.2) hZ (hw _ (List.mem_of_getElem? (i := 4) rfl)) (hw _ (List.mem_of_getElem? (i := 3) rfl)) (by decide) (by decide)) (g := (mkF m 12 #[.val (.int i0), .val (.int k), .unset, .unset] [(.int k)])) rfl (by rw [hml]; rfl) (argsL := [(.int k)]) (rest := []) (lenOf pd__28I_29_5bI rfl) rfl (by show 2 * 0 + _ ≤ _; exact Nat.le_of_eq rfl) (hb hby at_12) (fun _ _ => ⟨rfl, e0, (by decide : 0 + 1 ≤ _), (by decide : 0 + 2 ≤ _)⟩)
    dsimp only [Pt.U, Pt.locs, Pt.cells, Pt.slots] at X1_ l1_ y1_ z1_ st1_ hQ1_
    subst l1_ y1_ z1_
    obtain ⟨b1, kk, rfl, N1_q, K1_, V_b1⟩ := hQ1_
    have N1_ := Fr.app N0 N1_q
    refine Runs.st (st1_) ?_
    replace X1_ := wider X1_ (c' := 1) (s' := 2) (by decide) (by decide)
    replace sz := Nat.le_trans sz K1_.1
    replace K := K.trans K1_ all0
    show Runs p.tables e below _ (T1_.setTop (mkF m 15 #[.val (.int i0), .val (.int k), .unset, .unset] [(.ref b1)]))
    refine Runs.st (fun t' k' => XS.astoreN X1_.here hx rfl (hb hby at_15) rfl rfl (l' := #[.val (.int i0), .val (.int k), .val (.ref b1), .unset]) rfl k') ?_
    show Runs p.tables e below _ (T1_.setTop (mkF m 16 #[.val (.int i0), .val (.int k), .val (.ref b1), .unset] []))
    refine Runs.st (fun t' k' => XS.iloadN X1_.here hx rfl (hb hby at_16) rfl k') ?_
    show Runs p.tables e below _ (T1_.setTop (mkF m 17 #[.val (.int i0), .val (.int k), .val (.ref b1), .unset] [(.int k)]))
    refine Runs.st (fun t' k' => XS.sipush X1_.here hx rfl (hb hby at_17) k') ?_
    show Runs p.tables e below _ (T1_.setTop (mkF m 20 #[.val (.int i0), .val (.int k), .val (.ref b1), .unset] [(.int (900 : Int32)), (.int k)]))
    refine Runs.st (fun t' k' => XS.icmpNo X1_.here hx rfl (hb hby at_20) rfl (tlt ((own_lt _ _).mpr (by show (900 : Int) < _; omega))).2.2.2 k') ?_
    show Runs p.tables e below _ (T1_.setTop (mkF m 23 #[.val (.int i0), .val (.int k), .val (.ref b1), .unset] []))
    refine Runs.st (fun t' k' => XS.aloadN X1_.here hx rfl (hb hby at_23) rfl rfl k') ?_
    show Runs p.tables e below _ (T1_.setTop (mkF m 24 #[.val (.int i0), .val (.int k), .val (.ref b1), .unset] [(.ref b1)]))
    obtain ⟨cl2_, Ar2_, -, S2_, M2_, -, -⟩ := id V_b1
    refine Runs.st (X1_.arraylength hx Ar2_.1 (State.isArrayOf_alike hZ.alike Ar2_.2.1) (g := (mkF m 24 #[.val (.int i0), .val (.int k), .val (.ref b1), .unset] [(.ref b1)])) rfl rfl (hb hby at_24)) ?_
    rw [len_of S2_ M2_]
    show Runs p.tables e below _ (T1_.setTop (mkF m 25 #[.val (.int i0), .val (.int k), .val (.ref b1), .unset] [(.int (0 : Int32))]))
    refine Runs.st (fun t' k' => XS.ifNo X1_.here hx rfl (hb hby at_25) rfl ((if0 _ _).trans (teq rfl).2) k') ?_
    show Runs p.tables e below _ (T1_.setTop (mkF m 28 #[.val (.int i0), .val (.int k), .val (.ref b1), .unset] []))
    refine Runs.st (fun t' k' => XS.iconst X1_.here hx rfl (hb hby at_28) k') ?_
    show Runs p.tables e below _ (T1_.setTop (mkF m 29 #[.val (.int i0), .val (.int k), .val (.ref b1), .unset] [(.int (1 : Int32))]))
    refine Runs.st (fun t' k' => XS.goto X1_.here hx rfl (pc0 := 29) (pc' := 33) rfl (hb hby at_29) (by decide) (by decide) k') ?_
    show Runs p.tables e below _ (T1_.setTop (mkF m 33 #[.val (.int i0), .val (.int k), .val (.ref b1), .unset] [(.int (1 : Int32))]))
    refine Runs.ret X1_ hlk (v := (some (.int (1 : Int32)))) (fun h => by rw [hret] at h; cases h) (by decide) (by decide) ?_ (fun fs hr => retN X1_ hx (t := .boolean) hret (by simp) (hb hby at_33) hr)
    exact ⟨rfl, N1_⟩
  · skip
    show Runs p.tables e below _ (s₁.setTop (mkF m 12 #[.val (.int i0), .val (.int k), .unset, .unset] [(.int k)]))
    obtain ⟨e1, hE⟩ : ∃ z : Int32, z = if k % (100 : Int32) = (0 : Int32) then k + (1 : Int32) else k + (101 : Int32) := ⟨_, rfl⟩
    obtain ⟨_, _, ⟨T3_, L3_, k3_, n3_⟩, -, X3_, ⟨Lc3_, hQ3_, l3_, y3_, z3_⟩, st3_⟩ := Jvm.LawKit.callS X0 hx (y := (⟨"com/example/kori/bench/StartupGraph", "dependencies", "(I)[I"⟩ : MethodName)) hown (mvT hZ (hw _ (List.mem_of_getElem? (i := 1) rfl))) (mvT hZ (hw _ (List.mem_of_getElem? (i := 2) rfl))) (mvT hZ (hw _ (List.mem_of_getElem? (i := 3) rfl))) (mvT hZ (hw _ (List.mem_of_getElem? (i := 4) rfl))) (by decide) (backOf (W := 0) (rmB l Z a0 hw [] k e1 h0 n0 sz kb.1 (by omega) hE) hZ (hw _ (List.mem_of_getElem? (i := 4) rfl)) (hw _ (List.mem_of_getElem? (i := 3) rfl)) (by decide) (by decide)) (g := (mkF m 12 #[.val (.int i0), .val (.int k), .unset, .unset] [(.int k)])) rfl (by rw [hml]; rfl) (argsL := [(.int k)]) (rest := []) (lenOf pd__28I_29_5bI rfl) rfl (by show 2 * 0 + _ ≤ _; exact Nat.le_of_eq rfl) (hb hby at_12) (fun _ _ => ⟨rfl, e0, (by decide : 0 + 1 ≤ _), (by decide : 0 + 2 ≤ _)⟩)
    dsimp only [Pt.U, Pt.locs, Pt.cells, Pt.slots] at X3_ l3_ y3_ z3_ st3_ hQ3_
    subst l3_ y3_ z3_
    obtain ⟨b1, kk, rfl, N3_q, K3_, V_b1⟩ := hQ3_
    have N3_ := Fr.app N0 N3_q
    refine Runs.st (st3_) ?_
    replace X3_ := wider X3_ (c' := 1) (s' := 2) (by decide) (by decide)
    replace sz := Nat.le_trans sz K3_.1
    replace K := K.trans K3_ all0
    show Runs p.tables e below _ (T3_.setTop (mkF m 15 #[.val (.int i0), .val (.int k), .unset, .unset] [(.ref b1)]))
    refine Runs.st (fun t' k' => XS.astoreN X3_.here hx rfl (hb hby at_15) rfl rfl (l' := #[.val (.int i0), .val (.int k), .val (.ref b1), .unset]) rfl k') ?_
    show Runs p.tables e below _ (T3_.setTop (mkF m 16 #[.val (.int i0), .val (.int k), .val (.ref b1), .unset] []))
    refine Runs.st (fun t' k' => XS.iloadN X3_.here hx rfl (hb hby at_16) rfl k') ?_
    show Runs p.tables e below _ (T3_.setTop (mkF m 17 #[.val (.int i0), .val (.int k), .val (.ref b1), .unset] [(.int k)]))
    refine Runs.st (fun t' k' => XS.sipush X3_.here hx rfl (hb hby at_17) k') ?_
    show Runs p.tables e below _ (T3_.setTop (mkF m 20 #[.val (.int i0), .val (.int k), .val (.ref b1), .unset] [(.int (900 : Int32)), (.int k)]))
    refine Runs.st (fun t' k' => XS.icmpYes X3_.here hx rfl (pc0 := 20) (pc' := 34) rfl (hb hby at_20) rfl (flt (fun q => by have q' := (own_lt _ _).mp q; change (900 : Int) < _ at q'; omega)).2.2.2 (by decide) (by decide) k') ?_
    show Runs p.tables e below _ (T3_.setTop (mkF m 34 #[.val (.int i0), .val (.int k), .val (.ref b1), .unset] []))
    refine Runs.st (fun t' k' => XS.aloadN X3_.here hx rfl (hb hby at_34) rfl rfl k') ?_
    show Runs p.tables e below _ (T3_.setTop (mkF m 35 #[.val (.int i0), .val (.int k), .val (.ref b1), .unset] [(.ref b1)]))
    obtain ⟨cl4_, Ar4_, -, S4_, M4_, -, -⟩ := id V_b1
    refine Runs.st (X3_.arraylength hx Ar4_.1 (State.isArrayOf_alike hZ.alike Ar4_.2.1) (g := (mkF m 35 #[.val (.int i0), .val (.int k), .val (.ref b1), .unset] [(.ref b1)])) rfl rfl (hb hby at_35)) ?_
    rw [len_of S4_ M4_]
    show Runs p.tables e below _ (T3_.setTop (mkF m 36 #[.val (.int i0), .val (.int k), .val (.ref b1), .unset] [(.int (2 : Int32))]))
    refine Runs.st (fun t' k' => XS.iconst X3_.here hx rfl (hb hby at_36) k') ?_
    show Runs p.tables e below _ (T3_.setTop (mkF m 37 #[.val (.int i0), .val (.int k), .val (.ref b1), .unset] [(.int (2 : Int32)), (.int (2 : Int32))]))
    refine Runs.st (fun t' k' => XS.icmpYes X3_.here hx rfl (pc0 := 37) (pc' := 42) rfl (hb hby at_37) rfl (teq rfl).1 (by decide) (by decide) k') ?_
    show Runs p.tables e below _ (T3_.setTop (mkF m 42 #[.val (.int i0), .val (.int k), .val (.ref b1), .unset] []))
    refine Runs.st (fun t' k' => XS.iloadN X3_.here hx rfl (hb hby at_42) rfl k') ?_
    show Runs p.tables e below _ (T3_.setTop (mkF m 43 #[.val (.int i0), .val (.int k), .val (.ref b1), .unset] [(.int k)]))
    refine Runs.st (fun t' k' => XS.bipush X3_.here hx rfl (hb hby at_43) k') ?_
    show Runs p.tables e below _ (T3_.setTop (mkF m 45 #[.val (.int i0), .val (.int k), .val (.ref b1), .unset] [(.int (100 : Int32)), (.int k)]))
    refine Runs.st (fun t' k' => iremM X3_ hx rfl (hb hby at_45) rfl (by decide) k') ?_
    show Runs p.tables e below _ (T3_.setTop (mkF m 46 #[.val (.int i0), .val (.int k), .val (.ref b1), .unset] [(.int (k % (100 : Int32)))]))
    have J59 : Runs p.tables e below (Phi s (fun v h L => v = some (.int 1) ∧ Fr n0 L) room_1.cells room_1.slots) (T3_.setTop (mkF m 59 #[.val (.int i0), .val (.int k), .val (.ref b1), .unset] [(.int e1)])) := by
      show Runs p.tables e below _ (T3_.setTop (mkF m 59 #[.val (.int i0), .val (.int k), .val (.ref b1), .unset] [(.int e1)]))
      refine Runs.st (fun t' k' => XS.istoreN X3_.here hx rfl (hb hby at_59) rfl (l' := #[.val (.int i0), .val (.int k), .val (.ref b1), .val (.int e1)]) rfl k') ?_
      show Runs p.tables e below _ (T3_.setTop (mkF m 60 #[.val (.int i0), .val (.int k), .val (.ref b1), .val (.int e1)] []))
      refine Runs.st (fun t' k' => XS.aloadN X3_.here hx rfl (hb hby at_60) rfl rfl k') ?_
      show Runs p.tables e below _ (T3_.setTop (mkF m 61 #[.val (.int i0), .val (.int k), .val (.ref b1), .val (.int e1)] [(.ref b1)]))
      refine Runs.st (fun t' k' => XS.iconst X3_.here hx rfl (hb hby at_61) k') ?_
      show Runs p.tables e below _ (T3_.setTop (mkF m 62 #[.val (.int i0), .val (.int k), .val (.ref b1), .val (.int e1)] [(.int (0 : Int32)), (.ref b1)]))
      obtain ⟨cl5_, Ar5_, -, S5_, M5_, Ha5_, -⟩ := id V_b1
      have hin5_ : ¬ ((0 : Int32) < 0 ∨ cl5_.slots.size ≤ ((0 : Int32)).toNatClampNeg) := inb_of S5_ ⟨by decide, by decide⟩
      refine Runs.st (X3_.iaload hx (j := (0 : Int32)) (v := (.int (k + (100 : Int32)))) Ar5_.1 (State.isArrayOf_alike hZ.alike Ar5_.2.1) Ar5_.2.2 hin5_ (Ha5_.at hin5_ rfl) (g := (mkF m 62 #[.val (.int i0), .val (.int k), .val (.ref b1), .val (.int e1)] [(.int (0 : Int32)), (.ref b1)])) rfl rfl (hb hby at_62)) ?_
      show Runs p.tables e below _ (T3_.setTop (mkF m 63 #[.val (.int i0), .val (.int k), .val (.ref b1), .val (.int e1)] [(.int (k + (100 : Int32)))]))
      refine Runs.st (fun t' k' => XS.iloadN X3_.here hx rfl (hb hby at_63) rfl k') ?_
      show Runs p.tables e below _ (T3_.setTop (mkF m 64 #[.val (.int i0), .val (.int k), .val (.ref b1), .val (.int e1)] [(.int k), (.int (k + (100 : Int32)))]))
      refine Runs.st (fun t' k' => XS.bipush X3_.here hx rfl (hb hby at_64) k') ?_
      show Runs p.tables e below _ (T3_.setTop (mkF m 66 #[.val (.int i0), .val (.int k), .val (.ref b1), .val (.int e1)] [(.int (100 : Int32)), (.int k), (.int (k + (100 : Int32)))]))
      refine Runs.st (fun t' k' => XS.iadd X3_.here hx rfl (hb hby at_66) rfl k') ?_
      show Runs p.tables e below _ (T3_.setTop (mkF m 67 #[.val (.int i0), .val (.int k), .val (.ref b1), .val (.int e1)] [(.int (k + (100 : Int32))), (.int (k + (100 : Int32)))]))
      refine Runs.st (fun t' k' => XS.icmpNo X3_.here hx rfl (hb hby at_67) rfl (teq rfl).2 k') ?_
      show Runs p.tables e below _ (T3_.setTop (mkF m 70 #[.val (.int i0), .val (.int k), .val (.ref b1), .val (.int e1)] []))
      refine Runs.st (fun t' k' => XS.aloadN X3_.here hx rfl (hb hby at_70) rfl rfl k') ?_
      show Runs p.tables e below _ (T3_.setTop (mkF m 71 #[.val (.int i0), .val (.int k), .val (.ref b1), .val (.int e1)] [(.ref b1)]))
      refine Runs.st (fun t' k' => XS.iconst X3_.here hx rfl (hb hby at_71) k') ?_
      show Runs p.tables e below _ (T3_.setTop (mkF m 72 #[.val (.int i0), .val (.int k), .val (.ref b1), .val (.int e1)] [(.int (1 : Int32)), (.ref b1)]))
      obtain ⟨cl6_, Ar6_, -, S6_, M6_, Ha6_, -⟩ := id V_b1
      have hin6_ : ¬ ((1 : Int32) < 0 ∨ cl6_.slots.size ≤ ((1 : Int32)).toNatClampNeg) := inb_of S6_ ⟨by decide, by decide⟩
      refine Runs.st (X3_.iaload hx (j := (1 : Int32)) (v := (.int e1)) Ar6_.1 (State.isArrayOf_alike hZ.alike Ar6_.2.1) Ar6_.2.2 hin6_ (Ha6_.at hin6_ rfl) (g := (mkF m 72 #[.val (.int i0), .val (.int k), .val (.ref b1), .val (.int e1)] [(.int (1 : Int32)), (.ref b1)])) rfl rfl (hb hby at_72)) ?_
      show Runs p.tables e below _ (T3_.setTop (mkF m 73 #[.val (.int i0), .val (.int k), .val (.ref b1), .val (.int e1)] [(.int e1)]))
      refine Runs.st (fun t' k' => XS.iloadN X3_.here hx rfl (hb hby at_73) rfl k') ?_
      show Runs p.tables e below _ (T3_.setTop (mkF m 74 #[.val (.int i0), .val (.int k), .val (.ref b1), .val (.int e1)] [(.int e1), (.int e1)]))
      refine Runs.st (fun t' k' => XS.icmpNo X3_.here hx rfl (hb hby at_74) rfl (teq rfl).2 k') ?_
      show Runs p.tables e below _ (T3_.setTop (mkF m 77 #[.val (.int i0), .val (.int k), .val (.ref b1), .val (.int e1)] []))
      refine Runs.st (fun t' k' => XS.iconst X3_.here hx rfl (hb hby at_77) k') ?_
      show Runs p.tables e below _ (T3_.setTop (mkF m 78 #[.val (.int i0), .val (.int k), .val (.ref b1), .val (.int e1)] [(.int (1 : Int32))]))
      refine Runs.st (fun t' k' => XS.goto X3_.here hx rfl (pc0 := 78) (pc' := 82) rfl (hb hby at_78) (by decide) (by decide) k') ?_
      show Runs p.tables e below _ (T3_.setTop (mkF m 82 #[.val (.int i0), .val (.int k), .val (.ref b1), .val (.int e1)] [(.int (1 : Int32))]))
      refine Runs.ret X3_ hlk (v := (some (.int (1 : Int32)))) (fun h => by rw [hret] at h; cases h) (by decide) (by decide) ?_ (fun fs hr => retN X3_ hx (t := .boolean) hret (by simp) (hb hby at_82) hr)
      exact ⟨rfl, N3_⟩
    by_cases c46 : (k % (100 : Int32)) = (0 : Int32)
    · skip
      refine Runs.st (fun t' k' => XS.ifNo X3_.here hx rfl (hb hby at_46) rfl ((if0 _ _).trans (teq c46).2) k') ?_
      show Runs p.tables e below _ (T3_.setTop (mkF m 49 #[.val (.int i0), .val (.int k), .val (.ref b1), .unset] []))
      refine Runs.st (fun t' k' => XS.iloadN X3_.here hx rfl (hb hby at_49) rfl k') ?_
      show Runs p.tables e below _ (T3_.setTop (mkF m 50 #[.val (.int i0), .val (.int k), .val (.ref b1), .unset] [(.int k)]))
      refine Runs.st (fun t' k' => XS.iconst X3_.here hx rfl (hb hby at_50) k') ?_
      show Runs p.tables e below _ (T3_.setTop (mkF m 51 #[.val (.int i0), .val (.int k), .val (.ref b1), .unset] [(.int (1 : Int32)), (.int k)]))
      refine Runs.st (fun t' k' => XS.iadd X3_.here hx rfl (hb hby at_51) rfl k') ?_
      show Runs p.tables e below _ (T3_.setTop (mkF m 52 #[.val (.int i0), .val (.int k), .val (.ref b1), .unset] [(.int (k + (1 : Int32)))]))
      refine Runs.st (fun t' k' => XS.goto X3_.here hx rfl (pc0 := 52) (pc' := 59) rfl (hb hby at_52) (by decide) (by decide) k') ?_
      show Runs p.tables e below _ (T3_.setTop (mkF m 59 #[.val (.int i0), .val (.int k), .val (.ref b1), .unset] [(.int (k + (1 : Int32)))]))
      rw [show k + (1 : Int32) = e1 from (hE.trans (if_pos c46)).symm]
      exact J59
    · skip
      refine Runs.st (fun t' k' => XS.ifYes X3_.here hx rfl (pc0 := 46) (pc' := 55) rfl (hb hby at_46) rfl ((if0 _ _).trans (feq c46).2) (by decide) (by decide) k') ?_
      show Runs p.tables e below _ (T3_.setTop (mkF m 55 #[.val (.int i0), .val (.int k), .val (.ref b1), .unset] []))
      refine Runs.st (fun t' k' => XS.iloadN X3_.here hx rfl (hb hby at_55) rfl k') ?_
      show Runs p.tables e below _ (T3_.setTop (mkF m 56 #[.val (.int i0), .val (.int k), .val (.ref b1), .unset] [(.int k)]))
      refine Runs.st (fun t' k' => XS.bipush X3_.here hx rfl (hb hby at_56) k') ?_
      show Runs p.tables e below _ (T3_.setTop (mkF m 58 #[.val (.int i0), .val (.int k), .val (.ref b1), .unset] [(.int (101 : Int32)), (.int k)]))
      refine Runs.st (fun t' k' => XS.iadd X3_.here hx rfl (hb hby at_58) rfl k') ?_
      show Runs p.tables e below _ (T3_.setTop (mkF m 59 #[.val (.int i0), .val (.int k), .val (.ref b1), .unset] [(.int (k + (101 : Int32)))]))
      rw [show k + (101 : Int32) = e1 from (hE.trans (if_neg c46)).symm]
      exact J59
set_option maxRecDepth 65536 in
set_option maxHeartbeats 40000000 in
theorem comes_1 {Post : Tables → Env → Array Value → State → Outcome → State → Prop} (hpost : ∀ tb e args s v u, (limb_1_1.after args s (.returned v) u = true ∧ limb_1_2.after args s (.returned v) u = true ∧ True) → FrameEnd s (.returned v) u (Jvm.fieldLocs frame_1_writes args s ++ Jvm.arrayLocs frame_1_arrays args s ++ Jvm.staticLocs frame_1_statics s) 16 128 → Post tb e args s (.returned v) u) :
    ArmFor flags0 classFile x code maxLocals ret World_1 tables_1 room_1 Calls_1 rest_1 Pre_1 Post := by
  intro l hfl _ _ p e ha hc hk s m args below hf hA hF happ hP
  obtain ⟨hcalls, hrest, hpre⟩ := hP
  obtain ⟨-, -, -, hnamed, -, -, -, hat⟩ := (Spec.applies_iff hf).mp happ
  obtain ⟨hg, hn⟩ := and_e (Cond.before_iff.mp (show (Jvm.Cond.and given_1 narrow_1).before args s = true from hpre))
  obtain ⟨gc, gr⟩ := and_e hg
  have gi0 := gr
  obtain ⟨w0, rfl⟩ : ∃ w0 : Value, args = #[w0] := by
    have hs : args.size = 1 := by simpa [Cond.value, given_1] using gc
    obtain ⟨L⟩ := args
    match L, hs with
    | [w0], _ => exact ⟨w0, rfl⟩
  have hw := fun d (hd : d ∈ tables_1) => atoms_spec (ws := Jvm.Cond.code x code maxLocals ret :: tables_1) hat d (List.mem_cons_of_mem _ hd)
  have hfit : Fit s := fun {y c} hc i hi => by
    obtain ⟨ha, rfl⟩ := Array.getElem?_eq_some_iff.mp hc
    have q := List.all_eq_true.mp ((Array.all_eq_true_iff_forall_mem.mp hF) _ (Array.getElem_mem ha)) i (List.mem_range.mpr hi)
    simpa [Array.getElem?_eq_getElem hi] using q
  obtain ⟨i0, ei0⟩ := is_v gi0
  obtain rfl : w0 = (.int i0) := Option.some.inj ei0
  obtain ⟨n, o, h1, h2, h3, _, L, rfl, ⟨rfl, N⟩, hq⟩ := rm0 l s _ hw tables_1 i0 s.heap s.heap.size (Nat.le_refl _)  p e ha hc hk s m _ below hf ((Spec.applies_iff_loose hf).mp happ).1 ⟨rfl, State.Warmed39.refl s, rfl⟩ trivial
  refine ⟨n, _, h1, h2, h3, hpost _ _ _ _ _ _ ⟨Cond.after_iff.mpr rfl, Cond.after_iff.mpr (eq_i res_at (Term.int_eval (1)) rfl), trivial⟩ ⟨hq.1, hq.2.1, (hq.2.2.sift fun y hy => Or.inr (N y hy)).mono (by decide) (by decide)⟩⟩
theorem main_1_1 : Claimed_1_1 := comes_1 fun _ _ _ _ _ _ h hF => ⟨h.1, hF⟩
theorem main_1_2 : Claimed_1_2 := comes_1 fun _ _ _ _ _ _ h hF => ⟨h.2.1, hF⟩
end Jvm.Pilot.@@N@@
namespace Jvm.Pilot.@@N@@
open Jvm Jvm.ClassFile Sem Op Lib Jvm.Free Jvm.Stand Jvm.Pilot.@@N@@.Jvm.D
/-! MADE BY PROGRAM (witnessworld.py) out of the Statement's table words and the real class files: 9 classes; the members and pool entries that the words name. The judged class is class 1, her method 1. -/
namespace start1
open Jvm.ClassFile
def u (s : String) : CpInfo := .utf8 (stringToUtf16 s)
/-- a pool by its gaps: so many unusable entries, then the entry; so many at the end -/
def gap : Nat → List CpInfo → List CpInfo
  | 0, r => r
  | n + 1, r => .unusable :: gap n r
def poolList (es : List (Nat × CpInfo)) (last : Nat) : List CpInfo := es.foldr (fun e r => gap e.1 (e.2 :: r)) (gap last [])
def pool (es : List (Nat × CpInfo)) (last : Nat) : Array CpInfo := ⟨poolList es last⟩
def fileOf (pool : Array CpInfo) (this : Nat) (attrs : Array Attribute := #[]) (ms : Array MethodInfo := #[]) (fl : Nat := 33) (sup : Nat := 0) (ifs : Array Nat := #[]) (fds : Array FieldInfo := #[]) : ClassFile where
  minorVersion := 0
  majorVersion := 65
  constantPool := pool
  accessFlags := fl
  thisClass := this
  superClass := sup
  interfaces := ifs
  fields := fds
  methods := ms
  attributes := attrs
def plain (name : String) (sup : Option ClassId) : Class where
  name := name
  kind := .ordinary
  loader := none
  accessFlags := 33
  super := sup
  interfaces := #[]
  cf := none
  fields := #[]
  methods := #[]
  instanceTypes := #[]
  staticTypes := #[]
  resolved := #[]
  callSites := []
  init := .initialized
  statics := none
  mirror := none

def pool0 : Array CpInfo := pool [(5, u "<init>"), (0, u "()V"), (1, .class_ 10), (1, u "java/lang/Object")] 113

def k0m0 : Method := { name := "<init>", desc := "()V", sig := { parameters := [], returnType := none }, accessFlags := 1, code := none }
/-- java/lang/Object -/
def k0 : Class := { plain "java/lang/Object" none with
  accessFlags := 33
  interfaces := #[]
  cf := some (fileOf pool0 8 #[] #[{ accessFlags := 1, nameIndex := 5, descriptorIndex := 6, attributes := #[] }] 33 0 #[] #[])
  fields := #[]
  methods := #[k0m0]
  instanceTypes := #[]
  staticTypes := #[]
  resolved := Array.replicate 124 none
  statics := none }

def pool1 : Array CpInfo := pool [(2, .class_ 4), (1, u "java/lang/Object"), (0, u "<init>"), (0, u "()V"), (0, .integer 2147483647), (0, .methodref 9 10), (0, .class_ 11), (0, .nameAndType 12 13), (0, u "com/example/kori/bench/StartupGraph"), (0, u "dependencies"), (0, u "(I)[I"), (0, .class_ 15), (0, u "com/example/kori/bench/StartupGraphDependenciesPinLaw"), (2, u "law"), (0, u "(I)Z")] 5

def k1m0 : Method := { name := "<init>", desc := "()V", sig := { parameters := [], returnType := none }, accessFlags := 2, code := none }
def k1c1 : Code := { maxStack := 3, maxLocals := 4, code := code, exceptionTable := #[], attributes := #[] }
def k1m1 : Method := { name := "law", desc := "(I)Z", sig := { parameters := [.int], returnType := some .boolean }, accessFlags := 9, code := some k1c1 }
/-- com/example/kori/bench/StartupGraphDependenciesPinLaw -/
def k1 : Class := { plain "com/example/kori/bench/StartupGraphDependenciesPinLaw" (some 0) with
  accessFlags := 49
  interfaces := #[]
  cf := some (fileOf pool1 14 #[] #[{ accessFlags := 2, nameIndex := 5, descriptorIndex := 6, attributes := #[] }, { accessFlags := 9, nameIndex := 18, descriptorIndex := 19, attributes := #[] }] 49 2 #[] #[])
  fields := #[]
  methods := #[k1m0, k1m1]
  instanceTypes := #[]
  staticTypes := #[]
  resolved := Array.replicate 25 none
  statics := none }

def pool2 : Array CpInfo := pool [(1, .class_ 2), (0, u "com/example/kori/bench/StartupGraph"), (1, .class_ 6), (1, u "java/lang/Object"), (0, u "<init>"), (0, u "()V"), (68, u "dependencies"), (0, u "(I)[I"), (75, u "PACKAGE"), (0, u "Ljava/lang/String;"), (1, u "LAYERS"), (0, u "I"), (1, u "WIDTH"), (1, u "CLASSES"), (1, u "APPLICATION_DIRECTORY"), (0, u "KORI_DIRECTORY"), (0, u "GUICE_DIRECTORY"), (0, u "KORI_PROGRAM"), (0, u "GUICE_PROGRAM")] 36

def k2m0 : Method := { name := "<init>", desc := "()V", sig := { parameters := [], returnType := none }, accessFlags := 2, code := none }
def k2c1 : Code := { maxStack := 6, maxLocals := 5, code := prog_4_method_2_code, exceptionTable := #[], attributes := #[] }
def k2m1 : Method := { name := "dependencies", desc := "(I)[I", sig := { parameters := [.int], returnType := some (.array .int) }, accessFlags := 8, code := some k2c1 }
/-- com/example/kori/bench/StartupGraph -/
def k2 : Class := { plain "com/example/kori/bench/StartupGraph" (some 0) with
  accessFlags := 32
  interfaces := #[]
  cf := some (fileOf pool2 1 #[] #[{ accessFlags := 2, nameIndex := 7, descriptorIndex := 8, attributes := #[] }, { accessFlags := 8, nameIndex := 77, descriptorIndex := 78, attributes := #[] }] 32 4 #[] #[{ accessFlags := 24, nameIndex := 154, descriptorIndex := 155, attributes := #[] }, { accessFlags := 24, nameIndex := 157, descriptorIndex := 158, attributes := #[] }, { accessFlags := 24, nameIndex := 160, descriptorIndex := 158, attributes := #[] }, { accessFlags := 24, nameIndex := 162, descriptorIndex := 158, attributes := #[] }, { accessFlags := 24, nameIndex := 164, descriptorIndex := 155, attributes := #[] }, { accessFlags := 24, nameIndex := 165, descriptorIndex := 155, attributes := #[] }, { accessFlags := 24, nameIndex := 166, descriptorIndex := 155, attributes := #[] }, { accessFlags := 24, nameIndex := 167, descriptorIndex := 155, attributes := #[] }, { accessFlags := 24, nameIndex := 168, descriptorIndex := 155, attributes := #[] }])
  fields := #[{ name := "PACKAGE", type := (.object "java/lang/String"), accessFlags := 24, slot := 0, constantValue := 0 }, { name := "LAYERS", type := .int, accessFlags := 24, slot := 1, constantValue := 0 }, { name := "WIDTH", type := .int, accessFlags := 24, slot := 2, constantValue := 0 }, { name := "CLASSES", type := .int, accessFlags := 24, slot := 3, constantValue := 0 }, { name := "APPLICATION_DIRECTORY", type := (.object "java/lang/String"), accessFlags := 24, slot := 4, constantValue := 0 }, { name := "KORI_DIRECTORY", type := (.object "java/lang/String"), accessFlags := 24, slot := 5, constantValue := 0 }, { name := "GUICE_DIRECTORY", type := (.object "java/lang/String"), accessFlags := 24, slot := 6, constantValue := 0 }, { name := "KORI_PROGRAM", type := (.object "java/lang/String"), accessFlags := 24, slot := 7, constantValue := 0 }, { name := "GUICE_PROGRAM", type := (.object "java/lang/String"), accessFlags := 24, slot := 8, constantValue := 0 }]
  methods := #[k2m0, k2m1]
  instanceTypes := #[]
  staticTypes := #[(.object "java/lang/String"), .int, .int, .int, (.object "java/lang/String"), (.object "java/lang/String"), (.object "java/lang/String"), (.object "java/lang/String"), (.object "java/lang/String")]
  resolved := Array.replicate 205 none
  statics := none }

def pool3 : Array CpInfo := pool [(1, u "java/lang/Cloneable"), (0, .class_ 1), (0, u "java/lang/Object"), (0, .class_ 3)] 3

/-- java/lang/Cloneable -/
def k3 : Class := { plain "java/lang/Cloneable" (some 0) with
  accessFlags := 1537
  interfaces := #[]
  cf := some (fileOf pool3 2 #[] #[] 1537 4 #[] #[])
  fields := #[]
  methods := #[]
  instanceTypes := #[]
  staticTypes := #[]
  resolved := Array.replicate 8 none
  statics := none }

def pool4 : Array CpInfo := pool [(1, u "java/io/Serializable"), (0, .class_ 1), (0, u "java/lang/Object"), (0, .class_ 3)] 3

/-- java/io/Serializable -/
def k4 : Class := { plain "java/io/Serializable" (some 0) with
  accessFlags := 1537
  interfaces := #[]
  cf := some (fileOf pool4 2 #[] #[] 1537 4 #[] #[])
  fields := #[]
  methods := #[]
  instanceTypes := #[]
  staticTypes := #[]
  resolved := Array.replicate 8 none
  statics := none }

/-- the primitive byte -/
def k5 : Class := { plain "byte" none with kind := .primitive 'B', accessFlags := 0x411 }
/-- [B -/
def k6 : Class := { plain "[B" (some 0) with kind := .array 5 .byte, interfaces := #[3, 4], accessFlags := 1041 }

/-- the primitive int -/
def k7 : Class := { plain "int" none with kind := .primitive 'I', accessFlags := 0x411 }
/-- [I -/
def k8 : Class := { plain "[I" (some 0) with kind := .array 7 .int, interfaces := #[3, 4], accessFlags := 1041 }

def heap : Heap := #[]
def classes : Array Class := #[k0, k1, k2, k3, k4, k5, k6, k7, k8]
def interned : List (Array UInt16 × Addr) := []
def slotsUsed : Nat := 0
def theMethod : MethodId := ⟨1, 1⟩
def args0 : Array Value := #[.int 5]
def aboutOver (below : List Frame) : State where
  vm := { classes := classes, interned := interned.toArray }
  heap := heap
  slotsUsed := slotsUsed
  threads := #[{ frames := .invoking theMethod args0 :: below }]
def below0 : List Frame := [.native { method := ⟨0, 0⟩, args := #[] }]
def about1 : State := aboutOver below0
def p0 : Program := .bare "" "" ""
def e0 : Env := launch0.env 0 0 0
theorem w_frames : about1.frames = Frame.invoking theMethod args0 :: below0 := rfl
set_option maxRecDepth 65536 in
theorem w_args : argsFit about1.vm theMethod args0 = true := by decide +kernel
set_option maxRecDepth 65536 in
theorem w_heap : heapFits about1 = true := by decide +kernel
set_option maxRecDepth 65536 in
theorem w_runnable : about1.curStatus? = some .runnable := by decide +kernel
set_option maxRecDepth 65536 in
theorem w_alone : about1.alone = true := by decide +kernel
set_option maxRecDepth 65536 in
theorem w_named : about1.methodNamed? x = some theMethod := by decide +kernel
set_option maxRecDepth 65536 in
theorem w_hears : about1.hears theMethod below0 = true := by decide +kernel
set_option maxRecDepth 65536 in
theorem w_ripe : about1.ripe theMethod args0 below0 = true := by decide +kernel
theorem w_running : about1.status = .running := rfl
set_option maxRecDepth 65536 in
theorem w_room : about1.hasRoom e0.platform room_1 = true :=
  launch0.hasRoom_least _ room_1 (by decide +kernel) (by decide +kernel) (by decide +kernel) (by decide +kernel) (by decide +kernel) (by decide +kernel)
theorem allAtoms_all (ts : List Jvm.Cond) (a : Array Jvm.Value) (st : Jvm.State) : (allAtoms ts).before a st = ts.all (fun c => c.before a st) := by
  induction ts with
  | nil => rfl
  | cons c t ih =>
    show (Jvm.Cond.and c (allAtoms t)).before a st = _
    rw [Jvm.Cond.before_and, ih, List.all_cons]
def words1 : List Jvm.Cond := Jvm.Cond.code x code maxLocals ret :: tables_1
/-- a 'code' word, met by the world's own term for the bytes: nothing is compared byte by byte -/
theorem code_word {y : MethodName} {bytes : ByteArray} {mx : Nat} {rt : Option FieldType} {a : Array Value} {s : State} {m : MethodId} {meth : Method} {c : Code} (h1 : s.methodNamed? y = some m) (h2 : s.vm.method? m = some meth) (h3 : meth.code = some c) (h4 : c.code = bytes)
    (h5 : (c.maxLocals == mx && c.exceptionTable.isEmpty && decide (c.maxStack ≤ mostOperands) && decide (meth.sig.returnType = rt) && !meth.locks && decide (parseMethodDescriptor y.desc = some meth.sig)) = true) : (Jvm.Cond.code y bytes mx rt).before a s = true := by
  simp only [Bool.and_eq_true, beq_iff_eq, Bool.not_eq_true', decide_eq_true_eq] at h5
  obtain ⟨⟨⟨⟨⟨g1, g2⟩, g3⟩, g4⟩, g5⟩, g6⟩ := h5
  simp [Cond.before, Cond.holds, Cond.value, h1, h2, h3, h4, g1, g2, g3, g4, g5, g6]
def isCode : Jvm.Cond → Bool
  | .code _ _ _ _ => true
  | _ => false
theorem all_split {L : List Jvm.Cond} {P : Jvm.Cond → Bool} (h1 : L.all (fun c => isCode c || P c) = true) (h2 : ∀ c ∈ L.filter isCode, P c = true) : L.all P = true := by
  refine List.all_eq_true.mpr fun c hc => ?_
  have h := List.all_eq_true.mp h1 c hc
  rcases Bool.eq_false_or_eq_true (isCode c) with hi | hi
  · exact h2 c (List.mem_filter.mpr ⟨hc, hi⟩)
  · simpa [hi] using h
set_option maxRecDepth 65536 in
theorem w_c0 : (Jvm.Cond.code x code maxLocals ret).before args0 about1 = true := code_word (m := ⟨1, 1⟩) (meth := k1m1) (c := k1c1) (by decide +kernel) rfl rfl rfl (by decide +kernel)
set_option maxRecDepth 65536 in
theorem w_c1 : (Jvm.Cond.code ({ cls := "com/example/kori/bench/StartupGraph", name := "dependencies", desc := "(I)[I" } : Jvm.MethodName) prog_4_method_2_code (5 : Nat) (Option.some (Jvm.ClassFile.FieldType.array Jvm.ClassFile.FieldType.int))).before args0 about1 = true := code_word (m := ⟨2, 1⟩) (meth := k2m1) (c := k2c1) (by decide +kernel) rfl rfl rfl (by decide +kernel)
def codes1 : List Jvm.Cond := [Jvm.Cond.code x code maxLocals ret, Jvm.Cond.code ({ cls := "com/example/kori/bench/StartupGraph", name := "dependencies", desc := "(I)[I" } : Jvm.MethodName) prog_4_method_2_code (5 : Nat) (Option.some (Jvm.ClassFile.FieldType.array Jvm.ClassFile.FieldType.int))]
set_option maxRecDepth 65536 in
theorem codes_eq : words1.filter isCode = codes1 := rfl
theorem w_codes : ∀ c ∈ words1.filter isCode, c.before args0 about1 = true := by
  rw [codes_eq]
  intro c hc
  simp only [codes1, List.mem_cons, List.not_mem_nil, or_false] at hc
  rcases hc with rfl | rfl
  · exact w_c0
  · exact w_c1
set_option maxRecDepth 65536 in
theorem w_t1 : words1.all (fun c => isCode c || c.before args0 about1) = true := by decide +kernel
theorem w_tables : (allAtoms (Jvm.Cond.code x code maxLocals ret :: tables_1)).before args0 about1 = true := by
  rw [allAtoms_all]
  show words1.all (fun c => c.before args0 about1) = true
  refine all_split ?_ w_codes
  rw [w_t1]
set_option maxRecDepth 65536 in
theorem w_case : (Jvm.Cond.and given_1 narrow_1).before args0 about1 = true := by decide +kernel
theorem w_applies : (headSpec (Jvm.Cond.code x code maxLocals ret :: tables_1) room_1).applies x e0.platform about1 = true :=
  (Spec.applies_iff w_frames).mpr ⟨w_running, w_runnable, w_alone, w_named, w_hears, w_ripe, w_room, w_tables⟩
theorem atStart : AtStart classFile x code maxLocals ret World_1 tables_1 room_1 Calls_1 rest_1 Pre_1 launch0 p0 e0 about1 theMethod args0 below0 :=
  ⟨lists_1, trivial, launch0.admits_env _ _ _, launch0.least_env, fairChoices_fair.cas, fairChoices_fair.clock, w_frames, w_args, w_heap, w_applies, trivial, trivial, w_case⟩
end start1
theorem witness_1 : WitnessClaimed_1 := ⟨start1.p0, start1.e0, start1.about1, start1.theMethod, start1.args0, start1.below0, start1.atStart⟩
end Jvm.Pilot.@@N@@
