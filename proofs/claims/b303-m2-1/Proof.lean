import JvmDerived
import JvmDerived.Pilot.@@N@@Statement
import JvmDerived.Pilot.@@N@@Code
set_option linter.unusedVariables false
set_option linter.unusedSimpArgs false
namespace Jvm.RoadKit
open Sem ClassFile Op Lib Jvm.Stand Jvm.Free Jvm.LawKit
section New
variable {p : Program} {l : Launch} {e : Env} {R : Room} {s : State} {m : MethodId} {args : Array Value} {below : List Frame} {meth : Method} {c : Code} {T : State} {locs : List Loc} {cells slots : Nat}
theorem retI (X : Stand p l e R s m args below meth c T locs cells slots) (hx : p.tables.exec = Jvm.exec) {pc : Nat} {Ls : Array Slot} {z : Int32} {rest : List Value} (hret : meth.sig.returnType = some .int) (hd : decode c.code pc = .ok (.ireturn, 1)) {fs : List Frame}
    (hl : ∀ (f : JFrame) (acts : List Action), f.method = m → f.locked = none → f.entered = [] → (doReturn e (T.setTop f) acts (some (.int z))).1 = T.setFrames fs) : Steps p.tables e below (T.setTop (mkF m pc Ls (.int z :: rest))) (T.setFrames fs) := by
  have hm' : T.vm.method? m = some meth := X.method'
  have hn : narrow .int (.int z) = .int z := rfl
  show Steps p.tables e below (T.setTop { method := m, pc := pc, locals := Ls, stack := _ :: rest, locked := none }) _
  jvm_step X.here [X.here.top, hx, hd, hm', hret, hn]
  first | (intro acts; rw [hl _ acts rfl rfl rfl]) | rw [hl _ _ rfl rfl rfl]
  exact Steps.refl _
end New
end Jvm.RoadKit
namespace Jvm.OwnRuns
open Jvm Sem ClassFile Op Lib Jvm.Stand Jvm.Free Jvm.LawKit Jvm.RoadKit
/-- from the state T the invocation comes to its end, and there Φ holds -/
def Runs (tb : Tables) (e : Env) (below : List Frame) (Φ : Outcome → State → Prop) (T : State) : Prop := ∃ s₂ o, Steps tb e below T s₂ ∧ s₂.status = .running ∧ Ended s₂ below o ∧ Φ o s₂
abbrev Phi (s : State) (Q : Option Value → Heap → List Loc → Prop) (k n : Nat) (o : Outcome) (U' : State) : Prop := ∃ v L, o = .returned v ∧ Q v U'.heap L ∧ FrameEnd s o U' L k n
theorem Runs.st {tb : Tables} {e : Env} {below : List Frame} {Φ : Outcome → State → Prop} {T T' : State} (h : ∀ t, Steps tb e below T' t → Steps tb e below T t) (r : Runs tb e below Φ T') : Runs tb e below Φ T := by
  obtain ⟨a, o, h1, h2⟩ := r
  exact ⟨a, o, h a h1, h2⟩
theorem Runs.tr {tb : Tables} {e : Env} {below : List Frame} {Φ : Outcome → State → Prop} {T T' : State} (h : Steps tb e below T T') (r : Runs tb e below Φ T') : Runs tb e below Φ T := Runs.st (fun _ k => h.trans k) r
section Laws
variable {p : Program} {l : Launch} {e : Env} {R : Room} {s : State} {m : MethodId} {args : Array Value} {below : List Frame} {meth : Method} {c : Code} {T : State} {locs : List Loc} {cells slots : Nat}
theorem Runs.ret (X : Stand p l e R s m args below meth c T locs cells slots) (hlk : meth.locks = false) {v : Option Value} (hv : meth.sig.returnType = none → v = none) {Q : Option Value → Heap → List Loc → Prop} {k n : Nat} (hk : cells ≤ k) (hn : slots ≤ n) (hQ : Q v T.heap locs) {T0 : State}
    (hst : ∀ fs : List Frame, (∀ (f : JFrame) (acts : List Action), f.method = m → f.locked = none → f.entered = [] → (doReturn e (T.setTop f) acts v).1 = T.setFrames fs) → Steps p.tables e below T0 (T.setFrames fs)) : Runs p.tables e below (Phi s Q k n) T0 := by
  obtain ⟨fs, hr, hrun, hended, hW, hsame⟩ := X.leave hv hlk
  exact ⟨_, _, hst fs hr, hrun, hended, _, _, rfl, hQ, ⟨_, rfl⟩, hW, hsame.mono hk hn⟩
theorem wider (X : Stand p l e R s m args below meth c T locs cells slots) {c' s' : Nat} (hc : cells ≤ c') (hs : slots ≤ s') : Stand p l e R s m args below meth c T locs c' s' := { X with same := X.same.mono hc hs }
abbrev PhiW (s : State) (Q : Option Value → Heap → List Loc → Prop) (k n : Nat) (o : Outcome) (U' : State) : Prop := ∃ v L, o = .returned v ∧ Q v U'.heap L ∧ ReturnedEndW s o U' L k n
theorem Runs.retW {vm₁ : Vm} (X : Stand p l e R (s.setVm vm₁) m args below meth c T locs cells slots) {n1 : Nat} (hS : s.Since vm₁ n1) (hk1 : n1 ≤ T.heap.size) (hlk : meth.locks = false) {v : Option Value} (hv : meth.sig.returnType = none → v = none) {Q : Option Value → Heap → List Loc → Prop} {k n : Nat} (hk : cells ≤ k) (hn : slots ≤ n) (hQ : Q v T.heap locs) {T0 : State}
    (hst : ∀ fs : List Frame, (∀ (f : JFrame) (acts : List Action), f.method = m → f.locked = none → f.entered = [] → (doReturn e (T.setTop f) acts v).1 = T.setFrames fs) → Steps p.tables e below T0 (T.setFrames fs)) : Runs p.tables e below (PhiW s Q k n) T0 := by
  obtain ⟨fs, hr, hrun, hended, hW⟩ := (wider X hk hn).leaveW hS hk1 hv hlk
  exact ⟨_, _, hst fs hr, hrun, hended, _, _, rfl, hQ, hW⟩
abbrev PhiH (Z : State) (EL : List (String × Nat)) (s : State) (Q : Option Value → Heap → List Loc → Prop) (k n : Nat) (o : Outcome) (U' : State) : Prop := ∃ v L, o = .returned v ∧ Q v U'.heap L ∧ CHr Z EL s.vm s.heap U'.vm U'.heap ∧ ReturnedEndW s o U' L k n
theorem Runs.retH {Z : State} {EL : List (String × Nat)} {vm₁ : Vm} (X : Stand p l e R (s.setVm vm₁) m args below meth c T locs cells slots) {n1 : Nat} (hS : s.Since vm₁ n1) (hk1 : n1 ≤ T.heap.size) (hlk : meth.locks = false) {v : Option Value} (hv : meth.sig.returnType = none → v = none) {Q : Option Value → Heap → List Loc → Prop} {k n : Nat} (hk : cells ≤ k) (hn : slots ≤ n) (hQ : Q v T.heap locs) (hC : CHr Z EL s.vm s.heap T.vm T.heap) {T0 : State}
    (hst : ∀ fs : List Frame, (∀ (f : JFrame) (acts : List Action), f.method = m → f.locked = none → f.entered = [] → (doReturn e (T.setTop f) acts v).1 = T.setFrames fs) → Steps p.tables e below T0 (T.setFrames fs)) : Runs p.tables e below (PhiH Z EL s Q k n) T0 := by
  obtain ⟨fs, hr, hrun, hended, hW⟩ := (wider X hk hn).leaveW hS hk1 hv hlk
  exact ⟨_, _, hst fs hr, hrun, hended, _, _, rfl, hQ, hC, hW⟩
end Laws
section Facts
variable {Z : State} {h h' : Heap} {a : Addr} {C n d : String} {v : Value} {bo : Bool} {ws : List Addr}
theorem Ins_keep (F : Ins Z h a C bo) (K : Keep h h' ws) : Ins Z h' a C bo := by
  obtain ⟨cell, cT, h1, h2, h3⟩ := F
  obtain ⟨c', e1, e2, e3, -⟩ := K.2.2 _ _ h1
  exact ⟨c', cT, e1, h2, by rw [e2, e3]; exact h3⟩
theorem narrow_ref {t : FieldType} {v : Value} (h : v.isRef = true) : narrow t v = v := by rcases ref_cases h with rfl | ⟨_, rfl⟩ <;> cases t <;> rfl
end Facts
end Jvm.OwnRuns
namespace Jvm.Pilot.@@N@@
open Jvm Jvm.ClassFile Sem Op Lib Jvm.Free Jvm.Stand Jvm.LawKit Jvm.RoadKit Bundle Jvm.OwnRuns Jvm.Pilot.@@N@@.Jvm.D
def own_b (P : Prop) [Decidable P] : Int32 := if P then 1 else 0
theorem own_b_pos {P : Prop} [Decidable P] (h : P) : own_b P = 1 := if_pos h
theorem own_b_neg {P : Prop} [Decidable P] (h : ¬ P) : own_b P = 0 := if_neg h
theorem own_b_ne {P : Prop} [Decidable P] (h : ¬ (own_b P = 0)) : P := Decidable.byContradiction fun q => h (own_b_neg q)
theorem own_b_eq {P : Prop} [Decidable P] (h : own_b P = 0) : ¬ P := fun q => by rw [own_b_pos q] at h; exact absurd h (by decide)
def Q_rmMin (Z : State) (p1 : Int64) (q1 : Int64) (r : Int64) (h0 : Heap) (n0 : Nat) : Option Value → Heap → List Loc → Prop := (fun v h L => v = some (.long r) ∧ Fr n0 L ∧ h = h0)
theorem ef_jdk_29_method_70_JJ (m : MethodId) (x0 : Int64) (x1 : Int64)  : entryFrame m #[(.long x0), (.long x1)] 4 = mkF m 0 #[.val (.long x0), .second, .val (.long x1), .second] [] := by first | (simp [entryFrame, mkF, argsToLocals, Value.category]; done) | rfl
theorem d_jdk_29_method_70_0 : decode jdk_29_method_70_code 0 = .ok (.lload_n 0, 1) := by decide +kernel
theorem d_jdk_29_method_70_1 : decode jdk_29_method_70_code 1 = .ok (.lload_n 2, 1) := by decide +kernel
theorem d_jdk_29_method_70_2 : decode jdk_29_method_70_code 2 = .ok (.lcmp, 1) := by decide +kernel
theorem d_jdk_29_method_70_3 : decode jdk_29_method_70_code 3 = .ok (.ifCond .gt 7, 3) := by decide +kernel
theorem d_jdk_29_method_70_10 : decode jdk_29_method_70_code 10 = .ok (.lload_n 2, 1) := by decide +kernel
theorem d_jdk_29_method_70_11 : decode jdk_29_method_70_code 11 = .ok (.lreturn, 1) := by decide +kernel
theorem d_jdk_29_method_70_6 : decode jdk_29_method_70_code 6 = .ok (.lload_n 0, 1) := by decide +kernel
theorem d_jdk_29_method_70_7 : decode jdk_29_method_70_code 7 = .ok (.goto 4, 3) := by decide +kernel
set_option maxRecDepth 65536 in
set_option maxHeartbeats 40000000 in
theorem rmMin (l : Launch) (Z : State) (a0 : Array Value) (hw : ∀ d ∈ tables_1, d.before a0 Z = true) (ws : List Jvm.Cond) (p1 : Int64) (q1 : Int64) (r : Int64) (h0 : Heap) (n0 : Nat) (Z0 : n0 ≤ h0.size) (hr : r = if q1 < p1 then q1 else p1) :
    MetFree l (⟨"java/lang/Math", "min", "(JJ)J"⟩ : MethodName) (head1 (Jvm.Cond.code (⟨"java/lang/Math", "min", "(JJ)J"⟩ : MethodName) jdk_29_method_70_code 4 (some .long) :: ws) ({ frames := 0, cells := 0, slots := 0, locals := 0 } : Room)) (fun ar_ U => ar_ = #[(.long p1), (.long q1)] ∧ Z.Warmed39 U.vm ∧ U.heap = h0) (fun _ _ _ _ _ => True) (fun _ U o U' => Phi U (Q_rmMin Z p1 q1 r h0 n0) ({ frames := 0, cells := 0, slots := 0, locals := 0 } : Room).cells ({ frames := 0, cells := 0, slots := 0, locals := 0 } : Room).slots o U') := by
  refine MetFree.of_bodySF (Jvm.Free.JP.mathPlain rfl (by decide +kernel)) hisR ?_
  intro p e s m args below meth c s₁ Bd hml0 hP hK
  obtain ⟨rfl, hZ, hh⟩ := hP
  have hx := Bd.exec
  have hby := Bd.bytes
  have hlk := Bd.notSynchronized
  have hml : c.maxLocals = 4 := hml0
  have hown : s.vm.findClass "java/lang/Math" = some m.cls := findClass_of_methodNamed Bd.named
  have hown0 := hown
  have hnm := (name_of_methodNamed Bd.named Bd.method).1
  have hret := Bd.returns
  have X0 : Stand p l e ({ frames := 0, cells := 0, slots := 0, locals := 0 } : Room) s m #[(.long p1), (.long q1)] below meth c s₁ [] 0 0 := Stand.of_body Bd
  have e0 : s₁.heap = h0 := by rw [← hh, Bd.state]; rfl
  have N0 := Fr.nil n0
  have sz := Z0
  have K := Keep.refl h0 []
  show Runs p.tables e below (Phi s (Q_rmMin Z p1 q1 r h0 n0) ({ frames := 0, cells := 0, slots := 0, locals := 0 } : Room).cells ({ frames := 0, cells := 0, slots := 0, locals := 0 } : Room).slots) _
  refine Runs.st (fun t' k' => castTop (ef_jdk_29_method_70_JJ m p1 q1 ) k') ?_
  show Runs p.tables e below _ (s₁.setTop (mkF m 0 #[.val (.long p1), .second, .val (.long q1), .second] []))
  refine Runs.st (fun t' k' => XS.lloadN X0.here hx rfl (hb hby d_jdk_29_method_70_0) rfl k') ?_
  show Runs p.tables e below _ (s₁.setTop (mkF m 1 #[.val (.long p1), .second, .val (.long q1), .second] [(.long p1)]))
  refine Runs.st (fun t' k' => XS.lloadN X0.here hx rfl (hb hby d_jdk_29_method_70_1) rfl k') ?_
  show Runs p.tables e below _ (s₁.setTop (mkF m 2 #[.val (.long p1), .second, .val (.long q1), .second] [(.long q1), (.long p1)]))
  refine Runs.st (fun t' k' => XS.lcmp X0.here hx rfl (hb hby d_jdk_29_method_70_2) rfl k') ?_
  show Runs p.tables e below _ (s₁.setTop (mkF m 3 #[.val (.long p1), .second, .val (.long q1), .second] [(.int (lcmpW p1 q1))]))
  by_cases hc : q1 < p1
  · skip
    refine Runs.st (fun t' k' => XS.ifYes X0.here hx rfl (pc0 := 3) (pc' := 10) rfl (hb hby d_jdk_29_method_70_3) rfl ((if0 _ _).trans (tlt ((lw_gt _ _).mpr hc)).2.2.1) (by decide) (by decide) k') ?_
    show Runs p.tables e below _ (s₁.setTop (mkF m 10 #[.val (.long p1), .second, .val (.long q1), .second] []))
    refine Runs.st (fun t' k' => XS.lloadN X0.here hx rfl (hb hby d_jdk_29_method_70_10) rfl k') ?_
    show Runs p.tables e below _ (s₁.setTop (mkF m 11 #[.val (.long p1), .second, .val (.long q1), .second] [(.long q1)]))
    refine Runs.ret X0 hlk (v := (some (.long q1))) (fun h => by rw [hret] at h; cases h) (by decide) (by decide) ?_ (fun fs hr => retOut X0 hx hret rfl (Or.inr (Or.inl ⟨rfl, rfl, _, rfl⟩)) (hb hby d_jdk_29_method_70_11) hr)
    try rw [e0]
    exact ⟨congrArg (fun z => some (Value.long z)) (hr.trans (if_pos hc)).symm, N0, rfl⟩
  · skip
    refine Runs.st (fun t' k' => XS.ifNo X0.here hx rfl (hb hby d_jdk_29_method_70_3) rfl ((if0 _ _).trans (flt (fun q => hc ((lw_gt _ _).mp q))).2.2.1) k') ?_
    show Runs p.tables e below _ (s₁.setTop (mkF m 6 #[.val (.long p1), .second, .val (.long q1), .second] []))
    refine Runs.st (fun t' k' => XS.lloadN X0.here hx rfl (hb hby d_jdk_29_method_70_6) rfl k') ?_
    show Runs p.tables e below _ (s₁.setTop (mkF m 7 #[.val (.long p1), .second, .val (.long q1), .second] [(.long p1)]))
    refine Runs.st (fun t' k' => XS.goto X0.here hx rfl (pc0 := 7) (pc' := 11) rfl (hb hby d_jdk_29_method_70_7) (by decide) (by decide) k') ?_
    show Runs p.tables e below _ (s₁.setTop (mkF m 11 #[.val (.long p1), .second, .val (.long q1), .second] [(.long p1)]))
    refine Runs.ret X0 hlk (v := (some (.long p1))) (fun h => by rw [hret] at h; cases h) (by decide) (by decide) ?_ (fun fs hr => retOut X0 hx hret rfl (Or.inr (Or.inl ⟨rfl, rfl, _, rfl⟩)) (hb hby d_jdk_29_method_70_11) hr)
    try rw [e0]
    exact ⟨congrArg (fun z => some (Value.long z)) (hr.trans (if_neg hc)).symm, N0, rfl⟩
def Q_rmMax (Z : State) (p1 : Int64) (q1 : Int64) (r : Int64) (h0 : Heap) (n0 : Nat) : Option Value → Heap → List Loc → Prop := (fun v h L => v = some (.long r) ∧ Fr n0 L ∧ h = h0)
theorem ef_jdk_29_method_66_JJ (m : MethodId) (x0 : Int64) (x1 : Int64)  : entryFrame m #[(.long x0), (.long x1)] 4 = mkF m 0 #[.val (.long x0), .second, .val (.long x1), .second] [] := by first | (simp [entryFrame, mkF, argsToLocals, Value.category]; done) | rfl
theorem d_jdk_29_method_66_0 : decode jdk_29_method_66_code 0 = .ok (.lload_n 0, 1) := by decide +kernel
theorem d_jdk_29_method_66_1 : decode jdk_29_method_66_code 1 = .ok (.lload_n 2, 1) := by decide +kernel
theorem d_jdk_29_method_66_2 : decode jdk_29_method_66_code 2 = .ok (.lcmp, 1) := by decide +kernel
theorem d_jdk_29_method_66_3 : decode jdk_29_method_66_code 3 = .ok (.ifCond .lt 7, 3) := by decide +kernel
theorem d_jdk_29_method_66_10 : decode jdk_29_method_66_code 10 = .ok (.lload_n 2, 1) := by decide +kernel
theorem d_jdk_29_method_66_11 : decode jdk_29_method_66_code 11 = .ok (.lreturn, 1) := by decide +kernel
theorem d_jdk_29_method_66_6 : decode jdk_29_method_66_code 6 = .ok (.lload_n 0, 1) := by decide +kernel
theorem d_jdk_29_method_66_7 : decode jdk_29_method_66_code 7 = .ok (.goto 4, 3) := by decide +kernel
set_option maxRecDepth 65536 in
set_option maxHeartbeats 40000000 in
theorem rmMax (l : Launch) (Z : State) (a0 : Array Value) (hw : ∀ d ∈ tables_1, d.before a0 Z = true) (ws : List Jvm.Cond) (p1 : Int64) (q1 : Int64) (r : Int64) (h0 : Heap) (n0 : Nat) (Z0 : n0 ≤ h0.size) (hr : r = if p1 < q1 then q1 else p1) :
    MetFree l (⟨"java/lang/Math", "max", "(JJ)J"⟩ : MethodName) (head1 (Jvm.Cond.code (⟨"java/lang/Math", "max", "(JJ)J"⟩ : MethodName) jdk_29_method_66_code 4 (some .long) :: ws) ({ frames := 0, cells := 0, slots := 0, locals := 0 } : Room)) (fun ar_ U => ar_ = #[(.long p1), (.long q1)] ∧ Z.Warmed39 U.vm ∧ U.heap = h0) (fun _ _ _ _ _ => True) (fun _ U o U' => Phi U (Q_rmMax Z p1 q1 r h0 n0) ({ frames := 0, cells := 0, slots := 0, locals := 0 } : Room).cells ({ frames := 0, cells := 0, slots := 0, locals := 0 } : Room).slots o U') := by
  refine MetFree.of_bodySF (Jvm.Free.JP.mathPlain rfl (by decide +kernel)) hisR ?_
  intro p e s m args below meth c s₁ Bd hml0 hP hK
  obtain ⟨rfl, hZ, hh⟩ := hP
  have hx := Bd.exec
  have hby := Bd.bytes
  have hlk := Bd.notSynchronized
  have hml : c.maxLocals = 4 := hml0
  have hown : s.vm.findClass "java/lang/Math" = some m.cls := findClass_of_methodNamed Bd.named
  have hown0 := hown
  have hnm := (name_of_methodNamed Bd.named Bd.method).1
  have hret := Bd.returns
  have X0 : Stand p l e ({ frames := 0, cells := 0, slots := 0, locals := 0 } : Room) s m #[(.long p1), (.long q1)] below meth c s₁ [] 0 0 := Stand.of_body Bd
  have e0 : s₁.heap = h0 := by rw [← hh, Bd.state]; rfl
  have N0 := Fr.nil n0
  have sz := Z0
  have K := Keep.refl h0 []
  show Runs p.tables e below (Phi s (Q_rmMax Z p1 q1 r h0 n0) ({ frames := 0, cells := 0, slots := 0, locals := 0 } : Room).cells ({ frames := 0, cells := 0, slots := 0, locals := 0 } : Room).slots) _
  refine Runs.st (fun t' k' => castTop (ef_jdk_29_method_66_JJ m p1 q1 ) k') ?_
  show Runs p.tables e below _ (s₁.setTop (mkF m 0 #[.val (.long p1), .second, .val (.long q1), .second] []))
  refine Runs.st (fun t' k' => XS.lloadN X0.here hx rfl (hb hby d_jdk_29_method_66_0) rfl k') ?_
  show Runs p.tables e below _ (s₁.setTop (mkF m 1 #[.val (.long p1), .second, .val (.long q1), .second] [(.long p1)]))
  refine Runs.st (fun t' k' => XS.lloadN X0.here hx rfl (hb hby d_jdk_29_method_66_1) rfl k') ?_
  show Runs p.tables e below _ (s₁.setTop (mkF m 2 #[.val (.long p1), .second, .val (.long q1), .second] [(.long q1), (.long p1)]))
  refine Runs.st (fun t' k' => XS.lcmp X0.here hx rfl (hb hby d_jdk_29_method_66_2) rfl k') ?_
  show Runs p.tables e below _ (s₁.setTop (mkF m 3 #[.val (.long p1), .second, .val (.long q1), .second] [(.int (lcmpW p1 q1))]))
  by_cases hc : p1 < q1
  · skip
    refine Runs.st (fun t' k' => XS.ifYes X0.here hx rfl (pc0 := 3) (pc' := 10) rfl (hb hby d_jdk_29_method_66_3) rfl ((if0 _ _).trans (tlt ((lw_lt _ _).mpr hc)).1) (by decide) (by decide) k') ?_
    show Runs p.tables e below _ (s₁.setTop (mkF m 10 #[.val (.long p1), .second, .val (.long q1), .second] []))
    refine Runs.st (fun t' k' => XS.lloadN X0.here hx rfl (hb hby d_jdk_29_method_66_10) rfl k') ?_
    show Runs p.tables e below _ (s₁.setTop (mkF m 11 #[.val (.long p1), .second, .val (.long q1), .second] [(.long q1)]))
    refine Runs.ret X0 hlk (v := (some (.long q1))) (fun h => by rw [hret] at h; cases h) (by decide) (by decide) ?_ (fun fs hr => retOut X0 hx hret rfl (Or.inr (Or.inl ⟨rfl, rfl, _, rfl⟩)) (hb hby d_jdk_29_method_66_11) hr)
    try rw [e0]
    exact ⟨congrArg (fun z => some (Value.long z)) (hr.trans (if_pos hc)).symm, N0, rfl⟩
  · skip
    refine Runs.st (fun t' k' => XS.ifNo X0.here hx rfl (hb hby d_jdk_29_method_66_3) rfl ((if0 _ _).trans (flt (fun q => hc ((lw_lt _ _).mp q))).1) k') ?_
    show Runs p.tables e below _ (s₁.setTop (mkF m 6 #[.val (.long p1), .second, .val (.long q1), .second] []))
    refine Runs.st (fun t' k' => XS.lloadN X0.here hx rfl (hb hby d_jdk_29_method_66_6) rfl k') ?_
    show Runs p.tables e below _ (s₁.setTop (mkF m 7 #[.val (.long p1), .second, .val (.long q1), .second] [(.long p1)]))
    refine Runs.st (fun t' k' => XS.goto X0.here hx rfl (pc0 := 7) (pc' := 11) rfl (hb hby d_jdk_29_method_66_7) (by decide) (by decide) k') ?_
    show Runs p.tables e below _ (s₁.setTop (mkF m 11 #[.val (.long p1), .second, .val (.long q1), .second] [(.long p1)]))
    refine Runs.ret X0 hlk (v := (some (.long p1))) (fun h => by rw [hret] at h; cases h) (by decide) (by decide) ?_ (fun fs hr => retOut X0 hx hret rfl (Or.inr (Or.inl ⟨rfl, rfl, _, rfl⟩)) (hb hby d_jdk_29_method_66_11) hr)
    try rw [e0]
    exact ⟨congrArg (fun z => some (Value.long z)) (hr.trans (if_neg hc)).symm, N0, rfl⟩
def Q_rmInit (Z : State) (a : Addr) (f : Int64) (u : Int64)  (h0 : Heap) (n0 : Nat) : Option Value → Heap → List Loc → Prop := (fun v h L => v = none ∧ Fr n0 L ∧ Keep h0 h [a] ∧ Exa Z h a "com/example/occupancy/occupancy/Window" ∧ Fld Z h a "com/example/occupancy/occupancy/Window" "from" "J" (.long f) ∧ Fld Z h a "com/example/occupancy/occupancy/Window" "to" "J" (.long u))
theorem pn_com_example_occupancy_occupancy_Window : plainName "com/example/occupancy/occupancy/Window" = true := by first | (simp [plainName, overriddenIn]; done) | decide +kernel
theorem ef_prog_29_method_1_RJJ (m : MethodId) (x0 : Addr) (x1 : Int64) (x2 : Int64)  : entryFrame m #[(.ref x0), (.long x1), (.long x2)] 5 = mkF m 0 #[.val (.ref x0), .val (.long x1), .second, .val (.long x2), .second] [] := by first | (simp [entryFrame, mkF, argsToLocals, Value.category]; done) | rfl
theorem d_prog_29_method_1_0 : decode prog_29_method_1_code 0 = .ok (.aload_n 0, 1) := by decide +kernel
theorem d_prog_29_method_1_1 : decode prog_29_method_1_code 1 = .ok (.invokespecial 1, 3) := by decide +kernel
theorem d_prog_29_method_1_4 : decode prog_29_method_1_code 4 = .ok (.aload_n 0, 1) := by decide +kernel
theorem d_prog_29_method_1_5 : decode prog_29_method_1_code 5 = .ok (.lload_n 1, 1) := by decide +kernel
theorem d_prog_29_method_1_6 : decode prog_29_method_1_code 6 = .ok (.putfield 7, 3) := by decide +kernel
theorem d_prog_29_method_1_9 : decode prog_29_method_1_code 9 = .ok (.aload_n 0, 1) := by decide +kernel
theorem d_prog_29_method_1_10 : decode prog_29_method_1_code 10 = .ok (.lload_n 3, 1) := by decide +kernel
theorem d_prog_29_method_1_11 : decode prog_29_method_1_code 11 = .ok (.putfield 13, 3) := by decide +kernel
theorem d_prog_29_method_1_14 : decode prog_29_method_1_code 14 = .ok (.return_, 1) := by decide +kernel
set_option maxRecDepth 65536 in
set_option maxHeartbeats 40000000 in
theorem rmInit (l : Launch) (Z : State) (a0 : Array Value) (hw : ∀ d ∈ tables_1, d.before a0 Z = true) (ws : List Jvm.Cond) (a : Addr) (f : Int64) (u : Int64)  (h0 : Heap) (n0 : Nat) (Z0 : n0 ≤ h0.size) (E_a : Exa Z h0 a "com/example/occupancy/occupancy/Window") (F1 : Fld Z h0 a "com/example/occupancy/occupancy/Window" "from" "J" (.long (0 : Int64))) (F2 : Fld Z h0 a "com/example/occupancy/occupancy/Window" "to" "J" (.long (0 : Int64))) (g_a : n0 ≤ a) :
    MetFree l (⟨"com/example/occupancy/occupancy/Window", "<init>", "(JJ)V"⟩ : MethodName) (head1 (Jvm.Cond.code (⟨"com/example/occupancy/occupancy/Window", "<init>", "(JJ)V"⟩ : MethodName) prog_29_method_1_code 5 none :: ws) ({ frames := 1, cells := 0, slots := 0, locals := 12 } : Room)) (fun ar_ U => ar_ = #[(.ref a), (.long f), (.long u)] ∧ Z.Warmed39 U.vm ∧ U.heap = h0) (fun _ _ _ _ _ => True) (fun _ U o U' => Phi U (Q_rmInit Z a f u h0 n0) ({ frames := 1, cells := 0, slots := 0, locals := 12 } : Room).cells ({ frames := 1, cells := 0, slots := 0, locals := 12 } : Room).slots o U') := by
  refine MetFree.of_bodySF (plainFor_of_name pn_com_example_occupancy_occupancy_Window) hisR ?_
  intro p e s m args below meth c s₁ Bd hml0 hP hK
  obtain ⟨rfl, hZ, hh⟩ := hP
  have hx := Bd.exec
  have hby := Bd.bytes
  have hlk := Bd.notSynchronized
  have hml : c.maxLocals = 5 := hml0
  have hown : s.vm.findClass "com/example/occupancy/occupancy/Window" = some m.cls := findClass_of_methodNamed Bd.named
  have hown0 := hown
  have hnm := (name_of_methodNamed Bd.named Bd.method).1
  have hret := Bd.returns
  have X0 : Stand p l e ({ frames := 1, cells := 0, slots := 0, locals := 12 } : Room) s m #[(.ref a), (.long f), (.long u)] below meth c s₁ [] 0 0 := Stand.of_body Bd
  have e0 : s₁.heap = h0 := by rw [← hh, Bd.state]; rfl
  have N0 := Fr.nil n0
  have sz := Z0
  have K := Keep.refl h0 [a]
  show Runs p.tables e below (Phi s (Q_rmInit Z a f u h0 n0) ({ frames := 1, cells := 0, slots := 0, locals := 12 } : Room).cells ({ frames := 1, cells := 0, slots := 0, locals := 12 } : Room).slots) _
  refine Runs.st (fun t' k' => castTop (ef_prog_29_method_1_RJJ m a f u ) k') ?_
  show Runs p.tables e below _ (s₁.setTop (mkF m 0 #[.val (.ref a), .val (.long f), .second, .val (.long u), .second] []))
  refine Runs.st (fun t' k' => XS.aloadN X0.here hx rfl (hb hby d_prog_29_method_1_0) rfl rfl k') ?_
  show Runs p.tables e below _ (s₁.setTop (mkF m 1 #[.val (.ref a), .val (.long f), .second, .val (.long u), .second] [(.ref a)]))
  obtain ⟨T1_, X1_, e1_, st1_⟩ := initO X0 hx hZ hown (hw _ (List.mem_of_getElem? (i := 13) rfl)) (hw _ (List.mem_of_getElem? (i := 14) rfl)) (hw _ (List.mem_of_getElem? (i := 15) rfl)) e0 (g := (mkF m 1 #[.val (.ref a), .val (.long f), .second, .val (.long u), .second] [(.ref a)])) rfl (by rw [hml]; rfl) rfl (hb hby d_prog_29_method_1_1) (by decide) (W := 0) (by show 2 * 0 + _ ≤ _; exact Nat.le_of_eq rfl) (by decide)
  refine Runs.st (st1_) ?_
  show Runs p.tables e below _ (T1_.setTop (mkF m 4 #[.val (.ref a), .val (.long f), .second, .val (.long u), .second] []))
  refine Runs.st (fun t' k' => XS.aloadN X1_.here hx rfl (hb hby d_prog_29_method_1_4) rfl rfl k') ?_
  show Runs p.tables e below _ (T1_.setTop (mkF m 5 #[.val (.ref a), .val (.long f), .second, .val (.long u), .second] [(.ref a)]))
  refine Runs.st (fun t' k' => XS.lloadN X1_.here hx rfl (hb hby d_prog_29_method_1_5) rfl k') ?_
  show Runs p.tables e below _ (T1_.setTop (mkF m 6 #[.val (.ref a), .val (.long f), .second, .val (.long u), .second] [(.long f), (.ref a)]))
  obtain ⟨T2_, h2_, X2_, e2_, W2_, st2_⟩ := putF X1_ hx hZ hown (host := "") (Or.inl (hw _ (List.mem_of_getElem? (i := 16) rfl))) Via.refl e1_ F1 E_a (Or.inr ⟨(hw _ (List.mem_of_getElem? (i := 17) rfl)), rfl, hnm⟩) (hw _ (List.mem_of_getElem? (i := 8) rfl)) (ty := .long) (by decide) rfl rfl (g := (mkF m 6 #[.val (.ref a), .val (.long f), .second, .val (.long u), .second] [(.long f), (.ref a)])) rfl rfl (hb hby d_prog_29_method_1_6)
  refine Runs.st (st2_) ?_
  replace F1 := F1.same W2_
  replace E_a := Jvm.RoadKit.Exa.wr W2_ E_a
  replace F2 := F2.other W2_ (Or.inr (slot_ne (Or.inr (hw _ (List.mem_of_getElem? (i := 19) rfl))) (Or.inr (hw _ (List.mem_of_getElem? (i := 17) rfl))) (by decide) (t := .long) (t' := .long) (by decide) (by decide)))
  replace sz := Nat.le_trans sz (Keep.of_wr W2_).1
  have N2_ := Fr.snoc X2_ N0 g_a
  replace K := K.wr W2_ (Or.inl (List.mem_of_getElem? (i := 0) rfl))
  show Runs p.tables e below _ (T2_.setTop (mkF m 9 #[.val (.ref a), .val (.long f), .second, .val (.long u), .second] []))
  refine Runs.st (fun t' k' => XS.aloadN X2_.here hx rfl (hb hby d_prog_29_method_1_9) rfl rfl k') ?_
  show Runs p.tables e below _ (T2_.setTop (mkF m 10 #[.val (.ref a), .val (.long f), .second, .val (.long u), .second] [(.ref a)]))
  refine Runs.st (fun t' k' => XS.lloadN X2_.here hx rfl (hb hby d_prog_29_method_1_10) rfl k') ?_
  show Runs p.tables e below _ (T2_.setTop (mkF m 11 #[.val (.ref a), .val (.long f), .second, .val (.long u), .second] [(.long u), (.ref a)]))
  obtain ⟨T3_, h3_, X3_, e3_, W3_, st3_⟩ := putF X2_ hx hZ hown (host := "") (Or.inl (hw _ (List.mem_of_getElem? (i := 18) rfl))) Via.refl e2_ F2 E_a (Or.inr ⟨(hw _ (List.mem_of_getElem? (i := 19) rfl)), rfl, hnm⟩) (hw _ (List.mem_of_getElem? (i := 8) rfl)) (ty := .long) (by decide) rfl rfl (g := (mkF m 11 #[.val (.ref a), .val (.long f), .second, .val (.long u), .second] [(.long u), (.ref a)])) rfl rfl (hb hby d_prog_29_method_1_11)
  refine Runs.st (st3_) ?_
  replace F2 := F2.same W3_
  replace E_a := Jvm.RoadKit.Exa.wr W3_ E_a
  replace F1 := F1.other W3_ (Or.inr (slot_ne (Or.inr (hw _ (List.mem_of_getElem? (i := 17) rfl))) (Or.inr (hw _ (List.mem_of_getElem? (i := 19) rfl))) (by decide) (t := .long) (t' := .long) (by decide) (by decide)))
  replace sz := Nat.le_trans sz (Keep.of_wr W3_).1
  have N3_ := Fr.snoc X3_ N2_ g_a
  replace K := K.wr W3_ (Or.inl (List.mem_of_getElem? (i := 0) rfl))
  show Runs p.tables e below _ (T3_.setTop (mkF m 14 #[.val (.ref a), .val (.long f), .second, .val (.long u), .second] []))
  refine Runs.ret X3_ hlk (v := none) (fun _ => rfl) (by decide) (by decide) ?_ (fun fs hr => X3_.returnOut hx hret (hb hby d_prog_29_method_1_14) hr)
  try rw [e3_]
  exact ⟨rfl, N3_, K, E_a, F1, F2⟩
def Q_rmCon (Z : State) (a : Addr) (t_ : Int64) (f u : Int64) (r : Int32) (h0 : Heap) (n0 : Nat) : Option Value → Heap → List Loc → Prop := (fun v h L => v = some (.int r) ∧ Fr n0 L ∧ h = h0)
theorem ef_prog_29_method_2_RJ (m : MethodId) (x0 : Addr) (x1 : Int64)  : entryFrame m #[(.ref x0), (.long x1)] 3 = mkF m 0 #[.val (.ref x0), .val (.long x1), .second] [] := by first | (simp [entryFrame, mkF, argsToLocals, Value.category]; done) | rfl
theorem d_prog_29_method_2_0 : decode prog_29_method_2_code 0 = .ok (.aload_n 0, 1) := by decide +kernel
theorem d_prog_29_method_2_1 : decode prog_29_method_2_code 1 = .ok (.getfield 7, 3) := by decide +kernel
theorem d_prog_29_method_2_4 : decode prog_29_method_2_code 4 = .ok (.lload_n 1, 1) := by decide +kernel
theorem d_prog_29_method_2_5 : decode prog_29_method_2_code 5 = .ok (.lcmp, 1) := by decide +kernel
theorem d_prog_29_method_2_6 : decode prog_29_method_2_code 6 = .ok (.ifCond .ge 16, 3) := by decide +kernel
theorem d_prog_29_method_2_9 : decode prog_29_method_2_code 9 = .ok (.lload_n 1, 1) := by decide +kernel
theorem d_prog_29_method_2_10 : decode prog_29_method_2_code 10 = .ok (.aload_n 0, 1) := by decide +kernel
theorem d_prog_29_method_2_11 : decode prog_29_method_2_code 11 = .ok (.getfield 13, 3) := by decide +kernel
theorem d_prog_29_method_2_14 : decode prog_29_method_2_code 14 = .ok (.lcmp, 1) := by decide +kernel
theorem d_prog_29_method_2_15 : decode prog_29_method_2_code 15 = .ok (.ifCond .gt 7, 3) := by decide +kernel
theorem d_prog_29_method_2_22 : decode prog_29_method_2_code 22 = .ok (.iconst 0, 1) := by decide +kernel
theorem d_prog_29_method_2_23 : decode prog_29_method_2_code 23 = .ok (.ireturn, 1) := by decide +kernel
theorem d_prog_29_method_2_18 : decode prog_29_method_2_code 18 = .ok (.iconst 1, 1) := by decide +kernel
theorem d_prog_29_method_2_19 : decode prog_29_method_2_code 19 = .ok (.goto 4, 3) := by decide +kernel
set_option maxRecDepth 65536 in
set_option maxHeartbeats 40000000 in
theorem rmCon (l : Launch) (Z : State) (a0 : Array Value) (hw : ∀ d ∈ tables_1, d.before a0 Z = true) (ws : List Jvm.Cond) (a : Addr) (t_ : Int64) (f u : Int64) (r : Int32) (h0 : Heap) (n0 : Nat) (Z0 : n0 ≤ h0.size) (F1 : Fld Z h0 a "com/example/occupancy/occupancy/Window" "from" "J" (.long f)) (F2 : Fld Z h0 a "com/example/occupancy/occupancy/Window" "to" "J" (.long u)) (hr : r = own_b (f < t_ ∧ ¬ u < t_)) :
    MetFree l (⟨"com/example/occupancy/occupancy/Window", "contains", "(J)Z"⟩ : MethodName) (head1 (Jvm.Cond.code (⟨"com/example/occupancy/occupancy/Window", "contains", "(J)Z"⟩ : MethodName) prog_29_method_2_code 3 (some .boolean) :: ws) ({ frames := 0, cells := 0, slots := 0, locals := 0 } : Room)) (fun ar_ U => ar_ = #[(.ref a), (.long t_)] ∧ Z.Warmed39 U.vm ∧ U.heap = h0) (fun _ _ _ _ _ => True) (fun _ U o U' => Phi U (Q_rmCon Z a t_ f u r h0 n0) ({ frames := 0, cells := 0, slots := 0, locals := 0 } : Room).cells ({ frames := 0, cells := 0, slots := 0, locals := 0 } : Room).slots o U') := by
  refine MetFree.of_bodySF (plainFor_of_name pn_com_example_occupancy_occupancy_Window) hisR ?_
  intro p e s m args below meth c s₁ Bd hml0 hP hK
  obtain ⟨rfl, hZ, hh⟩ := hP
  have hx := Bd.exec
  have hby := Bd.bytes
  have hlk := Bd.notSynchronized
  have hml : c.maxLocals = 3 := hml0
  have hown : s.vm.findClass "com/example/occupancy/occupancy/Window" = some m.cls := findClass_of_methodNamed Bd.named
  have hown0 := hown
  have hnm := (name_of_methodNamed Bd.named Bd.method).1
  have hret := Bd.returns
  have X0 : Stand p l e ({ frames := 0, cells := 0, slots := 0, locals := 0 } : Room) s m #[(.ref a), (.long t_)] below meth c s₁ [] 0 0 := Stand.of_body Bd
  have e0 : s₁.heap = h0 := by rw [← hh, Bd.state]; rfl
  have N0 := Fr.nil n0
  have sz := Z0
  have K := Keep.refl h0 []
  show Runs p.tables e below (Phi s (Q_rmCon Z a t_ f u r h0 n0) ({ frames := 0, cells := 0, slots := 0, locals := 0 } : Room).cells ({ frames := 0, cells := 0, slots := 0, locals := 0 } : Room).slots) _
  refine Runs.st (fun t' k' => castTop (ef_prog_29_method_2_RJ m a t_ ) k') ?_
  show Runs p.tables e below _ (s₁.setTop (mkF m 0 #[.val (.ref a), .val (.long t_), .second] []))
  refine Runs.st (fun t' k' => XS.aloadN X0.here hx rfl (hb hby d_prog_29_method_2_0) rfl rfl k') ?_
  show Runs p.tables e below _ (s₁.setTop (mkF m 1 #[.val (.ref a), .val (.long t_), .second] [(.ref a)]))
  obtain ⟨T1_, X1_, e1_, st1_⟩ := getF X0 hx hZ hown (host := "") (Or.inl (hw _ (List.mem_of_getElem? (i := 16) rfl))) Via.refl e0 F1 (g := (mkF m 1 #[.val (.ref a), .val (.long t_), .second] [(.ref a)])) rfl rfl (hb hby d_prog_29_method_2_1)
  refine Runs.st (st1_) ?_
  show Runs p.tables e below _ (T1_.setTop (mkF m 4 #[.val (.ref a), .val (.long t_), .second] [(.long f)]))
  refine Runs.st (fun t' k' => XS.lloadN X1_.here hx rfl (hb hby d_prog_29_method_2_4) rfl k') ?_
  show Runs p.tables e below _ (T1_.setTop (mkF m 5 #[.val (.ref a), .val (.long t_), .second] [(.long t_), (.long f)]))
  refine Runs.st (fun t' k' => XS.lcmp X1_.here hx rfl (hb hby d_prog_29_method_2_5) rfl k') ?_
  show Runs p.tables e below _ (T1_.setTop (mkF m 6 #[.val (.ref a), .val (.long t_), .second] [(.int (lcmpW f t_))]))
  by_cases h1 : f < t_
  · skip
    refine Runs.st (fun t' k' => XS.ifNo X1_.here hx rfl (hb hby d_prog_29_method_2_6) rfl ((if0 _ _).trans (tlt ((lw_lt _ _).mpr h1)).2.1) k') ?_
    show Runs p.tables e below _ (T1_.setTop (mkF m 9 #[.val (.ref a), .val (.long t_), .second] []))
    refine Runs.st (fun t' k' => XS.lloadN X1_.here hx rfl (hb hby d_prog_29_method_2_9) rfl k') ?_
    show Runs p.tables e below _ (T1_.setTop (mkF m 10 #[.val (.ref a), .val (.long t_), .second] [(.long t_)]))
    refine Runs.st (fun t' k' => XS.aloadN X1_.here hx rfl (hb hby d_prog_29_method_2_10) rfl rfl k') ?_
    show Runs p.tables e below _ (T1_.setTop (mkF m 11 #[.val (.ref a), .val (.long t_), .second] [(.ref a), (.long t_)]))
    obtain ⟨T2_, X2_, e2_, st2_⟩ := getF X1_ hx hZ hown (host := "") (Or.inl (hw _ (List.mem_of_getElem? (i := 18) rfl))) Via.refl e1_ F2 (g := (mkF m 11 #[.val (.ref a), .val (.long t_), .second] [(.ref a), (.long t_)])) rfl rfl (hb hby d_prog_29_method_2_11)
    refine Runs.st (st2_) ?_
    show Runs p.tables e below _ (T2_.setTop (mkF m 14 #[.val (.ref a), .val (.long t_), .second] [(.long u), (.long t_)]))
    refine Runs.st (fun t' k' => XS.lcmp X2_.here hx rfl (hb hby d_prog_29_method_2_14) rfl k') ?_
    show Runs p.tables e below _ (T2_.setTop (mkF m 15 #[.val (.ref a), .val (.long t_), .second] [(.int (lcmpW t_ u))]))
    by_cases h2 : u < t_
    · skip
      refine Runs.st (fun t' k' => XS.ifYes X2_.here hx rfl (pc0 := 15) (pc' := 22) rfl (hb hby d_prog_29_method_2_15) rfl ((if0 _ _).trans (tlt ((lw_gt _ _).mpr h2)).2.2.1) (by decide) (by decide) k') ?_
      show Runs p.tables e below _ (T2_.setTop (mkF m 22 #[.val (.ref a), .val (.long t_), .second] []))
      refine Runs.st (fun t' k' => XS.iconst X2_.here hx rfl (hb hby d_prog_29_method_2_22) k') ?_
      show Runs p.tables e below _ (T2_.setTop (mkF m 23 #[.val (.ref a), .val (.long t_), .second] [(.int (0 : Int32))]))
      refine Runs.ret X2_ hlk (v := (some (.int (0 : Int32)))) (fun h => by rw [hret] at h; cases h) (by decide) (by decide) ?_ (fun fs hr => retN X2_ hx (t := .boolean) hret (by simp) (hb hby d_prog_29_method_2_23) hr)
      try rw [e2_]
      exact ⟨congrArg (fun z => some (Value.int z)) (hr.trans (own_b_neg fun q => q.2 h2)).symm, N0, rfl⟩
    · skip
      refine Runs.st (fun t' k' => XS.ifNo X2_.here hx rfl (hb hby d_prog_29_method_2_15) rfl ((if0 _ _).trans (flt (fun q => h2 ((lw_gt _ _).mp q))).2.2.1) k') ?_
      show Runs p.tables e below _ (T2_.setTop (mkF m 18 #[.val (.ref a), .val (.long t_), .second] []))
      refine Runs.st (fun t' k' => XS.iconst X2_.here hx rfl (hb hby d_prog_29_method_2_18) k') ?_
      show Runs p.tables e below _ (T2_.setTop (mkF m 19 #[.val (.ref a), .val (.long t_), .second] [(.int (1 : Int32))]))
      refine Runs.st (fun t' k' => XS.goto X2_.here hx rfl (pc0 := 19) (pc' := 23) rfl (hb hby d_prog_29_method_2_19) (by decide) (by decide) k') ?_
      show Runs p.tables e below _ (T2_.setTop (mkF m 23 #[.val (.ref a), .val (.long t_), .second] [(.int (1 : Int32))]))
      refine Runs.ret X2_ hlk (v := (some (.int (1 : Int32)))) (fun h => by rw [hret] at h; cases h) (by decide) (by decide) ?_ (fun fs hr => retN X2_ hx (t := .boolean) hret (by simp) (hb hby d_prog_29_method_2_23) hr)
      try rw [e2_]
      exact ⟨congrArg (fun z => some (Value.int z)) (hr.trans (own_b_pos ⟨h1, h2⟩)).symm, N0, rfl⟩
  · skip
    refine Runs.st (fun t' k' => XS.ifYes X1_.here hx rfl (pc0 := 6) (pc' := 22) rfl (hb hby d_prog_29_method_2_6) rfl ((if0 _ _).trans (flt (fun q => h1 ((lw_lt _ _).mp q))).2.1) (by decide) (by decide) k') ?_
    show Runs p.tables e below _ (T1_.setTop (mkF m 22 #[.val (.ref a), .val (.long t_), .second] []))
    refine Runs.st (fun t' k' => XS.iconst X1_.here hx rfl (hb hby d_prog_29_method_2_22) k') ?_
    show Runs p.tables e below _ (T1_.setTop (mkF m 23 #[.val (.ref a), .val (.long t_), .second] [(.int (0 : Int32))]))
    refine Runs.ret X1_ hlk (v := (some (.int (0 : Int32)))) (fun h => by rw [hret] at h; cases h) (by decide) (by decide) ?_ (fun fs hr => retN X1_ hx (t := .boolean) hret (by simp) (hb hby d_prog_29_method_2_23) hr)
    try rw [e1_]
    exact ⟨congrArg (fun z => some (Value.int z)) (hr.trans (own_b_neg fun q => h1 q.1)).symm, N0, rfl⟩
theorem pn_com_example_occupancy_occupancy_WindowContainsPinLaw : plainName "com/example/occupancy/occupancy/WindowContainsPinLaw" = true := by first | (simp [plainName, overriddenIn]; done) | decide +kernel
theorem ef_0_JJJJ (m : MethodId) (x0 : Int64) (x1 : Int64) (x2 : Int64) (x3 : Int64)  : entryFrame m #[(.long x0), (.long x1), (.long x2), (.long x3)] maxLocals = mkF m 0 #[.val (.long x0), .second, .val (.long x1), .second, .val (.long x2), .second, .val (.long x3), .second, .unset, .unset, .unset, .unset, .unset, .unset, .unset, .unset, .unset, .unset, .unset, .unset, .unset, .unset, .unset, .unset] [] := by first | (simp [entryFrame, mkF, argsToLocals, Value.category, maxLocals]; done) | rfl
theorem pd__28JJ_29J : parseMethodDescriptor "(JJ)J" = some ⟨[.long, .long], some .long⟩ := by decide +kernel
theorem pd__28JJ_29V : parseMethodDescriptor "(JJ)V" = some ⟨[.long, .long], none⟩ := by decide +kernel
theorem pd__28J_29Z : parseMethodDescriptor "(J)Z" = some ⟨[.long], some .boolean⟩ := by decide +kernel
set_option maxRecDepth 65536 in
set_option maxHeartbeats 40000000 in
theorem rm0 (l : Launch) (Z : State) (a0 : Array Value) (hw : ∀ d ∈ tables_1, d.before a0 Z = true) (ws : List Jvm.Cond) (i0 : Int64) (i1 : Int64) (i2 : Int64) (i3 : Int64)  (h0 : Heap) (n0 : Nat) (Z0 : n0 ≤ h0.size)  :
    MetFree l x (head1 (Jvm.Cond.code x code maxLocals ret :: ws) room_1) (fun ar_ U => ar_ = #[(.long i0), (.long i1), (.long i2), (.long i3)] ∧ Z.Warmed39 U.vm ∧ U.heap = h0) (fun _ _ _ _ _ => True) (fun _ U o U' => Phi U (fun v h L => v = some (.int 1) ∧ Fr n0 L) room_1.cells room_1.slots o U') := by
  refine MetFree.of_bodySF (plainFor_of_name pn_com_example_occupancy_occupancy_WindowContainsPinLaw) hisR ?_
  intro p e s m args below meth c s₁ Bd hml0 hP hK
  obtain ⟨rfl, hZ, hh⟩ := hP
  have hx := Bd.exec
  have hby := Bd.bytes
  have hlk := Bd.notSynchronized
  have hml : c.maxLocals = 24 := hml0
  have hown : s.vm.findClass "com/example/occupancy/occupancy/WindowContainsPinLaw" = some m.cls := findClass_of_methodNamed Bd.named
  have hown0 := hown
  have hnm := (name_of_methodNamed Bd.named Bd.method).1
  have hret := Bd.returns
  have X0 : Stand p l e room_1 s m #[(.long i0), (.long i1), (.long i2), (.long i3)] below meth c s₁ [] 0 0 := Stand.of_body Bd
  have e0 : s₁.heap = h0 := by rw [← hh, Bd.state]; rfl
  have N0 := Fr.nil n0
  have sz := Z0
  have K := Keep.refl h0 []
  show Runs p.tables e below (Phi s (fun v h L => v = some (.int 1) ∧ Fr n0 L) room_1.cells room_1.slots) _
  refine Runs.st (fun t' k' => castTop (ef_0_JJJJ m i0 i1 i2 i3 ) k') ?_
  show Runs p.tables e below _ (s₁.setTop (mkF m 0 #[.val (.long i0), .second, .val (.long i1), .second, .val (.long i2), .second, .val (.long i3), .second, .unset, .unset, .unset, .unset, .unset, .unset, .unset, .unset, .unset, .unset, .unset, .unset, .unset, .unset, .unset, .unset] []))
  obtain ⟨lo, h_lo⟩ : ∃ z : Int64, z = if i1 < i0 then i1 else i0 := ⟨_, rfl⟩
  obtain ⟨hi, h_hi⟩ : ∃ z : Int64, z = if i0 < i1 then i1 else i0 := ⟨_, rfl⟩
  obtain ⟨mm, h_mm⟩ : ∃ z : Int64, z = if i2 < hi then i2 else hi := ⟨_, rfl⟩
  obtain ⟨md, h_md⟩ : ∃ z : Int64, z = if lo < mm then mm else lo := ⟨_, rfl⟩
  obtain ⟨v1, h_v1⟩ : ∃ z : Int32, z = own_b (lo < i3 ∧ ¬ hi < i3) := ⟨_, rfl⟩
  obtain ⟨v2, h_v2⟩ : ∃ z : Int32, z = own_b (lo < i3 ∧ ¬ md < i3) := ⟨_, rfl⟩
  obtain ⟨v3, h_v3⟩ : ∃ z : Int32, z = own_b (md < i3 ∧ ¬ hi < i3) := ⟨_, rfl⟩
  obtain ⟨v4, h_v4⟩ : ∃ z : Int32, z = own_b (lo < md ∧ ¬ md < md) := ⟨_, rfl⟩
  obtain ⟨v5, h_v5⟩ : ∃ z : Int32, z = own_b (hi < i3 ∧ ¬ lo < i3) := ⟨_, rfl⟩
  obtain ⟨L1, L2, L3⟩ : lo.toInt ≤ md.toInt ∧ md.toInt ≤ hi.toInt ∧ lo.toInt ≤ hi.toInt := by
    have a1 : lo.toInt ≤ hi.toInt := by
      rw [h_lo, h_hi]; split <;> split <;> (rename_i a b; simp only [Int64.lt_iff_toInt_lt] at a b; omega)
    have a2 : mm.toInt ≤ hi.toInt := by
      rw [h_mm]; split
      · rename_i a; simp only [Int64.lt_iff_toInt_lt] at a; omega
      · omega
    rw [h_md]; split
    · rename_i a; simp only [Int64.lt_iff_toInt_lt] at a; omega
    · omega
  refine Runs.st (fun t' k' => XS.lloadN X0.here hx rfl (hb hby at_0) rfl k') ?_
  show Runs p.tables e below _ (s₁.setTop (mkF m 1 #[.val (.long i0), .second, .val (.long i1), .second, .val (.long i2), .second, .val (.long i3), .second, .unset, .unset, .unset, .unset, .unset, .unset, .unset, .unset, .unset, .unset, .unset, .unset, .unset, .unset, .unset, .unset] [(.long i0)]))
  refine Runs.st (fun t' k' => XS.lloadN X0.here hx rfl (hb hby at_1) rfl k') ?_
  show Runs p.tables e below _ (s₁.setTop (mkF m 2 #[.val (.long i0), .second, .val (.long i1), .second, .val (.long i2), .second, .val (.long i3), .second, .unset, .unset, .unset, .unset, .unset, .unset, .unset, .unset, .unset, .unset, .unset, .unset, .unset, .unset, .unset, .unset] [(.long i1), (.long i0)]))
  obtain ⟨_, _, ⟨T1_, L1_, k1_, n1_⟩, -, X1_, ⟨Lc1_, hQ1_, l1_, y1_, z1_⟩, st1_⟩ := Jvm.LawKit.callS X0 hx (y := (⟨"java/lang/Math", "min", "(JJ)J"⟩ : MethodName)) hown (mvT hZ (hw _ (List.mem_of_getElem? (i := 0) rfl))) (mvT hZ (hw _ (List.mem_of_getElem? (i := 1) rfl))) (mvT hZ (hw _ (List.mem_of_getElem? (i := 2) rfl))) (mvT hZ (hw _ (List.mem_of_getElem? (i := 3) rfl))) (by decide) (backOf (W := 0) (rmMin l Z a0 hw [] i0 i1 lo h0 n0 sz h_lo) hZ (hw _ (List.mem_of_getElem? (i := 3) rfl)) (hw _ (List.mem_of_getElem? (i := 2) rfl)) (by decide) (by decide)) (g := (mkF m 2 #[.val (.long i0), .second, .val (.long i1), .second, .val (.long i2), .second, .val (.long i3), .second, .unset, .unset, .unset, .unset, .unset, .unset, .unset, .unset, .unset, .unset, .unset, .unset, .unset, .unset, .unset, .unset] [(.long i1), (.long i0)])) rfl (by rw [hml]; rfl) (argsL := [(.long i0), (.long i1)]) (rest := []) (lenOf pd__28JJ_29J rfl) rfl (by show 2 * 0 + _ ≤ _; exact Nat.le_of_eq rfl) (hb hby at_2) (fun _ _ => ⟨rfl, e0, (by decide : 0 + 0 ≤ _), (by decide : 0 + 0 ≤ _)⟩)
  dsimp only [Pt.U, Pt.locs, Pt.cells, Pt.slots] at X1_ l1_ y1_ z1_ st1_ hQ1_
  subst l1_ y1_ z1_
  obtain ⟨rfl, N1_q, e1_⟩ := hQ1_
  have N1_ := Fr.app N0 N1_q
  refine Runs.st (st1_) ?_
  replace X1_ := wider X1_ (c' := 0) (s' := 0) (by decide) (by decide)
  show Runs p.tables e below _ (T1_.setTop (mkF m 5 #[.val (.long i0), .second, .val (.long i1), .second, .val (.long i2), .second, .val (.long i3), .second, .unset, .unset, .unset, .unset, .unset, .unset, .unset, .unset, .unset, .unset, .unset, .unset, .unset, .unset, .unset, .unset] [(.long lo)]))
  refine Runs.st (fun t' k' => XS.lstore X1_.here hx rfl (hb hby at_5) rfl (l' := #[.val (.long i0), .second, .val (.long i1), .second, .val (.long i2), .second, .val (.long i3), .second, .val (.long lo), .second, .unset, .unset, .unset, .unset, .unset, .unset, .unset, .unset, .unset, .unset, .unset, .unset, .unset, .unset]) rfl k') ?_
  show Runs p.tables e below _ (T1_.setTop (mkF m 7 #[.val (.long i0), .second, .val (.long i1), .second, .val (.long i2), .second, .val (.long i3), .second, .val (.long lo), .second, .unset, .unset, .unset, .unset, .unset, .unset, .unset, .unset, .unset, .unset, .unset, .unset, .unset, .unset] []))
  refine Runs.st (fun t' k' => XS.lloadN X1_.here hx rfl (hb hby at_7) rfl k') ?_
  show Runs p.tables e below _ (T1_.setTop (mkF m 8 #[.val (.long i0), .second, .val (.long i1), .second, .val (.long i2), .second, .val (.long i3), .second, .val (.long lo), .second, .unset, .unset, .unset, .unset, .unset, .unset, .unset, .unset, .unset, .unset, .unset, .unset, .unset, .unset] [(.long i0)]))
  refine Runs.st (fun t' k' => XS.lloadN X1_.here hx rfl (hb hby at_8) rfl k') ?_
  show Runs p.tables e below _ (T1_.setTop (mkF m 9 #[.val (.long i0), .second, .val (.long i1), .second, .val (.long i2), .second, .val (.long i3), .second, .val (.long lo), .second, .unset, .unset, .unset, .unset, .unset, .unset, .unset, .unset, .unset, .unset, .unset, .unset, .unset, .unset] [(.long i1), (.long i0)]))
  obtain ⟨_, _, ⟨T2_, L2_, k2_, n2_⟩, -, X2_, ⟨Lc2_, hQ2_, l2_, y2_, z2_⟩, st2_⟩ := Jvm.LawKit.callS X1_ hx (y := (⟨"java/lang/Math", "max", "(JJ)J"⟩ : MethodName)) hown (mvT hZ (hw _ (List.mem_of_getElem? (i := 4) rfl))) (mvT hZ (hw _ (List.mem_of_getElem? (i := 5) rfl))) (mvT hZ (hw _ (List.mem_of_getElem? (i := 2) rfl))) (mvT hZ (hw _ (List.mem_of_getElem? (i := 6) rfl))) (by decide) (backOf (W := 0) (rmMax l Z a0 hw [] i0 i1 hi h0 n0 sz h_hi) hZ (hw _ (List.mem_of_getElem? (i := 6) rfl)) (hw _ (List.mem_of_getElem? (i := 2) rfl)) (by decide) (by decide)) (g := (mkF m 9 #[.val (.long i0), .second, .val (.long i1), .second, .val (.long i2), .second, .val (.long i3), .second, .val (.long lo), .second, .unset, .unset, .unset, .unset, .unset, .unset, .unset, .unset, .unset, .unset, .unset, .unset, .unset, .unset] [(.long i1), (.long i0)])) rfl (by rw [hml]; rfl) (argsL := [(.long i0), (.long i1)]) (rest := []) (lenOf pd__28JJ_29J rfl) rfl (by show 2 * 0 + _ ≤ _; exact Nat.le_of_eq rfl) (hb hby at_9) (fun _ _ => ⟨rfl, e1_, (by decide : 0 + 0 ≤ _), (by decide : 0 + 0 ≤ _)⟩)
  dsimp only [Pt.U, Pt.locs, Pt.cells, Pt.slots] at X2_ l2_ y2_ z2_ st2_ hQ2_
  subst l2_ y2_ z2_
  obtain ⟨rfl, N2_q, e2_⟩ := hQ2_
  have N2_ := Fr.app N1_ N2_q
  refine Runs.st (st2_) ?_
  replace X2_ := wider X2_ (c' := 0) (s' := 0) (by decide) (by decide)
  show Runs p.tables e below _ (T2_.setTop (mkF m 12 #[.val (.long i0), .second, .val (.long i1), .second, .val (.long i2), .second, .val (.long i3), .second, .val (.long lo), .second, .unset, .unset, .unset, .unset, .unset, .unset, .unset, .unset, .unset, .unset, .unset, .unset, .unset, .unset] [(.long hi)]))
  refine Runs.st (fun t' k' => XS.lstore X2_.here hx rfl (hb hby at_12) rfl (l' := #[.val (.long i0), .second, .val (.long i1), .second, .val (.long i2), .second, .val (.long i3), .second, .val (.long lo), .second, .val (.long hi), .second, .unset, .unset, .unset, .unset, .unset, .unset, .unset, .unset, .unset, .unset, .unset, .unset]) rfl k') ?_
  show Runs p.tables e below _ (T2_.setTop (mkF m 14 #[.val (.long i0), .second, .val (.long i1), .second, .val (.long i2), .second, .val (.long i3), .second, .val (.long lo), .second, .val (.long hi), .second, .unset, .unset, .unset, .unset, .unset, .unset, .unset, .unset, .unset, .unset, .unset, .unset] []))
  refine Runs.st (fun t' k' => XS.lload X2_.here hx rfl (hb hby at_14) rfl k') ?_
  show Runs p.tables e below _ (T2_.setTop (mkF m 16 #[.val (.long i0), .second, .val (.long i1), .second, .val (.long i2), .second, .val (.long i3), .second, .val (.long lo), .second, .val (.long hi), .second, .unset, .unset, .unset, .unset, .unset, .unset, .unset, .unset, .unset, .unset, .unset, .unset] [(.long lo)]))
  refine Runs.st (fun t' k' => XS.lload X2_.here hx rfl (hb hby at_16) rfl k') ?_
  show Runs p.tables e below _ (T2_.setTop (mkF m 18 #[.val (.long i0), .second, .val (.long i1), .second, .val (.long i2), .second, .val (.long i3), .second, .val (.long lo), .second, .val (.long hi), .second, .unset, .unset, .unset, .unset, .unset, .unset, .unset, .unset, .unset, .unset, .unset, .unset] [(.long hi), (.long lo)]))
  refine Runs.st (fun t' k' => XS.lload X2_.here hx rfl (hb hby at_18) rfl k') ?_
  show Runs p.tables e below _ (T2_.setTop (mkF m 20 #[.val (.long i0), .second, .val (.long i1), .second, .val (.long i2), .second, .val (.long i3), .second, .val (.long lo), .second, .val (.long hi), .second, .unset, .unset, .unset, .unset, .unset, .unset, .unset, .unset, .unset, .unset, .unset, .unset] [(.long i2), (.long hi), (.long lo)]))
  obtain ⟨_, _, ⟨T3_, L3_, k3_, n3_⟩, -, X3_, ⟨Lc3_, hQ3_, l3_, y3_, z3_⟩, st3_⟩ := Jvm.LawKit.callS X2_ hx (y := (⟨"java/lang/Math", "min", "(JJ)J"⟩ : MethodName)) hown (mvT hZ (hw _ (List.mem_of_getElem? (i := 0) rfl))) (mvT hZ (hw _ (List.mem_of_getElem? (i := 1) rfl))) (mvT hZ (hw _ (List.mem_of_getElem? (i := 2) rfl))) (mvT hZ (hw _ (List.mem_of_getElem? (i := 3) rfl))) (by decide) (backOf (W := 2) (rmMin l Z a0 hw [] hi i2 mm h0 n0 sz h_mm) hZ (hw _ (List.mem_of_getElem? (i := 3) rfl)) (hw _ (List.mem_of_getElem? (i := 2) rfl)) (by decide) (by decide)) (g := (mkF m 20 #[.val (.long i0), .second, .val (.long i1), .second, .val (.long i2), .second, .val (.long i3), .second, .val (.long lo), .second, .val (.long hi), .second, .unset, .unset, .unset, .unset, .unset, .unset, .unset, .unset, .unset, .unset, .unset, .unset] [(.long i2), (.long hi), (.long lo)])) rfl (by rw [hml]; rfl) (argsL := [(.long hi), (.long i2)]) (rest := [(.long lo)]) (lenOf pd__28JJ_29J rfl) rfl (by show 2 * 0 + _ ≤ _; exact Nat.le_of_eq rfl) (hb hby at_20) (fun _ _ => ⟨rfl, e2_, (by decide : 0 + 0 ≤ _), (by decide : 0 + 0 ≤ _)⟩)
  dsimp only [Pt.U, Pt.locs, Pt.cells, Pt.slots] at X3_ l3_ y3_ z3_ st3_ hQ3_
  subst l3_ y3_ z3_
  obtain ⟨rfl, N3_q, e3_⟩ := hQ3_
  have N3_ := Fr.app N2_ N3_q
  refine Runs.st (st3_) ?_
  replace X3_ := wider X3_ (c' := 0) (s' := 0) (by decide) (by decide)
  show Runs p.tables e below _ (T3_.setTop (mkF m 23 #[.val (.long i0), .second, .val (.long i1), .second, .val (.long i2), .second, .val (.long i3), .second, .val (.long lo), .second, .val (.long hi), .second, .unset, .unset, .unset, .unset, .unset, .unset, .unset, .unset, .unset, .unset, .unset, .unset] [(.long mm), (.long lo)]))
  obtain ⟨_, _, ⟨T4_, L4_, k4_, n4_⟩, -, X4_, ⟨Lc4_, hQ4_, l4_, y4_, z4_⟩, st4_⟩ := Jvm.LawKit.callS X3_ hx (y := (⟨"java/lang/Math", "max", "(JJ)J"⟩ : MethodName)) hown (mvT hZ (hw _ (List.mem_of_getElem? (i := 4) rfl))) (mvT hZ (hw _ (List.mem_of_getElem? (i := 5) rfl))) (mvT hZ (hw _ (List.mem_of_getElem? (i := 2) rfl))) (mvT hZ (hw _ (List.mem_of_getElem? (i := 6) rfl))) (by decide) (backOf (W := 0) (rmMax l Z a0 hw [] lo mm md h0 n0 sz h_md) hZ (hw _ (List.mem_of_getElem? (i := 6) rfl)) (hw _ (List.mem_of_getElem? (i := 2) rfl)) (by decide) (by decide)) (g := (mkF m 23 #[.val (.long i0), .second, .val (.long i1), .second, .val (.long i2), .second, .val (.long i3), .second, .val (.long lo), .second, .val (.long hi), .second, .unset, .unset, .unset, .unset, .unset, .unset, .unset, .unset, .unset, .unset, .unset, .unset] [(.long mm), (.long lo)])) rfl (by rw [hml]; rfl) (argsL := [(.long lo), (.long mm)]) (rest := []) (lenOf pd__28JJ_29J rfl) rfl (by show 2 * 0 + _ ≤ _; exact Nat.le_of_eq rfl) (hb hby at_23) (fun _ _ => ⟨rfl, e3_, (by decide : 0 + 0 ≤ _), (by decide : 0 + 0 ≤ _)⟩)
  dsimp only [Pt.U, Pt.locs, Pt.cells, Pt.slots] at X4_ l4_ y4_ z4_ st4_ hQ4_
  subst l4_ y4_ z4_
  obtain ⟨rfl, N4_q, e4_⟩ := hQ4_
  have N4_ := Fr.app N3_ N4_q
  refine Runs.st (st4_) ?_
  replace X4_ := wider X4_ (c' := 0) (s' := 0) (by decide) (by decide)
  show Runs p.tables e below _ (T4_.setTop (mkF m 26 #[.val (.long i0), .second, .val (.long i1), .second, .val (.long i2), .second, .val (.long i3), .second, .val (.long lo), .second, .val (.long hi), .second, .unset, .unset, .unset, .unset, .unset, .unset, .unset, .unset, .unset, .unset, .unset, .unset] [(.long md)]))
  refine Runs.st (fun t' k' => XS.lstore X4_.here hx rfl (hb hby at_26) rfl (l' := #[.val (.long i0), .second, .val (.long i1), .second, .val (.long i2), .second, .val (.long i3), .second, .val (.long lo), .second, .val (.long hi), .second, .val (.long md), .second, .unset, .unset, .unset, .unset, .unset, .unset, .unset, .unset, .unset, .unset]) rfl k') ?_
  show Runs p.tables e below _ (T4_.setTop (mkF m 28 #[.val (.long i0), .second, .val (.long i1), .second, .val (.long i2), .second, .val (.long i3), .second, .val (.long lo), .second, .val (.long hi), .second, .val (.long md), .second, .unset, .unset, .unset, .unset, .unset, .unset, .unset, .unset, .unset, .unset] []))
  obtain ⟨T5_, h5_, X5_, e5_, E5_, A5_, D5_, -, st5_⟩ := newO X4_ hx hZ hown (hw _ (List.mem_of_getElem? (i := 7) rfl)) (hw _ (List.mem_of_getElem? (i := 8) rfl)) (hw _ (List.mem_of_getElem? (i := 9) rfl)) e4_ (g := (mkF m 28 #[.val (.long i0), .second, .val (.long i1), .second, .val (.long i2), .second, .val (.long i3), .second, .val (.long lo), .second, .val (.long hi), .second, .val (.long md), .second, .unset, .unset, .unset, .unset, .unset, .unset, .unset, .unset, .unset, .unset] [])) rfl (hb hby at_28) (by decide) (by decide)
  refine Runs.st (st5_) ?_
  obtain ⟨b1, g5_⟩ : ∃ z, z = h0.size := ⟨_, rfl⟩
  rw [← g5_] at A5_ D5_
  try rw [← g5_]
  have g_b1 : n0 ≤ b1 := Nat.le_trans sz (Nat.le_of_eq g5_.symm)
  have sz_b1 : h0.size ≤ b1 := Nat.le_trans K.1 (Nat.le_of_eq g5_.symm)
  replace sz := Nat.le_trans sz E5_.1
  replace K := K.ext E5_
  have E_b1 := A5_
  have F_b1_from : Fld Z h5_ b1 "com/example/occupancy/occupancy/Window" "from" "J" (.long (0 : Int64)) := D5_ (Or.inr (hw _ (List.mem_of_getElem? (i := 17) rfl))) (ty := .long) (by decide)
  have F_b1_to : Fld Z h5_ b1 "com/example/occupancy/occupancy/Window" "to" "J" (.long (0 : Int64)) := D5_ (Or.inr (hw _ (List.mem_of_getElem? (i := 19) rfl))) (ty := .long) (by decide)
  show Runs p.tables e below _ (T5_.setTop (mkF m 31 #[.val (.long i0), .second, .val (.long i1), .second, .val (.long i2), .second, .val (.long i3), .second, .val (.long lo), .second, .val (.long hi), .second, .val (.long md), .second, .unset, .unset, .unset, .unset, .unset, .unset, .unset, .unset, .unset, .unset] [(.ref b1)]))
  refine Runs.st (fun t' k' => XS.dup X5_.here hx rfl (hb hby at_31) rfl rfl k') ?_
  show Runs p.tables e below _ (T5_.setTop (mkF m 32 #[.val (.long i0), .second, .val (.long i1), .second, .val (.long i2), .second, .val (.long i3), .second, .val (.long lo), .second, .val (.long hi), .second, .val (.long md), .second, .unset, .unset, .unset, .unset, .unset, .unset, .unset, .unset, .unset, .unset] [(.ref b1), (.ref b1)]))
  refine Runs.st (fun t' k' => XS.lload X5_.here hx rfl (hb hby at_32) rfl k') ?_
  show Runs p.tables e below _ (T5_.setTop (mkF m 34 #[.val (.long i0), .second, .val (.long i1), .second, .val (.long i2), .second, .val (.long i3), .second, .val (.long lo), .second, .val (.long hi), .second, .val (.long md), .second, .unset, .unset, .unset, .unset, .unset, .unset, .unset, .unset, .unset, .unset] [(.long lo), (.ref b1), (.ref b1)]))
  refine Runs.st (fun t' k' => XS.lload X5_.here hx rfl (hb hby at_34) rfl k') ?_
  show Runs p.tables e below _ (T5_.setTop (mkF m 36 #[.val (.long i0), .second, .val (.long i1), .second, .val (.long i2), .second, .val (.long i3), .second, .val (.long lo), .second, .val (.long hi), .second, .val (.long md), .second, .unset, .unset, .unset, .unset, .unset, .unset, .unset, .unset, .unset, .unset] [(.long hi), (.long lo), (.ref b1), (.ref b1)]))
  obtain ⟨_, _, ⟨T6_, L6_, k6_, n6_⟩, -, X6_, ⟨Lc6_, hQ6_, l6_, y6_, z6_⟩, st6_⟩ := X5_.specialBack hx (y := (⟨"com/example/occupancy/occupancy/Window", "<init>", "(JJ)V"⟩ : MethodName)) rfl hown (mvT hZ (hw _ (List.mem_of_getElem? (i := 10) rfl))) (mvT hZ (hw _ (List.mem_of_getElem? (i := 11) rfl))) (mvT hZ (hw _ (List.mem_of_getElem? (i := 12) rfl))) (by decide) (backOf (W := 1) (rmInit l Z a0 hw [] b1 lo hi h5_ n0 sz E_b1 F_b1_from F_b1_to g_b1) hZ (hw _ (List.mem_of_getElem? (i := 12) rfl)) (hw _ (List.mem_of_getElem? (i := 9) rfl)) (by decide) (by decide)) (g := (mkF m 36 #[.val (.long i0), .second, .val (.long i1), .second, .val (.long i2), .second, .val (.long i3), .second, .val (.long lo), .second, .val (.long hi), .second, .val (.long md), .second, .unset, .unset, .unset, .unset, .unset, .unset, .unset, .unset, .unset, .unset] [(.long hi), (.long lo), (.ref b1), (.ref b1)])) rfl (by rw [hml]; rfl) (Steps.refl _) (a := b1) (argsL := [(.long lo), (.long hi)]) (rest := [(.ref b1)]) (lenOf pd__28JJ_29V rfl) rfl (by show 2 * 0 + _ ≤ _; exact Nat.le_of_eq rfl) (hb hby at_36) (fun _ _ => ⟨rfl, e5_, (by decide : 1 + 0 ≤ _), (by decide : 2 + 0 ≤ _)⟩)
  dsimp only [Pt.U, Pt.locs, Pt.cells, Pt.slots] at X6_ l6_ y6_ z6_ st6_ hQ6_
  subst l6_ y6_ z6_
  obtain ⟨rfl, N6_q, K6_, E_b1, F_b1_from, F_b1_to⟩ := hQ6_
  have N6_ := Fr.app N4_ N6_q
  refine Runs.tr st6_ ?_
  replace X6_ := wider X6_ (c' := 1) (s' := 2) (by decide) (by decide)
  replace sz := Nat.le_trans sz K6_.1
  replace K := K.trans K6_ (allS (Or.inr sz_b1) all0)
  show Runs p.tables e below _ (T6_.setTop (mkF m 39 #[.val (.long i0), .second, .val (.long i1), .second, .val (.long i2), .second, .val (.long i3), .second, .val (.long lo), .second, .val (.long hi), .second, .val (.long md), .second, .unset, .unset, .unset, .unset, .unset, .unset, .unset, .unset, .unset, .unset] [(.ref b1)]))
  refine Runs.st (fun t' k' => XS.astore X6_.here hx rfl (hb hby at_39) rfl rfl (l' := #[.val (.long i0), .second, .val (.long i1), .second, .val (.long i2), .second, .val (.long i3), .second, .val (.long lo), .second, .val (.long hi), .second, .val (.long md), .second, .val (.ref b1), .unset, .unset, .unset, .unset, .unset, .unset, .unset, .unset, .unset]) rfl k') ?_
  show Runs p.tables e below _ (T6_.setTop (mkF m 41 #[.val (.long i0), .second, .val (.long i1), .second, .val (.long i2), .second, .val (.long i3), .second, .val (.long lo), .second, .val (.long hi), .second, .val (.long md), .second, .val (.ref b1), .unset, .unset, .unset, .unset, .unset, .unset, .unset, .unset, .unset] []))
  obtain ⟨T7_, h7_, X7_, e7_, E7_, A7_, D7_, -, st7_⟩ := newO X6_ hx hZ hown (hw _ (List.mem_of_getElem? (i := 7) rfl)) (hw _ (List.mem_of_getElem? (i := 8) rfl)) (hw _ (List.mem_of_getElem? (i := 9) rfl)) rfl (g := (mkF m 41 #[.val (.long i0), .second, .val (.long i1), .second, .val (.long i2), .second, .val (.long i3), .second, .val (.long lo), .second, .val (.long hi), .second, .val (.long md), .second, .val (.ref b1), .unset, .unset, .unset, .unset, .unset, .unset, .unset, .unset, .unset] [])) rfl (hb hby at_41) (by decide) (by decide)
  refine Runs.st (st7_) ?_
  obtain ⟨b2, g7_⟩ : ∃ z, z = T6_.heap.size := ⟨_, rfl⟩
  rw [← g7_] at A7_ D7_
  try rw [← g7_]
  have g_b2 : n0 ≤ b2 := Nat.le_trans sz (Nat.le_of_eq g7_.symm)
  have sz_b2 : h0.size ≤ b2 := Nat.le_trans K.1 (Nat.le_of_eq g7_.symm)
  have ne_b1_b2 : b1 ≠ b2 := Nat.ne_of_lt (Nat.lt_of_lt_of_le E_b1.lt (Nat.le_of_eq g7_.symm))
  replace E_b1 := E_b1.ext E7_
  replace F_b1_from := F_b1_from.ext E7_
  replace F_b1_to := F_b1_to.ext E7_
  replace sz := Nat.le_trans sz E7_.1
  replace K := K.ext E7_
  have E_b2 := A7_
  have F_b2_from : Fld Z h7_ b2 "com/example/occupancy/occupancy/Window" "from" "J" (.long (0 : Int64)) := D7_ (Or.inr (hw _ (List.mem_of_getElem? (i := 17) rfl))) (ty := .long) (by decide)
  have F_b2_to : Fld Z h7_ b2 "com/example/occupancy/occupancy/Window" "to" "J" (.long (0 : Int64)) := D7_ (Or.inr (hw _ (List.mem_of_getElem? (i := 19) rfl))) (ty := .long) (by decide)
  show Runs p.tables e below _ (T7_.setTop (mkF m 44 #[.val (.long i0), .second, .val (.long i1), .second, .val (.long i2), .second, .val (.long i3), .second, .val (.long lo), .second, .val (.long hi), .second, .val (.long md), .second, .val (.ref b1), .unset, .unset, .unset, .unset, .unset, .unset, .unset, .unset, .unset] [(.ref b2)]))
  refine Runs.st (fun t' k' => XS.dup X7_.here hx rfl (hb hby at_44) rfl rfl k') ?_
  show Runs p.tables e below _ (T7_.setTop (mkF m 45 #[.val (.long i0), .second, .val (.long i1), .second, .val (.long i2), .second, .val (.long i3), .second, .val (.long lo), .second, .val (.long hi), .second, .val (.long md), .second, .val (.ref b1), .unset, .unset, .unset, .unset, .unset, .unset, .unset, .unset, .unset] [(.ref b2), (.ref b2)]))
  refine Runs.st (fun t' k' => XS.lload X7_.here hx rfl (hb hby at_45) rfl k') ?_
  show Runs p.tables e below _ (T7_.setTop (mkF m 47 #[.val (.long i0), .second, .val (.long i1), .second, .val (.long i2), .second, .val (.long i3), .second, .val (.long lo), .second, .val (.long hi), .second, .val (.long md), .second, .val (.ref b1), .unset, .unset, .unset, .unset, .unset, .unset, .unset, .unset, .unset] [(.long lo), (.ref b2), (.ref b2)]))
  refine Runs.st (fun t' k' => XS.lload X7_.here hx rfl (hb hby at_47) rfl k') ?_
  show Runs p.tables e below _ (T7_.setTop (mkF m 49 #[.val (.long i0), .second, .val (.long i1), .second, .val (.long i2), .second, .val (.long i3), .second, .val (.long lo), .second, .val (.long hi), .second, .val (.long md), .second, .val (.ref b1), .unset, .unset, .unset, .unset, .unset, .unset, .unset, .unset, .unset] [(.long md), (.long lo), (.ref b2), (.ref b2)]))
  obtain ⟨_, _, ⟨T8_, L8_, k8_, n8_⟩, -, X8_, ⟨Lc8_, hQ8_, l8_, y8_, z8_⟩, st8_⟩ := X7_.specialBack hx (y := (⟨"com/example/occupancy/occupancy/Window", "<init>", "(JJ)V"⟩ : MethodName)) rfl hown (mvT hZ (hw _ (List.mem_of_getElem? (i := 10) rfl))) (mvT hZ (hw _ (List.mem_of_getElem? (i := 11) rfl))) (mvT hZ (hw _ (List.mem_of_getElem? (i := 12) rfl))) (by decide) (backOf (W := 1) (rmInit l Z a0 hw [] b2 lo md h7_ n0 sz E_b2 F_b2_from F_b2_to g_b2) hZ (hw _ (List.mem_of_getElem? (i := 12) rfl)) (hw _ (List.mem_of_getElem? (i := 9) rfl)) (by decide) (by decide)) (g := (mkF m 49 #[.val (.long i0), .second, .val (.long i1), .second, .val (.long i2), .second, .val (.long i3), .second, .val (.long lo), .second, .val (.long hi), .second, .val (.long md), .second, .val (.ref b1), .unset, .unset, .unset, .unset, .unset, .unset, .unset, .unset, .unset] [(.long md), (.long lo), (.ref b2), (.ref b2)])) rfl (by rw [hml]; rfl) (Steps.refl _) (a := b2) (argsL := [(.long lo), (.long md)]) (rest := [(.ref b2)]) (lenOf pd__28JJ_29V rfl) rfl (by show 2 * 0 + _ ≤ _; exact Nat.le_of_eq rfl) (hb hby at_49) (fun _ _ => ⟨rfl, e7_, (by decide : 2 + 0 ≤ _), (by decide : 4 + 0 ≤ _)⟩)
  dsimp only [Pt.U, Pt.locs, Pt.cells, Pt.slots] at X8_ l8_ y8_ z8_ st8_ hQ8_
  subst l8_ y8_ z8_
  obtain ⟨rfl, N8_q, K8_, E_b2, F_b2_from, F_b2_to⟩ := hQ8_
  have N8_ := Fr.app N6_ N8_q
  refine Runs.tr st8_ ?_
  replace X8_ := wider X8_ (c' := 2) (s' := 4) (by decide) (by decide)
  replace E_b1 := E_b1.keep K8_
  replace F_b1_from := F_b1_from.keep K8_ (ninS ne_b1_b2 nin0)
  replace F_b1_to := F_b1_to.keep K8_ (ninS ne_b1_b2 nin0)
  replace sz := Nat.le_trans sz K8_.1
  replace K := K.trans K8_ (allS (Or.inr sz_b2) all0)
  show Runs p.tables e below _ (T8_.setTop (mkF m 52 #[.val (.long i0), .second, .val (.long i1), .second, .val (.long i2), .second, .val (.long i3), .second, .val (.long lo), .second, .val (.long hi), .second, .val (.long md), .second, .val (.ref b1), .unset, .unset, .unset, .unset, .unset, .unset, .unset, .unset, .unset] [(.ref b2)]))
  refine Runs.st (fun t' k' => XS.astore X8_.here hx rfl (hb hby at_52) rfl rfl (l' := #[.val (.long i0), .second, .val (.long i1), .second, .val (.long i2), .second, .val (.long i3), .second, .val (.long lo), .second, .val (.long hi), .second, .val (.long md), .second, .val (.ref b1), .val (.ref b2), .unset, .unset, .unset, .unset, .unset, .unset, .unset, .unset]) rfl k') ?_
  show Runs p.tables e below _ (T8_.setTop (mkF m 54 #[.val (.long i0), .second, .val (.long i1), .second, .val (.long i2), .second, .val (.long i3), .second, .val (.long lo), .second, .val (.long hi), .second, .val (.long md), .second, .val (.ref b1), .val (.ref b2), .unset, .unset, .unset, .unset, .unset, .unset, .unset, .unset] []))
  obtain ⟨T9_, h9_, X9_, e9_, E9_, A9_, D9_, -, st9_⟩ := newO X8_ hx hZ hown (hw _ (List.mem_of_getElem? (i := 7) rfl)) (hw _ (List.mem_of_getElem? (i := 8) rfl)) (hw _ (List.mem_of_getElem? (i := 9) rfl)) rfl (g := (mkF m 54 #[.val (.long i0), .second, .val (.long i1), .second, .val (.long i2), .second, .val (.long i3), .second, .val (.long lo), .second, .val (.long hi), .second, .val (.long md), .second, .val (.ref b1), .val (.ref b2), .unset, .unset, .unset, .unset, .unset, .unset, .unset, .unset] [])) rfl (hb hby at_54) (by decide) (by decide)
  refine Runs.st (st9_) ?_
  obtain ⟨b3, g9_⟩ : ∃ z, z = T8_.heap.size := ⟨_, rfl⟩
  rw [← g9_] at A9_ D9_
  try rw [← g9_]
  have g_b3 : n0 ≤ b3 := Nat.le_trans sz (Nat.le_of_eq g9_.symm)
  have sz_b3 : h0.size ≤ b3 := Nat.le_trans K.1 (Nat.le_of_eq g9_.symm)
  have ne_b1_b3 : b1 ≠ b3 := Nat.ne_of_lt (Nat.lt_of_lt_of_le E_b1.lt (Nat.le_of_eq g9_.symm))
  have ne_b2_b3 : b2 ≠ b3 := Nat.ne_of_lt (Nat.lt_of_lt_of_le E_b2.lt (Nat.le_of_eq g9_.symm))
  replace E_b1 := E_b1.ext E9_
  replace F_b1_from := F_b1_from.ext E9_
  replace F_b1_to := F_b1_to.ext E9_
  replace E_b2 := E_b2.ext E9_
  replace F_b2_from := F_b2_from.ext E9_
  replace F_b2_to := F_b2_to.ext E9_
  replace sz := Nat.le_trans sz E9_.1
  replace K := K.ext E9_
  have E_b3 := A9_
  have F_b3_from : Fld Z h9_ b3 "com/example/occupancy/occupancy/Window" "from" "J" (.long (0 : Int64)) := D9_ (Or.inr (hw _ (List.mem_of_getElem? (i := 17) rfl))) (ty := .long) (by decide)
  have F_b3_to : Fld Z h9_ b3 "com/example/occupancy/occupancy/Window" "to" "J" (.long (0 : Int64)) := D9_ (Or.inr (hw _ (List.mem_of_getElem? (i := 19) rfl))) (ty := .long) (by decide)
  show Runs p.tables e below _ (T9_.setTop (mkF m 57 #[.val (.long i0), .second, .val (.long i1), .second, .val (.long i2), .second, .val (.long i3), .second, .val (.long lo), .second, .val (.long hi), .second, .val (.long md), .second, .val (.ref b1), .val (.ref b2), .unset, .unset, .unset, .unset, .unset, .unset, .unset, .unset] [(.ref b3)]))
  refine Runs.st (fun t' k' => XS.dup X9_.here hx rfl (hb hby at_57) rfl rfl k') ?_
  show Runs p.tables e below _ (T9_.setTop (mkF m 58 #[.val (.long i0), .second, .val (.long i1), .second, .val (.long i2), .second, .val (.long i3), .second, .val (.long lo), .second, .val (.long hi), .second, .val (.long md), .second, .val (.ref b1), .val (.ref b2), .unset, .unset, .unset, .unset, .unset, .unset, .unset, .unset] [(.ref b3), (.ref b3)]))
  refine Runs.st (fun t' k' => XS.lload X9_.here hx rfl (hb hby at_58) rfl k') ?_
  show Runs p.tables e below _ (T9_.setTop (mkF m 60 #[.val (.long i0), .second, .val (.long i1), .second, .val (.long i2), .second, .val (.long i3), .second, .val (.long lo), .second, .val (.long hi), .second, .val (.long md), .second, .val (.ref b1), .val (.ref b2), .unset, .unset, .unset, .unset, .unset, .unset, .unset, .unset] [(.long md), (.ref b3), (.ref b3)]))
  refine Runs.st (fun t' k' => XS.lload X9_.here hx rfl (hb hby at_60) rfl k') ?_
  show Runs p.tables e below _ (T9_.setTop (mkF m 62 #[.val (.long i0), .second, .val (.long i1), .second, .val (.long i2), .second, .val (.long i3), .second, .val (.long lo), .second, .val (.long hi), .second, .val (.long md), .second, .val (.ref b1), .val (.ref b2), .unset, .unset, .unset, .unset, .unset, .unset, .unset, .unset] [(.long hi), (.long md), (.ref b3), (.ref b3)]))
  obtain ⟨_, _, ⟨T10_, L10_, k10_, n10_⟩, -, X10_, ⟨Lc10_, hQ10_, l10_, y10_, z10_⟩, st10_⟩ := X9_.specialBack hx (y := (⟨"com/example/occupancy/occupancy/Window", "<init>", "(JJ)V"⟩ : MethodName)) rfl hown (mvT hZ (hw _ (List.mem_of_getElem? (i := 10) rfl))) (mvT hZ (hw _ (List.mem_of_getElem? (i := 11) rfl))) (mvT hZ (hw _ (List.mem_of_getElem? (i := 12) rfl))) (by decide) (backOf (W := 1) (rmInit l Z a0 hw [] b3 md hi h9_ n0 sz E_b3 F_b3_from F_b3_to g_b3) hZ (hw _ (List.mem_of_getElem? (i := 12) rfl)) (hw _ (List.mem_of_getElem? (i := 9) rfl)) (by decide) (by decide)) (g := (mkF m 62 #[.val (.long i0), .second, .val (.long i1), .second, .val (.long i2), .second, .val (.long i3), .second, .val (.long lo), .second, .val (.long hi), .second, .val (.long md), .second, .val (.ref b1), .val (.ref b2), .unset, .unset, .unset, .unset, .unset, .unset, .unset, .unset] [(.long hi), (.long md), (.ref b3), (.ref b3)])) rfl (by rw [hml]; rfl) (Steps.refl _) (a := b3) (argsL := [(.long md), (.long hi)]) (rest := [(.ref b3)]) (lenOf pd__28JJ_29V rfl) rfl (by show 2 * 0 + _ ≤ _; exact Nat.le_of_eq rfl) (hb hby at_62) (fun _ _ => ⟨rfl, e9_, (by decide : 3 + 0 ≤ _), (by decide : 6 + 0 ≤ _)⟩)
  dsimp only [Pt.U, Pt.locs, Pt.cells, Pt.slots] at X10_ l10_ y10_ z10_ st10_ hQ10_
  subst l10_ y10_ z10_
  obtain ⟨rfl, N10_q, K10_, E_b3, F_b3_from, F_b3_to⟩ := hQ10_
  have N10_ := Fr.app N8_ N10_q
  refine Runs.tr st10_ ?_
  replace X10_ := wider X10_ (c' := 3) (s' := 6) (by decide) (by decide)
  replace E_b1 := E_b1.keep K10_
  replace F_b1_from := F_b1_from.keep K10_ (ninS ne_b1_b3 nin0)
  replace F_b1_to := F_b1_to.keep K10_ (ninS ne_b1_b3 nin0)
  replace E_b2 := E_b2.keep K10_
  replace F_b2_from := F_b2_from.keep K10_ (ninS ne_b2_b3 nin0)
  replace F_b2_to := F_b2_to.keep K10_ (ninS ne_b2_b3 nin0)
  replace sz := Nat.le_trans sz K10_.1
  replace K := K.trans K10_ (allS (Or.inr sz_b3) all0)
  show Runs p.tables e below _ (T10_.setTop (mkF m 65 #[.val (.long i0), .second, .val (.long i1), .second, .val (.long i2), .second, .val (.long i3), .second, .val (.long lo), .second, .val (.long hi), .second, .val (.long md), .second, .val (.ref b1), .val (.ref b2), .unset, .unset, .unset, .unset, .unset, .unset, .unset, .unset] [(.ref b3)]))
  refine Runs.st (fun t' k' => XS.astore X10_.here hx rfl (hb hby at_65) rfl rfl (l' := #[.val (.long i0), .second, .val (.long i1), .second, .val (.long i2), .second, .val (.long i3), .second, .val (.long lo), .second, .val (.long hi), .second, .val (.long md), .second, .val (.ref b1), .val (.ref b2), .val (.ref b3), .unset, .unset, .unset, .unset, .unset, .unset, .unset]) rfl k') ?_
  show Runs p.tables e below _ (T10_.setTop (mkF m 67 #[.val (.long i0), .second, .val (.long i1), .second, .val (.long i2), .second, .val (.long i3), .second, .val (.long lo), .second, .val (.long hi), .second, .val (.long md), .second, .val (.ref b1), .val (.ref b2), .val (.ref b3), .unset, .unset, .unset, .unset, .unset, .unset, .unset] []))
  obtain ⟨T11_, h11_, X11_, e11_, E11_, A11_, D11_, -, st11_⟩ := newO X10_ hx hZ hown (hw _ (List.mem_of_getElem? (i := 7) rfl)) (hw _ (List.mem_of_getElem? (i := 8) rfl)) (hw _ (List.mem_of_getElem? (i := 9) rfl)) rfl (g := (mkF m 67 #[.val (.long i0), .second, .val (.long i1), .second, .val (.long i2), .second, .val (.long i3), .second, .val (.long lo), .second, .val (.long hi), .second, .val (.long md), .second, .val (.ref b1), .val (.ref b2), .val (.ref b3), .unset, .unset, .unset, .unset, .unset, .unset, .unset] [])) rfl (hb hby at_67) (by decide) (by decide)
  refine Runs.st (st11_) ?_
  obtain ⟨b4, g11_⟩ : ∃ z, z = T10_.heap.size := ⟨_, rfl⟩
  rw [← g11_] at A11_ D11_
  try rw [← g11_]
  have g_b4 : n0 ≤ b4 := Nat.le_trans sz (Nat.le_of_eq g11_.symm)
  have sz_b4 : h0.size ≤ b4 := Nat.le_trans K.1 (Nat.le_of_eq g11_.symm)
  have ne_b1_b4 : b1 ≠ b4 := Nat.ne_of_lt (Nat.lt_of_lt_of_le E_b1.lt (Nat.le_of_eq g11_.symm))
  have ne_b2_b4 : b2 ≠ b4 := Nat.ne_of_lt (Nat.lt_of_lt_of_le E_b2.lt (Nat.le_of_eq g11_.symm))
  have ne_b3_b4 : b3 ≠ b4 := Nat.ne_of_lt (Nat.lt_of_lt_of_le E_b3.lt (Nat.le_of_eq g11_.symm))
  replace E_b1 := E_b1.ext E11_
  replace F_b1_from := F_b1_from.ext E11_
  replace F_b1_to := F_b1_to.ext E11_
  replace E_b2 := E_b2.ext E11_
  replace F_b2_from := F_b2_from.ext E11_
  replace F_b2_to := F_b2_to.ext E11_
  replace E_b3 := E_b3.ext E11_
  replace F_b3_from := F_b3_from.ext E11_
  replace F_b3_to := F_b3_to.ext E11_
  replace sz := Nat.le_trans sz E11_.1
  replace K := K.ext E11_
  have E_b4 := A11_
  have F_b4_from : Fld Z h11_ b4 "com/example/occupancy/occupancy/Window" "from" "J" (.long (0 : Int64)) := D11_ (Or.inr (hw _ (List.mem_of_getElem? (i := 17) rfl))) (ty := .long) (by decide)
  have F_b4_to : Fld Z h11_ b4 "com/example/occupancy/occupancy/Window" "to" "J" (.long (0 : Int64)) := D11_ (Or.inr (hw _ (List.mem_of_getElem? (i := 19) rfl))) (ty := .long) (by decide)
  show Runs p.tables e below _ (T11_.setTop (mkF m 70 #[.val (.long i0), .second, .val (.long i1), .second, .val (.long i2), .second, .val (.long i3), .second, .val (.long lo), .second, .val (.long hi), .second, .val (.long md), .second, .val (.ref b1), .val (.ref b2), .val (.ref b3), .unset, .unset, .unset, .unset, .unset, .unset, .unset] [(.ref b4)]))
  refine Runs.st (fun t' k' => XS.dup X11_.here hx rfl (hb hby at_70) rfl rfl k') ?_
  show Runs p.tables e below _ (T11_.setTop (mkF m 71 #[.val (.long i0), .second, .val (.long i1), .second, .val (.long i2), .second, .val (.long i3), .second, .val (.long lo), .second, .val (.long hi), .second, .val (.long md), .second, .val (.ref b1), .val (.ref b2), .val (.ref b3), .unset, .unset, .unset, .unset, .unset, .unset, .unset] [(.ref b4), (.ref b4)]))
  refine Runs.st (fun t' k' => XS.lload X11_.here hx rfl (hb hby at_71) rfl k') ?_
  show Runs p.tables e below _ (T11_.setTop (mkF m 73 #[.val (.long i0), .second, .val (.long i1), .second, .val (.long i2), .second, .val (.long i3), .second, .val (.long lo), .second, .val (.long hi), .second, .val (.long md), .second, .val (.ref b1), .val (.ref b2), .val (.ref b3), .unset, .unset, .unset, .unset, .unset, .unset, .unset] [(.long hi), (.ref b4), (.ref b4)]))
  refine Runs.st (fun t' k' => XS.lload X11_.here hx rfl (hb hby at_73) rfl k') ?_
  show Runs p.tables e below _ (T11_.setTop (mkF m 75 #[.val (.long i0), .second, .val (.long i1), .second, .val (.long i2), .second, .val (.long i3), .second, .val (.long lo), .second, .val (.long hi), .second, .val (.long md), .second, .val (.ref b1), .val (.ref b2), .val (.ref b3), .unset, .unset, .unset, .unset, .unset, .unset, .unset] [(.long lo), (.long hi), (.ref b4), (.ref b4)]))
  obtain ⟨_, _, ⟨T12_, L12_, k12_, n12_⟩, -, X12_, ⟨Lc12_, hQ12_, l12_, y12_, z12_⟩, st12_⟩ := X11_.specialBack hx (y := (⟨"com/example/occupancy/occupancy/Window", "<init>", "(JJ)V"⟩ : MethodName)) rfl hown (mvT hZ (hw _ (List.mem_of_getElem? (i := 10) rfl))) (mvT hZ (hw _ (List.mem_of_getElem? (i := 11) rfl))) (mvT hZ (hw _ (List.mem_of_getElem? (i := 12) rfl))) (by decide) (backOf (W := 1) (rmInit l Z a0 hw [] b4 hi lo h11_ n0 sz E_b4 F_b4_from F_b4_to g_b4) hZ (hw _ (List.mem_of_getElem? (i := 12) rfl)) (hw _ (List.mem_of_getElem? (i := 9) rfl)) (by decide) (by decide)) (g := (mkF m 75 #[.val (.long i0), .second, .val (.long i1), .second, .val (.long i2), .second, .val (.long i3), .second, .val (.long lo), .second, .val (.long hi), .second, .val (.long md), .second, .val (.ref b1), .val (.ref b2), .val (.ref b3), .unset, .unset, .unset, .unset, .unset, .unset, .unset] [(.long lo), (.long hi), (.ref b4), (.ref b4)])) rfl (by rw [hml]; rfl) (Steps.refl _) (a := b4) (argsL := [(.long hi), (.long lo)]) (rest := [(.ref b4)]) (lenOf pd__28JJ_29V rfl) rfl (by show 2 * 0 + _ ≤ _; exact Nat.le_of_eq rfl) (hb hby at_75) (fun _ _ => ⟨rfl, e11_, (by decide : 4 + 0 ≤ _), (by decide : 8 + 0 ≤ _)⟩)
  dsimp only [Pt.U, Pt.locs, Pt.cells, Pt.slots] at X12_ l12_ y12_ z12_ st12_ hQ12_
  subst l12_ y12_ z12_
  obtain ⟨rfl, N12_q, K12_, E_b4, F_b4_from, F_b4_to⟩ := hQ12_
  have N12_ := Fr.app N10_ N12_q
  refine Runs.tr st12_ ?_
  replace X12_ := wider X12_ (c' := 4) (s' := 8) (by decide) (by decide)
  replace E_b1 := E_b1.keep K12_
  replace F_b1_from := F_b1_from.keep K12_ (ninS ne_b1_b4 nin0)
  replace F_b1_to := F_b1_to.keep K12_ (ninS ne_b1_b4 nin0)
  replace E_b2 := E_b2.keep K12_
  replace F_b2_from := F_b2_from.keep K12_ (ninS ne_b2_b4 nin0)
  replace F_b2_to := F_b2_to.keep K12_ (ninS ne_b2_b4 nin0)
  replace E_b3 := E_b3.keep K12_
  replace F_b3_from := F_b3_from.keep K12_ (ninS ne_b3_b4 nin0)
  replace F_b3_to := F_b3_to.keep K12_ (ninS ne_b3_b4 nin0)
  replace sz := Nat.le_trans sz K12_.1
  replace K := K.trans K12_ (allS (Or.inr sz_b4) all0)
  show Runs p.tables e below _ (T12_.setTop (mkF m 78 #[.val (.long i0), .second, .val (.long i1), .second, .val (.long i2), .second, .val (.long i3), .second, .val (.long lo), .second, .val (.long hi), .second, .val (.long md), .second, .val (.ref b1), .val (.ref b2), .val (.ref b3), .unset, .unset, .unset, .unset, .unset, .unset, .unset] [(.ref b4)]))
  refine Runs.st (fun t' k' => XS.astore X12_.here hx rfl (hb hby at_78) rfl rfl (l' := #[.val (.long i0), .second, .val (.long i1), .second, .val (.long i2), .second, .val (.long i3), .second, .val (.long lo), .second, .val (.long hi), .second, .val (.long md), .second, .val (.ref b1), .val (.ref b2), .val (.ref b3), .val (.ref b4), .unset, .unset, .unset, .unset, .unset, .unset]) rfl k') ?_
  show Runs p.tables e below _ (T12_.setTop (mkF m 80 #[.val (.long i0), .second, .val (.long i1), .second, .val (.long i2), .second, .val (.long i3), .second, .val (.long lo), .second, .val (.long hi), .second, .val (.long md), .second, .val (.ref b1), .val (.ref b2), .val (.ref b3), .val (.ref b4), .unset, .unset, .unset, .unset, .unset, .unset] []))
  refine Runs.st (fun t' k' => XS.aload X12_.here hx rfl (hb hby at_80) rfl rfl k') ?_
  show Runs p.tables e below _ (T12_.setTop (mkF m 82 #[.val (.long i0), .second, .val (.long i1), .second, .val (.long i2), .second, .val (.long i3), .second, .val (.long lo), .second, .val (.long hi), .second, .val (.long md), .second, .val (.ref b1), .val (.ref b2), .val (.ref b3), .val (.ref b4), .unset, .unset, .unset, .unset, .unset, .unset] [(.ref b1)]))
  refine Runs.st (fun t' k' => XS.lload X12_.here hx rfl (hb hby at_82) rfl k') ?_
  show Runs p.tables e below _ (T12_.setTop (mkF m 84 #[.val (.long i0), .second, .val (.long i1), .second, .val (.long i2), .second, .val (.long i3), .second, .val (.long lo), .second, .val (.long hi), .second, .val (.long md), .second, .val (.ref b1), .val (.ref b2), .val (.ref b3), .val (.ref b4), .unset, .unset, .unset, .unset, .unset, .unset] [(.long i3), (.ref b1)]))
  obtain ⟨cq13_, kq13_, q13_a, q13_b, q13_c⟩ := isOf hZ rfl E_b1
  obtain ⟨_, _, ⟨T13_, L13_, k13_, n13_⟩, -, X13_, ⟨Lc13_, hQ13_, l13_, y13_, z13_⟩, st13_⟩ := X12_.virtualBack hx (y := (⟨"com/example/occupancy/occupancy/Window", "contains", "(J)Z"⟩ : MethodName)) (z := (⟨"com/example/occupancy/occupancy/Window", "contains", "(J)Z"⟩ : MethodName)) hown (mvT hZ (hw _ (List.mem_of_getElem? (i := 20) rfl))) (mvT hZ (hw _ (List.mem_of_getElem? (i := 21) rfl))) (notFace_of_selects (args := #[]) (mvT hZ (hw _ (List.mem_of_getElem? (i := 23) rfl)))) (mvT hZ (hw _ (List.mem_of_getElem? (i := 23) rfl))) (mvT hZ (hw _ (List.mem_of_getElem? (i := 22) rfl))) (by decide) (backOf (W := 0) (rmCon l Z a0 hw [] b1 i3 lo hi v1 T12_.heap n0 sz F_b1_from F_b1_to h_v1) hZ (hw _ (List.mem_of_getElem? (i := 24) rfl)) (hw _ (List.mem_of_getElem? (i := 9) rfl)) (by decide) (by decide)) q13_a q13_c (g := (mkF m 84 #[.val (.long i0), .second, .val (.long i1), .second, .val (.long i2), .second, .val (.long i3), .second, .val (.long lo), .second, .val (.long hi), .second, .val (.long md), .second, .val (.ref b1), .val (.ref b2), .val (.ref b3), .val (.ref b4), .unset, .unset, .unset, .unset, .unset, .unset] [(.long i3), (.ref b1)])) rfl (by rw [hml]; rfl) (Steps.refl _) (argsL := [(.long i3)]) (rest := []) (lenOf pd__28J_29Z rfl) rfl (by show 2 * 0 + _ ≤ _; exact Nat.le_of_eq rfl) (hb hby at_84) (fun _ _ => ⟨rfl, rfl, (by decide : 4 + 0 ≤ _), (by decide : 8 + 0 ≤ _)⟩)
  dsimp only [Pt.U, Pt.locs, Pt.cells, Pt.slots] at X13_ l13_ y13_ z13_ st13_ hQ13_
  subst l13_ y13_ z13_
  obtain ⟨rfl, N13_q, e13_⟩ := hQ13_
  have N13_ := Fr.app N12_ N13_q
  refine Runs.tr st13_ ?_
  replace X13_ := wider X13_ (c' := 4) (s' := 8) (by decide) (by decide)
  show Runs p.tables e below _ (T13_.setTop (mkF m 87 #[.val (.long i0), .second, .val (.long i1), .second, .val (.long i2), .second, .val (.long i3), .second, .val (.long lo), .second, .val (.long hi), .second, .val (.long md), .second, .val (.ref b1), .val (.ref b2), .val (.ref b3), .val (.ref b4), .unset, .unset, .unset, .unset, .unset, .unset] [(.int v1)]))
  refine Runs.st (fun t' k' => XS.istore X13_.here hx rfl (hb hby at_87) rfl (l' := #[.val (.long i0), .second, .val (.long i1), .second, .val (.long i2), .second, .val (.long i3), .second, .val (.long lo), .second, .val (.long hi), .second, .val (.long md), .second, .val (.ref b1), .val (.ref b2), .val (.ref b3), .val (.ref b4), .val (.int v1), .unset, .unset, .unset, .unset, .unset]) rfl k') ?_
  show Runs p.tables e below _ (T13_.setTop (mkF m 89 #[.val (.long i0), .second, .val (.long i1), .second, .val (.long i2), .second, .val (.long i3), .second, .val (.long lo), .second, .val (.long hi), .second, .val (.long md), .second, .val (.ref b1), .val (.ref b2), .val (.ref b3), .val (.ref b4), .val (.int v1), .unset, .unset, .unset, .unset, .unset] []))
  refine Runs.st (fun t' k' => XS.aload X13_.here hx rfl (hb hby at_89) rfl rfl k') ?_
  show Runs p.tables e below _ (T13_.setTop (mkF m 91 #[.val (.long i0), .second, .val (.long i1), .second, .val (.long i2), .second, .val (.long i3), .second, .val (.long lo), .second, .val (.long hi), .second, .val (.long md), .second, .val (.ref b1), .val (.ref b2), .val (.ref b3), .val (.ref b4), .val (.int v1), .unset, .unset, .unset, .unset, .unset] [(.ref b2)]))
  refine Runs.st (fun t' k' => XS.lload X13_.here hx rfl (hb hby at_91) rfl k') ?_
  show Runs p.tables e below _ (T13_.setTop (mkF m 93 #[.val (.long i0), .second, .val (.long i1), .second, .val (.long i2), .second, .val (.long i3), .second, .val (.long lo), .second, .val (.long hi), .second, .val (.long md), .second, .val (.ref b1), .val (.ref b2), .val (.ref b3), .val (.ref b4), .val (.int v1), .unset, .unset, .unset, .unset, .unset] [(.long i3), (.ref b2)]))
  obtain ⟨cq14_, kq14_, q14_a, q14_b, q14_c⟩ := isOf hZ e13_ E_b2
  obtain ⟨_, _, ⟨T14_, L14_, k14_, n14_⟩, -, X14_, ⟨Lc14_, hQ14_, l14_, y14_, z14_⟩, st14_⟩ := X13_.virtualBack hx (y := (⟨"com/example/occupancy/occupancy/Window", "contains", "(J)Z"⟩ : MethodName)) (z := (⟨"com/example/occupancy/occupancy/Window", "contains", "(J)Z"⟩ : MethodName)) hown (mvT hZ (hw _ (List.mem_of_getElem? (i := 20) rfl))) (mvT hZ (hw _ (List.mem_of_getElem? (i := 21) rfl))) (notFace_of_selects (args := #[]) (mvT hZ (hw _ (List.mem_of_getElem? (i := 23) rfl)))) (mvT hZ (hw _ (List.mem_of_getElem? (i := 23) rfl))) (mvT hZ (hw _ (List.mem_of_getElem? (i := 22) rfl))) (by decide) (backOf (W := 0) (rmCon l Z a0 hw [] b2 i3 lo md v2 T12_.heap n0 sz F_b2_from F_b2_to h_v2) hZ (hw _ (List.mem_of_getElem? (i := 24) rfl)) (hw _ (List.mem_of_getElem? (i := 9) rfl)) (by decide) (by decide)) q14_a q14_c (g := (mkF m 93 #[.val (.long i0), .second, .val (.long i1), .second, .val (.long i2), .second, .val (.long i3), .second, .val (.long lo), .second, .val (.long hi), .second, .val (.long md), .second, .val (.ref b1), .val (.ref b2), .val (.ref b3), .val (.ref b4), .val (.int v1), .unset, .unset, .unset, .unset, .unset] [(.long i3), (.ref b2)])) rfl (by rw [hml]; rfl) (Steps.refl _) (argsL := [(.long i3)]) (rest := []) (lenOf pd__28J_29Z rfl) rfl (by show 2 * 0 + _ ≤ _; exact Nat.le_of_eq rfl) (hb hby at_93) (fun _ _ => ⟨rfl, e13_, (by decide : 4 + 0 ≤ _), (by decide : 8 + 0 ≤ _)⟩)
  dsimp only [Pt.U, Pt.locs, Pt.cells, Pt.slots] at X14_ l14_ y14_ z14_ st14_ hQ14_
  subst l14_ y14_ z14_
  obtain ⟨rfl, N14_q, e14_⟩ := hQ14_
  have N14_ := Fr.app N13_ N14_q
  refine Runs.tr st14_ ?_
  replace X14_ := wider X14_ (c' := 4) (s' := 8) (by decide) (by decide)
  show Runs p.tables e below _ (T14_.setTop (mkF m 96 #[.val (.long i0), .second, .val (.long i1), .second, .val (.long i2), .second, .val (.long i3), .second, .val (.long lo), .second, .val (.long hi), .second, .val (.long md), .second, .val (.ref b1), .val (.ref b2), .val (.ref b3), .val (.ref b4), .val (.int v1), .unset, .unset, .unset, .unset, .unset] [(.int v2)]))
  refine Runs.st (fun t' k' => XS.istore X14_.here hx rfl (hb hby at_96) rfl (l' := #[.val (.long i0), .second, .val (.long i1), .second, .val (.long i2), .second, .val (.long i3), .second, .val (.long lo), .second, .val (.long hi), .second, .val (.long md), .second, .val (.ref b1), .val (.ref b2), .val (.ref b3), .val (.ref b4), .val (.int v1), .val (.int v2), .unset, .unset, .unset, .unset]) rfl k') ?_
  show Runs p.tables e below _ (T14_.setTop (mkF m 98 #[.val (.long i0), .second, .val (.long i1), .second, .val (.long i2), .second, .val (.long i3), .second, .val (.long lo), .second, .val (.long hi), .second, .val (.long md), .second, .val (.ref b1), .val (.ref b2), .val (.ref b3), .val (.ref b4), .val (.int v1), .val (.int v2), .unset, .unset, .unset, .unset] []))
  refine Runs.st (fun t' k' => XS.aload X14_.here hx rfl (hb hby at_98) rfl rfl k') ?_
  show Runs p.tables e below _ (T14_.setTop (mkF m 100 #[.val (.long i0), .second, .val (.long i1), .second, .val (.long i2), .second, .val (.long i3), .second, .val (.long lo), .second, .val (.long hi), .second, .val (.long md), .second, .val (.ref b1), .val (.ref b2), .val (.ref b3), .val (.ref b4), .val (.int v1), .val (.int v2), .unset, .unset, .unset, .unset] [(.ref b3)]))
  refine Runs.st (fun t' k' => XS.lload X14_.here hx rfl (hb hby at_100) rfl k') ?_
  show Runs p.tables e below _ (T14_.setTop (mkF m 102 #[.val (.long i0), .second, .val (.long i1), .second, .val (.long i2), .second, .val (.long i3), .second, .val (.long lo), .second, .val (.long hi), .second, .val (.long md), .second, .val (.ref b1), .val (.ref b2), .val (.ref b3), .val (.ref b4), .val (.int v1), .val (.int v2), .unset, .unset, .unset, .unset] [(.long i3), (.ref b3)]))
  obtain ⟨cq15_, kq15_, q15_a, q15_b, q15_c⟩ := isOf hZ e14_ E_b3
  obtain ⟨_, _, ⟨T15_, L15_, k15_, n15_⟩, -, X15_, ⟨Lc15_, hQ15_, l15_, y15_, z15_⟩, st15_⟩ := X14_.virtualBack hx (y := (⟨"com/example/occupancy/occupancy/Window", "contains", "(J)Z"⟩ : MethodName)) (z := (⟨"com/example/occupancy/occupancy/Window", "contains", "(J)Z"⟩ : MethodName)) hown (mvT hZ (hw _ (List.mem_of_getElem? (i := 20) rfl))) (mvT hZ (hw _ (List.mem_of_getElem? (i := 21) rfl))) (notFace_of_selects (args := #[]) (mvT hZ (hw _ (List.mem_of_getElem? (i := 23) rfl)))) (mvT hZ (hw _ (List.mem_of_getElem? (i := 23) rfl))) (mvT hZ (hw _ (List.mem_of_getElem? (i := 22) rfl))) (by decide) (backOf (W := 0) (rmCon l Z a0 hw [] b3 i3 md hi v3 T12_.heap n0 sz F_b3_from F_b3_to h_v3) hZ (hw _ (List.mem_of_getElem? (i := 24) rfl)) (hw _ (List.mem_of_getElem? (i := 9) rfl)) (by decide) (by decide)) q15_a q15_c (g := (mkF m 102 #[.val (.long i0), .second, .val (.long i1), .second, .val (.long i2), .second, .val (.long i3), .second, .val (.long lo), .second, .val (.long hi), .second, .val (.long md), .second, .val (.ref b1), .val (.ref b2), .val (.ref b3), .val (.ref b4), .val (.int v1), .val (.int v2), .unset, .unset, .unset, .unset] [(.long i3), (.ref b3)])) rfl (by rw [hml]; rfl) (Steps.refl _) (argsL := [(.long i3)]) (rest := []) (lenOf pd__28J_29Z rfl) rfl (by show 2 * 0 + _ ≤ _; exact Nat.le_of_eq rfl) (hb hby at_102) (fun _ _ => ⟨rfl, e14_, (by decide : 4 + 0 ≤ _), (by decide : 8 + 0 ≤ _)⟩)
  dsimp only [Pt.U, Pt.locs, Pt.cells, Pt.slots] at X15_ l15_ y15_ z15_ st15_ hQ15_
  subst l15_ y15_ z15_
  obtain ⟨rfl, N15_q, e15_⟩ := hQ15_
  have N15_ := Fr.app N14_ N15_q
  refine Runs.tr st15_ ?_
  replace X15_ := wider X15_ (c' := 4) (s' := 8) (by decide) (by decide)
  show Runs p.tables e below _ (T15_.setTop (mkF m 105 #[.val (.long i0), .second, .val (.long i1), .second, .val (.long i2), .second, .val (.long i3), .second, .val (.long lo), .second, .val (.long hi), .second, .val (.long md), .second, .val (.ref b1), .val (.ref b2), .val (.ref b3), .val (.ref b4), .val (.int v1), .val (.int v2), .unset, .unset, .unset, .unset] [(.int v3)]))
  refine Runs.st (fun t' k' => XS.istore X15_.here hx rfl (hb hby at_105) rfl (l' := #[.val (.long i0), .second, .val (.long i1), .second, .val (.long i2), .second, .val (.long i3), .second, .val (.long lo), .second, .val (.long hi), .second, .val (.long md), .second, .val (.ref b1), .val (.ref b2), .val (.ref b3), .val (.ref b4), .val (.int v1), .val (.int v2), .val (.int v3), .unset, .unset, .unset]) rfl k') ?_
  show Runs p.tables e below _ (T15_.setTop (mkF m 107 #[.val (.long i0), .second, .val (.long i1), .second, .val (.long i2), .second, .val (.long i3), .second, .val (.long lo), .second, .val (.long hi), .second, .val (.long md), .second, .val (.ref b1), .val (.ref b2), .val (.ref b3), .val (.ref b4), .val (.int v1), .val (.int v2), .val (.int v3), .unset, .unset, .unset] []))
  refine Runs.st (fun t' k' => XS.aload X15_.here hx rfl (hb hby at_107) rfl rfl k') ?_
  show Runs p.tables e below _ (T15_.setTop (mkF m 109 #[.val (.long i0), .second, .val (.long i1), .second, .val (.long i2), .second, .val (.long i3), .second, .val (.long lo), .second, .val (.long hi), .second, .val (.long md), .second, .val (.ref b1), .val (.ref b2), .val (.ref b3), .val (.ref b4), .val (.int v1), .val (.int v2), .val (.int v3), .unset, .unset, .unset] [(.ref b2)]))
  refine Runs.st (fun t' k' => XS.lload X15_.here hx rfl (hb hby at_109) rfl k') ?_
  show Runs p.tables e below _ (T15_.setTop (mkF m 111 #[.val (.long i0), .second, .val (.long i1), .second, .val (.long i2), .second, .val (.long i3), .second, .val (.long lo), .second, .val (.long hi), .second, .val (.long md), .second, .val (.ref b1), .val (.ref b2), .val (.ref b3), .val (.ref b4), .val (.int v1), .val (.int v2), .val (.int v3), .unset, .unset, .unset] [(.long md), (.ref b2)]))
  obtain ⟨cq16_, kq16_, q16_a, q16_b, q16_c⟩ := isOf hZ e15_ E_b2
  obtain ⟨_, _, ⟨T16_, L16_, k16_, n16_⟩, -, X16_, ⟨Lc16_, hQ16_, l16_, y16_, z16_⟩, st16_⟩ := X15_.virtualBack hx (y := (⟨"com/example/occupancy/occupancy/Window", "contains", "(J)Z"⟩ : MethodName)) (z := (⟨"com/example/occupancy/occupancy/Window", "contains", "(J)Z"⟩ : MethodName)) hown (mvT hZ (hw _ (List.mem_of_getElem? (i := 20) rfl))) (mvT hZ (hw _ (List.mem_of_getElem? (i := 21) rfl))) (notFace_of_selects (args := #[]) (mvT hZ (hw _ (List.mem_of_getElem? (i := 23) rfl)))) (mvT hZ (hw _ (List.mem_of_getElem? (i := 23) rfl))) (mvT hZ (hw _ (List.mem_of_getElem? (i := 22) rfl))) (by decide) (backOf (W := 0) (rmCon l Z a0 hw [] b2 md lo md v4 T12_.heap n0 sz F_b2_from F_b2_to h_v4) hZ (hw _ (List.mem_of_getElem? (i := 24) rfl)) (hw _ (List.mem_of_getElem? (i := 9) rfl)) (by decide) (by decide)) q16_a q16_c (g := (mkF m 111 #[.val (.long i0), .second, .val (.long i1), .second, .val (.long i2), .second, .val (.long i3), .second, .val (.long lo), .second, .val (.long hi), .second, .val (.long md), .second, .val (.ref b1), .val (.ref b2), .val (.ref b3), .val (.ref b4), .val (.int v1), .val (.int v2), .val (.int v3), .unset, .unset, .unset] [(.long md), (.ref b2)])) rfl (by rw [hml]; rfl) (Steps.refl _) (argsL := [(.long md)]) (rest := []) (lenOf pd__28J_29Z rfl) rfl (by show 2 * 0 + _ ≤ _; exact Nat.le_of_eq rfl) (hb hby at_111) (fun _ _ => ⟨rfl, e15_, (by decide : 4 + 0 ≤ _), (by decide : 8 + 0 ≤ _)⟩)
  dsimp only [Pt.U, Pt.locs, Pt.cells, Pt.slots] at X16_ l16_ y16_ z16_ st16_ hQ16_
  subst l16_ y16_ z16_
  obtain ⟨rfl, N16_q, e16_⟩ := hQ16_
  have N16_ := Fr.app N15_ N16_q
  refine Runs.tr st16_ ?_
  replace X16_ := wider X16_ (c' := 4) (s' := 8) (by decide) (by decide)
  show Runs p.tables e below _ (T16_.setTop (mkF m 114 #[.val (.long i0), .second, .val (.long i1), .second, .val (.long i2), .second, .val (.long i3), .second, .val (.long lo), .second, .val (.long hi), .second, .val (.long md), .second, .val (.ref b1), .val (.ref b2), .val (.ref b3), .val (.ref b4), .val (.int v1), .val (.int v2), .val (.int v3), .unset, .unset, .unset] [(.int v4)]))
  refine Runs.st (fun t' k' => XS.istore X16_.here hx rfl (hb hby at_114) rfl (l' := #[.val (.long i0), .second, .val (.long i1), .second, .val (.long i2), .second, .val (.long i3), .second, .val (.long lo), .second, .val (.long hi), .second, .val (.long md), .second, .val (.ref b1), .val (.ref b2), .val (.ref b3), .val (.ref b4), .val (.int v1), .val (.int v2), .val (.int v3), .val (.int v4), .unset, .unset]) rfl k') ?_
  show Runs p.tables e below _ (T16_.setTop (mkF m 116 #[.val (.long i0), .second, .val (.long i1), .second, .val (.long i2), .second, .val (.long i3), .second, .val (.long lo), .second, .val (.long hi), .second, .val (.long md), .second, .val (.ref b1), .val (.ref b2), .val (.ref b3), .val (.ref b4), .val (.int v1), .val (.int v2), .val (.int v3), .val (.int v4), .unset, .unset] []))
  refine Runs.st (fun t' k' => XS.aload X16_.here hx rfl (hb hby at_116) rfl rfl k') ?_
  show Runs p.tables e below _ (T16_.setTop (mkF m 118 #[.val (.long i0), .second, .val (.long i1), .second, .val (.long i2), .second, .val (.long i3), .second, .val (.long lo), .second, .val (.long hi), .second, .val (.long md), .second, .val (.ref b1), .val (.ref b2), .val (.ref b3), .val (.ref b4), .val (.int v1), .val (.int v2), .val (.int v3), .val (.int v4), .unset, .unset] [(.ref b4)]))
  refine Runs.st (fun t' k' => XS.lload X16_.here hx rfl (hb hby at_118) rfl k') ?_
  show Runs p.tables e below _ (T16_.setTop (mkF m 120 #[.val (.long i0), .second, .val (.long i1), .second, .val (.long i2), .second, .val (.long i3), .second, .val (.long lo), .second, .val (.long hi), .second, .val (.long md), .second, .val (.ref b1), .val (.ref b2), .val (.ref b3), .val (.ref b4), .val (.int v1), .val (.int v2), .val (.int v3), .val (.int v4), .unset, .unset] [(.long i3), (.ref b4)]))
  obtain ⟨cq17_, kq17_, q17_a, q17_b, q17_c⟩ := isOf hZ e16_ E_b4
  obtain ⟨_, _, ⟨T17_, L17_, k17_, n17_⟩, -, X17_, ⟨Lc17_, hQ17_, l17_, y17_, z17_⟩, st17_⟩ := X16_.virtualBack hx (y := (⟨"com/example/occupancy/occupancy/Window", "contains", "(J)Z"⟩ : MethodName)) (z := (⟨"com/example/occupancy/occupancy/Window", "contains", "(J)Z"⟩ : MethodName)) hown (mvT hZ (hw _ (List.mem_of_getElem? (i := 20) rfl))) (mvT hZ (hw _ (List.mem_of_getElem? (i := 21) rfl))) (notFace_of_selects (args := #[]) (mvT hZ (hw _ (List.mem_of_getElem? (i := 23) rfl)))) (mvT hZ (hw _ (List.mem_of_getElem? (i := 23) rfl))) (mvT hZ (hw _ (List.mem_of_getElem? (i := 22) rfl))) (by decide) (backOf (W := 0) (rmCon l Z a0 hw [] b4 i3 hi lo v5 T12_.heap n0 sz F_b4_from F_b4_to h_v5) hZ (hw _ (List.mem_of_getElem? (i := 24) rfl)) (hw _ (List.mem_of_getElem? (i := 9) rfl)) (by decide) (by decide)) q17_a q17_c (g := (mkF m 120 #[.val (.long i0), .second, .val (.long i1), .second, .val (.long i2), .second, .val (.long i3), .second, .val (.long lo), .second, .val (.long hi), .second, .val (.long md), .second, .val (.ref b1), .val (.ref b2), .val (.ref b3), .val (.ref b4), .val (.int v1), .val (.int v2), .val (.int v3), .val (.int v4), .unset, .unset] [(.long i3), (.ref b4)])) rfl (by rw [hml]; rfl) (Steps.refl _) (argsL := [(.long i3)]) (rest := []) (lenOf pd__28J_29Z rfl) rfl (by show 2 * 0 + _ ≤ _; exact Nat.le_of_eq rfl) (hb hby at_120) (fun _ _ => ⟨rfl, e16_, (by decide : 4 + 0 ≤ _), (by decide : 8 + 0 ≤ _)⟩)
  dsimp only [Pt.U, Pt.locs, Pt.cells, Pt.slots] at X17_ l17_ y17_ z17_ st17_ hQ17_
  subst l17_ y17_ z17_
  obtain ⟨rfl, N17_q, e17_⟩ := hQ17_
  have N17_ := Fr.app N16_ N17_q
  refine Runs.tr st17_ ?_
  replace X17_ := wider X17_ (c' := 4) (s' := 8) (by decide) (by decide)
  show Runs p.tables e below _ (T17_.setTop (mkF m 123 #[.val (.long i0), .second, .val (.long i1), .second, .val (.long i2), .second, .val (.long i3), .second, .val (.long lo), .second, .val (.long hi), .second, .val (.long md), .second, .val (.ref b1), .val (.ref b2), .val (.ref b3), .val (.ref b4), .val (.int v1), .val (.int v2), .val (.int v3), .val (.int v4), .unset, .unset] [(.int v5)]))
  refine Runs.st (fun t' k' => XS.istore X17_.here hx rfl (hb hby at_123) rfl (l' := #[.val (.long i0), .second, .val (.long i1), .second, .val (.long i2), .second, .val (.long i3), .second, .val (.long lo), .second, .val (.long hi), .second, .val (.long md), .second, .val (.ref b1), .val (.ref b2), .val (.ref b3), .val (.ref b4), .val (.int v1), .val (.int v2), .val (.int v3), .val (.int v4), .val (.int v5), .unset]) rfl k') ?_
  show Runs p.tables e below _ (T17_.setTop (mkF m 125 #[.val (.long i0), .second, .val (.long i1), .second, .val (.long i2), .second, .val (.long i3), .second, .val (.long lo), .second, .val (.long hi), .second, .val (.long md), .second, .val (.ref b1), .val (.ref b2), .val (.ref b3), .val (.ref b4), .val (.int v1), .val (.int v2), .val (.int v3), .val (.int v4), .val (.int v5), .unset] []))
  refine Runs.st (fun t' k' => XS.iconst X17_.here hx rfl (hb hby at_125) k') ?_
  show Runs p.tables e below _ (T17_.setTop (mkF m 126 #[.val (.long i0), .second, .val (.long i1), .second, .val (.long i2), .second, .val (.long i3), .second, .val (.long lo), .second, .val (.long hi), .second, .val (.long md), .second, .val (.ref b1), .val (.ref b2), .val (.ref b3), .val (.ref b4), .val (.int v1), .val (.int v2), .val (.int v3), .val (.int v4), .val (.int v5), .unset] [(.int (1 : Int32))]))
  refine Runs.st (fun t' k' => XS.istore X17_.here hx rfl (hb hby at_126) rfl (l' := #[.val (.long i0), .second, .val (.long i1), .second, .val (.long i2), .second, .val (.long i3), .second, .val (.long lo), .second, .val (.long hi), .second, .val (.long md), .second, .val (.ref b1), .val (.ref b2), .val (.ref b3), .val (.ref b4), .val (.int v1), .val (.int v2), .val (.int v3), .val (.int v4), .val (.int v5), .val (.int (1 : Int32))]) rfl k') ?_
  show Runs p.tables e below _ (T17_.setTop (mkF m 128 #[.val (.long i0), .second, .val (.long i1), .second, .val (.long i2), .second, .val (.long i3), .second, .val (.long lo), .second, .val (.long hi), .second, .val (.long md), .second, .val (.ref b1), .val (.ref b2), .val (.ref b3), .val (.ref b4), .val (.int v1), .val (.int v2), .val (.int v3), .val (.int v4), .val (.int v5), .val (.int (1 : Int32))] []))
  have J144 : Runs p.tables e below (Phi s (fun v h L => v = some (.int 1) ∧ Fr n0 L) room_1.cells room_1.slots) (T17_.setTop (mkF m 144 #[.val (.long i0), .second, .val (.long i1), .second, .val (.long i2), .second, .val (.long i3), .second, .val (.long lo), .second, .val (.long hi), .second, .val (.long md), .second, .val (.ref b1), .val (.ref b2), .val (.ref b3), .val (.ref b4), .val (.int v1), .val (.int v2), .val (.int v3), .val (.int v4), .val (.int v5), .val (.int (1 : Int32))] [])) := by
    show Runs p.tables e below _ (T17_.setTop (mkF m 144 #[.val (.long i0), .second, .val (.long i1), .second, .val (.long i2), .second, .val (.long i3), .second, .val (.long lo), .second, .val (.long hi), .second, .val (.long md), .second, .val (.ref b1), .val (.ref b2), .val (.ref b3), .val (.ref b4), .val (.int v1), .val (.int v2), .val (.int v3), .val (.int v4), .val (.int v5), .val (.int (1 : Int32))] []))
    have J160 : Runs p.tables e below (Phi s (fun v h L => v = some (.int 1) ∧ Fr n0 L) room_1.cells room_1.slots) (T17_.setTop (mkF m 160 #[.val (.long i0), .second, .val (.long i1), .second, .val (.long i2), .second, .val (.long i3), .second, .val (.long lo), .second, .val (.long hi), .second, .val (.long md), .second, .val (.ref b1), .val (.ref b2), .val (.ref b3), .val (.ref b4), .val (.int v1), .val (.int v2), .val (.int v3), .val (.int v4), .val (.int v5), .val (.int (1 : Int32))] [])) := by
      show Runs p.tables e below _ (T17_.setTop (mkF m 160 #[.val (.long i0), .second, .val (.long i1), .second, .val (.long i2), .second, .val (.long i3), .second, .val (.long lo), .second, .val (.long hi), .second, .val (.long md), .second, .val (.ref b1), .val (.ref b2), .val (.ref b3), .val (.ref b4), .val (.int v1), .val (.int v2), .val (.int v3), .val (.int v4), .val (.int v5), .val (.int (1 : Int32))] []))
      have J183 : Runs p.tables e below (Phi s (fun v h L => v = some (.int 1) ∧ Fr n0 L) room_1.cells room_1.slots) (T17_.setTop (mkF m 183 #[.val (.long i0), .second, .val (.long i1), .second, .val (.long i2), .second, .val (.long i3), .second, .val (.long lo), .second, .val (.long hi), .second, .val (.long md), .second, .val (.ref b1), .val (.ref b2), .val (.ref b3), .val (.ref b4), .val (.int v1), .val (.int v2), .val (.int v3), .val (.int v4), .val (.int v5), .val (.int (1 : Int32))] [])) := by
        show Runs p.tables e below _ (T17_.setTop (mkF m 183 #[.val (.long i0), .second, .val (.long i1), .second, .val (.long i2), .second, .val (.long i3), .second, .val (.long lo), .second, .val (.long hi), .second, .val (.long md), .second, .val (.ref b1), .val (.ref b2), .val (.ref b3), .val (.ref b4), .val (.int v1), .val (.int v2), .val (.int v3), .val (.int v4), .val (.int v5), .val (.int (1 : Int32))] []))
        have J196 : Runs p.tables e below (Phi s (fun v h L => v = some (.int 1) ∧ Fr n0 L) room_1.cells room_1.slots) (T17_.setTop (mkF m 196 #[.val (.long i0), .second, .val (.long i1), .second, .val (.long i2), .second, .val (.long i3), .second, .val (.long lo), .second, .val (.long hi), .second, .val (.long md), .second, .val (.ref b1), .val (.ref b2), .val (.ref b3), .val (.ref b4), .val (.int v1), .val (.int v2), .val (.int v3), .val (.int v4), .val (.int v5), .val (.int (1 : Int32))] [])) := by
          show Runs p.tables e below _ (T17_.setTop (mkF m 196 #[.val (.long i0), .second, .val (.long i1), .second, .val (.long i2), .second, .val (.long i3), .second, .val (.long lo), .second, .val (.long hi), .second, .val (.long md), .second, .val (.ref b1), .val (.ref b2), .val (.ref b3), .val (.ref b4), .val (.int v1), .val (.int v2), .val (.int v3), .val (.int v4), .val (.int v5), .val (.int (1 : Int32))] []))
          have J217 : Runs p.tables e below (Phi s (fun v h L => v = some (.int 1) ∧ Fr n0 L) room_1.cells room_1.slots) (T17_.setTop (mkF m 217 #[.val (.long i0), .second, .val (.long i1), .second, .val (.long i2), .second, .val (.long i3), .second, .val (.long lo), .second, .val (.long hi), .second, .val (.long md), .second, .val (.ref b1), .val (.ref b2), .val (.ref b3), .val (.ref b4), .val (.int v1), .val (.int v2), .val (.int v3), .val (.int v4), .val (.int v5), .val (.int (1 : Int32))] [])) := by
            show Runs p.tables e below _ (T17_.setTop (mkF m 217 #[.val (.long i0), .second, .val (.long i1), .second, .val (.long i2), .second, .val (.long i3), .second, .val (.long lo), .second, .val (.long hi), .second, .val (.long md), .second, .val (.ref b1), .val (.ref b2), .val (.ref b3), .val (.ref b4), .val (.int v1), .val (.int v2), .val (.int v3), .val (.int v4), .val (.int v5), .val (.int (1 : Int32))] []))
            have J233 : Runs p.tables e below (Phi s (fun v h L => v = some (.int 1) ∧ Fr n0 L) room_1.cells room_1.slots) (T17_.setTop (mkF m 233 #[.val (.long i0), .second, .val (.long i1), .second, .val (.long i2), .second, .val (.long i3), .second, .val (.long lo), .second, .val (.long hi), .second, .val (.long md), .second, .val (.ref b1), .val (.ref b2), .val (.ref b3), .val (.ref b4), .val (.int v1), .val (.int v2), .val (.int v3), .val (.int v4), .val (.int v5), .val (.int (1 : Int32))] [])) := by
              show Runs p.tables e below _ (T17_.setTop (mkF m 233 #[.val (.long i0), .second, .val (.long i1), .second, .val (.long i2), .second, .val (.long i3), .second, .val (.long lo), .second, .val (.long hi), .second, .val (.long md), .second, .val (.ref b1), .val (.ref b2), .val (.ref b3), .val (.ref b4), .val (.int v1), .val (.int v2), .val (.int v3), .val (.int v4), .val (.int v5), .val (.int (1 : Int32))] []))
              refine Runs.st (fun t' k' => XS.iload X17_.here hx rfl (hb hby at_233) rfl k') ?_
              show Runs p.tables e below _ (T17_.setTop (mkF m 235 #[.val (.long i0), .second, .val (.long i1), .second, .val (.long i2), .second, .val (.long i3), .second, .val (.long lo), .second, .val (.long hi), .second, .val (.long md), .second, .val (.ref b1), .val (.ref b2), .val (.ref b3), .val (.ref b4), .val (.int v1), .val (.int v2), .val (.int v3), .val (.int v4), .val (.int v5), .val (.int (1 : Int32))] [(.int (1 : Int32))]))
              refine Runs.ret X17_ hlk (v := (some (.int (1 : Int32)))) (fun h => by rw [hret] at h; cases h) (by decide) (by decide) ?_ (fun fs hr => retN X17_ hx (t := .boolean) hret (by simp) (hb hby at_235) hr)
              try rw [e17_]
              exact ⟨rfl, N17_⟩
            refine Runs.st (fun t' k' => XS.lload X17_.here hx rfl (hb hby at_217) rfl k') ?_
            show Runs p.tables e below _ (T17_.setTop (mkF m 219 #[.val (.long i0), .second, .val (.long i1), .second, .val (.long i2), .second, .val (.long i3), .second, .val (.long lo), .second, .val (.long hi), .second, .val (.long md), .second, .val (.ref b1), .val (.ref b2), .val (.ref b3), .val (.ref b4), .val (.int v1), .val (.int v2), .val (.int v3), .val (.int v4), .val (.int v5), .val (.int (1 : Int32))] [(.long lo)]))
            refine Runs.st (fun t' k' => XS.lload X17_.here hx rfl (hb hby at_219) rfl k') ?_
            show Runs p.tables e below _ (T17_.setTop (mkF m 221 #[.val (.long i0), .second, .val (.long i1), .second, .val (.long i2), .second, .val (.long i3), .second, .val (.long lo), .second, .val (.long hi), .second, .val (.long md), .second, .val (.ref b1), .val (.ref b2), .val (.ref b3), .val (.ref b4), .val (.int v1), .val (.int v2), .val (.int v3), .val (.int v4), .val (.int v5), .val (.int (1 : Int32))] [(.long hi), (.long lo)]))
            refine Runs.st (fun t' k' => XS.lcmp X17_.here hx rfl (hb hby at_221) rfl k') ?_
            show Runs p.tables e below _ (T17_.setTop (mkF m 222 #[.val (.long i0), .second, .val (.long i1), .second, .val (.long i2), .second, .val (.long i3), .second, .val (.long lo), .second, .val (.long hi), .second, .val (.long md), .second, .val (.ref b1), .val (.ref b2), .val (.ref b3), .val (.ref b4), .val (.int v1), .val (.int v2), .val (.int v3), .val (.int v4), .val (.int v5), .val (.int (1 : Int32))] [(.int (lcmpW lo hi))]))
            by_cases c222 : lo < hi
            · skip
              refine Runs.st (fun t' k' => XS.ifNo X17_.here hx rfl (hb hby at_222) rfl ((if0 _ _).trans (tlt ((lw_lt _ _).mpr c222)).2.1) k') ?_
              show Runs p.tables e below _ (T17_.setTop (mkF m 225 #[.val (.long i0), .second, .val (.long i1), .second, .val (.long i2), .second, .val (.long i3), .second, .val (.long lo), .second, .val (.long hi), .second, .val (.long md), .second, .val (.ref b1), .val (.ref b2), .val (.ref b3), .val (.ref b4), .val (.int v1), .val (.int v2), .val (.int v3), .val (.int v4), .val (.int v5), .val (.int (1 : Int32))] []))
              refine Runs.st (fun t' k' => XS.iload X17_.here hx rfl (hb hby at_225) rfl k') ?_
              show Runs p.tables e below _ (T17_.setTop (mkF m 227 #[.val (.long i0), .second, .val (.long i1), .second, .val (.long i2), .second, .val (.long i3), .second, .val (.long lo), .second, .val (.long hi), .second, .val (.long md), .second, .val (.ref b1), .val (.ref b2), .val (.ref b3), .val (.ref b4), .val (.int v1), .val (.int v2), .val (.int v3), .val (.int v4), .val (.int v5), .val (.int (1 : Int32))] [(.int v5)]))
              refine Runs.st (fun t' k' => XS.ifYes X17_.here hx rfl (pc0 := 227) (pc' := 233) rfl (hb hby at_227) rfl ((if0 _ _).trans (teq (by rw [h_v5]; exact own_b_neg (by simp only [Int64.lt_iff_toInt_lt] at c222 ⊢; omega))).1) (by decide) (by decide) k') ?_
              show Runs p.tables e below _ (T17_.setTop (mkF m 233 #[.val (.long i0), .second, .val (.long i1), .second, .val (.long i2), .second, .val (.long i3), .second, .val (.long lo), .second, .val (.long hi), .second, .val (.long md), .second, .val (.ref b1), .val (.ref b2), .val (.ref b3), .val (.ref b4), .val (.int v1), .val (.int v2), .val (.int v3), .val (.int v4), .val (.int v5), .val (.int (1 : Int32))] []))
              exact J233
            · skip
              refine Runs.st (fun t' k' => XS.ifYes X17_.here hx rfl (pc0 := 222) (pc' := 233) rfl (hb hby at_222) rfl ((if0 _ _).trans (flt (fun q => c222 ((lw_lt _ _).mp q))).2.1) (by decide) (by decide) k') ?_
              show Runs p.tables e below _ (T17_.setTop (mkF m 233 #[.val (.long i0), .second, .val (.long i1), .second, .val (.long i2), .second, .val (.long i3), .second, .val (.long lo), .second, .val (.long hi), .second, .val (.long md), .second, .val (.ref b1), .val (.ref b2), .val (.ref b3), .val (.ref b4), .val (.int v1), .val (.int v2), .val (.int v3), .val (.int v4), .val (.int v5), .val (.int (1 : Int32))] []))
              exact J233
          refine Runs.st (fun t' k' => XS.iload X17_.here hx rfl (hb hby at_196) rfl k') ?_
          show Runs p.tables e below _ (T17_.setTop (mkF m 198 #[.val (.long i0), .second, .val (.long i1), .second, .val (.long i2), .second, .val (.long i3), .second, .val (.long lo), .second, .val (.long hi), .second, .val (.long md), .second, .val (.ref b1), .val (.ref b2), .val (.ref b3), .val (.ref b4), .val (.int v1), .val (.int v2), .val (.int v3), .val (.int v4), .val (.int v5), .val (.int (1 : Int32))] [(.int v4)]))
          refine Runs.st (fun t' k' => XS.lload X17_.here hx rfl (hb hby at_198) rfl k') ?_
          show Runs p.tables e below _ (T17_.setTop (mkF m 200 #[.val (.long i0), .second, .val (.long i1), .second, .val (.long i2), .second, .val (.long i3), .second, .val (.long lo), .second, .val (.long hi), .second, .val (.long md), .second, .val (.ref b1), .val (.ref b2), .val (.ref b3), .val (.ref b4), .val (.int v1), .val (.int v2), .val (.int v3), .val (.int v4), .val (.int v5), .val (.int (1 : Int32))] [(.long lo), (.int v4)]))
          refine Runs.st (fun t' k' => XS.lload X17_.here hx rfl (hb hby at_200) rfl k') ?_
          show Runs p.tables e below _ (T17_.setTop (mkF m 202 #[.val (.long i0), .second, .val (.long i1), .second, .val (.long i2), .second, .val (.long i3), .second, .val (.long lo), .second, .val (.long hi), .second, .val (.long md), .second, .val (.ref b1), .val (.ref b2), .val (.ref b3), .val (.ref b4), .val (.int v1), .val (.int v2), .val (.int v3), .val (.int v4), .val (.int v5), .val (.int (1 : Int32))] [(.long md), (.long lo), (.int v4)]))
          refine Runs.st (fun t' k' => XS.lcmp X17_.here hx rfl (hb hby at_202) rfl k') ?_
          show Runs p.tables e below _ (T17_.setTop (mkF m 203 #[.val (.long i0), .second, .val (.long i1), .second, .val (.long i2), .second, .val (.long i3), .second, .val (.long lo), .second, .val (.long hi), .second, .val (.long md), .second, .val (.ref b1), .val (.ref b2), .val (.ref b3), .val (.ref b4), .val (.int v1), .val (.int v2), .val (.int v3), .val (.int v4), .val (.int v5), .val (.int (1 : Int32))] [(.int (lcmpW lo md)), (.int v4)]))
          by_cases c203 : lo < md
          · skip
            refine Runs.st (fun t' k' => XS.ifNo X17_.here hx rfl (hb hby at_203) rfl ((if0 _ _).trans (tlt ((lw_lt _ _).mpr c203)).2.1) k') ?_
            show Runs p.tables e below _ (T17_.setTop (mkF m 206 #[.val (.long i0), .second, .val (.long i1), .second, .val (.long i2), .second, .val (.long i3), .second, .val (.long lo), .second, .val (.long hi), .second, .val (.long md), .second, .val (.ref b1), .val (.ref b2), .val (.ref b3), .val (.ref b4), .val (.int v1), .val (.int v2), .val (.int v3), .val (.int v4), .val (.int v5), .val (.int (1 : Int32))] [(.int v4)]))
            refine Runs.st (fun t' k' => XS.iconst X17_.here hx rfl (hb hby at_206) k') ?_
            show Runs p.tables e below _ (T17_.setTop (mkF m 207 #[.val (.long i0), .second, .val (.long i1), .second, .val (.long i2), .second, .val (.long i3), .second, .val (.long lo), .second, .val (.long hi), .second, .val (.long md), .second, .val (.ref b1), .val (.ref b2), .val (.ref b3), .val (.ref b4), .val (.int v1), .val (.int v2), .val (.int v3), .val (.int v4), .val (.int v5), .val (.int (1 : Int32))] [(.int (1 : Int32)), (.int v4)]))
            refine Runs.st (fun t' k' => XS.goto X17_.here hx rfl (pc0 := 207) (pc' := 211) rfl (hb hby at_207) (by decide) (by decide) k') ?_
            show Runs p.tables e below _ (T17_.setTop (mkF m 211 #[.val (.long i0), .second, .val (.long i1), .second, .val (.long i2), .second, .val (.long i3), .second, .val (.long lo), .second, .val (.long hi), .second, .val (.long md), .second, .val (.ref b1), .val (.ref b2), .val (.ref b3), .val (.ref b4), .val (.int v1), .val (.int v2), .val (.int v3), .val (.int v4), .val (.int v5), .val (.int (1 : Int32))] [(.int (1 : Int32)), (.int v4)]))
            refine Runs.st (fun t' k' => XS.icmpYes X17_.here hx rfl (pc0 := 211) (pc' := 217) rfl (hb hby at_211) rfl (teq (by rw [h_v4]; exact own_b_pos (by simp only [Int64.lt_iff_toInt_lt] at c203 ⊢; omega))).1 (by decide) (by decide) k') ?_
            show Runs p.tables e below _ (T17_.setTop (mkF m 217 #[.val (.long i0), .second, .val (.long i1), .second, .val (.long i2), .second, .val (.long i3), .second, .val (.long lo), .second, .val (.long hi), .second, .val (.long md), .second, .val (.ref b1), .val (.ref b2), .val (.ref b3), .val (.ref b4), .val (.int v1), .val (.int v2), .val (.int v3), .val (.int v4), .val (.int v5), .val (.int (1 : Int32))] []))
            exact J217
          · skip
            refine Runs.st (fun t' k' => XS.ifYes X17_.here hx rfl (pc0 := 203) (pc' := 210) rfl (hb hby at_203) rfl ((if0 _ _).trans (flt (fun q => c203 ((lw_lt _ _).mp q))).2.1) (by decide) (by decide) k') ?_
            show Runs p.tables e below _ (T17_.setTop (mkF m 210 #[.val (.long i0), .second, .val (.long i1), .second, .val (.long i2), .second, .val (.long i3), .second, .val (.long lo), .second, .val (.long hi), .second, .val (.long md), .second, .val (.ref b1), .val (.ref b2), .val (.ref b3), .val (.ref b4), .val (.int v1), .val (.int v2), .val (.int v3), .val (.int v4), .val (.int v5), .val (.int (1 : Int32))] [(.int v4)]))
            refine Runs.st (fun t' k' => XS.iconst X17_.here hx rfl (hb hby at_210) k') ?_
            show Runs p.tables e below _ (T17_.setTop (mkF m 211 #[.val (.long i0), .second, .val (.long i1), .second, .val (.long i2), .second, .val (.long i3), .second, .val (.long lo), .second, .val (.long hi), .second, .val (.long md), .second, .val (.ref b1), .val (.ref b2), .val (.ref b3), .val (.ref b4), .val (.int v1), .val (.int v2), .val (.int v3), .val (.int v4), .val (.int v5), .val (.int (1 : Int32))] [(.int (0 : Int32)), (.int v4)]))
            refine Runs.st (fun t' k' => XS.icmpYes X17_.here hx rfl (pc0 := 211) (pc' := 217) rfl (hb hby at_211) rfl (teq (by rw [h_v4]; exact own_b_neg (by simp only [Int64.lt_iff_toInt_lt] at c203 ⊢; omega))).1 (by decide) (by decide) k') ?_
            show Runs p.tables e below _ (T17_.setTop (mkF m 217 #[.val (.long i0), .second, .val (.long i1), .second, .val (.long i2), .second, .val (.long i3), .second, .val (.long lo), .second, .val (.long hi), .second, .val (.long md), .second, .val (.ref b1), .val (.ref b2), .val (.ref b3), .val (.ref b4), .val (.int v1), .val (.int v2), .val (.int v3), .val (.int v4), .val (.int v5), .val (.int (1 : Int32))] []))
            exact J217
        refine Runs.st (fun t' k' => XS.iload X17_.here hx rfl (hb hby at_183) rfl k') ?_
        show Runs p.tables e below _ (T17_.setTop (mkF m 185 #[.val (.long i0), .second, .val (.long i1), .second, .val (.long i2), .second, .val (.long i3), .second, .val (.long lo), .second, .val (.long hi), .second, .val (.long md), .second, .val (.ref b1), .val (.ref b2), .val (.ref b3), .val (.ref b4), .val (.int v1), .val (.int v2), .val (.int v3), .val (.int v4), .val (.int v5), .val (.int (1 : Int32))] [(.int v2)]))
        by_cases c185 : v2 = (0 : Int32)
        · skip
          refine Runs.st (fun t' k' => XS.ifYes X17_.here hx rfl (pc0 := 185) (pc' := 196) rfl (hb hby at_185) rfl ((if0 _ _).trans (teq c185).1) (by decide) (by decide) k') ?_
          show Runs p.tables e below _ (T17_.setTop (mkF m 196 #[.val (.long i0), .second, .val (.long i1), .second, .val (.long i2), .second, .val (.long i3), .second, .val (.long lo), .second, .val (.long hi), .second, .val (.long md), .second, .val (.ref b1), .val (.ref b2), .val (.ref b3), .val (.ref b4), .val (.int v1), .val (.int v2), .val (.int v3), .val (.int v4), .val (.int v5), .val (.int (1 : Int32))] []))
          exact J196
        · skip
          refine Runs.st (fun t' k' => XS.ifNo X17_.here hx rfl (hb hby at_185) rfl ((if0 _ _).trans (feq c185).1) k') ?_
          show Runs p.tables e below _ (T17_.setTop (mkF m 188 #[.val (.long i0), .second, .val (.long i1), .second, .val (.long i2), .second, .val (.long i3), .second, .val (.long lo), .second, .val (.long hi), .second, .val (.long md), .second, .val (.ref b1), .val (.ref b2), .val (.ref b3), .val (.ref b4), .val (.int v1), .val (.int v2), .val (.int v3), .val (.int v4), .val (.int v5), .val (.int (1 : Int32))] []))
          have p2 : lo < i3 ∧ ¬ md < i3 := own_b_ne (h_v2 ▸ c185)
          refine Runs.st (fun t' k' => XS.iload X17_.here hx rfl (hb hby at_188) rfl k') ?_
          show Runs p.tables e below _ (T17_.setTop (mkF m 190 #[.val (.long i0), .second, .val (.long i1), .second, .val (.long i2), .second, .val (.long i3), .second, .val (.long lo), .second, .val (.long hi), .second, .val (.long md), .second, .val (.ref b1), .val (.ref b2), .val (.ref b3), .val (.ref b4), .val (.int v1), .val (.int v2), .val (.int v3), .val (.int v4), .val (.int v5), .val (.int (1 : Int32))] [(.int v3)]))
          refine Runs.st (fun t' k' => XS.ifYes X17_.here hx rfl (pc0 := 190) (pc' := 196) rfl (hb hby at_190) rfl ((if0 _ _).trans (teq (by rw [h_v3]; exact own_b_neg (by simp only [Int64.lt_iff_toInt_lt] at p2 ⊢; omega))).1) (by decide) (by decide) k') ?_
          show Runs p.tables e below _ (T17_.setTop (mkF m 196 #[.val (.long i0), .second, .val (.long i1), .second, .val (.long i2), .second, .val (.long i3), .second, .val (.long lo), .second, .val (.long hi), .second, .val (.long md), .second, .val (.ref b1), .val (.ref b2), .val (.ref b3), .val (.ref b4), .val (.int v1), .val (.int v2), .val (.int v3), .val (.int v4), .val (.int v5), .val (.int (1 : Int32))] []))
          exact J196
      refine Runs.st (fun t' k' => XS.iload X17_.here hx rfl (hb hby at_160) rfl k') ?_
      show Runs p.tables e below _ (T17_.setTop (mkF m 162 #[.val (.long i0), .second, .val (.long i1), .second, .val (.long i2), .second, .val (.long i3), .second, .val (.long lo), .second, .val (.long hi), .second, .val (.long md), .second, .val (.ref b1), .val (.ref b2), .val (.ref b3), .val (.ref b4), .val (.int v1), .val (.int v2), .val (.int v3), .val (.int v4), .val (.int v5), .val (.int (1 : Int32))] [(.int v1)]))
      refine Runs.st (fun t' k' => XS.iload X17_.here hx rfl (hb hby at_162) rfl k') ?_
      show Runs p.tables e below _ (T17_.setTop (mkF m 164 #[.val (.long i0), .second, .val (.long i1), .second, .val (.long i2), .second, .val (.long i3), .second, .val (.long lo), .second, .val (.long hi), .second, .val (.long md), .second, .val (.ref b1), .val (.ref b2), .val (.ref b3), .val (.ref b4), .val (.int v1), .val (.int v2), .val (.int v3), .val (.int v4), .val (.int v5), .val (.int (1 : Int32))] [(.int v2), (.int v1)]))
      by_cases c164 : v2 = (0 : Int32)
      · skip
        refine Runs.st (fun t' k' => XS.ifNo X17_.here hx rfl (hb hby at_164) rfl ((if0 _ _).trans (teq c164).2) k') ?_
        show Runs p.tables e below _ (T17_.setTop (mkF m 167 #[.val (.long i0), .second, .val (.long i1), .second, .val (.long i2), .second, .val (.long i3), .second, .val (.long lo), .second, .val (.long hi), .second, .val (.long md), .second, .val (.ref b1), .val (.ref b2), .val (.ref b3), .val (.ref b4), .val (.int v1), .val (.int v2), .val (.int v3), .val (.int v4), .val (.int v5), .val (.int (1 : Int32))] [(.int v1)]))
        have p2 : ¬ (lo < i3 ∧ ¬ md < i3) := own_b_eq (h_v2 ▸ c164)
        refine Runs.st (fun t' k' => XS.iload X17_.here hx rfl (hb hby at_167) rfl k') ?_
        show Runs p.tables e below _ (T17_.setTop (mkF m 169 #[.val (.long i0), .second, .val (.long i1), .second, .val (.long i2), .second, .val (.long i3), .second, .val (.long lo), .second, .val (.long hi), .second, .val (.long md), .second, .val (.ref b1), .val (.ref b2), .val (.ref b3), .val (.ref b4), .val (.int v1), .val (.int v2), .val (.int v3), .val (.int v4), .val (.int v5), .val (.int (1 : Int32))] [(.int v3), (.int v1)]))
        by_cases c169 : v3 = (0 : Int32)
        · skip
          refine Runs.st (fun t' k' => XS.ifYes X17_.here hx rfl (pc0 := 169) (pc' := 176) rfl (hb hby at_169) rfl ((if0 _ _).trans (teq c169).1) (by decide) (by decide) k') ?_
          show Runs p.tables e below _ (T17_.setTop (mkF m 176 #[.val (.long i0), .second, .val (.long i1), .second, .val (.long i2), .second, .val (.long i3), .second, .val (.long lo), .second, .val (.long hi), .second, .val (.long md), .second, .val (.ref b1), .val (.ref b2), .val (.ref b3), .val (.ref b4), .val (.int v1), .val (.int v2), .val (.int v3), .val (.int v4), .val (.int v5), .val (.int (1 : Int32))] [(.int v1)]))
          have p3 : ¬ (md < i3 ∧ ¬ hi < i3) := own_b_eq (h_v3 ▸ c169)
          refine Runs.st (fun t' k' => XS.iconst X17_.here hx rfl (hb hby at_176) k') ?_
          show Runs p.tables e below _ (T17_.setTop (mkF m 177 #[.val (.long i0), .second, .val (.long i1), .second, .val (.long i2), .second, .val (.long i3), .second, .val (.long lo), .second, .val (.long hi), .second, .val (.long md), .second, .val (.ref b1), .val (.ref b2), .val (.ref b3), .val (.ref b4), .val (.int v1), .val (.int v2), .val (.int v3), .val (.int v4), .val (.int v5), .val (.int (1 : Int32))] [(.int (0 : Int32)), (.int v1)]))
          refine Runs.st (fun t' k' => XS.icmpYes X17_.here hx rfl (pc0 := 177) (pc' := 183) rfl (hb hby at_177) rfl (teq (by rw [h_v1]; exact own_b_neg (by simp only [Int64.lt_iff_toInt_lt] at p2 p3 ⊢; omega))).1 (by decide) (by decide) k') ?_
          show Runs p.tables e below _ (T17_.setTop (mkF m 183 #[.val (.long i0), .second, .val (.long i1), .second, .val (.long i2), .second, .val (.long i3), .second, .val (.long lo), .second, .val (.long hi), .second, .val (.long md), .second, .val (.ref b1), .val (.ref b2), .val (.ref b3), .val (.ref b4), .val (.int v1), .val (.int v2), .val (.int v3), .val (.int v4), .val (.int v5), .val (.int (1 : Int32))] []))
          exact J183
        · skip
          refine Runs.st (fun t' k' => XS.ifNo X17_.here hx rfl (hb hby at_169) rfl ((if0 _ _).trans (feq c169).1) k') ?_
          show Runs p.tables e below _ (T17_.setTop (mkF m 172 #[.val (.long i0), .second, .val (.long i1), .second, .val (.long i2), .second, .val (.long i3), .second, .val (.long lo), .second, .val (.long hi), .second, .val (.long md), .second, .val (.ref b1), .val (.ref b2), .val (.ref b3), .val (.ref b4), .val (.int v1), .val (.int v2), .val (.int v3), .val (.int v4), .val (.int v5), .val (.int (1 : Int32))] [(.int v1)]))
          have p3 : md < i3 ∧ ¬ hi < i3 := own_b_ne (h_v3 ▸ c169)
          refine Runs.st (fun t' k' => XS.iconst X17_.here hx rfl (hb hby at_172) k') ?_
          show Runs p.tables e below _ (T17_.setTop (mkF m 173 #[.val (.long i0), .second, .val (.long i1), .second, .val (.long i2), .second, .val (.long i3), .second, .val (.long lo), .second, .val (.long hi), .second, .val (.long md), .second, .val (.ref b1), .val (.ref b2), .val (.ref b3), .val (.ref b4), .val (.int v1), .val (.int v2), .val (.int v3), .val (.int v4), .val (.int v5), .val (.int (1 : Int32))] [(.int (1 : Int32)), (.int v1)]))
          refine Runs.st (fun t' k' => XS.goto X17_.here hx rfl (pc0 := 173) (pc' := 177) rfl (hb hby at_173) (by decide) (by decide) k') ?_
          show Runs p.tables e below _ (T17_.setTop (mkF m 177 #[.val (.long i0), .second, .val (.long i1), .second, .val (.long i2), .second, .val (.long i3), .second, .val (.long lo), .second, .val (.long hi), .second, .val (.long md), .second, .val (.ref b1), .val (.ref b2), .val (.ref b3), .val (.ref b4), .val (.int v1), .val (.int v2), .val (.int v3), .val (.int v4), .val (.int v5), .val (.int (1 : Int32))] [(.int (1 : Int32)), (.int v1)]))
          refine Runs.st (fun t' k' => XS.icmpYes X17_.here hx rfl (pc0 := 177) (pc' := 183) rfl (hb hby at_177) rfl (teq (by rw [h_v1]; exact own_b_pos (by simp only [Int64.lt_iff_toInt_lt] at p3 ⊢; omega))).1 (by decide) (by decide) k') ?_
          show Runs p.tables e below _ (T17_.setTop (mkF m 183 #[.val (.long i0), .second, .val (.long i1), .second, .val (.long i2), .second, .val (.long i3), .second, .val (.long lo), .second, .val (.long hi), .second, .val (.long md), .second, .val (.ref b1), .val (.ref b2), .val (.ref b3), .val (.ref b4), .val (.int v1), .val (.int v2), .val (.int v3), .val (.int v4), .val (.int v5), .val (.int (1 : Int32))] []))
          exact J183
      · skip
        refine Runs.st (fun t' k' => XS.ifYes X17_.here hx rfl (pc0 := 164) (pc' := 172) rfl (hb hby at_164) rfl ((if0 _ _).trans (feq c164).2) (by decide) (by decide) k') ?_
        show Runs p.tables e below _ (T17_.setTop (mkF m 172 #[.val (.long i0), .second, .val (.long i1), .second, .val (.long i2), .second, .val (.long i3), .second, .val (.long lo), .second, .val (.long hi), .second, .val (.long md), .second, .val (.ref b1), .val (.ref b2), .val (.ref b3), .val (.ref b4), .val (.int v1), .val (.int v2), .val (.int v3), .val (.int v4), .val (.int v5), .val (.int (1 : Int32))] [(.int v1)]))
        have p2 : lo < i3 ∧ ¬ md < i3 := own_b_ne (h_v2 ▸ c164)
        refine Runs.st (fun t' k' => XS.iconst X17_.here hx rfl (hb hby at_172) k') ?_
        show Runs p.tables e below _ (T17_.setTop (mkF m 173 #[.val (.long i0), .second, .val (.long i1), .second, .val (.long i2), .second, .val (.long i3), .second, .val (.long lo), .second, .val (.long hi), .second, .val (.long md), .second, .val (.ref b1), .val (.ref b2), .val (.ref b3), .val (.ref b4), .val (.int v1), .val (.int v2), .val (.int v3), .val (.int v4), .val (.int v5), .val (.int (1 : Int32))] [(.int (1 : Int32)), (.int v1)]))
        refine Runs.st (fun t' k' => XS.goto X17_.here hx rfl (pc0 := 173) (pc' := 177) rfl (hb hby at_173) (by decide) (by decide) k') ?_
        show Runs p.tables e below _ (T17_.setTop (mkF m 177 #[.val (.long i0), .second, .val (.long i1), .second, .val (.long i2), .second, .val (.long i3), .second, .val (.long lo), .second, .val (.long hi), .second, .val (.long md), .second, .val (.ref b1), .val (.ref b2), .val (.ref b3), .val (.ref b4), .val (.int v1), .val (.int v2), .val (.int v3), .val (.int v4), .val (.int v5), .val (.int (1 : Int32))] [(.int (1 : Int32)), (.int v1)]))
        refine Runs.st (fun t' k' => XS.icmpYes X17_.here hx rfl (pc0 := 177) (pc' := 183) rfl (hb hby at_177) rfl (teq (by rw [h_v1]; exact own_b_pos (by simp only [Int64.lt_iff_toInt_lt] at p2 ⊢; omega))).1 (by decide) (by decide) k') ?_
        show Runs p.tables e below _ (T17_.setTop (mkF m 183 #[.val (.long i0), .second, .val (.long i1), .second, .val (.long i2), .second, .val (.long i3), .second, .val (.long lo), .second, .val (.long hi), .second, .val (.long md), .second, .val (.ref b1), .val (.ref b2), .val (.ref b3), .val (.ref b4), .val (.int v1), .val (.int v2), .val (.int v3), .val (.int v4), .val (.int v5), .val (.int (1 : Int32))] []))
        exact J183
    refine Runs.st (fun t' k' => XS.lload X17_.here hx rfl (hb hby at_144) rfl k') ?_
    show Runs p.tables e below _ (T17_.setTop (mkF m 146 #[.val (.long i0), .second, .val (.long i1), .second, .val (.long i2), .second, .val (.long i3), .second, .val (.long lo), .second, .val (.long hi), .second, .val (.long md), .second, .val (.ref b1), .val (.ref b2), .val (.ref b3), .val (.ref b4), .val (.int v1), .val (.int v2), .val (.int v3), .val (.int v4), .val (.int v5), .val (.int (1 : Int32))] [(.long i3)]))
    refine Runs.st (fun t' k' => XS.lload X17_.here hx rfl (hb hby at_146) rfl k') ?_
    show Runs p.tables e below _ (T17_.setTop (mkF m 148 #[.val (.long i0), .second, .val (.long i1), .second, .val (.long i2), .second, .val (.long i3), .second, .val (.long lo), .second, .val (.long hi), .second, .val (.long md), .second, .val (.ref b1), .val (.ref b2), .val (.ref b3), .val (.ref b4), .val (.int v1), .val (.int v2), .val (.int v3), .val (.int v4), .val (.int v5), .val (.int (1 : Int32))] [(.long hi), (.long i3)]))
    refine Runs.st (fun t' k' => XS.lcmp X17_.here hx rfl (hb hby at_148) rfl k') ?_
    show Runs p.tables e below _ (T17_.setTop (mkF m 149 #[.val (.long i0), .second, .val (.long i1), .second, .val (.long i2), .second, .val (.long i3), .second, .val (.long lo), .second, .val (.long hi), .second, .val (.long md), .second, .val (.ref b1), .val (.ref b2), .val (.ref b3), .val (.ref b4), .val (.int v1), .val (.int v2), .val (.int v3), .val (.int v4), .val (.int v5), .val (.int (1 : Int32))] [(.int (lcmpW i3 hi))]))
    by_cases c149 : hi < i3
    · skip
      refine Runs.st (fun t' k' => XS.ifNo X17_.here hx rfl (hb hby at_149) rfl ((if0 _ _).trans (tlt ((lw_gt _ _).mpr c149)).2.2.2) k') ?_
      show Runs p.tables e below _ (T17_.setTop (mkF m 152 #[.val (.long i0), .second, .val (.long i1), .second, .val (.long i2), .second, .val (.long i3), .second, .val (.long lo), .second, .val (.long hi), .second, .val (.long md), .second, .val (.ref b1), .val (.ref b2), .val (.ref b3), .val (.ref b4), .val (.int v1), .val (.int v2), .val (.int v3), .val (.int v4), .val (.int v5), .val (.int (1 : Int32))] []))
      refine Runs.st (fun t' k' => XS.iload X17_.here hx rfl (hb hby at_152) rfl k') ?_
      show Runs p.tables e below _ (T17_.setTop (mkF m 154 #[.val (.long i0), .second, .val (.long i1), .second, .val (.long i2), .second, .val (.long i3), .second, .val (.long lo), .second, .val (.long hi), .second, .val (.long md), .second, .val (.ref b1), .val (.ref b2), .val (.ref b3), .val (.ref b4), .val (.int v1), .val (.int v2), .val (.int v3), .val (.int v4), .val (.int v5), .val (.int (1 : Int32))] [(.int v1)]))
      refine Runs.st (fun t' k' => XS.ifYes X17_.here hx rfl (pc0 := 154) (pc' := 160) rfl (hb hby at_154) rfl ((if0 _ _).trans (teq (by rw [h_v1]; exact own_b_neg (by simp only [Int64.lt_iff_toInt_lt] at c149 ⊢; omega))).1) (by decide) (by decide) k') ?_
      show Runs p.tables e below _ (T17_.setTop (mkF m 160 #[.val (.long i0), .second, .val (.long i1), .second, .val (.long i2), .second, .val (.long i3), .second, .val (.long lo), .second, .val (.long hi), .second, .val (.long md), .second, .val (.ref b1), .val (.ref b2), .val (.ref b3), .val (.ref b4), .val (.int v1), .val (.int v2), .val (.int v3), .val (.int v4), .val (.int v5), .val (.int (1 : Int32))] []))
      exact J160
    · skip
      refine Runs.st (fun t' k' => XS.ifYes X17_.here hx rfl (pc0 := 149) (pc' := 160) rfl (hb hby at_149) rfl ((if0 _ _).trans (flt (fun q => c149 ((lw_gt _ _).mp q))).2.2.2) (by decide) (by decide) k') ?_
      show Runs p.tables e below _ (T17_.setTop (mkF m 160 #[.val (.long i0), .second, .val (.long i1), .second, .val (.long i2), .second, .val (.long i3), .second, .val (.long lo), .second, .val (.long hi), .second, .val (.long md), .second, .val (.ref b1), .val (.ref b2), .val (.ref b3), .val (.ref b4), .val (.int v1), .val (.int v2), .val (.int v3), .val (.int v4), .val (.int v5), .val (.int (1 : Int32))] []))
      exact J160
  refine Runs.st (fun t' k' => XS.lload X17_.here hx rfl (hb hby at_128) rfl k') ?_
  show Runs p.tables e below _ (T17_.setTop (mkF m 130 #[.val (.long i0), .second, .val (.long i1), .second, .val (.long i2), .second, .val (.long i3), .second, .val (.long lo), .second, .val (.long hi), .second, .val (.long md), .second, .val (.ref b1), .val (.ref b2), .val (.ref b3), .val (.ref b4), .val (.int v1), .val (.int v2), .val (.int v3), .val (.int v4), .val (.int v5), .val (.int (1 : Int32))] [(.long i3)]))
  refine Runs.st (fun t' k' => XS.lload X17_.here hx rfl (hb hby at_130) rfl k') ?_
  show Runs p.tables e below _ (T17_.setTop (mkF m 132 #[.val (.long i0), .second, .val (.long i1), .second, .val (.long i2), .second, .val (.long i3), .second, .val (.long lo), .second, .val (.long hi), .second, .val (.long md), .second, .val (.ref b1), .val (.ref b2), .val (.ref b3), .val (.ref b4), .val (.int v1), .val (.int v2), .val (.int v3), .val (.int v4), .val (.int v5), .val (.int (1 : Int32))] [(.long lo), (.long i3)]))
  refine Runs.st (fun t' k' => XS.lcmp X17_.here hx rfl (hb hby at_132) rfl k') ?_
  show Runs p.tables e below _ (T17_.setTop (mkF m 133 #[.val (.long i0), .second, .val (.long i1), .second, .val (.long i2), .second, .val (.long i3), .second, .val (.long lo), .second, .val (.long hi), .second, .val (.long md), .second, .val (.ref b1), .val (.ref b2), .val (.ref b3), .val (.ref b4), .val (.int v1), .val (.int v2), .val (.int v3), .val (.int v4), .val (.int v5), .val (.int (1 : Int32))] [(.int (lcmpW i3 lo))]))
  by_cases c133 : lo < i3
  · skip
    refine Runs.st (fun t' k' => XS.ifYes X17_.here hx rfl (pc0 := 133) (pc' := 144) rfl (hb hby at_133) rfl ((if0 _ _).trans (tlt ((lw_gt _ _).mpr c133)).2.2.1) (by decide) (by decide) k') ?_
    show Runs p.tables e below _ (T17_.setTop (mkF m 144 #[.val (.long i0), .second, .val (.long i1), .second, .val (.long i2), .second, .val (.long i3), .second, .val (.long lo), .second, .val (.long hi), .second, .val (.long md), .second, .val (.ref b1), .val (.ref b2), .val (.ref b3), .val (.ref b4), .val (.int v1), .val (.int v2), .val (.int v3), .val (.int v4), .val (.int v5), .val (.int (1 : Int32))] []))
    exact J144
  · skip
    refine Runs.st (fun t' k' => XS.ifNo X17_.here hx rfl (hb hby at_133) rfl ((if0 _ _).trans (flt (fun q => c133 ((lw_gt _ _).mp q))).2.2.1) k') ?_
    show Runs p.tables e below _ (T17_.setTop (mkF m 136 #[.val (.long i0), .second, .val (.long i1), .second, .val (.long i2), .second, .val (.long i3), .second, .val (.long lo), .second, .val (.long hi), .second, .val (.long md), .second, .val (.ref b1), .val (.ref b2), .val (.ref b3), .val (.ref b4), .val (.int v1), .val (.int v2), .val (.int v3), .val (.int v4), .val (.int v5), .val (.int (1 : Int32))] []))
    refine Runs.st (fun t' k' => XS.iload X17_.here hx rfl (hb hby at_136) rfl k') ?_
    show Runs p.tables e below _ (T17_.setTop (mkF m 138 #[.val (.long i0), .second, .val (.long i1), .second, .val (.long i2), .second, .val (.long i3), .second, .val (.long lo), .second, .val (.long hi), .second, .val (.long md), .second, .val (.ref b1), .val (.ref b2), .val (.ref b3), .val (.ref b4), .val (.int v1), .val (.int v2), .val (.int v3), .val (.int v4), .val (.int v5), .val (.int (1 : Int32))] [(.int v1)]))
    refine Runs.st (fun t' k' => XS.ifYes X17_.here hx rfl (pc0 := 138) (pc' := 144) rfl (hb hby at_138) rfl ((if0 _ _).trans (teq (by rw [h_v1]; exact own_b_neg (by simp only [Int64.lt_iff_toInt_lt] at c133 ⊢; omega))).1) (by decide) (by decide) k') ?_
    show Runs p.tables e below _ (T17_.setTop (mkF m 144 #[.val (.long i0), .second, .val (.long i1), .second, .val (.long i2), .second, .val (.long i3), .second, .val (.long lo), .second, .val (.long hi), .second, .val (.long md), .second, .val (.ref b1), .val (.ref b2), .val (.ref b3), .val (.ref b4), .val (.int v1), .val (.int v2), .val (.int v3), .val (.int v4), .val (.int v5), .val (.int (1 : Int32))] []))
    exact J144
set_option maxRecDepth 65536 in
set_option maxHeartbeats 40000000 in
theorem comes_1 {Post : Tables → Env → Array Value → State → Outcome → State → Prop} (hpost : ∀ tb e args s v u, (limb_1_1.after args s (.returned v) u = true ∧ limb_1_2.after args s (.returned v) u = true ∧ True) → FrameEnd s (.returned v) u (Jvm.fieldLocs frame_1_writes args s ++ Jvm.arrayLocs frame_1_arrays args s ++ Jvm.staticLocs frame_1_statics s) 16 128 → Post tb e args s (.returned v) u) :
    ArmFor flags0 classFile x code maxLocals ret World_1 tables_1 room_1 Calls_1 rest_1 Pre_1 Post := by
  intro l hfl _ _ p e ha hc hk s m args below hf hA hF happ hP
  obtain ⟨hcalls, hrest, hpre⟩ := hP
  obtain ⟨-, -, -, hnamed, -, -, -, hat⟩ := (Spec.applies_iff hf).mp happ
  obtain ⟨hg, hn⟩ := and_e (Cond.before_iff.mp (show (Jvm.Cond.and given_1 narrow_1).before args s = true from hpre))
  obtain ⟨gc, gr⟩ := and_e hg
  obtain ⟨gi0, gr⟩ := and_e gr
  obtain ⟨gi1, gr⟩ := and_e gr
  obtain ⟨gi2, gr⟩ := and_e gr
  have gi3 := gr
  obtain ⟨w0, w1, w2, w3, rfl⟩ : ∃ w0 w1 w2 w3 : Value, args = #[w0, w1, w2, w3] := by
    have hs : args.size = 4 := by simpa [Cond.value, given_1] using gc
    obtain ⟨L⟩ := args
    match L, hs with
    | [w0, w1, w2, w3], _ => exact ⟨w0, w1, w2, w3, rfl⟩
  have hw := fun d (hd : d ∈ tables_1) => atoms_spec (ws := Jvm.Cond.code x code maxLocals ret :: tables_1) hat d (List.mem_cons_of_mem _ hd)
  have hfit : Fit s := fun {y c} hc i hi => by
    obtain ⟨ha, rfl⟩ := Array.getElem?_eq_some_iff.mp hc
    have q := List.all_eq_true.mp ((Array.all_eq_true_iff_forall_mem.mp hF) _ (Array.getElem_mem ha)) i (List.mem_range.mpr hi)
    simpa [Array.getElem?_eq_getElem hi] using q
  obtain ⟨i0, ei0⟩ := isL_v gi0
  obtain rfl : w0 = (.long i0) := Option.some.inj ei0
  obtain ⟨i1, ei1⟩ := isL_v gi1
  obtain rfl : w1 = (.long i1) := Option.some.inj ei1
  obtain ⟨i2, ei2⟩ := isL_v gi2
  obtain rfl : w2 = (.long i2) := Option.some.inj ei2
  obtain ⟨i3, ei3⟩ := isL_v gi3
  obtain rfl : w3 = (.long i3) := Option.some.inj ei3
  obtain ⟨n, o, h1, h2, h3, _, L, rfl, ⟨rfl, N⟩, hq⟩ := rm0 l s _ hw tables_1 i0 i1 i2 i3 s.heap s.heap.size (Nat.le_refl _)  p e ha hc hk s m _ below hf ((Spec.applies_iff_loose hf).mp happ).1 ⟨rfl, State.Warmed39.refl s, rfl⟩ trivial
  refine ⟨n, _, h1, h2, h3, hpost _ _ _ _ _ _ ⟨Cond.after_iff.mpr rfl, Cond.after_iff.mpr (eq_i res_at (Term.int_eval (1)) rfl), trivial⟩ ⟨hq.1, hq.2.1, (hq.2.2.sift fun y hy => Or.inr (N y hy)).mono (by decide) (by decide)⟩⟩
theorem main_1_1 : Claimed_1_1 := comes_1 fun _ _ _ _ _ _ h hF => ⟨h.1, hF⟩
theorem main_1_2 : Claimed_1_2 := comes_1 fun _ _ _ _ _ _ h hF => ⟨h.2.1, hF⟩
end Jvm.Pilot.@@N@@
namespace Jvm.Pilot.@@N@@
open Jvm Jvm.ClassFile Sem Op Lib Jvm.Free Jvm.Stand Jvm.Pilot.@@N@@.Jvm.D
/-! MADE BY PROGRAM (witnessworld.py) out of the Statement's table words and the real class files: 10 classes; the members and pool entries that the words name. The judged class is class 1, her method 1. -/
namespace start1
open Jvm.ClassFile
def u (s : String) : CpInfo := .utf8 (stringToUtf16 s)
/-- a pool by its gaps: so many unusable entries, then the entry; so many at the end -/
def gap : Nat → List CpInfo → List CpInfo
  | 0, r => r
  | n + 1, r => .unusable :: gap n r
def poolList (es : List (Nat × CpInfo)) (last : Nat) : List CpInfo := es.foldr (fun e r => gap e.1 (e.2 :: r)) (gap last [])
def pool (es : List (Nat × CpInfo)) (last : Nat) : Array CpInfo := ⟨poolList es last⟩
def fileOf (pool : Array CpInfo) (this : Nat) (attrs : Array Attribute := #[]) (ms : Array MethodInfo := #[]) (fl : Nat := 33) (sup : Nat := 0) (ifs : Array Nat := #[]) (fds : Array FieldInfo := #[]) : ClassFile where
  minorVersion := 0
  majorVersion := 65
  constantPool := pool
  accessFlags := fl
  thisClass := this
  superClass := sup
  interfaces := ifs
  fields := fds
  methods := ms
  attributes := attrs
def plain (name : String) (sup : Option ClassId) : Class where
  name := name
  kind := .ordinary
  loader := none
  accessFlags := 33
  super := sup
  interfaces := #[]
  cf := none
  fields := #[]
  methods := #[]
  instanceTypes := #[]
  staticTypes := #[]
  resolved := #[]
  callSites := []
  init := .initialized
  statics := none
  mirror := none

def pool0 : Array CpInfo := pool [(5, u "<init>"), (0, u "()V"), (1, .class_ 10), (1, u "java/lang/Object")] 113

def k0c0 : Code := { maxStack := 0, maxLocals := 1, code := object_method_1_code, exceptionTable := #[], attributes := #[] }
def k0m0 : Method := { name := "<init>", desc := "()V", sig := { parameters := [], returnType := none }, accessFlags := 1, code := some k0c0 }
/-- java/lang/Object -/
def k0 : Class := { plain "java/lang/Object" none with
  accessFlags := 33
  interfaces := #[]
  cf := some (fileOf pool0 8 #[] #[{ accessFlags := 1, nameIndex := 5, descriptorIndex := 6, attributes := #[] }] 33 0 #[] #[])
  fields := #[]
  methods := #[k0m0]
  instanceTypes := #[]
  staticTypes := #[]
  resolved := Array.replicate 124 none
  statics := none }

def pool1 : Array CpInfo := pool [(2, .class_ 4), (1, u "java/lang/Object"), (0, u "<init>"), (0, u "()V"), (0, .methodref 8 9), (0, .class_ 10), (0, .nameAndType 11 12), (0, u "java/lang/Math"), (0, u "min"), (0, u "(JJ)J"), (0, .methodref 8 14), (0, .nameAndType 15 12), (0, u "max"), (0, .class_ 17), (0, u "com/example/occupancy/occupancy/Window"), (0, .methodref 16 19), (0, .nameAndType 5 20), (0, u "(JJ)V"), (0, .methodref 16 22), (0, .nameAndType 23 24), (0, u "contains"), (0, u "(J)Z"), (0, .class_ 26), (0, u "com/example/occupancy/occupancy/WindowContainsPinLaw"), (2, u "law"), (0, u "(JJJJ)Z")] 3

def k1m0 : Method := { name := "<init>", desc := "()V", sig := { parameters := [], returnType := none }, accessFlags := 2, code := none }
def k1c1 : Code := { maxStack := 6, maxLocals := 24, code := code, exceptionTable := #[], attributes := #[] }
def k1m1 : Method := { name := "law", desc := "(JJJJ)Z", sig := { parameters := [.long, .long, .long, .long], returnType := some .boolean }, accessFlags := 9, code := some k1c1 }
/-- com/example/occupancy/occupancy/WindowContainsPinLaw -/
def k1 : Class := { plain "com/example/occupancy/occupancy/WindowContainsPinLaw" (some 0) with
  accessFlags := 49
  interfaces := #[]
  cf := some (fileOf pool1 25 #[] #[{ accessFlags := 2, nameIndex := 5, descriptorIndex := 6, attributes := #[] }, { accessFlags := 9, nameIndex := 29, descriptorIndex := 30, attributes := #[] }] 49 2 #[] #[])
  fields := #[]
  methods := #[k1m0, k1m1]
  instanceTypes := #[]
  staticTypes := #[]
  resolved := Array.replicate 34 none
  statics := none }

def pool2 : Array CpInfo := pool [(1, .class_ 2), (0, u "java/lang/Math"), (1, .class_ 6), (1, u "java/lang/Object"), (0, u "<init>"), (0, u "()V"), (89, .class_ 100), (1, u "java/lang/Math$RandomNumberGeneratorHolder"), (20, u "(JJ)J"), (50, u "negativeZeroFloatBits"), (0, u "J"), (2, u "negativeZeroDoubleBits"), (21, u "max"), (2, u "min"), (43, u "$assertionsDisabled"), (0, u "Z"), (91, u "twoToTheDoubleScaleDown"), (0, u "D"), (4, u "twoToTheDoubleScaleUp"), (9, u "E"), (3, u "PI"), (2, u "TAU"), (2, u "DEGREES_TO_RADIANS"), (0, u "RADIANS_TO_DEGREES")] 94

def k2m0 : Method := { name := "<init>", desc := "()V", sig := { parameters := [], returnType := none }, accessFlags := 2, code := none }
def k2c1 : Code := { maxStack := 4, maxLocals := 4, code := jdk_29_method_66_code, exceptionTable := #[], attributes := #[] }
def k2m1 : Method := { name := "max", desc := "(JJ)J", sig := { parameters := [.long, .long], returnType := some .long }, accessFlags := 9, code := some k2c1 }
def k2c2 : Code := { maxStack := 4, maxLocals := 4, code := jdk_29_method_70_code, exceptionTable := #[], attributes := #[] }
def k2m2 : Method := { name := "min", desc := "(JJ)J", sig := { parameters := [.long, .long], returnType := some .long }, accessFlags := 9, code := some k2c2 }
/-- java/lang/Math -/
def k2 : Class := { plain "java/lang/Math" (some 0) with
  accessFlags := 49
  interfaces := #[]
  cf := some (fileOf pool2 1 #[.nestMembers #[98]] #[{ accessFlags := 2, nameIndex := 7, descriptorIndex := 8, attributes := #[] }, { accessFlags := 9, nameIndex := 198, descriptorIndex := 121, attributes := #[] }, { accessFlags := 9, nameIndex := 201, descriptorIndex := 121, attributes := #[] }] 49 4 #[] #[{ accessFlags := 25, nameIndex := 354, descriptorIndex := 339, attributes := #[] }, { accessFlags := 25, nameIndex := 358, descriptorIndex := 339, attributes := #[] }, { accessFlags := 25, nameIndex := 361, descriptorIndex := 339, attributes := #[] }, { accessFlags := 26, nameIndex := 364, descriptorIndex := 339, attributes := #[] }, { accessFlags := 26, nameIndex := 365, descriptorIndex := 339, attributes := #[] }, { accessFlags := 26, nameIndex := 172, descriptorIndex := 173, attributes := #[] }, { accessFlags := 26, nameIndex := 176, descriptorIndex := 173, attributes := #[] }, { accessFlags := 8, nameIndex := 344, descriptorIndex := 339, attributes := #[] }, { accessFlags := 8, nameIndex := 338, descriptorIndex := 339, attributes := #[] }, { accessFlags := 4120, nameIndex := 245, descriptorIndex := 246, attributes := #[] }])
  fields := #[{ name := "E", type := .double, accessFlags := 25, slot := 0, constantValue := 0 }, { name := "PI", type := .double, accessFlags := 25, slot := 1, constantValue := 0 }, { name := "TAU", type := .double, accessFlags := 25, slot := 2, constantValue := 0 }, { name := "DEGREES_TO_RADIANS", type := .double, accessFlags := 26, slot := 3, constantValue := 0 }, { name := "RADIANS_TO_DEGREES", type := .double, accessFlags := 26, slot := 4, constantValue := 0 }, { name := "negativeZeroFloatBits", type := .long, accessFlags := 26, slot := 5, constantValue := 0 }, { name := "negativeZeroDoubleBits", type := .long, accessFlags := 26, slot := 6, constantValue := 0 }, { name := "twoToTheDoubleScaleUp", type := .double, accessFlags := 8, slot := 7, constantValue := 0 }, { name := "twoToTheDoubleScaleDown", type := .double, accessFlags := 8, slot := 8, constantValue := 0 }, { name := "$assertionsDisabled", type := .boolean, accessFlags := 4120, slot := 9, constantValue := 0 }]
  methods := #[k2m0, k2m1, k2m2]
  instanceTypes := #[]
  staticTypes := #[.double, .double, .double, .double, .double, .long, .long, .double, .double, .boolean]
  resolved := Array.replicate 460 none
  statics := none }

def pool3 : Array CpInfo := pool [(1, .methodref 2 3), (0, .class_ 4), (0, .nameAndType 5 6), (0, u "java/lang/Object"), (0, u "<init>"), (0, u "()V"), (0, .fieldref 8 9), (0, .class_ 10), (0, .nameAndType 11 12), (0, u "com/example/occupancy/occupancy/Window"), (0, u "from"), (0, u "J"), (0, .fieldref 8 14), (0, .nameAndType 15 12), (0, u "to"), (10, u "(JJ)V"), (2, u "contains"), (0, u "(J)Z")] 22

def k3c0 : Code := { maxStack := 3, maxLocals := 5, code := prog_29_method_1_code, exceptionTable := #[], attributes := #[] }
def k3m0 : Method := { name := "<init>", desc := "(JJ)V", sig := { parameters := [.long, .long], returnType := none }, accessFlags := 0, code := some k3c0 }
def k3c1 : Code := { maxStack := 4, maxLocals := 3, code := prog_29_method_2_code, exceptionTable := #[], attributes := #[] }
def k3m1 : Method := { name := "contains", desc := "(J)Z", sig := { parameters := [.long], returnType := some .boolean }, accessFlags := 0, code := some k3c1 }
/-- com/example/occupancy/occupancy/Window -/
def k3 : Class := { plain "com/example/occupancy/occupancy/Window" (some 0) with
  accessFlags := 48
  interfaces := #[]
  cf := some (fileOf pool3 8 #[] #[{ accessFlags := 0, nameIndex := 5, descriptorIndex := 26, attributes := #[] }, { accessFlags := 0, nameIndex := 29, descriptorIndex := 30, attributes := #[] }] 48 2 #[] #[{ accessFlags := 18, nameIndex := 11, descriptorIndex := 12, attributes := #[] }, { accessFlags := 18, nameIndex := 15, descriptorIndex := 12, attributes := #[] }])
  fields := #[{ name := "from", type := .long, accessFlags := 18, slot := 0, constantValue := 0 }, { name := "to", type := .long, accessFlags := 18, slot := 1, constantValue := 0 }]
  methods := #[k3m0, k3m1]
  instanceTypes := #[.long, .long]
  staticTypes := #[]
  resolved := Array.replicate 53 none
  statics := none }

def pool4 : Array CpInfo := pool [(1, u "java/lang/Cloneable"), (0, .class_ 1), (0, u "java/lang/Object"), (0, .class_ 3)] 3

/-- java/lang/Cloneable -/
def k4 : Class := { plain "java/lang/Cloneable" (some 0) with
  accessFlags := 1537
  interfaces := #[]
  cf := some (fileOf pool4 2 #[] #[] 1537 4 #[] #[])
  fields := #[]
  methods := #[]
  instanceTypes := #[]
  staticTypes := #[]
  resolved := Array.replicate 8 none
  statics := none }

def pool5 : Array CpInfo := pool [(1, u "java/io/Serializable"), (0, .class_ 1), (0, u "java/lang/Object"), (0, .class_ 3)] 3

/-- java/io/Serializable -/
def k5 : Class := { plain "java/io/Serializable" (some 0) with
  accessFlags := 1537
  interfaces := #[]
  cf := some (fileOf pool5 2 #[] #[] 1537 4 #[] #[])
  fields := #[]
  methods := #[]
  instanceTypes := #[]
  staticTypes := #[]
  resolved := Array.replicate 8 none
  statics := none }

/-- the primitive byte -/
def k6 : Class := { plain "byte" none with kind := .primitive 'B', accessFlags := 0x411 }
/-- [B -/
def k7 : Class := { plain "[B" (some 0) with kind := .array 6 .byte, interfaces := #[4, 5], accessFlags := 1041 }

/-- the primitive int -/
def k8 : Class := { plain "int" none with kind := .primitive 'I', accessFlags := 0x411 }
/-- [I -/
def k9 : Class := { plain "[I" (some 0) with kind := .array 8 .int, interfaces := #[4, 5], accessFlags := 1041 }

def heap : Heap := #[]
def classes : Array Class := #[k0, k1, k2, k3, k4, k5, k6, k7, k8, k9]
def interned : List (Array UInt16 × Addr) := []
def slotsUsed : Nat := 0
def theMethod : MethodId := ⟨1, 1⟩
def args0 : Array Value := #[.long 5, .long 7, .long 6, .long 6]
def aboutOver (below : List Frame) : State where
  vm := { classes := classes, interned := interned.toArray }
  heap := heap
  slotsUsed := slotsUsed
  threads := #[{ frames := .invoking theMethod args0 :: below }]
def below0 : List Frame := [.native { method := ⟨0, 0⟩, args := #[] }]
def about1 : State := aboutOver below0
def p0 : Program := .bare "" "" ""
def e0 : Env := launch0.env 0 0 0
theorem w_frames : about1.frames = Frame.invoking theMethod args0 :: below0 := rfl
set_option maxRecDepth 65536 in
theorem w_args : argsFit about1.vm theMethod args0 = true := by decide +kernel
set_option maxRecDepth 65536 in
theorem w_heap : heapFits about1 = true := by decide +kernel
set_option maxRecDepth 65536 in
theorem w_runnable : about1.curStatus? = some .runnable := by decide +kernel
set_option maxRecDepth 65536 in
theorem w_alone : about1.alone = true := by decide +kernel
set_option maxRecDepth 65536 in
theorem w_named : about1.methodNamed? x = some theMethod := by decide +kernel
set_option maxRecDepth 65536 in
theorem w_hears : about1.hears theMethod below0 = true := by decide +kernel
set_option maxRecDepth 65536 in
theorem w_ripe : about1.ripe theMethod args0 below0 = true := by decide +kernel
theorem w_running : about1.status = .running := rfl
set_option maxRecDepth 65536 in
theorem w_room : about1.hasRoom e0.platform room_1 = true :=
  launch0.hasRoom_least _ room_1 (by decide +kernel) (by decide +kernel) (by decide +kernel) (by decide +kernel) (by decide +kernel) (by decide +kernel)
theorem allAtoms_all (ts : List Jvm.Cond) (a : Array Jvm.Value) (st : Jvm.State) : (allAtoms ts).before a st = ts.all (fun c => c.before a st) := by
  induction ts with
  | nil => rfl
  | cons c t ih =>
    show (Jvm.Cond.and c (allAtoms t)).before a st = _
    rw [Jvm.Cond.before_and, ih, List.all_cons]
def words1 : List Jvm.Cond := Jvm.Cond.code x code maxLocals ret :: tables_1
/-- a 'code' word, met by the world's own term for the bytes: nothing is compared byte by byte -/
theorem code_word {y : MethodName} {bytes : ByteArray} {mx : Nat} {rt : Option FieldType} {a : Array Value} {s : State} {m : MethodId} {meth : Method} {c : Code} (h1 : s.methodNamed? y = some m) (h2 : s.vm.method? m = some meth) (h3 : meth.code = some c) (h4 : c.code = bytes)
    (h5 : (c.maxLocals == mx && c.exceptionTable.isEmpty && decide (c.maxStack ≤ mostOperands) && decide (meth.sig.returnType = rt) && !meth.locks && decide (parseMethodDescriptor y.desc = some meth.sig)) = true) : (Jvm.Cond.code y bytes mx rt).before a s = true := by
  simp only [Bool.and_eq_true, beq_iff_eq, Bool.not_eq_true', decide_eq_true_eq] at h5
  obtain ⟨⟨⟨⟨⟨g1, g2⟩, g3⟩, g4⟩, g5⟩, g6⟩ := h5
  simp [Cond.before, Cond.holds, Cond.value, h1, h2, h3, h4, g1, g2, g3, g4, g5, g6]
def isCode : Jvm.Cond → Bool
  | .code _ _ _ _ => true
  | _ => false
theorem all_split {L : List Jvm.Cond} {P : Jvm.Cond → Bool} (h1 : L.all (fun c => isCode c || P c) = true) (h2 : ∀ c ∈ L.filter isCode, P c = true) : L.all P = true := by
  refine List.all_eq_true.mpr fun c hc => ?_
  have h := List.all_eq_true.mp h1 c hc
  rcases Bool.eq_false_or_eq_true (isCode c) with hi | hi
  · exact h2 c (List.mem_filter.mpr ⟨hc, hi⟩)
  · simpa [hi] using h
set_option maxRecDepth 65536 in
theorem w_c0 : (Jvm.Cond.code x code maxLocals ret).before args0 about1 = true := code_word (m := ⟨1, 1⟩) (meth := k1m1) (c := k1c1) (by decide +kernel) rfl rfl rfl (by decide +kernel)
set_option maxRecDepth 65536 in
theorem w_c1 : (Jvm.Cond.code ({ cls := "java/lang/Math", name := "min", desc := "(JJ)J" } : Jvm.MethodName) jdk_29_method_70_code (4 : Nat) (Option.some Jvm.ClassFile.FieldType.long)).before args0 about1 = true := code_word (m := ⟨2, 2⟩) (meth := k2m2) (c := k2c2) (by decide +kernel) rfl rfl rfl (by decide +kernel)
set_option maxRecDepth 65536 in
theorem w_c2 : (Jvm.Cond.code ({ cls := "java/lang/Math", name := "max", desc := "(JJ)J" } : Jvm.MethodName) jdk_29_method_66_code (4 : Nat) (Option.some Jvm.ClassFile.FieldType.long)).before args0 about1 = true := code_word (m := ⟨2, 1⟩) (meth := k2m1) (c := k2c1) (by decide +kernel) rfl rfl rfl (by decide +kernel)
set_option maxRecDepth 65536 in
theorem w_c3 : (Jvm.Cond.code ({ cls := "com/example/occupancy/occupancy/Window", name := "<init>", desc := "(JJ)V" } : Jvm.MethodName) prog_29_method_1_code (5 : Nat) (Option.none : Option Jvm.ClassFile.FieldType)).before args0 about1 = true := code_word (m := ⟨3, 0⟩) (meth := k3m0) (c := k3c0) (by decide +kernel) rfl rfl rfl (by decide +kernel)
set_option maxRecDepth 65536 in
theorem w_c4 : (Jvm.Cond.code ({ cls := "java/lang/Object", name := "<init>", desc := "()V" } : Jvm.MethodName) object_method_1_code (1 : Nat) (Option.none : Option Jvm.ClassFile.FieldType)).before args0 about1 = true := code_word (m := ⟨0, 0⟩) (meth := k0m0) (c := k0c0) (by decide +kernel) rfl rfl rfl (by decide +kernel)
set_option maxRecDepth 65536 in
theorem w_c5 : (Jvm.Cond.code ({ cls := "com/example/occupancy/occupancy/Window", name := "contains", desc := "(J)Z" } : Jvm.MethodName) prog_29_method_2_code (3 : Nat) (Option.some Jvm.ClassFile.FieldType.boolean)).before args0 about1 = true := code_word (m := ⟨3, 1⟩) (meth := k3m1) (c := k3c1) (by decide +kernel) rfl rfl rfl (by decide +kernel)
def codes1 : List Jvm.Cond := [Jvm.Cond.code x code maxLocals ret, Jvm.Cond.code ({ cls := "java/lang/Math", name := "min", desc := "(JJ)J" } : Jvm.MethodName) jdk_29_method_70_code (4 : Nat) (Option.some Jvm.ClassFile.FieldType.long), Jvm.Cond.code ({ cls := "java/lang/Math", name := "max", desc := "(JJ)J" } : Jvm.MethodName) jdk_29_method_66_code (4 : Nat) (Option.some Jvm.ClassFile.FieldType.long), Jvm.Cond.code ({ cls := "com/example/occupancy/occupancy/Window", name := "<init>", desc := "(JJ)V" } : Jvm.MethodName) prog_29_method_1_code (5 : Nat) (Option.none : Option Jvm.ClassFile.FieldType), Jvm.Cond.code ({ cls := "java/lang/Object", name := "<init>", desc := "()V" } : Jvm.MethodName) object_method_1_code (1 : Nat) (Option.none : Option Jvm.ClassFile.FieldType), Jvm.Cond.code ({ cls := "com/example/occupancy/occupancy/Window", name := "contains", desc := "(J)Z" } : Jvm.MethodName) prog_29_method_2_code (3 : Nat) (Option.some Jvm.ClassFile.FieldType.boolean)]
set_option maxRecDepth 65536 in
theorem codes_eq : words1.filter isCode = codes1 := rfl
theorem w_codes : ∀ c ∈ words1.filter isCode, c.before args0 about1 = true := by
  rw [codes_eq]
  intro c hc
  simp only [codes1, List.mem_cons, List.not_mem_nil, or_false] at hc
  rcases hc with rfl | rfl | rfl | rfl | rfl | rfl
  · exact w_c0
  · exact w_c1
  · exact w_c2
  · exact w_c3
  · exact w_c4
  · exact w_c5
set_option maxRecDepth 65536 in
theorem w_t1 : (words1.take 24).all (fun c => isCode c || c.before args0 about1) = true := by decide +kernel
set_option maxRecDepth 65536 in
theorem w_t2 : (words1.drop 24).all (fun c => isCode c || c.before args0 about1) = true := by decide +kernel
theorem w_tables : (allAtoms (Jvm.Cond.code x code maxLocals ret :: tables_1)).before args0 about1 = true := by
  rw [allAtoms_all]
  show words1.all (fun c => c.before args0 about1) = true
  refine all_split ?_ w_codes
  rw [← List.take_append_drop 24 words1, List.all_append, w_t1, w_t2]
  rfl
set_option maxRecDepth 65536 in
theorem w_case : (Jvm.Cond.and given_1 narrow_1).before args0 about1 = true := by decide +kernel
theorem w_applies : (headSpec (Jvm.Cond.code x code maxLocals ret :: tables_1) room_1).applies x e0.platform about1 = true :=
  (Spec.applies_iff w_frames).mpr ⟨w_running, w_runnable, w_alone, w_named, w_hears, w_ripe, w_room, w_tables⟩
theorem atStart : AtStart classFile x code maxLocals ret World_1 tables_1 room_1 Calls_1 rest_1 Pre_1 launch0 p0 e0 about1 theMethod args0 below0 :=
  ⟨lists_1, trivial, launch0.admits_env _ _ _, launch0.least_env, fairChoices_fair.cas, fairChoices_fair.clock, w_frames, w_args, w_heap, w_applies, trivial, trivial, w_case⟩
end start1
theorem witness_1 : WitnessClaimed_1 := ⟨start1.p0, start1.e0, start1.about1, start1.theMethod, start1.args0, start1.below0, start1.atStart⟩
end Jvm.Pilot.@@N@@
